import PyProof.Rows.All
import Wide.All
import OpenK.AllK
import Wide.FinOn
import PySem.Challenge.RW_dn0054_01
set_option Elab.async false
set_option compiler.extract_closed false
section
open PySem PySem.W PyProof.Rows
namespace D54
/-- the text's statements that bind a name which stands when the top is through -/
noncomputable def view : Program := { PySem.Challenge.pw_dn0054_01 with main := { PySem.Challenge.pw_dn0054_01.main with body := (((PySem.Challenge.pw_dn0054_01.main.body.eraseIdx 10).eraseIdx 8).eraseIdx 6).eraseIdx 0 } }
/-- the object at `a` of the written part -/
noncomputable def inK (K : Frag) (a : Addr) : Obj := (K.lookup a).getD default
/-- a def's text as it stands ahead of the function object: the object at `a` of the written part less what the making adds -/
noncomputable def proto (K : Frag) (a : Addr) : Obj := match (inK K a).data with
  | .func fd => { cls := .none, data := .func { fd with globals := 0, pyModule := .none, code := .none } }
  | _ => default
noncomputable def emptyO : Obj := { cls := .none, data := .fields #[] }
/-- the objects behind the text's top -/
noncomputable def heapF (k : Params → Frag) (P : Params) : Heap := let K := k P
  ⟨⟨[boot_o_0 P, boot_o_1 P, inK K 2, inK K 3, boot_o_4 P, boot_o_5 P, inK K 6, boot_o_7 P, boot_o_8 P, boot_o_9 P, boot_o_10 P,
    { cls := .type "tuple", data := .seq #[] },
    { cls := .none, data := .fields #[.int 5 0, .int 0 0, .ref 20, .int 11 0, .int 0 0, .ref 27, .int 50 0, .int 0 0, .ref 34, .int 76 0, .int 0 0, .ref 41, .int 79 0, .int 0 0, .ref 48, .int 86 0, .int 0 0, .ref 53, .int 91 0, .int 0 0, .ref 58, .int 99 0, .int 0 0, .ref 63] },
    { cls := .type "code", data := .fields #[.str (Str.ofString "<module>") 182, .str (Str.ofString "<module>") 183, .str (Str.ofString "/claim/cut.py") 184, .int 1 0, .int 0 0, .int 0 0, .int 0 0, .int 0 0, .ref 11, .bool false, .int 181 0, .ref 12, .none, .none, .none, .none, .int 185 0, .int 1 0, .str (Str.ofString "/claim/cut.py") 186] },
    { cls := .type "frame", slots := #[some (.ref 13), some (.ref 3), some (.ref 3), none, some (.str (Str.ofString "__main__") 164), none, some (.ref 0)] },
    inK K 15, emptyO, inK K 17, inK K 18, proto K 21, inK K 20, inK K 21, inK K 22, emptyO, inK K 24, inK K 25, proto K 28, inK K 27, inK K 28, inK K 29, emptyO, inK K 31, inK K 32, proto K 35, inK K 34, inK K 35, inK K 36, emptyO, inK K 38, inK K 39, proto K 42, inK K 41, inK K 42, inK K 43, emptyO, inK K 45, inK K 46, proto K 49, inK K 48, inK K 49, inK K 50, emptyO, proto K 54, inK K 53, inK K 54, inK K 55, emptyO, proto K 59, inK K 58, inK K 59, inK K 60, emptyO, proto K 64, inK K 63, inK K 64]⟩, {}⟩
set_option maxRecDepth 100000 in
set_option maxHeartbeats 8000000 in
theorem said_ : OpenLaw.wellSaid PySem.Challenge.rw_dn0054_01 = true := by
  first | (rw [PySem.W.Fast.te9446332074065402090]; kernel_rfl) | kernel_rfl
set_option maxRecDepth 100000 in
set_option maxHeartbeats 8000000 in
theorem row_ (h : PySem.Challenge.rw_dn0054_01.row.Holds) : PySem.Challenge.rw_dn0054_01.Holds := holds_law said_ fun _ => h
set_option maxRecDepth 100000 in
set_option maxHeartbeats 8000000 in
theorem head_ {K : Params → Frag} {as : List Addr} {e : ∀ P, as = (K P).map (·.1)} {ts : List Addr} (H : Hook) (_ : H = kmHook K as e ts) {d : DefRec} {kwd : List (Str × Expr)}
    (run : ∀ (w : World) (os : OsState), topRun treeTable PySem.Challenge.rw_dn0054_01.row.prog w 11 (some (.ref 6)) 321 ⟨boot_heap w.params, Array.mk [], boot_drawn, boot_toks, os⟩ (topStub PySem.Challenge.rw_dn0054_01.row.prog) = some ⟨heapF K w.params, #[], {}, 273, os⟩)
    (looks : ∀ w : World, (fun os => ((staticsOk (importedModules PySem.Challenge.rw_dn0054_01.row.prog.main.body) (boot_heap w.params) (heapF K w.params) && namesBound PySem.Challenge.rw_dn0054_01.row.prog (heapF K w.params) && gensDone ⟨heapF K w.params, #[], {}, 273, os⟩ && laidKept (boot_heap w.params) (heapF K w.params)),
      openSeen view [] (importedModules PySem.Challenge.rw_dn0054_01.row.prog.main.body) (fun s => xlAt view [] s && recOk PySem.Challenge.rw_dn0054_01.row.toRowW.records s) true ⟨heapF K w.params, #[], {}, 273, os⟩, (kmHook K as e ts).obs ⟨heapF K w.params, #[], {}, 273, os⟩)) = fun _ => (true, openGood view [], (kmHook K as e ts).val w))
    (hdef : defOf view PySem.Challenge.rw_dn0054_01.row.name = some (d, kwd)) (hp : PySem.Challenge.rw_dn0054_01.row.prog.theDef PySem.Challenge.rw_dn0054_01.row.name = some (d.params, d.body, d.scope)) (hk : kwWritten? d.params.kwonlyargs d.params.kw_defaults = some kwd)
    (hw : PySem.Challenge.rw_dn0054_01.row.toRowW.promised) (hc : WalkO view [] (XL view []) (kmHook K as e ts).says PySem.Challenge.rw_dn0054_01.row.toRowW d kwd fun f vs => PySem.call f vs) : PySem.Challenge.rw_dn0054_01.row.Holds :=
  holds_open (LeftO.of_pieces (H₀ := boot_heap) (H₁ := heapF K) (gs₀ := Array.mk []) (gs₁ := #[]) (d₀ := boot_drawn) (d₁ := {}) (k₀ := boot_toks) (k₁ := 273) (m₀ := 11) (ann := some (.ref 6)) (M := 321) (N := 880) (boot_open (by kernel_rfl) (by decide) fun _ => by kernel_rfl) (fun w => by kernel_rfl) run (by decide) looks) (kmHook K as e ts).of (kmHook K as e ts).keeps (fun s e => xl_of s (Bool.and_eq_true_iff.mp e).1) XL.keeps hdef hp hk
    (fun s e => recFacts_of (Bool.and_eq_true_iff.mp e).2) rfl (row_said said_) (by decide +kernel) ⟨rfl, rfl, rfl, rfl, rfl, by decide +kernel⟩ hw hc
local macro_rules | `(tactic| o_law) => `(tactic| refine row_ ?_)
local macro_rules | `(tactic| o_head $H) => `(tactic| refine head_ $H rfl (fun w os => by kernel_rfl) (fun w => by kernel_rfl) rfl rfl rfl ?hw ?hc)
set_option maxRecDepth 100000 in
set_option maxHeartbeats 8000000 in
open_top hd for PySem.Challenge.rw_dn0054_01
end D54
end
section
namespace D54
theorem om1  : 0 ≤ 2 := by decide
theorem om2  : 1 ≤ 2 := by decide
theorem om3  : 2 ≤ 2 := by decide
theorem om4  : 0 ≤ 1 + 1 := by decide
theorem om5  : 1 ≤ 1 + 1 := by decide
theorem om6  : 2 ≤ 1 + 1 := by decide
theorem om7  : 0 ≤ 1 + 2 := by decide
theorem om8  : 1 ≤ 1 + 2 := by decide
theorem om9  : 2 ≤ 1 + 2 := by decide
theorem om10  : 0 ≤ 2 + 1 := by decide
theorem om11  : 0 ≤ 2 + 2 := by decide
theorem om12  : 1 ≤ 2 + 1 := by decide
theorem om13  : 1 ≤ 2 + 2 := by decide
theorem om14  : 2 ≤ 2 + 1 := by decide
theorem om15  : 2 ≤ 2 + 2 := by decide
theorem om16 {y1 : Nat} {y2 : Nat} : y1 + y2 < y1 + 1 + (y2 + 1) := by simp +arith at *
theorem om17 {y1 : Nat} : 2 * (y1 + 1) ≤ 2 * y1 + 2 := by simp +arith at *
theorem om18 {y1 : Nat} {y2 : Nat} {y3 : Nat} {y4 : Nat} : min (y1 + 2) (min (y2 + 2) (y3 + y4)) ≤ y1 + 2 := by lia
theorem om19 {y1 : Nat} {y2 : Nat} {y3 : Nat} {y4 : Nat} : min (y1 + 2) (min (y2 + 2) (y3 + y4)) ≤ y3 + y4 := by grind
theorem om20 {y1 : Nat} (h1 : y1 ≤ 0 + 0) : y1 = 0 := by simp_all +arith
theorem om21 {y1 : Nat} {y2 : Nat} : 2 * y1 ≤ 2 * y2 + 2 * y1 := by exact Nat.le_add_left _ _
theorem om22 {y1 : Nat} {y2 : Nat} {y3 : Nat} {y4 : Nat} {y5 : Nat} {y6 : Nat} (h1 : 2 * (y1 + 1) ≤ 2 * y2 + y3) (h2 : 2 * y1 ≤ 2 * (y2 + 1) + y4) (h3 : 2 * y1 ≤ 2 * y2 + y5) : 2 * (y1 + 1) ≤ 2 * (y2 + 1) + min (y3 + 2) (min (y4 + 2) (y5 + y6)) := by lia
theorem om23 {y1 : Nat} {y2 : Nat} {y3 : Nat} {y4 : Nat} (h1 : y1 ≤ 2 * (y2 + y3)) (h2 : y4 ≤ y1 + 2) : y4 ≤ 2 * (y2 + 1 + y3) := by lia
theorem om24 {y1 : Nat} {y2 : Nat} {y3 : Nat} (h1 : 2 * y1 ≤ 2 * y2 + y3) : 2 * y1 ≤ y3 + 2 * y2 := by simp_all +arith
theorem om25 {y1 : Nat} {y2 : Nat} {y3 : Nat} (h1 : y1 ≤ 2 * (y2 + y3)) : y1 ≤ 2 * y2 + 2 * y3 := by simp_all +arith
theorem om26 {y1 : Nat} {y2 : Nat} {y3 : Nat} {y4 : Nat} {y5 : Nat} {y6 : Nat} {y7 : Nat} {y8 : Nat} {y9 : Nat} {y10 : Nat} {y11 : Nat} {y12 : Nat} {y13 : Nat} {y14 : Nat} {y15 : Nat} (h1 : y1 ≤ y2 + 2) (h2 : y2 ≤ y3 + y4) (h3 : y1 ≤ y5 + 2) (h4 : y5 ≤ y6 + y7) (h5 : y1 ≤ y8 + y9) (h6 : y5 ≤ y8 + y10) (h7 : y4 = min (y9 + 2) (min (y7 + 2) (y10 + y11))) (h8 : y2 ≤ y12 + y9) (h9 : y6 = min (y3 + 2) (min (y8 + 2) (y12 + y13))) (h10 : y14 ≤ y12 + y10) (h11 : y1 ≤ y14 + y15) (h12 : y15 ≤ y13 + y11) : y1 ≤ y6 + y4 := by lia
theorem om27 {y1 : Nat} {y2 : Nat} {y3 : Nat} : y1 + 1 + y2 + y3 < y1 + 1 + (y2 + 1) + (y3 + 1) := by simp +arith at *
theorem om28 {y1 : Nat} {y2 : Nat} {y3 : Nat} : y1 + y2 + y3 < y1 + 1 + (y2 + 1) + (y3 + 1) := by simp +arith at *
theorem om29 {y1 : Nat} {y2 : Nat} {y3 : Nat} (h1 : y1 ≤ y2 + y3) (h2 : y3 ≤ 0 + 2) : y1 ≤ y2 + 2 := by lia
theorem om30 {y1 : Nat} {y2 : Nat} {y3 : Nat} (h1 : y1 ≤ y2 + y3) (h2 : y2 ≤ 0 + 2) : y1 ≤ y3 + 2 := by lia
theorem om31 {y1 : Nat} {y2 : Nat} {y3 : Nat} {y4 : Nat} (h1 : y1 ≤ y2 + 2) (h2 : y3 = min (y2 + 2) (min (y4 + 2) (y1 + 0))) (h3 : y1 ≤ y4 + 2) : y3 = y1 := by simp_all +arith
theorem om32 {y1 : Nat} {y2 : Nat} : min (2 * (y1 + (0 + 1) + 1) + 2) (min (2 * y1 + 2) (2 * (y1 + (0 + 1)) + y2)) = 2 * (y1 + 1) := by simp +arith at *
theorem om33 {y1 : Nat} {y2 : Nat} : min (2 * y1 + 2) (min (2 * (y1 + (0 + 1) + 1) + 2) (2 * (y1 + (0 + 1)) + y2)) = 2 * (y1 + 1) := by lia
theorem om34 {y1 : Nat} {y2 : Nat} (h1 : y1 ≤ y2) : y1 ≤ y2 + 1 := by exact Nat.le_succ_of_le h1
theorem om35 {y1 : Nat} {y2 : Nat} (h1 : y1 ≤ y2) : y1 + 1 ≤ y2 + 1 := by exact Nat.lt_succ_of_le h1
theorem om36 {y1 : Nat} {y2 : Nat} {y3 : Nat} (h1 : y1 = 0) : 2 * (y2 + 1) + 4 * y1 ≤ y3 + 2 * (y2 + 1 + 0) := by simp_all +arith
theorem om37 {y1 : Nat} {y2 : Nat} {y3 : Nat} {y4 : Nat} {y5 : Nat} {y6 : Nat} (h1 : y1 + 4 * y2 ≤ y3 + 2 * (y4 + (y5 + 1))) (h2 : y6 ≤ y1 + 2) : y6 + 4 * y2 ≤ y3 + 2 * (y4 + 1 + (y5 + 1)) := by lia
theorem om38 {y1 : Nat} {y2 : Nat} {y3 : Nat} {y4 : Nat} {y5 : Nat} {y6 : Nat} (h1 : y1 + 4 * (y2 + 1) ≤ y3 + 2 * (y4 + 1 + y5)) (h2 : y6 ≤ y1 + 2) : y6 + 4 * (y2 + 1) ≤ y3 + 2 * (y4 + 1 + (y5 + 1)) := by lia
theorem om39 {y1 : Nat} {y2 : Nat} {y3 : Nat} {y4 : Nat} {y5 : Nat} {y6 : Nat} {y7 : Nat} (h1 : y1 + 4 * y2 ≤ y3 + 2 * (y4 + y5)) (h2 : y6 ≤ y1 + y7) : y6 + 4 * (y2 + 1) ≤ y7 + y3 + 2 * (y4 + 1 + (y5 + 1)) := by lia
theorem om40 {y1 : Nat} {y2 : Nat} {y3 : Nat} {y4 : Nat} {y5 : Nat} {y6 : Nat} (h1 : y1 + 2 * (y2 + (y3 + 1)) = y4 + 4 * y5) (h2 : y6 = y4 + 2) : y1 + 2 * (y2 + 1 + (y3 + 1)) = y6 + 4 * y5 := by simp_all +arith
theorem om41 {y1 : Nat} {y2 : Nat} {y3 : Nat} {y4 : Nat} {y5 : Nat} {y6 : Nat} (h1 : y1 + 2 * (y2 + 1 + y3) = y4 + 4 * y5) (h2 : y6 = y4 + 2) : y1 + 2 * (y2 + 1 + (y3 + 1)) = y6 + 4 * y5 := by simp_all +arith
theorem om42 {y1 : Nat} {y2 : Nat} {y3 : Nat} {y4 : Nat} {y5 : Nat} (h1 : ¬y1 = y2 + 2) (h2 : y1 = min (y2 + 2) (min (y3 + 2) (y4 + y5))) (h3 : ¬y1 = y3 + 2) : y1 = y4 + y5 := by lia
theorem om43 {y1 : Nat} {y2 : Nat} {y3 : Nat} {y4 : Nat} {y5 : Nat} {y6 : Nat} {y7 : Nat} (h1 : y1 + 2 * (y2 + y3) = y4 + 4 * y5) (h2 : y6 = y4 + y7) : y7 + y1 + 2 * (y2 + 1 + (y3 + 1)) = y6 + 4 * (y5 + 1) := by simp_all +arith
theorem om44 {y1 : Nat} {y2 : Nat} {y3 : Nat} (h1 : y1 < y2) (h2 : y3 = y2) : y1 < y3 := by subst h2; assumption
theorem om45 {y1 : Nat} {y2 : Nat} (h1 : y1 ≤ y2) (h2 : ¬y1 = y2) : y1 ≤ y2 - 1 := by lia
theorem om46 {y1 : Nat} (h1 : 1 ≤ y1) : y1 - 1 < y1 := by omega
theorem om47 {y1 : Nat} {y2 : Nat} (h1 : y1 < y2 + 1) (h2 : ¬y1 = y2) : y1 < y2 := by lia
theorem om48 {y1 : Nat} {y2 : Nat} (h1 : y1 ≤ y2) (h2 : y2 < 1) : y1 = y2 := by simp_all +arith
theorem om49 {y1 : Nat} {y2 : Nat} {y3 : Nat} (h1 : y1 ≤ y2) (h2 : y2 < y3) : 0 ≤ y1 ∧ y1 < y3 := by lia
theorem om50 {y1 : Nat} {y2 : Nat} (h1 : y1 < y2) : 0 ≤ y1 ∧ y1 < y2 := by simp_all +arith
theorem om51 {y1 : Nat} {y2 : Nat} {y3 : Nat} (h1 : y1 ≤ y2) : 0 + y3 - 1 - y2 ≤ 0 + y3 - 1 - y1 := by omega
theorem om52 {y1 : Nat} {y2 : Nat} {y3 : Nat} (h1 : y1 < y2) : 0 + y2 - 1 - y3 < y2 := by omega
theorem om53 {y1 : Nat} : ¬y1 < y1 + 0 := by simp +arith at *
theorem om54 {y1 : Nat} {y2 : Nat} {y3 : Nat} (h1 : y1 + (y2 + 1) ≤ y3) : y1 < y3 := by lia
theorem om55 {y1 : Nat} {y2 : Nat} {y3 : Nat} (h1 : y1 + (y2 + 1) ≤ y3) : y1 - 1 < y3 := by omega
theorem om56 {y1 : Nat} {y2 : Nat} : y1 ≤ y1 + (y2 + 1) := by exact Nat.le_add_right _ _
theorem om57 {y1 : Nat} : 1 ≤ y1 + 1 := by exact Nat.le_add_left _ _
theorem om58 {y1 : Nat} {y2 : Nat} {y3 : Nat} (h1 : y1 + (y2 + 1) ≤ y3) : y1 + 1 + y2 ≤ y3 := by simp_all +arith
theorem om59 {y1 : Nat} {y2 : Nat} {y3 : Nat} {y4 : Prop} {y5 : Nat} {y6 : Nat} (h1 : y1 + 1 ≤ y2 ∧ y2 ≤ y1 + 1 + y3 ∧ y4 ∧ (y2 < y1 + 1 + y3 → y5 < y6)) : y1 ≤ y2 := by omega
theorem om60 {y1 : Nat} {y2 : Nat} {y3 : Nat} {y4 : Prop} {y5 : Nat} {y6 : Nat} (h1 : y1 + 1 ≤ y2 ∧ y2 ≤ y1 + 1 + y3 ∧ y4 ∧ (y2 < y1 + 1 + y3 → y5 < y6)) : y2 ≤ y1 + (y3 + 1) := by simp_all +arith
theorem om61 {y1 : Nat} {y2 : Nat} {y3 : Nat} (h1 : y1 < y2 + (y3 + 1)) : y1 < y2 + 1 + y3 := by simp_all +arith
theorem om62 {y1 : Nat} {y2 : Nat} (h1 : y1 + 1 - (0 + 1) ≤ y2) (h2 : y2 < y1 + 1) : y2 = y1 := by lia
theorem om63 {y1 : Nat} {y2 : Nat} {y3 : Nat} {y4 : Nat} (h1 : y1 = y2) (h2 : y3 + (y4 + 1) ≤ y2) : y3 ≤ y1 := by lia
theorem om64 {y1 : Nat} {y2 : Nat} {y3 : Nat} (h1 : y1 - (y2 + 1) ≤ y3 ∧ y3 < y1) : y1 - (y2 + 1) ≤ y1 - (y2 + 1) + y1 - 1 - y3 := by omega
theorem om65 {y1 : Nat} {y2 : Nat} {y3 : Nat} (h1 : y1 - (y2 + 1) ≤ y3 ∧ y3 < y1) : y1 - (y2 + 1) + y1 - 1 - y3 < y1 := by omega
theorem om66 {y1 : Nat} {y2 : Nat} {y3 : Nat} (h1 : y1 - (y2 + 1) ≤ y3 ∧ y3 < y1) : y1 - (y2 + 1) ≤ y3 := by simp_all +arith
theorem om67 {y1 : Nat} {y2 : Nat} {y3 : Nat} (h1 : y1 - (y2 + 1) ≤ y3 ∧ y3 < y1) : y3 < y1 := by simp_all +arith
theorem om68 {y1 : Nat} : 0 + 1 ≤ y1 + 1 := by exact Nat.le_add_left _ _
theorem om69 {y1 : Prop} {y2 : Nat} {y3 : Nat} {y4 : Nat} {y5 : Nat} {y6 : Prop} {y7 : Prop} (h1 : y1 ∧ y2 + 1 ≤ y3 ∧ y3 ≤ y2 + 1 + y4 ∧ y5 + 1 ≤ y3 ∧ y6 ∧ y7) : y2 ≤ y3 := by lia
theorem om70 {y1 : Prop} {y2 : Nat} {y3 : Nat} {y4 : Nat} {y5 : Nat} {y6 : Prop} {y7 : Prop} (h1 : y1 ∧ y2 + 1 ≤ y3 ∧ y3 ≤ y2 + 1 + y4 ∧ y5 + 1 ≤ y3 ∧ y6 ∧ y7) : y3 ≤ y2 + (y4 + 1) := by simp_all +arith
theorem om71 {y1 : Nat} {y2 : Nat} (h1 : y1 + 1 ≤ y2) : y1 + 1 + 1 ≤ y2 + 1 := by exact Nat.lt_succ_of_le h1
theorem om72 {y1 : Nat} {y2 : Nat} {y3 : Nat} (h1 : y1 + 1 - (y2 + 1 + 1) ≤ y3) : y1 - (y2 + 1) ≤ y3 := by simp_all +arith
theorem om73 {y1 : Nat} {y2 : Nat} {y3 : Nat} (h1 : y1 ≤ y2) (h2 : y2 ≤ y3) : y1 + (y2 - y1) ≤ y3 := by simp_all +arith
theorem om74 {y1 : Nat} {y2 : Nat} {y3 : Nat} (h1 : y1 ≤ y2) (h2 : y2 ≤ y3) : y1 ≤ y3 := by exact Nat.le_trans h1 h2
theorem om75 {y1 : Nat} {y2 : Nat} {y3 : Nat} (h1 : y1 + 1 ≤ y2) (h2 : y2 ≤ y3) : y1 + 1 + (y2 - (y1 + 1)) ≤ y3 := by simp_all +arith
theorem om76 {y1 : Prop} {y2 : Nat} {y3 : Nat} {y4 : Nat} {y5 : Nat} {y6 : Prop} {y7 : Prop} (h1 : y1 ∧ y2 + 1 ≤ y3 ∧ y3 ≤ y2 + 1 + (y4 - (y2 + 1)) ∧ y5 + 1 ≤ y3 ∧ y6 ∧ y7) : 1 ≤ y3 := by lia
theorem om77 {y1 : Nat} {y2 : Nat} {y3 : Prop} {y4 : Nat} {y5 : Nat} {y6 : Prop} {y7 : Prop} (h1 : y1 + 1 ≤ y2) (h2 : y3 ∧ y1 + 1 ≤ y4 ∧ y4 ≤ y1 + 1 + (y2 - (y1 + 1)) ∧ y5 + 1 ≤ y4 ∧ y6 ∧ y7) : y4 ≤ y2 := by simp_all +arith
theorem om78 {y1 : Nat} {y2 : Nat} {y3 : Nat} {y4 : Nat} {y5 : Prop} {y6 : Nat} {y7 : Nat} {y8 : Prop} {y9 : Prop} (h1 : y1 = y2) (h2 : y3 ≤ y2) (h3 : y4 + 1 ≤ y3) (h4 : y5 ∧ y4 + 1 ≤ y6 ∧ y6 ≤ y4 + 1 + (y3 - (y4 + 1)) ∧ y7 + 1 ≤ y6 ∧ y8 ∧ y9) : y6 ≤ y1 := by omega
theorem om79 {y1 : Nat} (h1 : 1 ≤ y1) : 1 + (y1 - 1) ≤ y1 := by simp_all +arith
theorem om80 {y1 : Nat} {y2 : Nat} {y3 : Prop} {y4 : Nat} {y5 : Nat} (h1 : y1 ≠ y2) (h2 : 1 ≤ y2) (h3 : 1 ≤ y1 ∧ y1 ≤ 1 + (y2 - 1) ∧ y3 ∧ (y1 < 1 + (y2 - 1) → y4 < y5)) : y1 < 1 + (y2 - 1) := by lia
theorem om81 {y1 : Nat} (h1 : 1 ≤ y1) : 0 < y1 := by assumption
theorem om82 {y1 : Nat} {y2 : Nat} {y3 : Prop} {y4 : Nat} {y5 : Nat} (h1 : y1 > 1) (h2 : 1 ≤ y1 ∧ y1 ≤ 1 + (y2 - 1) ∧ y3 ∧ (y1 < 1 + (y2 - 1) → y4 < y5)) : y1 - 1 < y2 := by omega
theorem om83 {y1 : Nat} : 0 ≤ y1 := by exact Nat.le_add_left _ _
theorem om84 {y1 : Nat} {y2 : Nat} (h1 : y1 < y2) : y1 ≤ y2 - 1 := by omega
theorem om85 {y1 : Nat} (h1 : y1 > 1) : y1 - 1 < y1 := by omega
theorem om86 {y1 : Nat} {y2 : Nat} {y3 : Nat} (h1 : y1 ≤ y2) (h2 : y2 ≤ y3) (h3 : y3 ≤ y1) : y2 = y1 := by lia
theorem om87 {y1 : Nat} {y2 : Nat} {y3 : Nat} {y4 : Prop} {y5 : Nat} {y6 : Nat} (h1 : y1 = y2) (h2 : 1 ≤ y2) (h3 : 1 ≤ y3 ∧ y3 ≤ 1 + (y2 - 1) ∧ y4 ∧ (y3 < 1 + (y2 - 1) → y5 < y6)) : y3 ≤ y1 := by simp_all +arith
theorem om88 {y1 : Nat} {y2 : Nat} (h1 : y1 < y2) : 0 + y2 - 1 - y1 < y2 := by omega
theorem om89 {y1 : Nat} {y2 : Nat} {y3 : Prop} {y4 : Nat} {y5 : Nat} (h1 : y1 ≠ y2) (h2 : 1 ≤ y2) (h3 : 1 ≤ y1 ∧ y1 ≤ 1 + (y2 - 1) ∧ y3 ∧ (y1 < 1 + (y2 - 1) → y4 < y5)) : y1 + 1 ≤ y2 := by lia
theorem om90 {y1 : Nat} {y2 : Nat} {y3 : Nat} (h1 : y1 ≤ y2) (h2 : y2 < y3) : y1 < y3 := by exact Nat.lt_of_le_of_lt h1 h2
theorem om91 {y1 : Nat} : ¬(0 ≤ y1 ∧ y1 < y1) := by simp +arith at *
theorem om92 {y1 : Nat} {y2 : Nat} {y3 : Prop} {y4 : Nat} {y5 : Nat} (h1 : ¬y1 > 1) (h2 : 1 ≤ y1 ∧ y1 ≤ 1 + (y2 - 1) ∧ y3 ∧ (y1 < 1 + (y2 - 1) → y4 < y5)) : y1 = 1 := by lia
theorem om93 {y1 : Nat} (h1 : 1 ≤ y1) (h2 : 1 ≠ y1) : 1 + 1 ≤ y1 := by exact Nat.lt_of_le_of_ne h1 h2
theorem om94 {y1 : Nat} {y2 : Nat} {y3 : Nat} (h1 : y1 - y2 ≤ 0) (h2 : y2 ≤ y3) : y1 ≤ y3 := by lia
theorem om95 {y1 : Nat} {y2 : Nat} {y3 : Nat} (h1 : y1 ≥ y2) (h2 : y1 ≤ y3) : y2 ≤ y3 := by exact Nat.le_trans h1 h2
theorem om96 {y1 : Nat} {y2 : Nat} {y3 : Nat} {y4 : Nat} (h1 : ¬y1 ≥ y2) (h2 : y3 < y4) (h3 : y2 ≤ y3) : (y1 + y2) / 2 < y4 := by lia
theorem om97 {y1 : Nat} {y2 : Nat} (h1 : ¬y1 ≥ y2) : y1 ≤ (y1 + y2) / 2 := by lia
theorem om98 {y1 : Nat} {y2 : Nat} {y3 : Nat} (h1 : y1 ≤ y2) (h2 : ¬y3 ≥ y1) : (y3 + y1) / 2 ≤ y2 := by lia
theorem om99 {y1 : Nat} {y2 : Nat} {y3 : Nat} (h1 : y1 - y2 ≤ y3 + 1) : (y2 + y1) / 2 - y2 ≤ y3 := by omega
theorem om100 {y1 : Nat} {y2 : Nat} (h1 : ¬y1 ≥ y2) : (y1 + y2) / 2 + 1 ≤ y2 := by lia
theorem om101 {y1 : Nat} {y2 : Nat} {y3 : Nat} (h1 : y1 - y2 ≤ y3 + 1) : y1 - ((y2 + y1) / 2 + 1) ≤ y3 := by omega
theorem om102 {y1 : Nat} {y2 : Nat} {y3 : Nat} (h1 : y1 < (y2 + y3) / 2 + 1) : y1 ≤ (y2 + y3) / 2 := by simp_all +arith
theorem om103 {y1 : Nat} {y2 : Nat} {y3 : Nat} (h1 : y1 ≤ y2) (h2 : ¬y3 ≥ y1) : (y3 + y1) / 2 < y2 := by lia
theorem om104 {y1 : Nat} {y2 : Nat} (h1 : y1 + 0 = y2) : y1 = y2 := by assumption
theorem om105 {y1 : Nat} {y2 : Nat} {y3 : Nat} (h1 : y1 + (y2 + 1) = y3) : y1 < y3 := by lia
theorem om106 {y1 : Nat} : y1 - 0 ≤ y1 := by exact Nat.sub_le _ _
theorem om107 {y1 : Nat} {y2 : Nat} (h1 : y1 ≤ y2) : ¬y2 < y1 := by simp_all +arith
theorem om108 {y1 : Nat} {y2 : Nat} {y3 : Nat} (h1 : y1 + (y2 + 1) = y3) : y1 + 1 + y2 = y3 := by simp_all +arith
theorem om109 {y1 : Nat} {y2 : Nat} {y3 : Nat} {y4 : Nat} (h1 : y1 = y2) (h2 : y3 + (y4 + 1) = y2) : y3 < y1 := by lia
theorem om110 {y1 : Nat} {y2 : Nat} : y1 - y2 ≤ y1 := by exact Nat.sub_le _ _
theorem om111 {y1 : Nat} {y2 : Nat} {y3 : Prop} {y4 : Prop} (h1 : y1 ≤ y2 ∧ y3 ∧ y4) : y2 - (y2 - y1) = y1 := by omega
theorem om112 {y1 : Nat} {y2 : Nat} {y3 : Nat} {y4 : Nat} (h1 : y1 < y2 + 1) (h2 : ¬y1 = y3) (h3 : y4 ≤ y1) (h4 : y4 = y3) : y3 < y1 ∧ y1 ≤ y2 := by lia
theorem om113 {y1 : Nat} {y2 : Nat} {y3 : Nat} (h1 : ¬y1 = y2) (h2 : y3 ≤ y1) (h3 : y3 = y2) : y2 ≤ y1 - 1 := by lia
theorem om114 {y1 : Nat} {y2 : Nat} (h1 : y1 < y2 + 1) (h2 : 1 ≤ y2) : y1 - 1 < y2 := by omega
theorem om115 {y1 : Nat} {y2 : Nat} {y3 : Nat} {y4 : Nat} (h1 : y1 ≤ y2) (h2 : y3 < y1 ∧ y1 ≤ y4) : ¬y2 = y3 := by lia
theorem om116 {y1 : Nat} {y2 : Nat} {y3 : Nat} {y4 : Nat} (h1 : y1 < y2 + 1) (h2 : y3 < y4 ∧ y4 ≤ y2) (h3 : y4 ≤ y1) : y3 < y1 ∧ y1 ≤ y2 := by lia
theorem om117 {y1 : Nat} {y2 : Nat} (h1 : y1 ≤ y2) : y1 - 1 ≤ y2 - 1 := by omega
theorem om118 {y1 : Nat} {y2 : Nat} {y3 : Nat} {y4 : Nat} (h1 : y1 < y2 + 1) (h2 : y3 < y4 ∧ y4 ≤ y2) : y1 - 1 < y2 := by omega
theorem om119 {y1 : Nat} {y2 : Nat} {y3 : Nat} (h1 : ¬y1 = y2) (h2 : y1 ≤ y3) (h3 : y3 = y2) : y1 < y2 := by lia
theorem om120 {y1 : Nat} {y2 : Nat} {y3 : Nat} {y4 : Nat} (h1 : y1 ≤ y2) (h2 : ¬(y3 < y1 ∧ y1 ≤ y4)) (h3 : y3 < y2 ∧ y2 ≤ y4) : y1 ≤ y2 - 1 := by omega
theorem om121 {y1 : Nat} {y2 : Nat} {y3 : Nat} (h1 : y1 < y2 ∧ y2 ≤ y3) : y2 - 1 < y3 := by omega
theorem om122 {y1 : Nat} {y2 : Nat} {y3 : Nat} (h1 : y1 < y2 + 1) (h2 : ¬(y3 < y1 ∧ y1 ≤ y2)) (h3 : y2 - (y2 - y3) = y3) (h4 : ¬y1 = y3) : y1 < y2 := by grind
theorem om123 {y1 : Prop} {y2 : Nat} {y3 : Nat} {y4 : Prop} (h1 : y1 ∧ 1 ≤ y2 ∧ y2 ≤ y3 ∧ y4) : max y2 1 = y2 := by simp_all +arith
theorem om124 {y1 : Nat} {y2 : Nat} (h1 : y1 < y2) : y1 + (y2 - y1) = y2 := by grind
theorem om125 {y1 : Nat} {y2 : Nat} {y3 : Prop} {y4 : Prop} (h1 : ¬y1 < y2) (h2 : y3 ∧ 1 ≤ y1 ∧ y1 ≤ y2 ∧ y4) : y1 = y2 := by lia
theorem om126  : 0 ≤ 16777216 + 1 := by decide
theorem om127  : 0 + 1 + 1 ≤ 16777216 := by decide
theorem om128 {y1 : Nat} (h1 : y1 + 2 = y1 + 4) : False := by simp +arith at *
theorem om129 {y1 : Nat} (h1 : y1 + 3 = y1 + 4) : False := by simp +arith at *
theorem om130 {y1 : Nat} (h1 : y1 = y1 + 4) : False := by simp +arith at *
theorem om131 {y1 : Nat} (h1 : y1 + 1 = y1 + 4) : False := by simp +arith at *
theorem om132 {y1 : Nat} (h1 : y1 + 2 = y1 + 3) : False := by simp +arith at *
theorem om133 {y1 : Nat} (h1 : y1 + 2 = y1) : False := by simp +arith at *
theorem om134 {y1 : Nat} (h1 : y1 + 2 = y1 + 1) : False := by simp +arith at *
theorem om135 {y1 : Nat} (h1 : y1 + 3 = y1) : False := by simp +arith at *
theorem om136 {y1 : Nat} (h1 : y1 + 3 = y1 + 1) : False := by simp +arith at *
theorem om137 {y1 : Nat} (h1 : y1 = y1 + 1) : False := by simp +arith at *
theorem om138  : 0 ≤ 16777216 := by decide
theorem om139 {y1 : Nat} {y2 : Nat} (h1 : y1 + 2 ≤ y2) : y1 + 1 < y2 := by assumption
theorem om140 {y1 : Nat} {y2 : Nat} (h1 : y1 + 2 ≤ y2) : y1 < y2 := by exact Nat.le_of_lt h1
theorem om141 {y1 : Nat} {y2 : Nat} (h1 : y1 + 2 ≤ y2) (h2 : y2 < y1) : False := by lia
theorem om142 {y1 : Nat} {y2 : Nat} (h1 : y1 < y2) : y2 + 1 - (y1 + 1) < y2 + 1 - y1 := by grind
theorem om143 {y1 : Nat} {y2 : Nat} {y3 : Nat} {y4 : Nat} (h1 : y1 < y2) (h2 : y3 = y4) (h3 : y3 ≤ y1) : y4 ≤ y2 := by lia
theorem om144 {y1 : Nat} {y2 : Nat} (h1 : y1 ≤ y2) (h2 : y2 ≤ 1000) : y1 ≤ 16777216 := by lia
theorem om145 {y1 : Nat} {y2 : Nat} {y3 : Nat} (h1 : y1 + 1 = y2) (h2 : y1 + 2 ≤ y3) : y2 < y3 := by subst h1; assumption
theorem om146 {y1 : Nat} {y2 : Nat} (h1 : y1 + 2 ≤ y2) : y1 ≤ y2 := by lia
theorem om147 {y1 : Nat} (h1 : y1 < 64) : y1 ≤ 16777216 := by exact Nat.le_of_lt (Nat.lt_of_lt_of_le h1 (by decide))
theorem om148 {y1 : Nat} (h1 : y1 < 64) : y1 ≤ 16777216 + 1 := by exact Nat.le_of_lt (Nat.lt_of_lt_of_le h1 (by decide))
theorem om149 {y1 : Nat} {y2 : Nat} {y3 : Nat} (h1 : y1 ≤ y2) (h2 : y2 < y3) (h3 : y3 < 2) : y1 = y2 := by lia
theorem om150 {y1 : Nat} (h1 : 2 ≤ y1) : 2 ≤ y1 := by assumption
theorem om151 {y1 : Nat} {y2 : Nat} (h1 : y1 = y2) (h2 : y2 < 64) : y1 < 64 := by subst h1; assumption
theorem om152 {y1 : Nat} (h1 : 2 ≤ y1) : 1 ≤ y1 := by exact Nat.le_of_lt h1
theorem om153  : 0 + 1 + 1 + 1 + 1 + 1 + 1 + 1 + 1 + 1 + 1 + 1 + 1 + 1 + 1 + 1 + 1 + 1 + 1 + 1 ≤ 16777216 + 2 := by decide
theorem om154 {y1 : Nat} : y1 ≤ y1 + 1 + 1 := by simp +arith at *
theorem om155 {y1 : Nat} : y1 ≤ y1 + 1 := by exact Nat.le_add_right _ _
theorem om156 {y1 : Nat} : y1 ≤ y1 + 1 + 1 + 1 + 1 + 1 := by simp +arith at *
theorem om157 {y1 : Nat} : y1 < y1 + 1 + 1 + 1 + 1 := by simp +arith at *
theorem om158 {y1 : Nat} {y2 : Nat} {y3 : Nat} (h1 : y1 = 9900) (h2 : y2 = y3 + 3) (h3 : y3 < 1000) : y2 + 64 < y1 := by lia
theorem om159  : 0 ≤ 0 := by decide
theorem om160 {y1 : Nat} : 0 < (↑(y1 + 1) : Int) := by simp +arith at *
theorem om161  : 0 < 2 ^ 63 := by decide
theorem om162 {y1 : Nat} {y2 : Nat} (h1 : y1 = y2 + 1) (h2 : y2 < 400) : y1 < 900 := by lia
theorem om163 {y1 : Nat} {y2 : Nat} (h1 : y1 = y2 + 3) (h2 : y2 < 1000) : y1 < 9000 := by lia
theorem om164 {y1 : Nat} : y1 + 2 ≠ y1 + 1 := by simp +arith at *
theorem om165 {y1 : Nat} : y1 + 3 ≠ y1 + 1 := by simp +arith at *
theorem om166 {y1 : Nat} (h1 : 30 < y1) : 30 ≠ y1 + 1 := by lia
theorem om167 {y1 : Nat} (h1 : y1 ≤ 63) : y1 ≤ 16777216 := by exact Nat.le_trans h1 (by decide)
theorem om168 {y1 : Nat} {y2 : Nat} (h1 : y1 = y2) (h2 : y2 ≤ 62) : y1 ≤ 1000 := by subst h1; exact Nat.le_trans h2 (by decide)
theorem om169  : 0 + 1 ≤ 16777216 := by decide
theorem om170 {y1 : Nat} {y2 : Nat} (h1 : y1 = y2) (h2 : y1 ≤ 62) : y2 + (0 + 1) ≤ 16777216 := by lia
theorem om171 {y1 : Nat} {y2 : Nat} (h1 : y1 + (0 + 1) = y2) (h2 : y1 + 1 ≤ 63) : y2 ≤ 63 := by subst h1; assumption
theorem om172 {y1 : Nat} {y2 : Nat} (h1 : y1 + (0 + 1) = y2) : 0 < y2 := by lia
theorem om173 {y1 : Nat} {y2 : Nat} (h1 : y1 < y2) (h2 : y2 ≤ 63) : y1 ≤ 63 := by lia
theorem om174 {y1 : Nat} (h1 : y1 ≤ 63) : y1 ≤ 1000 := by exact Nat.le_trans h1 (by decide)
theorem om175 {y1 : Nat} {y2 : Nat} : (↑y1 : Int) < (↑y2 : Int) ↔ y1 < y2 := by simp +arith at *
theorem om176 {y1 : Nat} {y2 : Nat} {y3 : Nat} (h1 : y1 < y2) (h2 : y3 = y2 + 1) : y1 < y3 := by lia
theorem om177 {y1 : Nat} {y2 : Nat} {y3 : Nat} (h1 : y1 < y2) (h2 : y2 < y3) : y1 < y3 := by exact Nat.lt_trans h1 h2
theorem om178 {y1 : Nat} {y2 : Nat} {y3 : Nat} {y4 : Nat} (h1 : y1 = y2) (h2 : y1 ≤ y3 + 1) (h3 : y3 < y4) (h4 : y4 ≤ 63) : y2 ≤ 1000 := by lia
theorem om179 {y1 : Nat} {y2 : Nat} {y3 : Nat} (h1 : y1 < y2) (h2 : y2 = y3) (h3 : y3 ≤ 63) : (↑y1 : Int) < 2 ^ 63 := by lia
theorem om180 {y1 : Nat} {y2 : Nat} {y3 : Nat} (h1 : y1 < y2) (h2 : y1 < y3) : y2 - y3 < y2 - y1 := by omega
theorem om181 {y1 : Nat} {y2 : Nat} (h1 : y1 = y2 + 1) (h2 : y2 < 400) : y1 < 800 := by lia
theorem om182 {y1 : Nat} {y2 : Nat} (h1 : y1 = y2 + 3) (h2 : y2 < 1000) : y1 < 8000 := by lia
theorem om183  : 9 < 2 ^ 31 := by decide
theorem om184 {y1 : Nat} {y2 : Nat} (h1 : y1 + 3 < y2) : y1 + 1 ≠ y2 := by lia
theorem om185 {y1 : Nat} {y2 : Nat} (h1 : y1 + 3 < y2) : y1 + 2 ≠ y2 := by lia
theorem om186 {y1 : Nat} {y2 : Nat} (h1 : y1 + 3 < y2) : y1 + 3 ≠ y2 := by exact Nat.ne_of_lt h1
theorem om187 {y1 : Nat} {y2 : Nat} (h1 : y1 + 3 < y2) (h2 : 30 < y1) : 30 ≠ y2 := by lia
theorem om188 {y1 : Nat} {y2 : Nat} (h1 : y1 + 3 < y2) : y2 ≠ y1 + 2 := by lia
theorem om189 {y1 : Nat} : y1 + 1 ≠ y1 + 2 := by simp +arith at *
theorem om190 {y1 : Nat} : y1 + 3 ≠ y1 + 2 := by simp +arith at *
theorem om191 {y1 : Nat} (h1 : 30 < y1) : 30 ≠ y1 + 2 := by lia
theorem om192 {y1 : Nat} {y2 : Nat} {y3 : Nat} (h1 : y1 = y2) (h2 : y2 = y3) (h3 : y3 ≤ 63) : y1 ≤ 63 := by simp_all +arith
theorem om193 {y1 : Nat} {y2 : Nat} {y3 : Nat} {y4 : Nat} {y5 : Nat} {y6 : Nat} {y7 : Nat} {y8 : Nat} (h1 : y1 + (0 + 1) = y2) (h2 : y2 = y3 + (0 + 1)) (h3 : y3 + (0 + 1) ≤ y4) (h4 : y5 ≤ 63) (h5 : y6 = y5) (h6 : y7 = y6) (h7 : y8 + y4 ≤ y7) : y1 ≤ 1000 := by lia
theorem om194 {y1 : Nat} {y2 : Nat} (h1 : y1 < y2) : y1 ≠ y2 := by exact Nat.ne_of_lt h1
theorem om195 {y1 : Nat} {y2 : Nat} {y3 : Nat} (h1 : y1 < y2) (h2 : y2 < y3) : y1 ≠ y3 := by lia
theorem om196 {y1 : Nat} {y2 : Nat} {y3 : Nat} {y4 : Nat} (h1 : y1 + 3 < y2) (h2 : y2 < y3) (h3 : y3 < y4) : y1 + 1 ≠ y4 := by lia
theorem om197 {y1 : Nat} {y2 : Nat} {y3 : Nat} {y4 : Nat} (h1 : y1 + 3 < y2) (h2 : y2 < y3) (h3 : y3 < y4) : y1 + 2 ≠ y4 := by lia
theorem om198 {y1 : Nat} {y2 : Nat} {y3 : Nat} {y4 : Nat} (h1 : y1 + 3 < y2) (h2 : y2 < y3) (h3 : y3 < y4) : y1 + 3 ≠ y4 := by lia
theorem om199 {y1 : Nat} {y2 : Nat} {y3 : Nat} {y4 : Nat} (h1 : y1 < y2) (h2 : y3 < y1) (h3 : y4 + 3 < y3) (h4 : 30 < y4) : 30 ≠ y2 := by lia
theorem om200 {y1 : Nat} (h1 : y1 ≤ 1000) : y1 + (0 + 1) ≤ 16777216 := by exact Nat.lt_of_le_of_lt h1 (by decide)
theorem om201 {y1 : Nat} {y2 : Nat} {y3 : Nat} (h1 : y1 = y2) (h2 : y3 < y1) : y3 < y2 := by subst h1; assumption
theorem om202 {y1 : Nat} {y2 : Nat} {y3 : Nat} {y4 : Nat} (h1 : y1 < y2) (h2 : y2 = y3) (h3 : y3 = y4) (h4 : y4 ≤ 63) : (↑y1 : Int) < 2 ^ 63 := by lia
theorem om203 {y1 : Nat} {y2 : Nat} {y3 : Nat} {y4 : Nat} (h1 : y1 + 3 < y2) (h2 : y2 < y3) (h3 : y3 < y4) : y4 ≠ y1 + 3 := by lia
theorem om204 {y1 : Nat} {y2 : Nat} {y3 : Nat} (h1 : y1 + 3 < y2) (h2 : y2 < y3) : y3 ≠ y1 + 3 := by lia
theorem om205 {y1 : Nat} {y2 : Nat} (h1 : y1 + 3 < y2) : y2 ≠ y1 + 3 := by exact Nat.ne_of_gt h1
theorem om206 {y1 : Nat} : y1 + 1 ≠ y1 + 3 := by simp +arith at *
theorem om207 {y1 : Nat} : y1 + 2 ≠ y1 + 3 := by simp +arith at *
theorem om208 {y1 : Nat} (h1 : 30 < y1) : 30 ≠ y1 + 3 := by lia
theorem om209 {y1 : Nat} {y2 : Nat} (h1 : (↑y1 : Int) ≤ (↑y2 : Int)) : y1 ≤ y2 := by simp_all +arith
theorem om210 {y1 : Nat} {y2 : Nat} {y3 : Nat} {y4 : Nat} {y5 : Nat} {y6 : Prop} (h1 : y1 < y2 ∧ y3 < y2 ∧ y4 < y2 ∧ y5 + 1 < y2 ∧ y5 + 2 < y2 ∧ y5 + 3 < y2 ∧ 30 < y2 ∧ y6) : y2 ≠ y3 := by omega
theorem om211 {y1 : Nat} {y2 : Nat} (h1 : y1 < y2) : y2 ≠ y1 := by exact Nat.ne_of_gt h1
theorem om212 {y1 : Nat} {y2 : Nat} {y3 : Nat} (h1 : y1 + 3 < y2) (h2 : y2 < y3) : y1 + 1 ≠ y3 := by lia
theorem om213 {y1 : Nat} {y2 : Nat} {y3 : Nat} (h1 : y1 + 3 < y2) (h2 : y2 < y3) : y1 + 2 ≠ y3 := by lia
theorem om214 {y1 : Nat} {y2 : Nat} {y3 : Nat} (h1 : y1 + 3 < y2) (h2 : y2 < y3) : y1 + 3 ≠ y3 := by lia
theorem om215 {y1 : Nat} {y2 : Nat} {y3 : Nat} (h1 : y1 < y2) (h2 : y3 + 3 < y1) (h3 : 30 < y3) : 30 ≠ y2 := by lia
theorem om216 {y1 : Nat} {y2 : Nat} {y3 : Nat} {y4 : Nat} {y5 : Nat} {y6 : Nat} (h1 : y1 = y2) (h2 : y3 ≤ 63) (h3 : y4 = y3) (h4 : y5 = y4) (h5 : y1 + y6 ≤ y5) : y2 ≤ 1000 := by lia
theorem om217 {y1 : Nat} {y2 : Nat} {y3 : Nat} {y4 : Nat} {y5 : Nat} {y6 : Prop} (h1 : y1 < y2 ∧ y3 < y2 ∧ y4 < y2 ∧ y5 + 1 < y2 ∧ y5 + 2 < y2 ∧ y5 + 3 < y2 ∧ 30 < y2 ∧ y6) : y2 ≠ y5 + 1 := by omega
theorem om218 {y1 : Nat} {y2 : Nat} {y3 : Nat} {y4 : Nat} {y5 : Nat} {y6 : Prop} (h1 : y1 < y2 ∧ y3 < y2 ∧ y4 < y2 ∧ y5 + 1 < y2 ∧ y5 + 2 < y2 ∧ y5 + 3 < y2 ∧ 30 < y2 ∧ y6) : y2 ≠ y5 + 2 := by omega
theorem om219 {y1 : Nat} {y2 : Nat} {y3 : Nat} {y4 : Nat} {y5 : Nat} {y6 : Prop} (h1 : y1 < y2 ∧ y3 < y2 ∧ y4 < y2 ∧ y5 + 1 < y2 ∧ y5 + 2 < y2 ∧ y5 + 3 < y2 ∧ 30 < y2 ∧ y6) : y2 ≠ y5 + 3 := by omega
theorem om220 {y1 : Nat} {y2 : Nat} {y3 : Nat} {y4 : Nat} {y5 : Nat} {y6 : Prop} (h1 : y1 < y2 ∧ y3 < y2 ∧ y4 < y2 ∧ y5 + 1 < y2 ∧ y5 + 2 < y2 ∧ y5 + 3 < y2 ∧ 30 < y2 ∧ y6) : y2 ≠ 30 := by omega
theorem om221 {y1 : Nat} {y2 : Nat} {y3 : Nat} {y4 : Nat} {y5 : Nat} {y6 : Prop} (h1 : y1 < y2 ∧ y3 < y2 ∧ y4 < y2 ∧ y5 + 1 < y2 ∧ y5 + 2 < y2 ∧ y5 + 3 < y2 ∧ 30 < y2 ∧ y6) : y2 ≠ y4 := by omega
theorem om222 {y1 : Nat} {y2 : Nat} {y3 : Nat} {y4 : Nat} {y5 : Nat} {y6 : Prop} (h1 : y1 < y2 ∧ y3 < y2 ∧ y4 < y2 ∧ y5 + 1 < y2 ∧ y5 + 2 < y2 ∧ y5 + 3 < y2 ∧ 30 < y2 ∧ y6) : y2 ≠ y1 := by omega
theorem om223 {y1 : Nat} {y2 : Nat} (h1 : ¬(↑y1 : Int) ≤ (↑y2 : Int)) : ¬y1 ≤ y2 := by simp_all +arith
theorem om224 {y1 : Nat} {y2 : Nat} {y3 : Nat} {y4 : Nat} {y5 : Nat} {y6 : Nat} {y7 : Nat} (h1 : y1 = y2) (h2 : y2 + (0 + 1) ≤ y3) (h3 : y4 ≤ 63) (h4 : y5 = y4) (h5 : y6 = y5) (h6 : y7 + y3 ≤ y6) : y1 ≤ 1000 := by lia
theorem om225 {y1 : Nat} {y2 : Nat} {y3 : Nat} {y4 : Nat} {y5 : Nat} (h1 : y1 = y2) (h2 : y1 ≤ y3) (h3 : y3 = y4) (h4 : y4 = y5) (h5 : y5 ≤ 63) : y2 ≤ 1000 := by lia
theorem om226 {y1 : Nat} {y2 : Nat} {y3 : Nat} {y4 : Nat} {y5 : Nat} {y6 : Nat} {y7 : Nat} (h1 : y1 ≤ 1000) (h2 : y2 = y3) (h3 : y3 ≤ y4) (h4 : y4 ≤ y5) (h5 : y5 = y6) (h6 : y6 = y7) (h7 : y7 ≤ 63) : y1 + y2 ≤ 16777216 := by lia
theorem om227 {y1 : Nat} {y2 : Nat} {y3 : Nat} {y4 : Nat} (h1 : y1 + y2 ≤ y3) (h2 : y4 < y2) : y1 + (0 + 1) + y4 ≤ y3 := by lia
theorem om228 {y1 : Nat} {y2 : Nat} {y3 : Nat} {y4 : Nat} (h1 : y1 + y2 ≤ y3) (h2 : y4 < y2) : y1 + y4 ≤ y3 := by lia
theorem om229 {y1 : Nat} (h1 : ¬0 < y1) : y1 = 0 := by exact Nat.eq_zero_of_not_pos h1
theorem om230 {y1 : Nat} {y2 : Nat} {y3 : Nat} (h1 : y1 + y2 ≤ y3) : y1 ≤ y3 := by lia
theorem om231 {y1 : Nat} {y2 : Nat} {y3 : Nat} (h1 : y1 = y2) (h2 : y2 = y3) (h3 : 0 < y3) : 0 < y1 := by simp_all +arith
theorem om232 {y1 : Nat} {y2 : Nat} (h1 : y1 = y2 + 1) (h2 : y2 < 400) : y1 < 600 := by lia
theorem om233 {y1 : Nat} {y2 : Nat} (h1 : y1 = y2 + 3) (h2 : y2 < 1000) : y1 < 6000 := by lia
theorem om234 {y1 : Nat} {y2 : Nat} {y3 : Nat} {y4 : Nat} (h1 : y1 < y2) (h2 : y3 < y1) (h3 : y4 + 3 < y3) (h4 : 30 < y4) : y2 ≠ 30 := by lia
theorem om235 {y1 : Nat} {y2 : Nat} {y3 : Nat} (h1 : y1 < y2) (h2 : y3 + 3 < y1) (h3 : 30 < y3) : y2 ≠ 30 := by lia
theorem om236 {y1 : Nat} {y2 : Nat} (h1 : y1 + 3 < y2) (h2 : 30 < y1) : y2 ≠ 30 := by lia
theorem om237 {y1 : Nat} (h1 : 30 < y1) : y1 + 1 ≠ 30 := by lia
theorem om238 {y1 : Nat} (h1 : 30 < y1) : y1 + 2 ≠ 30 := by lia
theorem om239 {y1 : Nat} (h1 : 30 < y1) : y1 + 3 ≠ 30 := by lia
theorem om240 {y1 : Nat} {y2 : Nat} (h1 : y1 = y2 + 1) (h2 : y2 < 400) : y1 < 700 := by lia
theorem om241 {y1 : Nat} {y2 : Nat} (h1 : y1 = y2 + 3) (h2 : y2 < 1000) : y1 < 7000 := by lia
theorem om242 {y1 : Nat} {y2 : Nat} {y3 : Nat} {y4 : Nat} {y5 : Nat} (h1 : y1 = y2) (h2 : y1 ≤ y3) (h3 : y3 = y4) (h4 : y4 = y5) (h5 : y5 ≤ 63) : y2 < 64 := by lia
theorem om243 {y1 : Nat} {y2 : Nat} : (↑y1 : Int) ≤ (↑y2 : Int) ↔ y1 ≤ y2 := by simp +arith at *
theorem om244 {y1 : Nat} {y2 : Nat} (h1 : y1 ≤ y2) (h2 : y2 ≤ 63) : y1 < 64 := by lia
theorem om245 {y1 : Nat} {y2 : Nat} (h1 : y1 = y2 + 3) (h2 : y2 < 1000) : y1 < 9900 := by lia
theorem om246 {y1 : Nat} : 0 ≤ (↑y1 : Int) := by exact Int.ofNat_nonneg _
theorem om247 {y1 : Nat} {y2 : Nat} (h1 : y1 ≤ y2) : (↑y1 : Int) ≤ (↑y2 : Int) := by exact Int.ofNat_le.mpr h1
theorem om248 {y1 : Nat} (h1 : 0 < y1) : -(↑y1 : Int) < 0 := by simp_all +arith
theorem om249 {y1 : Nat} {y2 : Nat} (h1 : y1 ≤ y2) : -(↑y2 : Int) ≤ -(↑y1 : Int) := by simp_all +arith
theorem om250 {y1 : Nat} {y2 : Nat} : (-(↑y1 : Int) + (↑y2 : Int) - 0).toNat = y2 - y1 := by lia
theorem om251 {y1 : Nat} {y2 : Nat} : (-(↑y1 : Int) + (↑y2 : Int)).toNat = y2 - y1 := by lia
theorem om252 {y1 : Nat} (h1 : y1 ≤ 1000) : y1 ≤ 16777216 := by exact Nat.le_trans h1 (by decide)
theorem om253 {y1 : Nat} (h1 : y1 ≤ 1000) : ¬(↑y1 : Int) ≥ 2 ^ 63 := by lia
theorem om254 {y1 : Nat} (h1 : 0 < y1) : (↑y1 : Int) ≠ 0 := by lia
theorem om255 {y1 : Nat} (h1 : ¬0 < y1) : (↑y1 : Int) = 0 := by simp_all +arith
theorem om256 {y1 : Nat} {y2 : Nat} (h1 : y1 < y2) : y2 - (y1 + 1) < y2 - y1 := by grind
theorem om257 {y1 : Nat} {y2 : Nat} (h1 : y1 < y2) : y1 + 1 ≤ y2 := by assumption
theorem om258 {y1 : Nat} {y2 : Nat} (h1 : y1 ≤ y2) (h2 : ¬y1 < y2) : y1 = y2 := by lia
theorem om259  : 1 > 0 := by decide
theorem om260 {y1 : Nat} : ((↑y1 : Int) - 0 - 1) / 1 + 1 = (↑y1 : Int) := by simp +arith at *
theorem om261 {y1 : Nat} (h1 : ¬0 < (↑y1 : Int)) : 0 = (↑y1 : Int) := by simp_all +arith
theorem om262 {y1 : Int} (h1 : 0 ≤ y1) : -2 ^ 63 ≤ y1 := by lia
theorem om263 {y1 : Int} (h1 : y1 ≤ 2 ^ 31) : y1 < 2 ^ 63 := by omega
theorem om264  : 0 ≤ 2 ^ 31 := by decide
theorem om265 {y1 : Nat} (h1 : y1 < 2 ^ 31) : (↑y1 : Int) ≤ 2 ^ 31 := by lia
theorem om266  : 0 ≤ 1 := by decide
theorem om267  : 1 ≤ 2 ^ 31 := by decide
theorem om268 {y1 : Nat} : 0 ≤ (↑y1 : Int) + (1 - 1) := by exact Int.ofNat_nonneg _
theorem om269 {y1 : Nat} (h1 : y1 < 2 ^ 31) : (↑y1 : Int) + (1 - 1) ≤ 2 ^ 31 := by lia
theorem om270 {y1 : Nat} : 0 + (↑y1 : Int) * 1 = (↑y1 : Int) := by simp +arith at *
theorem om271 {y1 : Nat} {y2 : Nat} (h1 : ¬y1 < y2) : y2 ≤ y1 := by exact Nat.not_lt.mp h1
theorem om272 {y1 : Nat} {y2 : Nat} (h1 : y1 + 0 = y2) : y2 ≤ y1 := by simp_all +arith
theorem om273 {y1 : Nat} {y2 : Nat} {y3 : Nat} (h1 : y1 = y2) (h2 : y3 + 0 = y2) : y1 ≤ y3 := by simp_all +arith
theorem om274 {y1 : Nat} {y2 : Nat} (h1 : y1 = y2) : y2 = y1 := by exact h1.symm
theorem om275 {y1 : Nat} (h1 : y1 < 9000) : y1 + 1 < 9001 := by exact Nat.lt_of_le_of_lt h1 (by decide)
theorem om276 {y1 : Nat} : 0 + y1 = y1 := by simp +arith at *
theorem om277 {y1 : Nat} {y2 : Nat} (h1 : y1 = y2 + 1) (h2 : y2 < 800) : y1 ≤ 900 := by subst h1; exact Nat.le_trans h2 (by decide)
theorem om278 {y1 : Nat} {y2 : Nat} (h1 : y1 = y2 + 3) (h2 : y2 < 8000) : y1 ≤ 9000 := by lia
theorem om279 {y1 : Nat} {y2 : Nat} (h1 : y1 = y2 + 1) (h2 : y2 < 800) : y1 < 900 := by lia
theorem om280 {y1 : Nat} {y2 : Nat} (h1 : y1 = y2 + 3) (h2 : y2 < 8000) : y1 < 9000 := by lia
theorem om281 {y1 : Int} {y2 : Int} (h1 : y1 < y2) (h2 : y2 < y1) : False := by lia
theorem om282 {y1 : Int} {y2 : Int} (h1 : y1 < y2) (h2 : y2 = y1) : False := by simp_all +arith
theorem om283 {y1 : Int} {y2 : Int} (h1 : y1 = y2) (h2 : y2 < y1) : False := by simp_all +arith
theorem om284 {y1 : Nat} (h1 : y1 < 4) : y1 = 0 ∨ y1 = 1 ∨ y1 = 2 ∨ y1 = 3 := by lia
theorem om285 {y1 : Int} (h1 : y1 < 0) : -y1 = (↑y1.natAbs : Int) := by grind
theorem om286 {y1 : Int} (h1 : ¬y1 < 0) : y1 = (↑y1.natAbs : Int) := by lia
theorem om287  : 0 ≤ 4 := by decide
theorem om288 {y1 : Nat} (h1 : 0 < y1) : ((↑y1 : Int) - 1) % 4 = (↑((y1 - 1) % 4) : Int) := by grind
theorem om289 {y1 : Nat} (h1 : 0 < y1) : ((↑y1 : Int) - 1) / 4 = (↑((y1 - 1) / 4) : Int) := by grind
theorem om290 {y1 : Nat} (h1 : y1 < 4) : 4 - y1 = 4 - (y1 + 1) + 1 := by grind
theorem om291  : 4 < 2 ^ 31 := by decide
theorem om292 {y1 : Nat} {y2 : Nat} {y3 : Nat} {y4 : Nat} (h1 : y1 = 1) (h2 : y2 = y3) (h3 : y3 ≤ y4) (h4 : y4 < 4) : y2 + y1 ≤ 16777216 := by lia
theorem om293 {y1 : Nat} (h1 : 0 < (↑y1 : Int)) : 0 < y1 := by simp_all +arith
theorem om294  : 0 < 4 := by decide
theorem om295 {y1 : Nat} {y2 : Nat} (h1 : y1 ≤ y2) : y1 ≤ y2 := by assumption
theorem om296 {y1 : Nat} (h1 : ¬0 < (↑y1 : Int)) : ¬0 < y1 := by simp_all +arith
theorem om297 {y1 : Nat} {y2 : Nat} {y3 : Nat} (h1 : y1 < y2) (h2 : y3 ≤ 128 * y2) : y3 + y1 < y2 * 129 := by lia
theorem om298 {y1 : Nat} {y2 : Nat} (h1 : 0 < y1) : 0 < y1 + y2 := by lia
theorem om299 {y1 : Nat} {y2 : Nat} (h1 : y1 < y2) : y1 + 1 + 1 ≤ y2 + 1 := by exact Nat.lt_succ_of_le h1
theorem om300 {y1 : Nat} {y2 : Nat} {y3 : Nat} {y4 : Nat} {y5 : Nat} (h1 : y1 + 1 * y2 ≤ y3) (h2 : y4 < y2) : y1 + y4 < y3 + y5 := by lia
theorem om301 {y1 : Nat} {y2 : Nat} {y3 : Nat} (h1 : y1 < y2) : y3 + y1 < y3 + y2 := by simp_all +arith
theorem om302 {y1 : Nat} {y2 : Nat} {y3 : Nat} (h1 : y1 + y2 < y1 + y3) : y2 < y3 := by simp_all +arith
theorem om303 {y1 : Nat} {y2 : Nat} {y3 : Nat} {y4 : Nat} {y5 : Nat} {y6 : Nat} (h1 : y1 < y2) (h2 : y2 < y1) : y3 + y4 < y5 + y6 := by grind
theorem om304 {y1 : Nat} {y2 : Nat} {y3 : Nat} {y4 : Nat} {y5 : Nat} {y6 : Nat} (h1 : y1 < y2) (h2 : y2 = y1) : y3 + y4 < y5 + y6 := by simp_all +arith
theorem om305 {y1 : Nat} {y2 : Nat} {y3 : Nat} {y4 : Nat} {y5 : Nat} {y6 : Nat} {y7 : Nat} {y8 : Prop} (h1 : y1 < y2) (h2 : y3 + 1 * y2 ≤ y4) (h3 : y4 + y5 < y3 + y1) : y6 < y7 ∨ y6 = y7 ∧ y8 := by lia
theorem om306 {y1 : Nat} {y2 : Nat} (h1 : y1 = y2) (h2 : y1 < y2) : False := by simp_all +arith
theorem om307 {y1 : Nat} {y2 : Nat} (h1 : y1 = y2) (h2 : y2 < y1) : False := by simp_all +arith
theorem om308 {y1 : Nat} {y2 : Nat} {y3 : Int} {y4 : Int} (h1 : y1 < 129 ^ 4) (h2 : y2 < 129 ^ 4) (h3 : 0 ≤ y3) (h4 : 0 ≤ y4) : y3 < y4 ∨ y3 = y4 ∧ y1 < y2 ↔ y3.toNat * 276922881 + y1 < y4.toNat * 276922881 + y2 := by lia
theorem om309 {y1 : Nat} {y2 : Nat} {y3 : Int} {y4 : Int} (h1 : y1 < 129 ^ 4) (h2 : y2 < 129 ^ 4) (h3 : y3.toNat * 129 ^ 4 + y1 = y4.toNat * 129 ^ 4 + y2) : y1 = y2 := by lia
theorem om310 {y1 : Int} {y2 : Int} {y3 : Nat} {y4 : Nat} (h1 : 0 ≤ y1) (h2 : 0 ≤ y2) (h3 : y1.toNat * 129 ^ 4 + y3 = y2.toNat * 129 ^ 4 + y4) (h4 : y3 = y4) : y1 = y2 := by lia
theorem om311 {y1 : Nat} (h1 : y1 ≤ 8000) : y1 + 1 + 1 ≤ 8500 := by lia
theorem om312 {y1 : Nat} (h1 : y1 ≤ 8000) : y1 + 1 ≤ 9500 := by exact Nat.lt_of_le_of_lt h1 (by decide)
theorem om313 {y1 : Nat} {y2 : Nat} {y3 : Nat} (h1 : y1 < y2) (h2 : y2 = y3) : y1 < y3 := by subst h2; assumption
theorem om314 {y1 : Nat} {y2 : Nat} (h1 : y1 = y2) : y2 ≤ y1 := by simp_all +arith
theorem om315 {y1 : Nat} {y2 : Nat} (h1 : y1 = y2) (h2 : 2 ≤ y2) : 2 ≤ y1 := by subst h1; assumption
theorem om316 {y1 : Nat} {y2 : Nat} (h1 : y1 = y2) : min y1 y2 = y2 := by simp_all +arith
theorem om317 {y1 : Nat} {y2 : Nat} {y3 : Nat} (h1 : y1 = y2) (h2 : y3 < y2) : y3 < y1 := by subst h1; assumption
theorem om318 {y1 : Nat} {y2 : Nat} {y3 : Nat} (h1 : y1 = y2) (h2 : y2 < y3) (h3 : y3 < 64) : y1 ≤ 16777216 := by lia
theorem om319 {y1 : Nat} {y2 : Nat} (h1 : y1 < y2 + 1) (h2 : ¬y1 < y2) : y1 = y2 := by lia
theorem om320 {y1 : Nat} (h1 : y1 < 700) : y1 < 800 := by exact Nat.le_trans h1 (by decide)
theorem om321 {y1 : Nat} (h1 : y1 < 7000) : y1 + 1 + 1 < 8000 := by lia
theorem om322 {y1 : Nat} {y2 : Nat} (h1 : y1 = y2 + 1) (h2 : y2 < 600) : y1 ≤ 700 := by subst h1; exact Nat.le_trans h2 (by decide)
theorem om323 {y1 : Nat} {y2 : Nat} (h1 : y1 = y2 + 3) (h2 : y2 < 6000) : y1 ≤ 7000 := by lia
theorem om324 {y1 : Nat} (h1 : 30 < y1) (h2 : y1 + 1 = 30) : False := by simp_all +arith
theorem om325 {y1 : Int} {y2 : Int} {y3 : Prop} (h1 : ¬y1 = y2) : y1 = y2 → y3 → y1 < y2 := by simp_all +arith
theorem om326 {y1 : Int} {y2 : Int} {y3 : Prop} (h1 : ¬y1 = y2) : y2 = y1 → y3 → y2 < y1 := by lia
theorem om327 {y1 : Nat} {y2 : Nat} (h1 : y1 ≤ y2) : y1 + (0 + 1) ≤ y2 + 1 := by exact Nat.lt_succ_of_le h1
theorem om328 {y1 : Nat} : y1 + y1 = y1 * 2 := by simp +arith at *
theorem om329 {y1 : Nat} {y2 : Nat} (h1 : y1 ≤ 4) : min y2 y1 ≤ 4 := by grind
theorem om330 {y1 : Nat} {y2 : Nat} {y3 : Nat} (h1 : y1 = y2) (h2 : y1 = y3) (h3 : y3 ≤ 2 ^ 4) : y2 ≤ 16 := by simp_all +arith
theorem om331 {y1 : Nat} (h1 : y1 ≤ 16) : y1 ≤ 1000 := by exact Nat.le_trans h1 (by decide)
theorem om332 {y1 : Nat} {y2 : Nat} (h1 : y1 ≤ y2) (h2 : y2 ≤ 4) : y1 ≤ 16777215 := by lia
theorem om333 {y1 : Nat} (h1 : y1 ≤ 16) : y1 + y1 ≤ 16777216 := by lia
theorem om334 {y1 : Nat} (h1 : y1 = 3) : y1 ≤ 16777216 := by simp_all +arith
theorem om335 {y1 : Nat} (h1 : y1 ≤ 100) : ¬y1 > 16777216 := by lia
theorem om336 {y1 : Nat} {y2 : Nat} (h1 : y1 = y2 + 3) (h2 : y2 < 9000) : y1 < 9900 := by lia
theorem om337 {y1 : Nat} {y2 : Nat} (h1 : 0 < y1 - y2) : y2 < y1 := by omega
theorem om338 {y1 : Nat} {y2 : Nat} (h1 : ¬0 < y1 - y2) : ¬y2 < y1 := by omega
theorem om339 {y1 : Nat} {y2 : Nat} (h1 : y1 < y2) : y2 - (y1 + 1) < y2 := by omega
theorem om340 {y1 : Nat} : 0 < y1 + 1 := by exact Nat.le_add_left _ _
theorem om341 {y1 : Nat} {y2 : Nat} (h1 : y1 < y2) : y2 - (y1 + 1) + 1 = y2 - y1 := by grind
theorem om342 {y1 : Nat} {y2 : Nat} (h1 : y1 ≤ y2) : 2 * min y1 y2 = 2 * y1 := by simp_all +arith
theorem om343 {y1 : Nat} {y2 : Nat} {y3 : Nat} {y4 : Nat} {y5 : Nat} (h1 : y1 ≤ 4) (h2 : y2 ≤ 4) (h3 : y3 ≤ 2 * (min y4 y2 + min y5 y1)) : y3 ≤ 16 := by omega
theorem om344 {y1 : Nat} {y2 : Nat} (h1 : y1 ≤ 2) : 2 * y2 + y1 ≤ 2 * y2 + 2 := by simp_all +arith
theorem om345 {y1 : Nat} : 2 * y1 + 2 ≤ 2 * (y1 + 1) + 2 := by exact Nat.le_add_right _ _
theorem om346 {y1 : Nat} {y2 : Nat} (h1 : y1 < y2) : y1 < y2 + 1 := by exact Nat.lt_succ_of_lt h1
theorem om347 {y1 : Nat} {y2 : Nat} (h1 : ¬y1 = y2) (h2 : ¬y2 < y1) : ¬y2 < y1 + 1 := by lia
theorem om348 {y1 : Nat} {y2 : Nat} (h1 : y1 < y2) : (↑y1 : Int) < (↑y2 : Int) := by exact Int.ofNat_le.mpr h1
theorem om349 {y1 : Nat} {y2 : Nat} (h1 : y1 < y2) : (↑y1 : Int) = (↑(min y2 y1) : Int) := by grind
theorem om350 {y1 : Nat} {y2 : Nat} (h1 : ¬y1 < y2) : ¬(↑y1 : Int) < (↑y2 : Int) := by simp_all +arith
theorem om351 {y1 : Nat} {y2 : Nat} (h1 : ¬y1 < y2) : (↑y2 : Int) = (↑(min y2 y1) : Int) := by simp_all +arith
theorem om352 {y1 : Nat} (h1 : y1 ≤ 4) : y1 ≤ 1000 := by exact Nat.le_trans h1 (by decide)
theorem om353 {y1 : Nat} {y2 : Nat} (h1 : y1 ≤ 4) : y1 - y2 ≤ 1000 := by omega
theorem om354 {y1 : Nat} : -9223372036854775808 < (↑y1 : Int) := by exact Int.ofNat_nonneg _
theorem om355 {y1 : Nat} {y2 : Nat} (h1 : y1 ≤ y2) (h2 : y2 ≤ 4) : (↑y1 : Int) < 9223372036854775808 := by lia
theorem om356 {y1 : Nat} {y2 : Nat} : -(↑y1 : Int) ≤ (↑y2 : Int) := by simp +arith at *
theorem om357 {y1 : Nat} {y2 : Nat} {y3 : Nat} (h1 : y1 = y2) (h2 : 0 < y2 - y3) : (↑y3 : Int) < (↑y1 : Int) := by omega
theorem om358 {y1 : Nat} {y2 : Nat} {y3 : Nat} {y4 : Prop} (h1 : y1 < y2 ∧ y1 < y3 ∧ y4) : y2 - (y1 + 1) < y2 - y1 := by omega
theorem om359 {y1 : Nat} {y2 : Nat} {y3 : Nat} {y4 : Prop} (h1 : y1 < y2 ∧ y1 < y3 ∧ y4) : y1 + 1 ≤ y2 := by lia
theorem om360 {y1 : Nat} {y2 : Nat} {y3 : Nat} {y4 : Prop} (h1 : y1 < y2 ∧ y1 < y3 ∧ y4) : y1 + 1 ≤ y3 := by lia
theorem om361 {y1 : Nat} {y2 : Nat} (h1 : y1 ≤ 4) : y1 - y2 ≤ 4 := by omega
theorem om362  : -9223372036854775808 < -(↑0 : Int) - 1 := by decide
theorem om363  : -(↑0 : Int) - 1 < 9223372036854775808 := by decide
theorem om364 {y1 : Nat} {y2 : Nat} (h1 : y1 = y2) (h2 : 0 < y2) : -(↑y1 : Int) ≤ -(↑0 : Int) - 1 := by lia
theorem om365 {y1 : Nat} : -(↑0 : Int) - 1 < (↑y1 : Int) := by exact Int.ofNat_nonneg _
theorem om366  : -(↑0 : Int) - 1 = -(↑(0 + 1) : Int) := by decide
theorem om367 {y1 : Nat} (h1 : 0 < y1) : 0 < y1 := by assumption
theorem om368 {y1 : Nat} {y2 : Nat} {y3 : Prop} (h1 : ¬0 < y1) (h2 : 0 < y2 ∧ 0 < y1 ∧ y3) : False := by simp_all +arith
theorem om369 {y1 : Nat} {y2 : Nat} {y3 : Prop} (h1 : ¬0 < y1) (h2 : 0 < y1 ∧ 0 < y2 ∧ y3) : False := by simp_all +arith
theorem om370 {y1 : Nat} (h1 : ¬y1 = 0) : 0 < y1 := by exact Nat.pos_of_ne_zero h1
theorem om371 {y1 : Nat} (h1 : 0 < y1) : -(↑y1 : Int) ≠ 0 := by omega
theorem om372 {y1 : Nat} {y2 : Nat} (h1 : y1 ≤ 4) : min (y1 - y2) y1 ≤ 1000 := by grind
theorem om373 {y1 : Nat} {y2 : Nat} (h1 : y1 ≤ y2) (h2 : y2 ≤ 4) : -9223372036854775808 < -(↑y1 : Int) - 1 := by lia
theorem om374 {y1 : Nat} : -(↑y1 : Int) - 1 < 9223372036854775808 := by lia
theorem om375 {y1 : Nat} {y2 : Nat} {y3 : Nat} (h1 : y1 = y2) (h2 : 0 < min (y2 - y3) y2) : -(↑y1 : Int) ≤ -(↑y3 : Int) - 1 := by omega
theorem om376 {y1 : Nat} {y2 : Nat} : -(↑y1 : Int) - 1 < (↑y2 : Int) := by lia
theorem om377 {y1 : Nat} {y2 : Nat} (h1 : 0 < y1) (h2 : -(↑y1 : Int) = 0) : y2 ≤ 1000 := by simp_all +arith
theorem om378 {y1 : Nat} {y2 : Nat} (h1 : 0 < y1) (h2 : -(↑y1 : Int) = 0) : 0 < y2 := by simp_all +arith
theorem om379 {y1 : Nat} (h1 : -(↑y1 : Int) = 0) : -9223372036854775808 < -(↑y1 : Int) - 1 := by simp_all +arith
theorem om380 {y1 : Nat} {y2 : Nat} (h1 : 0 < y1) (h2 : -(↑y1 : Int) = 0) : -(↑y2 : Int) ≤ -(↑y1 : Int) - 1 := by simp_all +arith
theorem om381 {y1 : Nat} {y2 : Prop} (h1 : 0 < y1) (h2 : -(↑y1 : Int) = 0) : y2 := by simp_all +arith
theorem om382 {y1 : Nat} {y2 : Nat} (h1 : 0 < y1) (h2 : -(↑y1 : Int) = 0) : min (y2 - y1) y2 ≤ 1000 := by simp_all +arith
theorem om383 {y1 : Nat} {y2 : Nat} (h1 : 0 < y1) (h2 : -(↑y1 : Int) = 0) : 0 < min (y2 - y1) y2 := by simp_all +arith
theorem om384 {y1 : Nat} : -(↑y1 : Int) - 1 = -(↑(y1 + 1) : Int) := by simp +arith at *
theorem om385 {y1 : Nat} {y2 : Nat} (h1 : 0 < min (y1 - y2) y1) : y2 < y1 := by omega
theorem om386 {y1 : Nat} {y2 : Nat} {y3 : Nat} {y4 : Prop} (h1 : ¬0 < min (y1 - y2) y1) (h2 : y2 < y3 ∧ y2 < y1 ∧ y4) : False := by omega
theorem om387 {y1 : Nat} (h1 : 0 < y1) (h2 : -(↑y1 : Int) = 0) : False := by simp_all +arith
theorem om388 {y1 : Nat} {y2 : Nat} {y3 : Nat} {y4 : Prop} (h1 : ¬0 < min (y1 - y2) y1) (h2 : y2 < y1 ∧ y2 < y3 ∧ y4) : False := by omega
theorem om389 {y1 : Nat} {y2 : Nat} (h1 : y1 ≤ 4) : min (y1 - y2) y1 ≤ 4 := by grind
theorem om390 {y1 : Nat} {y2 : Nat} (h1 : y1 = y2) (h2 : y2 ≤ 4) : ¬(↑y1 : Int) ≥ 2 ^ 63 := by lia
theorem om391 {y1 : Nat} {y2 : Nat} (h1 : y1 = y2) (h2 : ¬0 < y2) : ¬(↑y1 : Int) ≥ 2 ^ 63 := by simp_all +arith
theorem om392  : -2 ^ 64 < 2 := by decide
theorem om393  : 2 < 2 ^ 64 := by decide
theorem om394 {y1 : Nat} {y2 : Nat} (h1 : y1 = y2) (h2 : y2 ≤ 4) : ¬40 < (↑y1 : Int) := by lia
theorem om395 {y1 : Nat} {y2 : Nat} {y3 : Nat} {y4 : Nat} (h1 : y1 = y2) (h2 : y3 = y4) (h3 : (↑y3 : Int) < (↑y1 : Int)) : y4 ≤ y2 := by lia
theorem om396 {y1 : Nat} {y2 : Nat} {y3 : Nat} {y4 : Nat} (h1 : y1 = y2) (h2 : y3 = y4) (h3 : ¬(↑y3 : Int) < (↑y1 : Int)) : y2 ≤ y4 := by simp_all +arith
theorem om397 {y1 : Nat} {y2 : Nat} {y3 : Nat} (h1 : y1 = y2) (h2 : y2 ≤ y3) (h3 : y3 ≤ 4) : ¬(↑y1 : Int) ≥ 2 ^ 63 := by lia
theorem om398 {y1 : Nat} {y2 : Nat} {y3 : Nat} {y4 : Nat} (h1 : y1 = y2) (h2 : y2 ≤ y3) (h3 : y4 = y3) : -2 ^ 64 < (↑y4 : Int) - (↑y1 : Int) := by lia
theorem om399 {y1 : Nat} {y2 : Nat} {y3 : Nat} (h1 : y1 = y2) (h2 : y2 ≤ 4) : (↑y1 : Int) - (↑y3 : Int) < 2 ^ 64 := by lia
theorem om400 {y1 : Nat} {y2 : Nat} {y3 : Nat} (h1 : y1 = y2) (h2 : y2 ≤ 4) : ¬24 < ((↑y1 : Int) - (↑y3 : Int)) * 2 := by lia
theorem om401 {y1 : Nat} {y2 : Nat} (h1 : 0 < y1) (h2 : y1 ≤ y2) (h3 : y2 ≤ 4) : y1 = 1 ∨ y1 = 2 ∨ y1 = 3 ∨ y1 = 4 := by lia
theorem om402 {y1 : Nat} {y2 : Nat} (h1 : y1 ≤ y2) (h2 : y2 ≤ 4) : y1 ≤ 2 ^ 24 := by lia
theorem om403 {y1 : Nat} : 2 + (↑y1 : Int) * 2 = 2 * ((↑y1 : Int) + 1) := by simp +arith at *
theorem om404 {y1 : Nat} (h1 : y1 ≤ 4) : y1 < 2 ^ 31 := by exact Nat.lt_of_le_of_lt h1 (by decide)
theorem om405 {y1 : Nat} {y2 : Nat} (h1 : y1 < y2) (h2 : y2 ≤ 4) : (↑y1 : Int) < 9223372036854775808 := by lia
theorem om406 {y1 : Nat} {y2 : Nat} {y3 : Nat} (h1 : y1 = y2) (h2 : y3 < y2) : (↑y3 : Int) < (↑y1 : Int) := by simp_all +arith
theorem om407 {y1 : Nat} : -2 ^ 64 < (↑y1 : Int) := by exact Int.ofNat_nonneg _
theorem om408 {y1 : Nat} {y2 : Nat} (h1 : y1 < y2) (h2 : y2 ≤ 4) : (↑y1 : Int) < 2 ^ 64 := by lia
theorem om409 {y1 : Nat} {y2 : Nat} (h1 : y1 ≤ y2) (h2 : y2 ≤ 4) : y1 < 2 ^ 31 := by lia
theorem om410 {y1 : Nat} {y2 : Nat} (h1 : y1 < y2) : y1 ≤ y2 := by exact Nat.le_of_lt h1
theorem om411 {y1 : Nat} : (↑y1 : Int) * 2 = (↑(2 * y1) : Int) := by simp +arith at *
theorem om412 {y1 : Nat} {y2 : Nat} {y3 : Nat} (h1 : y1 < y2) (h2 : y2 ≤ y3) (h3 : y3 ≤ 4) : (↑y1 : Int) < 9223372036854775808 := by lia
theorem om413 {y1 : Nat} {y2 : Nat} (h1 : y1 = y2 + 1) (h2 : y2 < 900) : y1 ≤ 950 := by subst h1; exact Nat.le_trans h2 (by decide)
theorem om414 {y1 : Nat} {y2 : Nat} (h1 : y1 = y2 + 3) (h2 : y2 < 9000) : y1 ≤ 9500 := by lia
theorem om415 {y1 : Nat} {y2 : Nat} {y3 : Nat} (h1 : y1 < y2) (h2 : y3 = y2) : (↑y1 : Int) < (↑y3 : Int) := by simp_all +arith
theorem om416 {y1 : Nat} {y2 : Nat} {y3 : Nat} (h1 : y1 < y2) (h2 : y2 ≤ y3) (h3 : y3 ≤ 4) : (↑y1 : Int) < 2 ^ 63 := by lia
theorem om417 {y1 : Nat} {y2 : Nat} (h1 : y1 ≤ y2) (h2 : y2 ≤ 4) : y1 ≤ 4 := by exact Nat.le_trans h1 h2
theorem om418 {y1 : Nat} (h1 : y1 ≤ 16) : (↑y1 : Int) ≤ 24 := by lia
theorem om419 {y1 : Nat} {y2 : Int} (h1 : ¬(↑y1 : Int) < y2) (h2 : y1 ≤ 16) : y2 ≤ 24 := by lia
theorem om420 {y1 : Nat} : ¬y1 + 1 = 0 := by simp +arith at *
theorem om421 {y1 : Nat} (h1 : 0 < y1) : ¬y1 = 0 := by exact Nat.ne_of_gt h1
theorem om422 {y1 : Int} (h1 : y1 ≤ 24) : ¬24 < y1 := by simp_all +arith
theorem om423 {y1 : Nat} {y2 : Nat} (h1 : y1 ≤ y2) (h2 : 0 < y1) : ¬y2 = 0 := by lia
theorem om424 {y1 : Nat} {y2 : Nat} {y3 : Nat} (h1 : y1 < y2) (h2 : y3 < y1) : y3 < y2 := by exact Nat.lt_trans h2 h1
theorem om425 {y1 : Nat} {y2 : Nat} {y3 : Nat} (h1 : y1 < y2) (h2 : y3 ≤ y1) : y3 ≤ y2 := by lia
theorem om426 {y1 : Nat} {y2 : Nat} {y3 : Nat} {y4 : Nat} (h1 : y1 < y2) (h2 : y3 < y1) (h3 : y3 = y4) : y4 < y2 := by lia
theorem om427 {y1 : Nat} {y2 : Nat} {y3 : Nat} {y4 : Nat} (h1 : y1 ≤ y2) (h2 : y3 = y2) (h3 : y3 < y1) : y1 = y4 := by lia
theorem om428 {y1 : Nat} {y2 : Nat} (h1 : 0 < y1) (h2 : y1 = 0) : y2 < y1 := by simp_all +arith
theorem om429 {y1 : Nat} {y2 : Nat} {y3 : Nat} (h1 : y1 = y2) (h2 : y1 < y3) : y2 < y3 := by subst h1; assumption
theorem om430 {y1 : Nat} {y2 : Nat} {y3 : Prop} {y4 : Nat} (h1 : y1 < y2) (h2 : y1 = y2) : y3 ∧ y1 < y4 ∧ y4 < y2 := by simp_all +arith
theorem om431 {y1 : Nat} {y2 : Nat} (h1 : y1 < y2) : ¬y1 = y2 := by exact Nat.ne_of_lt h1
theorem om432 {y1 : Nat} {y2 : Nat} (h1 : y1 < y2) : 0 < y2 := by lia
theorem om433 {y1 : Nat} {y2 : Nat} {y3 : Nat} (h1 : y1 < y2) (h2 : y3 = y2) : y1 < y3 + 1 := by lia
theorem om434 {y1 : Nat} {y2 : Nat} {y3 : Nat} (h1 : y1 < y2) (h2 : y3 = y2) (h3 : y3 < y1) : False := by lia
theorem om435 {y1 : Nat} {y2 : Nat} (h1 : y1 = y2) : y1 ≤ y2 := by simp_all +arith
theorem om436 {y1 : Nat} {y2 : Nat} {y3 : Nat} (h1 : y1 = y2) (h2 : y3 < y2 + 1) (h3 : ¬y3 = y2) : y3 < y1 := by lia
theorem om437 {y1 : Nat} {y2 : Nat} {y3 : Nat} (h1 : y1 < y2) (h2 : y3 ≤ y1) : ¬y3 = y2 := by lia
theorem om438 {y1 : Nat} {y2 : Nat} {y3 : Nat} (h1 : y1 < y2 + 1) (h2 : ¬y1 = y2) (h3 : y3 ≤ y1) : ¬y3 = y2 := by lia
theorem om439 {y1 : Nat} {y2 : Nat} {y3 : Prop} (h1 : y1 < y2) (h2 : y1 = y2) : y3 := by simp_all +arith
theorem om440 {y1 : Nat} (h1 : y1 = 0) : y1 + 1 = 1 := by simp_all +arith
theorem om441 {y1 : Nat} {y2 : Nat} (h1 : 0 < y1) (h2 : y2 = 0) : y2 < y1 := by subst h2; assumption
theorem om442 {y1 : Nat} {y2 : Nat} {y3 : Nat} {y4 : Nat} (h1 : y1 ≤ y2) (h2 : y3 < y1) (h3 : y1 < y4 ∧ 0 < y1 ∧ y3 = y2) : False := by lia
theorem om443 {y1 : Nat} {y2 : Nat} (h1 : y1 ≤ y2) (h2 : y2 = 1) : y1 + 0 ≤ 1 := by subst h2; assumption
theorem om444 {y1 : Nat} (h1 : y1 = 0) : y1 + 0 ≤ 0 := by simp_all +arith
theorem om445 {y1 : Nat} {y2 : Nat} {y3 : Nat} (h1 : y1 + (y2 + 1) = 1) (h2 : y3 + 1 ≤ 1) : y1 + 1 + (y2 + y3) = 1 := by simp_all +arith
theorem om446 {y1 : Nat} {y2 : Nat} {y3 : Nat} {y4 : Nat} (h1 : y1 ≤ y2 + y3) (h2 : y3 ≤ y2 + y1) (h3 : y2 ≤ y4) : ((↑y1 : Int) - (↑y3 : Int)).natAbs ≤ y4 := by omega
theorem om447 {y1 : Nat} {y2 : Nat} {y3 : Nat} {y4 : Nat} (h1 : 0 < y1) (h2 : y2 + (y3 + y4) = 1) (h3 : y1 + 0 ≤ y4) : y2 + (y3 + y1) = 1 := by lia
theorem om448 {y1 : Nat} {y2 : Nat} {y3 : Nat} {y4 : Nat} (h1 : y1 + (y2 + y3) = 1) (h2 : y4 + 0 ≤ y3) (h3 : y3 = 0) : y1 + (y2 + y4) = 1 := by simp_all +arith
theorem om449 {y1 : Nat} {y2 : Nat} {y3 : Nat} {y4 : Nat} (h1 : y1 ≤ y2) (h2 : y3 ≤ y4) : y1 + y3 ≤ y2 + y4 := by lia
theorem om450 {y1 : Nat} {y2 : Nat} {y3 : Nat} {y4 : Nat} (h1 : y1 < y2) (h2 : y3 ≤ y4) : y1 + y3 < y2 + y4 := by lia
theorem om451 {y1 : Nat} {y2 : Nat} {y3 : Nat} {y4 : Nat} (h1 : y1 ≤ y2) (h2 : y3 < y4) : y1 + y3 < y2 + y4 := by lia
theorem om452 {y1 : Nat} {y2 : Nat} {y3 : Nat} {y4 : Nat} (h1 : y1 + y2 ≤ y3) : y4 + y1 ≤ y4 + y3 := by lia
theorem om453 {y1 : Nat} {y2 : Nat} {y3 : Nat} (h1 : y1 + 1 ≤ y2) : y3 + y1 < y3 + y2 := by lia
theorem om454 {y1 : Nat} (h1 : y1 + 0 = 1) : y1 = 1 := by assumption
theorem om455 {y1 : Nat} {y2 : Nat} {y3 : Nat} (h1 : y1 = y2) (h2 : y3 ≤ y1) : y3 ≤ y2 + 1 := by lia
theorem om456 {y1 : Nat} {y2 : Nat} (h1 : y1 - y2 < 0 + 1) : y1 - y2 = 0 := by simp_all +arith
theorem om457 {y1 : Nat} {y2 : Nat} {y3 : Nat} (h1 : y1 = y2 + 1) (h2 : y3 ≤ y1) : y3 ≤ y2 + 1 := by subst h1; assumption
theorem om458 {y1 : Nat} {y2 : Nat} {y3 : Nat} (h1 : y1 = y2) (h2 : y2 = y3) : y3 = y1 := by simp_all +arith
theorem om459 {y1 : Nat} {y2 : Nat} {y3 : Nat} {y4 : Nat} (h1 : y1 = y2) (h2 : y2 = y3) (h3 : y4 < y3) : y4 < y1 := by simp_all +arith
theorem om460 {y1 : Nat} {y2 : Nat} {y3 : Nat} {y4 : Nat} : y1 + y2 + (y3 + y4) = y1 + y3 + (y2 + y4) := by simp +arith at *
theorem om461 {y1 : Nat} {y2 : Nat} : y1 ≤ y1 + y2 := by exact Nat.le_add_right _ _
theorem om462 {y1 : Nat} {y2 : Nat} {y3 : Nat} (h1 : y1 ≤ y2) : y1 ≤ y3 + y2 := by lia
theorem om463 {y1 : Nat} {y2 : Nat} {y3 : Nat} {y4 : Nat} {y5 : Nat} (h1 : y1 ≤ y2) (h2 : y3 = y4 + y2) (h3 : y5 ≤ y4) (h4 : y5 = 1) : y1 + 1 ≤ y3 := by lia
theorem om464 {y1 : Nat} {y2 : Nat} {y3 : Nat} (h1 : y1 ≤ y2) (h2 : y3 ≤ 1) : y3 + y1 ≤ y2 + 1 := by lia
theorem om465 {y1 : Int} {y2 : Nat} (h1 : y1 < 0) : -y1 ≤ (↑y2 : Int) ↔ y1.natAbs ≤ y2 := by omega
theorem om466 {y1 : Int} {y2 : Nat} (h1 : ¬y1 < 0) : y1 ≤ (↑y2 : Int) ↔ y1.natAbs ≤ y2 := by omega
theorem om467 {y1 : Nat} {y2 : Nat} (h1 : y1 < y2) : ¬y1 = y2 + 4 ∧ ¬y1 = y2 + 3 ∧ ¬y1 = y2 ∧ ¬y1 = y2 + 1 := by lia
theorem om468 {y1 : Nat} {y2 : Nat} (h1 : y1 = y2 + 4 ∨ y1 = y2 + 2 ∨ y1 = y2 + 3 ∨ y1 = y2 ∨ y1 = y2 + 1) : y1 < y2 + 5 := by lia
theorem om469 {y1 : Nat} {y2 : Nat} : (↑y1 : Int) + (↑y2 : Int) = (↑(y1 + y2) : Int) := by simp +arith at *
theorem om470 {y1 : Nat} {y2 : Nat} {y3 : Nat} {y4 : Nat} {y5 : Nat} (h1 : y1 + 4 * y2 ≤ y3 + 2 * (y4 + y5)) : (↑y1 : Int) ≤ (↑y3 : Int) + 2 * ((↑y4 : Int) + (↑y5 : Int) - 2 * (↑y2 : Int)) := by lia
theorem om471 {y1 : Nat} {y2 : Nat} {y3 : Nat} {y4 : Nat} {y5 : Nat} (h1 : y1 + 2 * (y2 + y3) = y4 + 4 * y5) : (↑y1 : Int) + 2 * ((↑y2 : Int) + (↑y3 : Int) - 2 * (↑y5 : Int)) = (↑y4 : Int) := by lia
theorem om472 {y1 : Nat} {y2 : Nat} {y3 : Nat} (h1 : y1 ≤ 16 * y2 + y3) : y1 + 1 ≤ 16 * y2 + (y3 + 1) := by exact Nat.lt_succ_of_le h1
theorem om473 {y1 : Nat} {y2 : Nat} {y3 : Nat} {y4 : Nat} (h1 : y1 ≤ 16 * y2 + y3) (h2 : y3 = y4) (h3 : y4 ≤ 2 ^ 4) : y1 ≤ 16 * (y2 + 1) + 0 := by lia
theorem om474 {y1 : Nat} {y2 : Int} {y3 : Int} (h1 : (↑y1 : Int) ≤ y2) (h2 : y3 = (↑y1 : Int)) (h3 : y2 ≤ y3) : y2 = (↑y1 : Int) := by lia
theorem om475 {y1 : Nat} {y2 : Nat} {y3 : Nat} {y4 : Nat} {y5 : Nat} {y6 : Nat} {y7 : Nat} {y8 : Nat} (h1 : y1 = y2) (h2 : y3 ≤ 2 ^ 4) (h3 : y4 = y3) (h4 : y5 < y4) (h5 : y2 ≤ 16 * y6 + y5) (h6 : y6 < y7) (h7 : y7 = y8) (h8 : y8 ≤ 2 ^ 4) : y1 ≤ 300 := by lia
theorem om476 {y1 : Nat} {y2 : Nat} {y3 : Nat} {y4 : Nat} (h1 : y1 = y2) (h2 : y3 = y4) (h3 : (↑y1 : Int) = (↑y3 : Int)) : y2 = y4 := by lia
theorem om477 {y1 : Nat} (h1 : y1 ≤ 300) : y1 ≤ 1000 := by exact Nat.le_trans h1 (by decide)
theorem om478 {y1 : Nat} {y2 : Nat} {y3 : Nat} {y4 : Nat} (h1 : y1 = y2) (h2 : y3 = y4) (h3 : (↑y1 : Int) ≠ (↑y3 : Int)) : y2 ≠ y4 := by lia
end D54
end
section
namespace D54
def low (c : Nat) : Nat := if c = 65 then 97 else c
def sub (x y : Nat) : Nat := if x = y then 0 else if low x = low y then 1 else 2
theorem sub_self (x : Nat) : sub x x = 0 := by simp [sub]
theorem sub_le (x y : Nat) : sub x y ≤ 2 := by unfold sub; split <;> (try split) <;> (first | decide | decide | decide)
theorem sub_comm (x y : Nat) : sub x y = sub y x := by
  unfold sub
  by_cases h : x = y
  · subst h; simp
  · have h' : ¬ y = x := fun e => h e.symm
    rw [if_neg h, if_neg h']
    by_cases g : low x = low y
    · rw [if_pos g, if_pos g.symm]
    · rw [if_neg g, if_neg (fun e => g e.symm)]
theorem sub_tri (x y z : Nat) : sub x z ≤ sub x y + sub y z := by
  unfold sub
  by_cases h1 : x = y
  · subst h1; simp
  · by_cases h2 : y = z
    · subst h2; simp
    · rw [if_neg h1, if_neg h2]
      by_cases g1 : low x = low y
      · rw [if_pos g1]
        by_cases g2 : low y = low z
        · rw [if_pos g2]; split <;> (try split) <;> (first | decide | decide | decide)
        · rw [if_neg g2]; split <;> (try split) <;> (first | decide | decide | decide)
      · rw [if_neg g1]; (repeat' split) <;> (first | decide | decide | decide | decide | decide | decide)
def edG (f : List Nat → Nat) (x n : Nat) : List Nat → Nat
  | [] => 2 * (n + 1)
  | y :: ys => min (f (y :: ys) + 2) (min (edG f x n ys + 2) (f ys + sub x y))
def ed : List Nat → List Nat → Nat
  | [] => fun ys => 2 * ys.length
  | x :: xs => edG (ed xs) x xs.length
theorem ed_nil (ys : List Nat) : ed [] ys = 2 * ys.length := rfl
theorem ed_nil_r (xs : List Nat) : ed xs [] = 2 * xs.length := by cases xs with
  | nil => rfl
  | cons x xs => rfl
theorem ed_cons (x y : Nat) (xs ys : List Nat) : ed (x :: xs) (y :: ys) = min (ed xs (y :: ys) + 2) (min (ed (x :: xs) ys + 2) (ed xs ys + sub x y)) := rfl
theorem ed_comm : ∀ (xs ys : List Nat), ed xs ys = ed ys xs
  | [], ys => by rw [ed_nil, ed_nil_r]
  | x :: xs, [] => by rw [ed_nil, ed_nil_r]
  | x :: xs, y :: ys => by
    rw [ed_cons, ed_cons, ed_comm xs (y :: ys), ed_comm (x :: xs) ys, ed_comm xs ys, sub_comm x y, ← Nat.min_assoc, ← Nat.min_assoc, Nat.min_comm (ed (y :: ys) xs + 2)]
termination_by xs ys => xs.length + ys.length
theorem ed_le_cons_l (x : Nat) (xs : List Nat) : ∀ ys, ed (x :: xs) ys ≤ ed xs ys + 2
  | [] => by rw [ed_nil_r, ed_nil_r, List.length_cons]; (exact om17)
  | y :: ys => by rw [ed_cons]; (exact om18)
theorem ed_le_cons_r (y : Nat) (ys : List Nat) (xs : List Nat) : ed xs (y :: ys) ≤ ed xs ys + 2 := by
  rw [ed_comm xs (y :: ys), ed_comm xs ys]; exact ed_le_cons_l y ys xs
theorem ed_le_both (x y : Nat) (xs ys : List Nat) : ed (x :: xs) (y :: ys) ≤ ed xs ys + sub x y := by rw [ed_cons]; (exact om19)
theorem ed_self : ∀ xs : List Nat, ed xs xs = 0
  | [] => by rw [ed_nil]; rfl
  | x :: xs => by
    have h := ed_le_both x x xs xs
    rw [ed_self xs, sub_self] at h
    (exact om20 h)
theorem ed_len : ∀ (ys zs : List Nat), 2 * zs.length ≤ 2 * ys.length + ed ys zs
  | [], zs => by rw [ed_nil]; (exact om21)
  | y :: ys, [] => by simp
  | y :: ys, z :: zs => by
    have h1 := ed_len ys (z :: zs)
    have h2 := ed_len (y :: ys) zs
    have h3 := ed_len ys zs
    rw [ed_cons]
    simp only [List.length_cons] at *
    (exact om22 h1 h2 h3)
termination_by ys zs => ys.length + zs.length
theorem ed_le (xs ys : List Nat) : ed xs ys ≤ 2 * (xs.length + ys.length) := by
  induction xs with
  | nil => rw [ed_nil]; simp
  | cons x xs ih => have := ed_le_cons_l x xs ys; simp only [List.length_cons]; (exact om23 ih this)
theorem ed_tri : ∀ (xs ys zs : List Nat), ed xs zs ≤ ed xs ys + ed ys zs
  | [], ys, zs => by rw [ed_nil, ed_nil]; exact ed_len ys zs
  | x :: xs, ys, [] => by
    have h := ed_len ys (x :: xs)
    rw [ed_comm ys (x :: xs)] at h
    rw [ed_nil_r, ed_nil_r]; (exact om24 h)
  | x :: xs, [], z :: zs => by
    rw [ed_nil_r, ed_nil]
    have := ed_le (x :: xs) (z :: zs)
    (exact om25 this)
  | x :: xs, y :: ys, z :: zs => by
    have a1 := ed_tri xs (y :: ys) (z :: zs)
    have a2 := ed_tri (x :: xs) (y :: ys) zs
    have a3 := ed_tri (x :: xs) ys (z :: zs)
    have a4 := ed_tri (x :: xs) ys zs
    have a5 := ed_tri xs ys (z :: zs)
    have a6 := ed_tri xs ys zs
    have l1 := ed_le_cons_l x xs (z :: zs)
    have l2 := ed_le_cons_r z zs (x :: xs)
    have l3 := ed_le_both x z xs zs
    have l4 := ed_le_cons_l x xs zs
    have t := sub_tri x y z
    have e1 := ed_cons x y xs ys
    have e2 := ed_cons y z ys zs
    (exact om26 l1 a1 l2 a2 a3 a4 e2 a5 e1 a6 l3 t)
termination_by xs ys zs => xs.length + ys.length + zs.length
theorem ed_cons_same (c : Nat) (xs ys : List Nat) : ed (c :: xs) (c :: ys) = ed xs ys := by
  have h1 := ed_le_both c c xs ys
  rw [sub_self] at h1
  have h2 : ed xs ys ≤ ed xs (c :: ys) + 2 := by
    have t := ed_tri xs (c :: ys) ys
    have l := ed_le_cons_l c ys ys
    rw [ed_self] at l
    (exact om29 t l)
  have h3 : ed xs ys ≤ ed (c :: xs) ys + 2 := by
    have t := ed_tri xs (c :: xs) ys
    have l := ed_le_cons_r c xs xs
    rw [ed_self] at l
    (exact om30 t l)
  have e := ed_cons c c xs ys
  rw [sub_self] at e
  (exact om31 h2 e h3)
theorem ed_app_same (p : List Nat) (xs ys : List Nat) : ed (p ++ xs) (p ++ ys) = ed xs ys := by
  induction p with
  | nil => rfl
  | cons c p ih => rw [List.cons_append, List.cons_append, ed_cons_same, ih]
theorem ed_snoc_same (c : Nat) : ∀ (xs ys : List Nat), ed (xs ++ [c]) (ys ++ [c]) = ed xs ys
  | [], [] => by rw [List.nil_append, ed_cons_same]
  | [], y :: ys => by
    rw [List.nil_append, List.cons_append, ed_cons, ed_nil, ed_nil, ed_nil]
    have ih := ed_snoc_same c [] ys
    rw [List.nil_append, ed_nil] at ih
    rw [ih]
    have := sub_le c y
    simp only [List.length_cons, List.length_append, List.length_nil]
    (exact om32)
  | x :: xs, [] => by
    rw [List.nil_append, List.cons_append, ed_cons, ed_nil_r, ed_nil_r, ed_nil_r]
    have ih := ed_snoc_same c xs []
    rw [List.nil_append, ed_nil_r] at ih
    rw [ih]
    have := sub_le x c
    simp only [List.length_cons, List.length_append, List.length_nil]
    (exact om33)
  | x :: xs, y :: ys => by
    have i1 := ed_snoc_same c xs (y :: ys)
    have i2 := ed_snoc_same c (x :: xs) ys
    have i3 := ed_snoc_same c xs ys
    rw [List.cons_append, List.cons_append, ed_cons, ed_cons]
    rw [List.cons_append] at i1 i2
    rw [i1, i2, i3]
termination_by xs ys => xs.length + ys.length
theorem ed_app_same_r (p : List Nat) : ∀ (xs ys : List Nat), ed (xs ++ p) (ys ++ p) = ed xs ys := by
  induction p with
  | nil => intro xs ys; simp
  | cons c p ih =>
    intro xs ys
    have e1 : xs ++ c :: p = (xs ++ [c]) ++ p := by simp
    have e2 : ys ++ c :: p = (ys ++ [c]) ++ p := by simp
    rw [e1, e2, ih, ed_snoc_same]
/-- the distance of two words -/
def dist (a b : List Nat) : Nat := ed a.reverse b.reverse
theorem dist_comm (a b : List Nat) : dist a b = dist b a := ed_comm _ _
theorem dist_self (a : List Nat) : dist a a = 0 := ed_self _
theorem dist_tri (a b c : List Nat) : dist a c ≤ dist a b + dist b c := ed_tri _ _ _
theorem dist_le (a b : List Nat) : dist a b ≤ 2 * (a.length + b.length) := by have := ed_le a.reverse b.reverse; simpa [dist] using this
theorem dist_nil (b : List Nat) : dist [] b = 2 * b.length := by simp [dist, ed_nil]
theorem dist_nil_r (b : List Nat) : dist b [] = 2 * b.length := by rw [dist_comm, dist_nil]
theorem dist_pre (p a b : List Nat) : dist (p ++ a) (p ++ b) = dist a b := by
  unfold dist; rw [List.reverse_append, List.reverse_append, ed_app_same_r]
theorem dist_post (p a b : List Nat) : dist (a ++ p) (b ++ p) = dist a b := by
  unfold dist; rw [List.reverse_append, List.reverse_append, ed_app_same]
theorem dist_snoc (a b : List Nat) (x y : Nat) : dist (a ++ [x]) (b ++ [y]) = min (dist a (b ++ [y]) + 2) (min (dist (a ++ [x]) b + 2) (dist a b + sub x y)) := by
  unfold dist; simp only [List.reverse_append, List.reverse_cons, List.reverse_nil, List.nil_append, List.cons_append]; rw [ed_cons]
/-- the choices of a word, from behind -/
def ch : List Nat → List (List Nat)
  | [] => [[]]
  | c :: r => ch r ++ (ch r).map (c :: ·)
def zs : List Nat → List Nat → Nat
  | x :: xs, y :: ys => sub x y + zs xs ys
  | _, _ => 0
theorem ch_len : ∀ (x s : List Nat), s ∈ ch x → s.length ≤ x.length
  | [], s, h => by simp [ch] at h; simp [h]
  | c :: r, s, h => by
    simp only [ch, List.mem_append, List.mem_map] at h
    rcases h with h | ⟨t, ht, rfl⟩
    · have := ch_len r s h; simp only [List.length_cons]; (exact om34 this)
    · have := ch_len r t ht; simp only [List.length_cons]; (exact om35 this)
theorem ch_lower : ∀ (x y s o : List Nat), s ∈ ch x → o ∈ ch y → s.length = o.length → ed x y + 4 * s.length ≤ zs s o + 2 * (x.length + y.length)
  | [], y, s, o, hs, ho, hl => by
    simp [ch] at hs; subst hs
    rw [ed_nil]; simp
  | c :: x, [], s, o, hs, ho, hl => by
    simp [ch] at ho; subst ho
    rw [ed_nil_r]
    simp only [List.length_nil] at hl
    simp only [List.length_cons, List.length_nil]; (exact om36 hl)
  | c :: x, e :: y, s, o, hs, ho, hl => by
    simp only [ch, List.mem_append, List.mem_map] at hs
    rcases hs with hs | ⟨s', hs', rfl⟩
    · have ih := ch_lower x (e :: y) s o hs ho hl
      have := ed_le_cons_l c x (e :: y)
      simp only [List.length_cons] at *; (exact om37 ih this)
    · have ho0 := ho
      simp only [ch, List.mem_append, List.mem_map] at ho
      rcases ho with ho | ⟨o', ho', rfl⟩
      · have ih := ch_lower (c :: x) y (c :: s') o (by simp only [ch, List.mem_append, List.mem_map]; exact .inr ⟨s', hs', rfl⟩) ho hl
        have := ed_le_cons_r e y (c :: x)
        simp only [List.length_cons] at *; (exact om38 ih this)
      · have ih := ch_lower x y s' o' hs' ho' (by simpa using hl)
        have := ed_le_both c e x y
        simp only [List.length_cons, zs] at *; (exact om39 ih this)
termination_by x y => x.length + y.length
theorem ch_nil : ∀ x : List Nat, [] ∈ ch x
  | [] => by simp [ch]
  | c :: r => by simp only [ch, List.mem_append]; exact .inl (ch_nil r)
theorem ch_upper : ∀ (x y : List Nat), ∃ s o, s ∈ ch x ∧ o ∈ ch y ∧ s.length = o.length ∧ zs s o + 2 * (x.length + y.length) = ed x y + 4 * s.length
  | [], y => ⟨[], [], ch_nil _, ch_nil _, rfl, by rw [ed_nil]; simp [zs]⟩
  | c :: x, [] => ⟨[], [], ch_nil _, ch_nil _, rfl, by rw [ed_nil_r]; simp [zs]⟩
  | c :: x, e :: y => by
    have e0 := ed_cons c e x y
    by_cases h1 : ed (c :: x) (e :: y) = ed x (e :: y) + 2
    · obtain ⟨s, o, hs, ho, hl, hz⟩ := ch_upper x (e :: y)
      refine ⟨s, o, by simp only [ch, List.mem_append]; exact .inl hs, ho, hl, ?_⟩
      simp only [List.length_cons] at *; (exact om40 hz h1)
    · by_cases h2 : ed (c :: x) (e :: y) = ed (c :: x) y + 2
      · obtain ⟨s, o, hs, ho, hl, hz⟩ := ch_upper (c :: x) y
        refine ⟨s, o, hs, by simp only [ch, List.mem_append]; exact .inl ho, hl, ?_⟩
        simp only [List.length_cons] at *; (exact om41 hz h2)
      · have h3 : ed (c :: x) (e :: y) = ed x y + sub c e := by (exact om42 h1 e0 h2)
        obtain ⟨s, o, hs, ho, hl, hz⟩ := ch_upper x y
        refine ⟨c :: s, e :: o, by simp only [ch, List.mem_append, List.mem_map]; exact .inr ⟨s, hs, rfl⟩, by simp only [ch, List.mem_append, List.mem_map]; exact .inr ⟨o, ho, rfl⟩, by simp [hl], ?_⟩
        simp only [List.length_cons, zs] at *; (exact om43 hz h3)
termination_by x y => x.length + y.length
end D54
end
section
namespace D54
/-- c is k or stands above k -/
inductive Anc (par : Nat → Nat) : Nat → Nat → Prop
  | refl (k : Nat) : Anc par k k
  | up {c k : Nat} : 0 < k → Anc par c (par k) → Anc par c k
theorem Anc.zero {par : Nat → Nat} {c : Nat} (h : Anc par c 0) : c = 0 := by
  cases h with
  | refl => rfl
  | up h _ => exact absurd h (Nat.lt_irrefl _)
theorem Anc.cases' {par : Nat → Nat} {c k : Nat} (h : Anc par c k) : c = k ∨ (0 < k ∧ Anc par c (par k)) := by
  cases h with
  | refl => exact .inl rfl
  | up h g => exact .inr ⟨h, g⟩
theorem Anc.le {par : Nat → Nat} {n c k : Nat} (hp : ∀ k, 0 < k → k < n → par k < k) (h : Anc par c k) : k < n → c ≤ k := by
  induction h with
  | refl => intro _; exact Nat.le_refl _
  | up h _ ih => intro hk; have := hp _ h hk; have := ih (by (exact om424 hk this)); (exact om425 (by assumption) this)
theorem Anc.step {par : Nat → Nat} {x t k : Nat} (g : Anc par x k) (h0 : 0 < x) (hx : par x = t) : Anc par t k := by
  induction g with
  | refl => exact .up h0 (hx ▸ .refl _)
  | up h1 _ ih => exact .up h1 ih
theorem Anc.root {par : Nat → Nat} {n : Nat} (hp : ∀ k, 0 < k → k < n → par k < k) : ∀ k, k < n → Anc par 0 k := by
  intro k
  induction k using Nat.strongRecOn with
  | _ k ih =>
    intro hk
    by_cases h0 : k = 0
    · subst h0; exact .refl _
    · exact .up (by (exact om370 h0)) (ih (par k) (hp k (by (exact om370 h0)) hk) (by have := hp k (by (exact om370 h0)) hk; (exact om424 hk this)))
theorem Anc.congr {par par' : Nat → Nat} {n c : Nat} (hp : ∀ k, 0 < k → k < n → par k < k) (he : ∀ k, k < n → par' k = par k) : ∀ k, k < n → (Anc par' c k ↔ Anc par c k) := by
  intro k
  induction k using Nat.strongRecOn with
  | _ k ih =>
    intro hk
    constructor
    · intro h
      rcases h.cases' with rfl | ⟨h0, g⟩
      · exact .refl _
      · rw [he k hk] at g
        have := hp k h0 hk
        exact .up h0 ((ih _ this (by (exact om424 hk this))).mp g)
    · intro h
      rcases h.cases' with rfl | ⟨h0, g⟩
      · exact .refl _
      · have := hp k h0 hk
        refine .up h0 ?_
        rw [he k hk]
        exact (ih _ this (by (exact om424 hk this))).mpr g
/-- the one child towards k -/
theorem Anc.child {par : Nat → Nat} {n t : Nat} (hp : ∀ k, 0 < k → k < n → par k < k) : ∀ k, k < n → Anc par t k → k ≠ t →
    ∃ c, 0 < c ∧ c < n ∧ par c = t ∧ Anc par c k ∧ ∀ c', 0 < c' → c' < n → par c' = t → Anc par c' k → c' = c := by
  intro k
  induction k using Nat.strongRecOn with
  | _ k ih =>
    intro hk h hne
    rcases h.cases' with e | ⟨h0, g⟩
    · exact absurd e.symm hne
    · have hlt := hp k h0 hk
      by_cases hpt : par k = t
      · refine ⟨k, h0, hk, hpt, .refl _, fun c' h0' hc' hp' ha => ?_⟩
        rcases ha.cases' with e | ⟨_, g'⟩
        · exact e
        · rw [hpt] at g'
          have := g'.le hp (by (exact om426 hk hlt hpt))
          have := hp c' h0' hc'
          (exact om427 (by assumption) hp' this)
      · obtain ⟨c, a1, a2, a3, a4, a5⟩ := ih (par k) hlt (by (exact om424 hk hlt)) g hpt
        refine ⟨c, a1, a2, a3, .up h0 a4, fun c' h0' hc' hp' ha => ?_⟩
        rcases ha.cases' with e | ⟨_, g'⟩
        · subst e; exact absurd hp' hpt
        · exact a5 c' h0' hc' hp' g'
/-- the children of i among 0 .. n - 1 -/
def kids (par : Nat → Nat) (n i : Nat) : List Nat := (List.range n).filter fun k => decide (0 < k ∧ par k = i)
theorem mem_kids {par : Nat → Nat} {n i c : Nat} : c ∈ kids par n i ↔ c < n ∧ 0 < c ∧ par c = i := by
  unfold kids; rw [List.mem_filter, List.mem_range]; simp
theorem kids_nodup (par : Nat → Nat) (n i : Nat) : (kids par n i).Nodup := List.Pairwise.filter _ List.nodup_range
structure TreeP (W : Nat → List Nat) (par : Nat → Nat) (C : List (List (Nat × Nat))) : Prop where
  lt : ∀ k, 0 < k → k < C.length → par k < k
  ent : ∀ i, i < C.length → C[i]? = some ((kids par C.length i).map fun k => (dist (W k) (W i), k))
  path : ∀ k, k < C.length → ∀ c, Anc par c k → 0 < c → dist (W k) (W (par c)) = dist (W c) (W (par c))
/-- the state of the while loop that puts word k in -/
def Ins (W : Nat → List Nat) (k knot : Nat) (C : List (List (Nat × Nat))) : Prop :=
  C.length = k + 1 ∧ ((knot < k ∧ ∃ par C₀, C = C₀ ++ [[]] ∧ TreeP W par C₀ ∧ ∀ c, Anc par c knot → 0 < c → dist (W k) (W (par c)) = dist (W c) (W (par c))) ∨ (knot = k ∧ ∃ par, TreeP W par C))
theorem treeP_nil (W : Nat → List Nat) (par : Nat → Nat) : TreeP W par [] := ⟨fun _ _ h => absurd h (Nat.not_lt_zero _), fun _ h => absurd h (Nat.not_lt_zero _), fun _ h => absurd h (Nat.not_lt_zero _)⟩
theorem ins_start {W : Nat → List Nat} {par : Nat → Nat} {C : List (List (Nat × Nat))} (T : TreeP W par C) : Ins W C.length 0 (C ++ [[]]) := by
  refine ⟨by simp, ?_⟩
  by_cases h : 0 < C.length
  · refine .inl ⟨h, par, C, rfl, T, fun c hc h0 => ?_⟩
    rw [hc.zero] at h0; exact absurd h0 (Nat.lt_irrefl _)
  · have hC : C = [] := List.length_eq_zero_iff.mp (by (exact om229 h))
    subst hC
    refine .inr ⟨rfl, par, ?_⟩
    refine ⟨fun k h0 hk => ?_, fun i hi => ?_, fun k hk c hc h0 => ?_⟩
    · simp at hk; (exact om428 h0 hk)
    · simp at hi; subst hi; simp [kids]
    · simp at hk; subst hk; rw [hc.zero] at h0; exact absurd h0 (Nat.lt_irrefl _)
theorem ins_down {W : Nat → List Nat} {k knot c : Nat} {C : List (List (Nat × Nat))} {E : List (Nat × Nat)} (I : Ins W k knot C) (hk : knot < k) (hE : C[knot]? = some E) (hc : (dist (W k) (W knot), c) ∈ E) :
    Ins W k c C ∧ knot < c ∧ c < k := by
  obtain ⟨hl, ⟨_, par, C₀, rfl, T, hp⟩ | ⟨e, _⟩⟩ := I
  · have hl0 : C₀.length = k := by simpa using hl
    rw [List.getElem?_append_left (by (exact om44 hk hl0)), T.ent knot (by (exact om44 hk hl0))] at hE
    cases hE
    obtain ⟨c', hc', e⟩ := List.mem_map.mp hc
    simp only [Prod.mk.injEq] at e
    obtain ⟨e1, rfl⟩ := e
    obtain ⟨a1, a2, a3⟩ := mem_kids.mp hc'
    have hlt := T.lt c' a2 a1
    refine ⟨⟨hl, .inl ⟨by (exact om201 hl0 a1), par, C₀, rfl, T, fun d hd h0 => ?_⟩⟩, by (exact om429 a3 hlt), by (exact om201 hl0 a1)⟩
    rcases hd.cases' with rfl | ⟨_, g⟩
    · rw [a3, e1]
    · rw [a3] at g; exact hp d g h0
  · (exact om430 hk e)
theorem ins_new {W : Nat → List Nat} {k knot : Nat} {C : List (List (Nat × Nat))} {E : List (Nat × Nat)} (I : Ins W k knot C) (hk : knot < k) (hE : C[knot]? = some E) :
    Ins W k k (C.set knot (E ++ [(dist (W k) (W knot), k)])) := by
  obtain ⟨hl, ⟨_, par, C₀, rfl, T, hp⟩ | ⟨e, _⟩⟩ := I
  · have hl0 : C₀.length = k := by simpa using hl
    rw [List.getElem?_append_left (by (exact om44 hk hl0)), T.ent knot (by (exact om44 hk hl0))] at hE
    cases hE
    refine ⟨by rw [List.length_set]; exact hl, .inr ⟨rfl, fun j => if j = k then knot else par j, ?_⟩⟩
    have hpar : ∀ j, j < k → (fun j => if j = k then knot else par j) j = par j := fun j hj => if_neg (by (exact om431 hj))
    have hlen : ((C₀ ++ [[]]).set knot ((kids par C₀.length knot).map (fun k => (dist (W k) (W knot), k)) ++ [(dist (W k) (W knot), k)])).length = k + 1 := by rw [List.length_set]; exact hl
    have T' : ∀ j, 0 < j → j < k → par j < j := fun j h0 hj => T.lt j h0 (by (exact om317 hl0 hj))
    have hkids : ∀ i, kids (fun j => if j = k then knot else par j) (k + 1) i = kids par k i ++ (if knot = i then [k] else []) := by
      intro i
      unfold kids
      rw [List.range_succ, List.filter_append]
      congr 1
      · refine List.filter_congr fun j hj => ?_
        have hj' := List.mem_range.mp hj
        simp only [if_neg (show ¬ j = k by (exact om431 hj'))]
      · by_cases hki : knot = i
        · rw [if_pos hki]; simp [hki]; (exact om432 hk)
        · rw [if_neg hki]; simp [hki]
    refine ⟨fun j h0 hj => ?_, fun i hi => ?_, fun j hj c hc h0 => ?_⟩
    · rw [hlen] at hj
      show (if j = k then knot else par j) < j
      by_cases e : j = k
      · rw [if_pos e]; (exact om44 hk e)
      · rw [if_neg e]; exact T' j h0 (by (exact om47 hj e))
    · rw [hlen] at hi ⊢
      rw [hkids i]
      by_cases hki : knot = i
      · subst hki
        rw [List.getElem?_set_self (by simp; (exact om433 hk hl0)), if_pos rfl, hl0, List.map_append]
        rfl
      · rw [List.getElem?_set_ne hki, if_neg hki, List.append_nil]
        by_cases hik : i = k
        · subst hik
          have e0 : kids par i i = [] := by
            unfold kids
            rw [List.filter_eq_nil_iff]
            intro j hj
            have hj' := List.mem_range.mp hj
            simp only [decide_eq_true_eq]
            rintro ⟨h0, e⟩
            have := T' j h0 hj'
            (exact om434 hj' e this)
          rw [e0, List.getElem?_append_right (by (exact om435 hl0))]
          simp [hl0]
        · rw [List.getElem?_append_left (by (exact om436 hl0 hi hik)), T.ent i (by (exact om436 hl0 hi hik)), hl0]
    · rw [hlen] at hj
      have cong := fun (c j : Nat) (hj : j < k) => Anc.congr (par := par) (par' := fun j => if j = k then knot else par j) (n := k) (c := c) T' hpar j hj
      have main : ∀ j, j < k → ∀ c, Anc (fun j => if j = k then knot else par j) c j → 0 < c → (∀ d, Anc par d j → 0 < d → dist (W k) (W (par d)) = dist (W d) (W (par d))) → True := fun _ _ _ _ _ _ => trivial
      by_cases e : j = k
      · subst e
        rcases hc.cases' with rfl | ⟨_, g⟩
        · rfl
        · simp only [if_true] at g
          have g' := (cong c knot hk).mp g
          have hck := g'.le T' hk
          show dist (W j) (W (if c = j then knot else par c)) = dist (W c) (W (if c = j then knot else par c))
          rw [if_neg (by (exact om437 hk hck))]
          exact hp c g' h0
      · have g' := (cong c j (by (exact om47 hj e))).mp hc
        have hck := g'.le T' (by (exact om47 hj e))
        show dist (W j) (W (if c = k then knot else par c)) = dist (W c) (W (if c = k then knot else par c))
        rw [if_neg (by (exact om438 hj e hck))]
        exact T.path j (by (exact om436 hl0 hj e)) c g' h0
  · (exact om439 hk e)
theorem ins_end {W : Nat → List Nat} {k knot : Nat} {C : List (List (Nat × Nat))} (I : Ins W k knot C) (hk : ¬ knot < k) : C.length = k + 1 ∧ ∃ par, TreeP W par C := by
  obtain ⟨hl, ⟨h, _⟩ | ⟨_, g⟩⟩ := I
  · exact absurd h hk
  · exact ⟨hl, g⟩
theorem ins_le {W : Nat → List Nat} {k knot : Nat} {C : List (List (Nat × Nat))} (I : Ins W k knot C) : knot ≤ k := by
  obtain ⟨hl, ⟨h, _⟩ | ⟨h, _⟩⟩ := I <;> (first | exact om410 h | exact om435 h)
open Classical in
/-- how many of todo stand at or above k -/
noncomputable def cnt (par : Nat → Nat) (todo : List Nat) (k : Nat) : Nat := todo.countP fun t => decide (Anc par t k)
theorem cnt_append (par : Nat → Nat) (a b : List Nat) (k : Nat) : cnt par (a ++ b) k = cnt par a k + cnt par b k := by unfold cnt; rw [List.countP_append]
theorem cnt_nil (par : Nat → Nat) (k : Nat) : cnt par [] k = 0 := rfl
theorem countP_one {l : List Nat} {p : Nat → Bool} {c : Nat} (hn : l.Nodup) (hc : c ∈ l) (hp : p c = true) (hu : ∀ x ∈ l, p x = true → x = c) : l.countP p = 1 := by
  induction l with
  | nil => cases hc
  | cons y l ih =>
    rw [List.nodup_cons] at hn
    rcases List.mem_cons.mp hc with rfl | hc'
    · rw [List.countP_cons_of_pos hp]
      have : l.countP p = 0 := List.countP_eq_zero.mpr fun x hx hpx => by
        have := hu x (List.mem_cons_of_mem _ hx) hpx
        subst this; exact hn.1 hx
      (exact om440 this)
    · rw [List.countP_cons_of_neg, ih hn.2 hc' fun x hx => hu x (List.mem_cons_of_mem _ hx)]
      intro hpy
      have := hu y (List.mem_cons_self ..) hpy
      subst this; exact hn.1 hc'
structure Srch (W : Nat → List Nat) (w : List Nat) (r : Nat) (par : Nat → Nat) (n : Nat) (todo F : List Nat) : Prop where
  lt : ∀ t ∈ todo, t < n
  ok : ∀ k ∈ F, k < n ∧ dist w (W k) ≤ r
  one : ∀ k, k < n → dist w (W k) ≤ r → F.count k + cnt par todo k = 1
noncomputable def meas (par : Nat → Nat) (n : Nat) (todo : List Nat) : Nat := ((List.range n).map (cnt par todo)).sum
theorem srch_start {W : Nat → List Nat} {w : List Nat} {r : Nat} {par : Nat → Nat} {C : List (List (Nat × Nat))} (T : TreeP W par C) (h0 : 0 < C.length) : Srch W w r par C.length [0] [] := by
  refine ⟨fun t ht => by simp at ht; (exact om441 h0 ht), (fun k hk => absurd hk (by simp)), fun k hk _ => ?_⟩
  have : Anc par 0 k := Anc.root T.lt k hk
  simp [cnt, this]
/-- the numbers that a knot hands on -/
def next (E : List (Nat × Nat)) (dt r : Nat) : List Nat := (E.filter fun e => decide (((e.1 : Int) - (dt : Int)).natAbs ≤ r)).map (·.2)
theorem next_sub {par : Nat → Nat} {n t dt r : Nat} {f : Nat → Nat} : next ((kids par n t).map fun k => (f k, k)) dt r = (kids par n t).filter fun k => decide (((f k : Int) - (dt : Int)).natAbs ≤ r) := by
  unfold next
  induction kids par n t with
  | nil => rfl
  | cons x l ih =>
    simp only [List.map_cons, List.filter_cons]
    split
    · simp only [List.map_cons, ih]
    · exact ih
theorem cnt_kids_le {par : Nat → Nat} {n t k : Nat} {q : Nat → Bool} (hp : ∀ k, 0 < k → k < n → par k < k) (hk : k < n) (ht : t < n) :
    cnt par ((kids par n t).filter q) k + (if k = t then 1 else 0) ≤ cnt par [t] k := by
  classical
  have e1 : cnt par [t] k = if Anc par t k then 1 else 0 := by
    by_cases h : Anc par t k <;> simp [cnt, h]
  rw [e1]
  by_cases hkt : k = t
  · subst hkt
    have : cnt par ((kids par n k).filter q) k = 0 := by
      refine List.countP_eq_zero.mpr fun x hx hpx => ?_
      have hx' := mem_kids.mp (List.mem_filter.mp hx).1
      have := (of_decide_eq_true hpx : Anc par x k).le hp hk
      have := hp x hx'.2.1 hx'.1
      (exact om442 (by assumption) this hx')
    rw [this, if_pos rfl, if_pos (Anc.refl k)]; exact Nat.le_refl _
  · rw [if_neg hkt]
    by_cases ha : Anc par t k
    · rw [if_pos ha]
      obtain ⟨c, a1, a2, a3, a4, a5⟩ := Anc.child hp k hk ha hkt
      have : (kids par n t).countP (fun x => decide (Anc par x k)) = 1 := countP_one (kids_nodup ..) (mem_kids.mpr ⟨a2, a1, a3⟩) (decide_eq_true a4) fun x hx hpx => by
        have hx' := mem_kids.mp hx
        exact a5 x hx'.2.1 hx'.1 hx'.2.2 (of_decide_eq_true hpx)
      have le : cnt par ((kids par n t).filter q) k ≤ (kids par n t).countP (fun x => decide (Anc par x k)) := by
        unfold cnt
        exact List.Sublist.countP_le List.filter_sublist
      (exact om443 le this)
    · rw [if_neg ha]
      have : cnt par ((kids par n t).filter q) k = 0 := by
        refine List.countP_eq_zero.mpr fun x hx hpx => ?_
        have hx' := mem_kids.mp (List.mem_filter.mp hx).1
        apply ha
        have g : Anc par x k := of_decide_eq_true hpx
        exact g.step hx'.2.1 hx'.2.2
      (exact om444 this)
theorem srch_step {W : Nat → List Nat} {w : List Nat} {r t : Nat} {par : Nat → Nat} {C : List (List (Nat × Nat))} {rest F : List Nat} {E : List (Nat × Nat)} (T : TreeP W par C)
    (S : Srch W w r par C.length (rest ++ [t]) F) (hE : C[t]? = some E) :
    Srch W w r par C.length (rest ++ next E (dist w (W t)) r) (if dist w (W t) ≤ r then F ++ [t] else F) ∧ meas par C.length (rest ++ next E (dist w (W t)) r) < meas par C.length (rest ++ [t]) := by
  have ht : t < C.length := S.lt t (by simp)
  rw [T.ent t ht] at hE
  cases hE
  rw [next_sub]
  have le := fun k (hk : k < C.length) => cnt_kids_le (k := k) (t := t) (q := fun k => decide (((dist (W k) (W t) : Int) - (dist w (W t) : Int)).natAbs ≤ r)) T.lt hk ht
  refine ⟨⟨fun x hx => ?_, fun k hk => ?_, fun k hk hd => ?_⟩, ?_⟩
  · rcases List.mem_append.mp hx with h | h
    · exact S.lt x (by simp [h])
    · exact (mem_kids.mp (List.mem_filter.mp h).1).1
  · by_cases hr : dist w (W t) ≤ r
    · rw [if_pos hr] at hk
      rcases List.mem_append.mp hk with h | h
      · exact S.ok k h
      · simp at h; subst h; exact ⟨ht, hr⟩
    · rw [if_neg hr] at hk; exact S.ok k hk
  · have one := S.one k hk hd
    rw [cnt_append] at one ⊢
    have l := le k hk
    by_cases hkt : k = t
    · subst hkt
      rw [if_pos hd, List.count_append]
      rw [if_pos rfl] at l
      have e : cnt par [k] k = 1 := by
        have : Anc par k k := .refl _
        simp [cnt, this]
      rw [e] at l one
      simp only [List.count_singleton_self]
      (exact om445 one l)
    · have hc : (if dist w (W t) ≤ r then F ++ [t] else F).count k = F.count k := by
        by_cases hr : dist w (W t) ≤ r
        · rw [if_pos hr, List.count_append, List.count_singleton]
          simp [Ne.symm hkt]
        · rw [if_neg hr]
      rw [hc]
      rw [if_neg hkt] at l
      by_cases ha : Anc par t k
      · obtain ⟨c, a1, a2, a3, a4, a5⟩ := Anc.child T.lt k hk ha hkt
        have e1 : cnt par [t] k = 1 := by simp [cnt, ha]
        have hq : decide (((dist (W c) (W t) : Int) - (dist w (W t) : Int)).natAbs ≤ r) = true := by
          have hpath := T.path k hk c a4 a1
          rw [a3] at hpath
          have t1 := dist_tri (W k) w (W t)
          have t2 := dist_tri w (W k) (W t)
          rw [dist_comm (W k) w] at t1
          rw [← hpath]
          exact decide_eq_true (by (exact om446 t1 t2 hd))
        have e2 : 0 < cnt par ((kids par C.length t).filter fun k => decide (((dist (W k) (W t) : Int) - (dist w (W t) : Int)).natAbs ≤ r)) k := by
          classical
          unfold cnt
          rw [List.countP_pos_iff]
          exact ⟨c, List.mem_filter.mpr ⟨mem_kids.mpr ⟨a2, a1, a3⟩, hq⟩, decide_eq_true a4⟩
        (exact om447 e2 one l)
      · have e1 : cnt par [t] k = 0 := by simp [cnt, ha]
        (exact om448 one l e1)
  · unfold meas
    have gen : ∀ (l : List Nat) (f g : Nat → Nat), (∀ k ∈ l, f k ≤ g k) → (∃ k ∈ l, f k < g k) → (l.map f).sum < (l.map g).sum := by
      intro l f g
      induction l with
      | nil => intro _ ⟨k, hk, _⟩; cases hk
      | cons x l ih =>
        intro h1 ⟨k, hk, h2⟩
        have le2 : (l.map f).sum ≤ (l.map g).sum := by
          clear ih h2 hk
          induction l with
          | nil => exact Nat.le_refl _
          | cons y l ih2 =>
            simp only [List.map_cons, List.sum_cons]
            have := h1 y (by simp)
            have := ih2 fun k hk => h1 k (by simp only [List.mem_cons] at hk ⊢; rcases hk with h | h <;> simp [h])
            (exact om449 (by assumption) this)
        simp only [List.map_cons, List.sum_cons]
        have hx := h1 x (by simp)
        rcases List.mem_cons.mp hk with rfl | hk'
        · (exact om450 h2 le2)
        · have := ih (fun k hk => h1 k (List.mem_cons_of_mem _ hk)) ⟨k, hk', h2⟩
          (exact om451 hx this)
    refine gen _ _ _ (fun k hk => ?_) ⟨t, List.mem_range.mpr ht, ?_⟩
    · rw [cnt_append, cnt_append]
      have := le k (List.mem_range.mp hk)
      (exact om452 this)
    · rw [cnt_append, cnt_append]
      have := le t ht
      rw [if_pos rfl] at this
      (exact om453 this)
theorem srch_end {W : Nat → List Nat} {w : List Nat} {r n : Nat} {par : Nat → Nat} {F : List Nat} (S : Srch W w r par n [] F) :
    F.Perm ((List.range n).filter fun k => decide (dist w (W k) ≤ r)) := by
  rw [List.perm_iff_count]
  intro k
  by_cases h : k < n ∧ dist w (W k) ≤ r
  · have one := S.one k h.1 h.2
    rw [cnt_nil] at one
    rw [List.count_filter (by exact decide_eq_true h.2)]
    rw [List.count_range]
    rw [if_pos h.1]; (exact om454 one)
  · rw [List.count_eq_zero.mpr fun hk => h (S.ok k hk), List.count_eq_zero.mpr]
    intro hk
    have := List.mem_filter.mp hk
    exact h ⟨List.mem_range.mp this.1, of_decide_eq_true this.2⟩
end D54
end
section
open PySem PySem.W PyProof.Rows
namespace D54
/-- the tree's questions, answered by the keys, lie below n, and its end is P -/
def KOk {α : Type} (n : Nat) (key : Nat → Nat) : KasT α → (α → Prop) → Prop
  | .ret a, P => P a
  | .ask i j k, P => i < n ∧ j < n ∧ KOk n key (k (decide (key i < key j))) P
theorem KOk.bind {α β : Type} {n : Nat} {key : Nat → Nat} {f : α → KasT β} {P : β → Prop} : ∀ {t : KasT α}, KOk n key t (fun a => KOk n key (f a) P) → KOk n key (t.bind f) P
  | .ret _, h => h
  | .ask _ _ _, h => ⟨h.1, h.2.1, KOk.bind h.2.2⟩
theorem KOk.mono {α : Type} {n : Nat} {key : Nat → Nat} {P P' : α → Prop} (hp : ∀ a, P a → P' a) : ∀ {t : KasT α}, KOk n key t P → KOk n key t P'
  | .ret a, h => hp a h
  | .ask _ _ _, h => ⟨h.1, h.2.1, KOk.mono hp h.2.2⟩
theorem KOk.wp {α : Type} {n : Nat} {key : Nat → Nat} {cmp : Nat → Nat → (Bool → Shared → Prop) → Shared → Prop} {I : Shared → Prop} {P : α → Prop} {Q : α → Shared → Prop}
    (hc : ∀ i j C s, i < n → j < n → I s → (∀ s', I s' → C (decide (key i < key j)) s') → cmp i j C s) (hq : ∀ a s, P a → I s → Q a s) :
    ∀ {t : KasT α} {s : Shared}, KOk n key t P → I s → t.kasWp cmp Q s
  | .ret a, s, h, hi => hq a s h hi
  | .ask i j k, s, h, hi => hc i j _ s h.1 h.2.1 hi fun _ hi' => KOk.wp hc hq h.2.2 hi'
def kat (key : Nat → Nat) (p : Array Nat) (i : Nat) : Nat := key (p.getD i 0)
def PermN (n : Nat) (p : Array Nat) : Prop := p.toList.Perm (List.range n)
theorem PermN.size {n : Nat} {p : Array Nat} (h : PermN n p) : p.size = n := by have := h.length_eq; simpa using this
theorem PermN.lt {n : Nat} {p : Array Nat} (h : PermN n p) {i : Nat} (hi : i < n) : p.getD i 0 < n := by
  have hs := h.size
  have hi' : i < p.size := by (exact om44 hi hs)
  have e : p.getD i 0 = p[i] := by simp [Array.getD, hi']
  rw [e]
  have : p[i] ∈ p.toList := by simp
  exact List.mem_range.mp (h.mem_iff.mp this)
theorem PermN.rev {n : Nat} {p : Array Nat} (h : PermN n p) (i j : Nat) : PermN n (kas_rev p i j) := (Array.perm_iff_toList_perm.mp (mirror_perm p i j _)).trans h
theorem PermN.bubble {n : Nat} {p : Array Nat} (h : PermN n p) (i j : Nat) : PermN n (bubble p i j) := (Array.perm_iff_toList_perm.mp (bubble_perm p i j)).trans h
theorem kat_congr {key : Nat → Nat} {p q : Array Nat} {i j : Nat} (h : p[i]? = q[j]?) : kat key p i = kat key q j := by
  unfold kat
  rw [Array.getD_eq_getD_getElem?, Array.getD_eq_getD_getElem?, h]
theorem kat_rev {key : Nat → Nat} {p : Array Nat} {i j : Nat} (hj : j ≤ p.size) (k : Nat) : kat key (kas_rev p i j) k = if i ≤ k ∧ k < j then kat key p (i + j - 1 - k) else kat key p k := by
  have e := getElem?_mirror_all (i := i) hj k
  by_cases h1 : i ≤ k ∧ k < j
  · rw [if_pos h1] at e ⊢; exact kat_congr e
  · rw [if_neg h1] at e ⊢; exact kat_congr e
theorem kat_bubble {key : Nat → Nat} {p : Array Nat} {src d : Nat} (hs : src < p.size) (hd : d ≤ src) (k : Nat) :
    kat key (bubble p src d) k = if k = src - d then kat key p src else if src - d < k ∧ k ≤ src then kat key p (k - 1) else kat key p k := by
  have e := getElem?_bubble hs d hd k
  by_cases h1 : k = src - d
  · rw [if_pos h1] at e ⊢; exact kat_congr e
  · rw [if_neg h1] at e ⊢
    by_cases h2 : src - d < k ∧ k ≤ src
    · rw [if_pos h2] at e ⊢; exact kat_congr e
    · rw [if_neg h2] at e ⊢; exact kat_congr e
def Up (key : Nat → Nat) (p : Array Nat) (m : Nat) : Prop := ∀ i j, i ≤ j → j < m → kat key p i ≤ kat key p j
def Dn (key : Nat → Nat) (p : Array Nat) (m : Nat) : Prop := ∀ i j, i ≤ j → j < m → kat key p j ≤ kat key p i
theorem Up.snoc {key : Nat → Nat} {p : Array Nat} {m : Nat} (h : Up key p m) (h1 : 1 ≤ m) (hl : kat key p (m - 1) ≤ kat key p m) : Up key p (m + 1) := by
  intro i j hij hj
  by_cases e : j = m
  · subst e
    by_cases e2 : i = j
    · subst e2; exact Nat.le_refl _
    · exact Nat.le_trans (h i (j - 1) (by (exact om45 hij e2)) (by (exact om46 h1))) hl
  · exact h i j hij (by (exact om47 hj e))
theorem Dn.snoc {key : Nat → Nat} {p : Array Nat} {m : Nat} (h : Dn key p m) (h1 : 1 ≤ m) (hl : kat key p m ≤ kat key p (m - 1)) : Dn key p (m + 1) := by
  intro i j hij hj
  by_cases e : j = m
  · subst e
    by_cases e2 : i = j
    · subst e2; exact Nat.le_refl _
    · exact Nat.le_trans hl (h i (j - 1) (by (exact om45 hij e2)) (by (exact om46 h1)))
  · exact h i j hij (by (exact om47 hj e))
theorem Up.one (key : Nat → Nat) (p : Array Nat) : Up key p 1 := fun i j hij hj => by
  have : i = j := by (exact om48 hij hj)
  subst this; exact Nat.le_refl _
theorem Dn.one (key : Nat → Nat) (p : Array Nat) : Dn key p 1 := fun i j hij hj => by
  have : i = j := by (exact om48 hij hj)
  subst this; exact Nat.le_refl _
theorem Dn.rev {key : Nat → Nat} {p : Array Nat} {m : Nat} (h : Dn key p m) (hm : m ≤ p.size) : Up key (kas_rev p 0 m) m := by
  intro i j hij hj
  rw [kat_rev hm, kat_rev hm, if_pos (by (exact om49 hij hj)), if_pos (by (exact om50 hj))]
  exact h _ _ (by (exact om51 hij)) (by (exact om52 hj))
variable {n : Nat} {key : Nat → Nat}
theorem asc_ok {p : Array Nat} (hp : PermN n p) : ∀ (f m : Nat), 1 ≤ m → m + f ≤ n → Up key p m →
    KOk n key (kas_asc p f m) fun r => m ≤ r ∧ r ≤ m + f ∧ Up key p r ∧ (r < m + f → kat key p r < kat key p (r - 1))
  | 0, m, h1, hf, hu => ⟨Nat.le_refl _, Nat.le_refl _, hu, fun h => absurd h (by (exact om53))⟩
  | f + 1, m, h1, hf, hu => by
    refine ⟨hp.lt (by (exact om54 hf)), hp.lt (by (exact om55 hf)), ?_⟩
    by_cases hlt : key (p.getD m 0) < key (p.getD (m - 1) 0)
    · rw [decide_eq_true hlt]
      exact ⟨Nat.le_refl _, by (exact om56), hu, fun _ => hlt⟩
    · rw [decide_eq_false hlt]
      refine (asc_ok hp f (m + 1) (by (exact om57)) (by (exact om58 hf)) (hu.snoc h1 (Nat.le_of_not_lt hlt))).mono fun r ⟨a1, a2, a3, a4⟩ => ⟨by (exact om59 (by assumption)), by (exact om60 (by assumption)), a3, fun h => a4 (by (exact om61 h))⟩
theorem last_eq (key : Nat → Nat) (p : Array Nat) (m : Nat) : ∀ k, m + 1 - (0 + 1) ≤ k → k < m + 1 → kat key p k = kat key p (m + 1 - 1) := fun k h1 h2 => by
  have : k = m := by (exact om62 h1 h2)
  subst this; rfl
theorem desc_ok : ∀ (f : Nat) (p : Array Nat) (m q : Nat), PermN n p → 1 ≤ m → m + f ≤ n → q + 1 ≤ m → Dn key p m → (∀ k, m - (q + 1) ≤ k → k < m → kat key p k = kat key p (m - 1)) →
    KOk n key (kas_desc f p m q) fun r => PermN n r.1 ∧ m ≤ r.2.1 ∧ r.2.1 ≤ m + f ∧ r.2.2 + 1 ≤ r.2.1 ∧ Dn key r.1 r.2.1 ∧ (∀ k, r.2.1 - (r.2.2 + 1) ≤ k → k < r.2.1 → kat key r.1 k = kat key r.1 (r.2.1 - 1))
  | 0, p, m, q, hp, h1, hf, hq, hd, he => ⟨hp, Nat.le_refl _, Nat.le_refl _, hq, hd, he⟩
  | f + 1, p, m, q, hp, h1, hf, hq, hd, he => by
    refine ⟨hp.lt (by (exact om54 hf)), hp.lt (by (exact om55 hf)), ?_⟩
    by_cases hlt : key (p.getD m 0) < key (p.getD (m - 1) 0)
    · rw [decide_eq_true hlt]
      show KOk n key (if q > 0 then kas_desc f (kas_rev p (m - (q + 1)) m) (m + 1) 0 else kas_desc f p (m + 1) 0) _
      by_cases hq0 : q > 0
      · rw [if_pos hq0]
        have hs := hp.size
        have same : ∀ k, kat key (kas_rev p (m - (q + 1)) m) k = kat key p k := by
          intro k
          rw [kat_rev (by (exact om63 hs hf))]
          split
          · rw [he _ (by (exact om64 (by assumption))) (by (exact om65 (by assumption))), he k (by (exact om66 (by assumption))) (by (exact om67 (by assumption)))]
          · rfl
        have hd' : Dn key (kas_rev p (m - (q + 1)) m) (m + 1) := by
          have := hd.snoc h1 (Nat.le_of_lt hlt)
          intro i j hij hj
          rw [same, same]; exact this i j hij hj
        refine (desc_ok f _ (m + 1) 0 (hp.rev _ _) (by (exact om57)) (by (exact om58 hf)) (by (exact om68)) hd' (last_eq _ _ _)).mono fun r ⟨a1, a2, a3, a4⟩ => ⟨a1, by (exact om69 (by assumption)), by (exact om70 (by assumption)), a4⟩
      · rw [if_neg hq0]
        refine (desc_ok f _ (m + 1) 0 hp (by (exact om57)) (by (exact om58 hf)) (by (exact om68)) (hd.snoc h1 (Nat.le_of_lt hlt)) (last_eq _ _ _)).mono fun r ⟨a1, a2, a3, a4⟩ => ⟨a1, by (exact om69 (by assumption)), by (exact om70 (by assumption)), a4⟩
    · rw [decide_eq_false hlt]
      refine ⟨hp.lt (by (exact om55 hf)), hp.lt (by (exact om54 hf)), ?_⟩
      by_cases hgt : key (p.getD (m - 1) 0) < key (p.getD m 0)
      · rw [decide_eq_true hgt]
        exact ⟨hp, Nat.le_refl _, Nat.le_add_right _ _, hq, hd, he⟩
      · rw [decide_eq_false hgt]
        have heq : kat key p m = kat key p (m - 1) := by
          have h1 := Nat.le_of_not_lt hlt
          have h2 := Nat.le_of_not_lt hgt
          exact Nat.le_antisymm h2 h1
        refine (desc_ok f p (m + 1) (q + 1) hp (by (exact om57)) (by (exact om58 hf)) (by (exact om71 hq)) (hd.snoc h1 (Nat.le_of_eq heq)) fun k h1 h2 => ?_).mono fun r ⟨a1, a2, a3, a4⟩ => ⟨a1, by (exact om69 (by assumption)), by (exact om70 (by assumption)), a4⟩
        show kat key p k = kat key p m
        by_cases e : k = m
        · rw [e]
        · rw [heq]; exact he k (by (exact om72 h1)) (by (exact om47 h2 e))
theorem tail3_ok {p : Array Nat} {m nrem : Nat} (hp : PermN n p) (h1 : 1 ≤ m) (hm : m ≤ nrem) (hn : nrem ≤ n) (hd : Dn key p m) :
    KOk n key (kas_tail3 m nrem p) fun r => PermN n r.2 ∧ 1 ≤ r.1 ∧ r.1 ≤ nrem ∧ Up key r.2 r.1 := by
  unfold kas_tail3
  refine KOk.bind ((asc_ok (hp.rev 0 m) (nrem - m) m h1 (by (exact om73 hm hn)) (hd.rev (by rw [hp.size]; (exact om74 hm hn)))).mono fun r ⟨a1, a2, a3, _⟩ => ?_)
  exact ⟨hp.rev 0 m, by omega, by omega, a3⟩
theorem descPart_ok {p : Array Nat} {m nrem : Nat} (hp : PermN n p) (h1 : 1 ≤ m) (hm : m + 1 ≤ nrem) (hn : nrem ≤ n) (hd : Dn key p m) (hl : kat key p m ≤ kat key p (m - 1)) :
    KOk n key (kas_descPart m nrem p) fun r => PermN n r.2 ∧ 1 ≤ r.1 ∧ r.1 ≤ nrem ∧ Up key r.2 r.1 := by
  unfold kas_descPart
  refine KOk.bind ((desc_ok (nrem - (m + 1)) p (m + 1) 0 hp (by (exact om57)) (by (exact om75 hm hn)) (by (exact om68)) (hd.snoc h1 hl) (last_eq _ _ _)).mono fun r ⟨a1, a2, a3, a4, a5, a6⟩ => ?_)
  by_cases hq : r.2.2 > 0
  · rw [if_pos hq]
    refine tail3_ok (a1.rev _ _) (by (exact om76 (by assumption))) (by (exact om77 hm (by assumption))) hn ?_
    have hs := a1.size
    intro i j hij hj
    have same : ∀ k, kat key (kas_rev r.1 (r.2.1 - (r.2.2 + 1)) r.2.1) k = kat key r.1 k := by
      intro k
      rw [kat_rev (by (exact om78 hs hn hm (by assumption)))]
      split
      · rw [a6 _ (by (exact om64 (by assumption))) (by (exact om65 (by assumption))), a6 k (by (exact om66 (by assumption))) (by (exact om67 (by assumption)))]
      · rfl
    rw [same, same]; exact a5 i j hij hj
  · rw [if_neg hq]
    exact tail3_ok a1 (by (exact om76 (by assumption))) (by (exact om77 hm (by assumption))) hn a5
theorem count_ok {p : Array Nat} (hp : PermN n p) (h1 : 1 ≤ n) : KOk n key (kas_count n p) fun r => PermN n r.2 ∧ 1 ≤ r.1 ∧ r.1 ≤ n ∧ Up key r.2 r.1 := by
  unfold kas_count
  refine KOk.bind ((asc_ok hp (n - 1) 1 (Nat.le_refl _) (by (exact om79 h1)) (Up.one key p)).mono fun r ⟨a1, a2, a3, a4⟩ => ?_)
  by_cases e1 : (r == n) = true
  · rw [if_pos e1]; exact ⟨hp, a1, by omega, a3⟩
  · rw [if_neg e1]
    have hne : r ≠ n := fun e => e1 (by rw [e]; exact beq_self_eq_true _)
    have hlt := a4 (by (exact om80 hne h1 (by assumption)))
    by_cases e2 : r > 1
    · rw [if_pos e2]
      refine ⟨hp.lt (by (exact om81 h1)), hp.lt (by (exact om82 e2 (by assumption))), ?_⟩
      by_cases h : key (p.getD 0 0) < key (p.getD (r - 1) 0)
      · rw [decide_eq_true h]; exact ⟨hp, a1, by omega, a3⟩
      · rw [decide_eq_false h]
        have hs := hp.size
        have all : ∀ k, k < r → kat key p k = kat key p 0 := by
          intro k hk
          have b1 := a3 0 k (by (exact om83)) hk
          have b2 := a3 k (r - 1) (by (exact om84 hk)) (by (exact om85 e2))
          have b3 : kat key p (r - 1) ≤ kat key p 0 := Nat.le_of_not_lt h
          (exact om86 b1 b2 b3)
        have same : ∀ k, k < r → kat key (kas_rev p 0 r) k = kat key p 0 := by
          intro k hk
          rw [kat_rev (by (exact om87 hs h1 (by assumption))), if_pos (by (exact om50 hk))]
          exact all _ (by (exact om88 hk))
        refine descPart_ok (hp.rev 0 r) a1 (by (exact om89 hne h1 (by assumption))) (Nat.le_refl _) ?_ ?_
        · intro i j hij hj
          rw [same i (by (exact om90 hij hj)), same j hj]; exact Nat.le_refl _
        · rw [same (r - 1) (by (exact om85 e2)), kat_rev (by (exact om87 hs h1 (by assumption))), if_neg (by (exact om91))]
          rw [all (r - 1) (by (exact om85 e2))] at hlt
          exact Nat.le_of_lt hlt
    · rw [if_neg e2]
      have hr : r = 1 := by (exact om92 e2 (by assumption))
      subst hr
      exact descPart_ok hp (Nat.le_refl _) (by (exact om93 h1 hne)) (Nat.le_refl _) (Dn.one key p) (Nat.le_of_lt hlt)
theorem place_ok {p : Array Nat} {k : Nat} (hp : PermN n p) (hk : k < n) (hu : Up key p k) : ∀ (f l r : Nat), l ≤ r → r ≤ k → r - l ≤ f → (∀ i, i < l → kat key p i ≤ kat key p k) → (∀ i, r ≤ i → i < k → kat key p k ≤ kat key p i) →
    KOk n key (kas_place p k f l r) fun x => x ≤ k ∧ (∀ i, i < x → kat key p i ≤ kat key p k) ∧ (∀ i, x ≤ i → i < k → kat key p k ≤ kat key p i)
  | 0, l, r, h1, h2, h3, hl, hr => ⟨by (exact om74 h1 h2), hl, fun i hi hik => hr i (by (exact om94 h3 hi)) hik⟩
  | f + 1, l, r, h1, h2, h3, hl, hr => by
    unfold kas_place
    by_cases e : l ≥ r
    · rw [if_pos e]; exact ⟨by (exact om74 h1 h2), hl, fun i hi hik => hr i (by (exact om95 e hi)) hik⟩
    · rw [if_neg e]
      refine ⟨hp.lt hk, hp.lt (by (exact om96 e hk h2)), ?_⟩
      by_cases h : key (p.getD k 0) < key (p.getD ((l + r) / 2) 0)
      · rw [decide_eq_true h]
        refine place_ok hp hk hu f l ((l + r) / 2) (by (exact om97 e)) (by (exact om98 h2 e)) (by (exact om99 h3)) hl fun i hi hik => ?_
        exact Nat.le_trans (Nat.le_of_lt h) (hu _ i hi hik)
      · rw [decide_eq_false h]
        refine place_ok hp hk hu f ((l + r) / 2 + 1) r (by (exact om100 e)) h2 (by (exact om101 h3)) (fun i hi => ?_) hr
        exact Nat.le_trans (hu i ((l + r) / 2) (by (exact om102 hi)) (by (exact om103 h2 e))) (Nat.le_of_not_lt h)
theorem bin_ok : ∀ (f : Nat) (p : Array Nat) (k : Nat), PermN n p → 1 ≤ k → k + f = n → Up key p k → KOk n key (kas_bin f p k) fun r => PermN n r ∧ Up key r n
  | 0, p, k, hp, h1, hf, hu => by
    have : k = n := by (exact om104 hf)
    subst this; exact ⟨hp, hu⟩
  | f + 1, p, k, hp, h1, hf, hu => by
    have hs := hp.size
    refine KOk.bind ((place_ok hp (by (exact om105 hf)) hu k 0 k (Nat.zero_le _) (Nat.le_refl _) (by (exact om106)) (fun i hi => absurd hi (Nat.not_lt_zero _)) (fun i hi hik => absurd hik (by (exact om107 hi)))).mono fun x ⟨b1, b2, b3⟩ => ?_)
    refine bin_ok f _ (k + 1) (hp.bubble _ _) (by (exact om57)) (by (exact om108 hf)) ?_
    intro i j hij hj
    rw [kat_bubble (by (exact om109 hs hf)) (by (exact om110)), kat_bubble (by (exact om109 hs hf)) (by (exact om110))]
    have e : k - (k - x) = x := by (exact om111 (by assumption))
    rw [e]
    by_cases hi : i = x
    · rw [if_pos hi]
      by_cases hj' : j = x
      · rw [if_pos hj']; exact Nat.le_refl _
      · rw [if_neg hj', if_pos (by (exact om112 hj hj' hij hi))]
        exact b3 (j - 1) (by (exact om113 hj' hij hi)) (by (exact om114 hj h1))
    · rw [if_neg hi]
      by_cases hi2 : x < i ∧ i ≤ k
      · rw [if_pos hi2, if_neg (by (exact om115 hij hi2)), if_pos (by (exact om116 hj hi2 hij))]
        exact hu _ _ (by (exact om117 hij)) (by (exact om118 hj hi2))
      · rw [if_neg hi2]
        by_cases hj' : j = x
        · rw [if_pos hj']; exact b2 i (by (exact om119 hi hij hj'))
        · rw [if_neg hj']
          by_cases hj2 : x < j ∧ j ≤ k
          · rw [if_pos hj2]; exact hu _ _ (by (exact om120 hij hi2 hj2)) (by (exact om121 hj2))
          · rw [if_neg hj2]; exact hu _ _ hij (by (exact om122 hj hj2 e hj'))
theorem sort_ok (h1 : 1 ≤ n) : KOk n key (kas_sort n) fun p => PermN n p ∧ Up key p n := by
  unfold kas_sort
  refine KOk.bind ((count_ok (p := List.toArray (List.range n)) (by simp [PermN]) h1).mono fun r ⟨a1, a2, a3, a4⟩ => ?_)
  by_cases h : r.1 < n
  · rw [if_pos h]
    have e : max r.1 1 = r.1 := by (exact om123 (by assumption))
    rw [e]
    exact bin_ok (n - r.1) r.2 r.1 a1 a2 (by (exact om124 h)) a4
  · rw [if_neg h]
    have e : r.1 = n := by (exact om125 h (by assumption))
    rw [e] at a4
    exact ⟨a1, a4⟩
end D54
end
section
open PySem PySem.W PySem.W.X PyProof.Rows PySem.Calls
set_option maxRecDepth 100000
namespace D54
abbrev prog : Program := PySem.Challenge.rw_dn0054_01.prog
def Ext (h h' : Heap) : Prop := ∀ b o, h.get? b = some o → h'.get? b = some o
theorem Ext.refl (h : Heap) : Ext h h := fun _ _ e => e
theorem Ext.trans {a b c : Heap} (x : Ext a b) (y : Ext b c) : Ext a c := fun p o e => y p o (x p o e)
/-- a goal at which the walk is to halt -/
def Halt (p : Prop) : Prop := p
theorem haltW {M : Model} {A : Around} {t : PySem.Expr} {b o : List Stmt} {p : Pos} {env : Env} {Q : Flow → Shared → Prop} {E : Value → Shared → Prop} {s : Shared}
    (h : Halt (wpAny M A (exec (.While t b o p) env) Q E s)) : wpAny M A (exec (.While t b o p) env) Q E s := h
theorem haltF {M : Model} {A : Around} {t i : PySem.Expr} {b o : List Stmt} {p : Pos} {env : Env} {Q : Flow → Shared → Prop} {E : Value → Shared → Prop} {s : Shared}
    (h : Halt (wpAny M A (exec (.For t i b o p) env) Q E s)) : wpAny M A (exec (.For t i b o p) env) Q E s := h
theorem haltC {M : Model} {A : Around} {f : Addr} {vs : List Value} {kw : List (PySem.Str × Value)} {Q : Value → Shared → Prop} {E : Value → Shared → Prop} {s : Shared}
    (h : Halt (wpAny M A (call (.ref f) vs kw) Q E s)) : wpAny M A (call (.ref f) vs kw) Q E s := h
theorem haltI {M : Model} {A : Around} {f : Value} {Q : Value → Shared → Prop} {E : Value → Shared → Prop} {s : Shared}
    (h : Halt (wpAny M A (pyIter f) Q E s)) : wpAny M A (pyIter f) Q E s := h
theorem haltLC {M : Model} {A : Around} {e : PySem.Expr} {gs : List Comprehension} {sc : Scope} {p : Pos} {env : Env} {Q : Value → Shared → Prop} {E : Value → Shared → Prop} {s : Shared}
    (h : Halt (wpAny M A (eval (.ListComp e gs sc p) env) Q E s)) : wpAny M A (eval (.ListComp e gs sc p) env) Q E s := h
/-- what the calls know of the world -/
structure Wd (w : World) (mg mb : PySem.Str → Option Value) (h : Heap) : Prop where
  k : (D54.hd.heap_1 w.params).In h
  t : TopRead prog [] mg mb h
theorem Wd.keeps {w : World} {mg mb : PySem.Str → Option Value} {h h' : Heap} (W : Wd w mg mb h) (k : Ext h h') : Wd w mg mb h' := ⟨W.k.keeps k, W.t.keeps k⟩
theorem enter {w : World} {A : Around} {E : Value → Shared → Prop} {s : Shared} {Q : Value → Shared → Prop} {a : Addr} {o : Obj} {fd : FuncData} {body : List Stmt} {vals : List Value} {binds : List (PySem.Str × Value)}
    (hh : A.handled = none) (hroom : A.depth < recursionLimit) (ho : s.heap.get? a = some o) (hdata : o.data = .func fd) (hlim : s.heap.NoLimit) (hcd : s.heap.CodeRec fd.code fd.qualname)
    (hbody : fd.body = .stmts body) (hbind : BindsTo s fd ⟨vals, []⟩ binds)
    (hcell : ∀ x ∈ fd.scope.names, x.2 ≠ .cell) (hloc : ∀ x ∈ binds, fd.scope.names.lookup x.1 = some .local)
    (h : ∀ L h₁ d fr gd u, s.heap.objs.size = L → d = A.depth + 1 → u = A.units + 3 → Fr s.heap L h₁ (fun x => binds.reverse.lookup x) → News s.heap L h₁ [] →
      wpAny (model prog w) ⟨none, d, fr, gd, u⟩ (execs body (callEnv fd L a)) (fun f s' => Q (match f with | .ret v => v | _ => .none) s') (fun _ _ => False)
        ⟨h₁, s.gens, s.drawn, s.toks + binds.length, s.os⟩)
    (hco : fd.scope.isCoroutine = false) (hgen : fd.scope.isGenerator = false) (hk : fd.scope.kind = .function) :
    wpAny (model prog w) A (call (.ref a) vals) Q E s := by
  refine wpAny_call (codeAny_call_def hroom ho hdata hlim hcd hbody hbind hcell hloc (fun h₁ hns hk₁ => ?_) hco hgen hk)
  obtain ⟨hdl, d, fr, gd, u⟩ := A
  cases hh
  exact wpAny_mono (h s.heap.objs.size h₁ (d + 1) _ _ (u + 3) rfl rfl rfl ⟨hns, hk₁, Nat.le_refl _⟩ News.nil) (fun _ _ x => x) fun _ _ x => x.elim
/-- an end: only the heap and the tokens have turned -/
def End {α : Type} (s : Shared) (P : α → Heap → Prop) : α → Shared → Prop := fun a s' => ∃ h' tk, s' = ⟨h', s.gens, s.drawn, tk, s.os⟩ ∧ P a h'
theorem End.mk' {α : Type} {s s' : Shared} {P : α → Heap → Prop} {a : α} {h' : Heap} {tk : Nat} (e : s' = ⟨h', s.gens, s.drawn, tk, s.os⟩) (p : P a h') : End s P a s' := ⟨h', tk, e, p⟩
theorem End.intro {α : Type} {s : Shared} {P : α → Heap → Prop} {a : α} {h' : Heap} {tk : Nat} (p : P a h') : End s P a ⟨h', s.gens, s.drawn, tk, s.os⟩ := ⟨h', tk, rfl, p⟩
/-- cut a walk: the tree ends in P, and P leads on -/
theorem cut {α : Type} {M : Model} {A : Around} {t : Sem α} {Q : α → Shared → Prop} {E : Value → Shared → Prop} {s : Shared} (P : α → Heap → Prop)
    (h1 : wpAny M A t (End s P) (fun _ _ => False) s) (h2 : ∀ a h' tk, P a h' → Q a ⟨h', s.gens, s.drawn, tk, s.os⟩) : wpAny M A t Q E s :=
  wpAny_mono h1 (fun a s' ⟨h', tk, e, p⟩ => by subst e; exact h2 a h' tk p) fun _ _ h => h.elim
/-- a text by its signs -/
def tx (l : List Nat) : PySem.Str := ⟨l.toArray⟩
theorem tx_len (l : List Nat) : (tx l).length = l.length := by simp [tx, PySem.Str.length]
theorem tx_cps (l : List Nat) : (tx l).cps.toList = l := by simp [tx]
theorem tx_inj {a b : List Nat} (h : tx a = tx b) : a = b := by have := congrArg (fun x : PySem.Str => x.cps.toList) h; simpa [tx] using this
theorem tx_beq (a b : List Nat) : (tx a == tx b) = decide (a = b) := by
  by_cases h : a = b
  · subst h; simp
  · rw [decide_eq_false h]
    exact beq_eq_false_iff_ne.mpr fun e => h (tx_inj e)
theorem slice_from {l : List Nat} {p : Nat} (h : p ≤ l.length) : Txt.slice (tx l) (some (p : Int)) none = tx (l.drop p) := by
  show StrLaws.sliceText (tx l) (some (p : Int)) none = _
  rw [StrLaws.sliceText_from ⟨by (exact om246), by rw [tx_cps]; (exact om247 h)⟩, tx_cps]
  unfold tx
  congr 2
  simp only [Int.toNat_natCast]
  exact List.take_of_length_le (by simp)
theorem slice_all (x : PySem.Str) : Txt.slice x none none = x := by
  have h : Txt.slice x none none = StrLaws.sliceText x none none := rfl
  rw [h]
  have e1 : StrLaws.sliceText x none none = StrLaws.sliceText x (some ((0 : Nat) : Int)) (some (x.length : Int)) := by
    unfold StrLaws.sliceText; rw [StrLaws.sliceIdx_none_lo, StrLaws.sliceIdx_none_hi]; rfl
  rw [e1, StrLaws.sliceText_nat x (Nat.zero_le _) (Nat.le_refl _)]
  obtain ⟨cps⟩ := x
  simp only [List.drop_zero, Nat.sub_zero, PySem.Str.length]
  congr 1
  have : cps.toList.take cps.size = cps.toList := List.take_of_length_le (by simp)
  rw [this]
theorem slice_to_neg {l : List Nat} {q : Nat} (h0 : 0 < q) (h : q ≤ l.length) : Txt.slice (tx l) none (some (-(q : Int))) = tx (l.take (l.length - q)) := by
  show StrLaws.sliceText (tx l) none (some (-(q : Int))) = _
  rw [StrLaws.sliceText_to_neg (by (exact om248 h0)) (by rw [tx_len]; (exact om249 h)), tx_cps, tx_len]
  unfold tx
  congr 2
  simp only [List.drop_zero]
  congr 1
  (exact om250)
theorem item_at {l : List Nat} {p : Nat} {c : Nat} (h : l[p]? = some c) : Txt.item (tx l) (p : Int) = tx [c] := by
  have hh : (tx l).cps[(p : Int).toNat]? = some c := by simpa [tx] using h
  rw [item_meets (by (exact om246)) hh]; rfl
theorem item_neg {l : List Nat} {q : Nat} {c : Nat} (h0 : 0 < q) (hq : q ≤ l.length) (h : l[l.length - q]? = some c) : Txt.item (tx l) (-(q : Int)) = tx [c] := by
  unfold Txt.item Txt.charAt
  have hh : (tx l).cps[(-(q : Int) + ((tx l).length : Int)).toNat]? = some c := by
    rw [tx_len]
    have e : (-(q : Int) + (l.length : Int)).toNat = l.length - q := by (exact om251)
    rw [e]; simpa [tx] using h
  rw [StrLaws.at_neg (by (exact om248 h0)) (by rw [tx_len]; (exact om249 hq)) hh]; rfl
section
variable {w : World} {A : Around} {E : Value → Shared → Prop} {s : Shared} {h₀ : Heap} {L : Addr} {m : PySem.Str → Option Value} {news : List (Addr × Obj)} {Q : Value → Shared → Prop} {value slice : PySem.Expr} {t : Tok} {l : List Nat}
theorem sl_nn (hF : Fr h₀ L s.heap m) (hN : News h₀ L s.heap news) (h : ∀ h' t' k, Fr h₀ L h' m → News h₀ L h' news → Q (.str (tx l) t') { s with heap := h', toks := k })
    (hs : subscripted slice false (.str (tx l) t) (.ref s.heap.objs.size) = operate [.ref s.heap.objs.size, .str (tx l) t] (getItem (.str (tx l) t) (.ref s.heap.objs.size)))
    (ht : ∀ r, letTemporaryGo value (.str (tx l) t) r = pure ()) (hsz : l.length ≤ 1000) :
    wpAny (model prog w) A (subscriptTail value slice (.str (tx l) t) (.ref s.heap.objs.size)) Q E { s with heap := s.heap.push { cls := .type "slice", data := .fields #[.none, .none, .none] } } :=
  slice_strN_nn hF hN (fun h' t' k a b => by rw [slice_all]; exact h h' t' k a b) hs ht (by rw [tx_len, sizeLine_eq]; (exact om252 hsz))
theorem sl_ns {q : Nat} {uj : Tok} (h0 : 0 < q) (hq : q ≤ l.length) (hF : Fr h₀ L s.heap m) (hN : News h₀ L s.heap news) (h : ∀ h' t' k, Fr h₀ L h' m → News h₀ L h' news → Q (.str (tx (l.take (l.length - q))) t') { s with heap := h', toks := k })
    (hs : subscripted slice false (.str (tx l) t) (.ref s.heap.objs.size) = operate [.ref s.heap.objs.size, .str (tx l) t] (getItem (.str (tx l) t) (.ref s.heap.objs.size)))
    (ht : ∀ r, letTemporaryGo value (.str (tx l) t) r = pure ()) (hsz : l.length ≤ 1000) :
    wpAny (model prog w) A (subscriptTail value slice (.str (tx l) t) (.ref s.heap.objs.size)) Q E { s with heap := s.heap.push { cls := .type "slice", data := .fields #[.none, .int (-(q : Int)) uj, .none] } } :=
  slice_strN_ns hF hN (fun h' t' k a b => by rw [slice_to_neg h0 hq]; exact h h' t' k a b) hs ht (by rw [tx_len, sizeLine_eq]; (exact om252 hsz))
theorem sl_sn {p : Nat} {ui : Tok} (hp : p ≤ l.length) (hF : Fr h₀ L s.heap m) (hN : News h₀ L s.heap news) (h : ∀ h' t' k, Fr h₀ L h' m → News h₀ L h' news → Q (.str (tx (l.drop p)) t') { s with heap := h', toks := k })
    (hs : subscripted slice false (.str (tx l) t) (.ref s.heap.objs.size) = operate [.ref s.heap.objs.size, .str (tx l) t] (getItem (.str (tx l) t) (.ref s.heap.objs.size)))
    (ht : ∀ r, letTemporaryGo value (.str (tx l) t) r = pure ()) (hsz : l.length ≤ 1000) :
    wpAny (model prog w) A (subscriptTail value slice (.str (tx l) t) (.ref s.heap.objs.size)) Q E { s with heap := s.heap.push { cls := .type "slice", data := .fields #[.int (p : Int) ui, .none, .none] } } :=
  slice_strN_sn hF hN (fun h' t' k a b => by rw [slice_from hp]; exact h h' t' k a b) hs ht (by rw [tx_len, sizeLine_eq]; (exact om252 hsz))
theorem truthy_tx {R : Bool → Shared → Prop} {n : Nat} (hn : l.length = n) (hsz : n ≤ 1000) (h : R (decide (0 < n)) { s with toks := s.toks + 1 + 1 }) : wpAny (model prog w) A (truthy (.str (tx l) t)) R E s := by
  subst hn
  refine P.truthy_str (by rw [tx_len]; (exact om253 hsz)) ?_
  have e : (((tx l).length : Int) != 0) = decide (0 < l.length) := by
    rw [tx_len]
    by_cases h : 0 < l.length
    · rw [decide_eq_true h]; exact bne_iff_ne.mpr (by (exact om254 h))
    · rw [decide_eq_false h]; have : (l.length : Int) = 0 := by (exact om255 h)
      rw [this]; rfl
  rw [e]; exact h
theorem truthy_drop {R : Bool → Shared → Prop} {p : Nat} (hsz : l.length - p ≤ 1000) (h : R (decide (0 < l.length - p)) { s with toks := s.toks + 1 + 1 }) : wpAny (model prog w) A (truthy (.str (tx (l.drop p)) t)) R E s := truthy_tx List.length_drop hsz h
theorem truthy_take {R : Bool → Shared → Prop} {p : Nat} (hsz : min p l.length ≤ 1000) (h : R (decide (0 < min p l.length)) { s with toks := s.toks + 1 + 1 }) : wpAny (model prog w) A (truthy (.str (tx (l.take p)) t)) R E s := truthy_tx List.length_take hsz h
theorem truthy_self {R : Bool → Shared → Prop} (hsz : l.length ≤ 1000) (h : R (decide (0 < l.length)) { s with toks := s.toks + 1 + 1 }) : wpAny (model prog w) A (truthy (.str (tx l) t)) R E s := truthy_tx rfl hsz h
end
section
variable {w : World} {A : Around} {E : Value → Shared → Prop} {s : Shared} {env : Env} {Q : Flow → Shared → Prop}
/-- a loop by what holds of the heap between the turns -/
theorem forJ {target : PySem.Expr} {body : List Stmt} {I : Addr} {fp wr : List Addr} {n : Nat} {P : Nat → Value → Prop} {St : Nat → Heap → Prop} (W : Walks prog w A I fp wr n P St) (J : Nat → Heap → Prop)
    (hst : St 0 s.heap) (hJ : J 0 s.heap) (hJw : ∀ i h h', J i h → (∀ b o, b ∉ wr → h.get? b = some o → h'.get? b = some o) → J i h')
    (turn : ∀ i v h tk, i < n → P i v → J i h → St (i + 1) h → wpAny (model prog w) A (assign target env v) (fun _ s₂ => wpAny (model prog w) A (execs body env) (fun f s₃ => match f with
      | .next | .cont => ∃ h' tk', s₃ = ⟨h', s.gens, s.drawn, tk', s.os⟩ ∧ J (i + 1) h' ∧ ∀ b ∈ fp, ∀ o, h.get? b = some o → h'.get? b = some o
      | .brk => Q .next s₃
      | .ret v => Q (.ret v) s₃) (fun _ _ => False) s₂) (fun _ _ => False) ⟨h, s.gens, s.drawn, tk, s.os⟩)
    (done : ∀ h tk, J n h → Q .next ⟨h, s.gens, s.drawn, tk, s.os⟩) (ht : ∀ v, letOwnedTupleGo target (.ref I) v = pure ()) :
    codeAny (model prog w) A (.forLoop target (.ref I) body [] env) (fun r s' => match r with | .ok f => Q f s' | .error e => cameBackBy (model prog w) A env E e s') s := by
  refine codeAny_forLoop (fun k s' => ∃ h tk i, s' = ⟨h, s.gens, s.drawn, tk, s.os⟩ ∧ i ≤ n ∧ k = n - i ∧ St i h ∧ J i h) ?_ (n - 0) ⟨s.heap, s.toks, 0, rfl, Nat.zero_le _, rfl, hst, hJ⟩ ht
  rintro k s' ⟨h, tk, i, rfl, hi, rfl, hSt, hJi⟩
  by_cases hlt : i < n
  · refine W.item i _ _ _ hlt hSt fun v h' tk' hP hSt' hk => ?_
    refine wpAny_mono (turn i v h' tk' hlt hP (hJw i _ _ hJi hk) hSt') (fun _ s₂ h₂ => wpAny_mono h₂ (fun f s₃ h₃ => ?_) fun _ _ e => e.elim) fun _ _ e => e.elim
    cases f with
    | next =>
      obtain ⟨h3, tk3, rfl, hJ3, hf3⟩ := h₃
      exact ⟨n - (i + 1), by (exact om256 hlt), h3, tk3, i + 1, rfl, by (exact om257 hlt), rfl, W.frame _ _ _ hSt' hf3, hJ3⟩
    | cont =>
      obtain ⟨h3, tk3, rfl, hJ3, hf3⟩ := h₃
      exact ⟨n - (i + 1), by (exact om256 hlt), h3, tk3, i + 1, rfl, by (exact om257 hlt), rfl, W.frame _ _ _ hSt' hf3, hJ3⟩
    | brk => exact h₃
    | ret v => exact h₃
  · have hin : i = n := by (exact om258 hi hlt)
    subst hin
    refine W.done _ _ _ hSt fun h' tk' hk => wpAny_execs_nil ?_
    exact done h' tk' (hJw i _ _ hJi hk)
/-- a loop over range(n) -/
theorem for_rng {target : PySem.Expr} {body : List Stmt} {r : Addr} {n : Nat} {c : Int} {t u v : Tok} (hh : A.handled = none) (hr : IsRange s.heap r 0 c 1 t u v) (hc : c = (n : Int)) (hn : n < 2 ^ 31) (J : Nat → Heap → Prop)
    (hJ : J 0 s.heap) (hJw : ∀ I, s.heap.get? I = none → ∀ i h h', J i h → (∀ b o, b ≠ I → h.get? b = some o → h'.get? b = some o) → J i h')
    (turn : ∀ I i tv h tk it, i < n → s.heap.get? I = none → h.get? I = some it → J i h → wpAny (model prog w) A (assign target env (.int (i : Int) tv)) (fun _ s₂ => wpAny (model prog w) A (execs body env) (fun f s₃ => match f with
      | .next | .cont => ∃ h' tk', s₃ = ⟨h', s.gens, s.drawn, tk', s.os⟩ ∧ J (i + 1) h' ∧ h'.get? I = some it
      | .brk => Q .next s₃
      | .ret v => Q (.ret v) s₃) (fun _ _ => False) s₂) (fun _ _ => False) ⟨h, s.gens, s.drawn, tk, s.os⟩)
    (done : ∀ h tk, J n h → Q .next ⟨h, s.gens, s.drawn, tk, s.os⟩) (ht : ∀ I v, letOwnedTupleGo target (.ref I) v = pure ()) :
    wpAny (model prog w) A (pyIter (.ref r)) (fun it s₂ => codeAny (model prog w) A (.forLoop target it body [] env) (fun r s' => match r with | .ok f => Q f s' | .error e => cameBackBy (model prog w) A env E e s') s₂) E s := by
  subst hc
  have hsz : Builtin.Range.rangeSize 0 (n : Int) 1 = (n : Int) := by
    unfold Builtin.Range.rangeSize
    rw [if_pos (by decide)]
    by_cases h0 : (0 : Int) < n
    · rw [if_pos h0]; (exact om260)
    · rw [if_neg h0]; (exact om261 h0)
  have hsmall : Builtin.Range.small 0 (n : Int) 1 = true := by
    have fit : ∀ x : Int, 0 ≤ x → x ≤ 2 ^ 31 → Builtin.Range.rangeFitsLong x = true := fun x h1 h2 => by
      unfold Builtin.Range.rangeFitsLong
      rw [Bool.and_eq_true]
      exact ⟨decide_eq_true (by (exact om262 h1)), decide_eq_true (by (exact om263 h2))⟩
    unfold Builtin.Range.small
    rw [hsz, fit 0 (by decide) (by decide), fit n (by (exact om246)) (by (exact om265 hn)), fit 1 (by decide) (by decide), if_pos (show (1 : Int) > 0 by decide), fit ((n : Int) + (1 - 1)) (by (exact om268)) (by (exact om269 hn)), Bool.or_true]
    rfl
  refine wpAny_pyIter_range hr hsmall ?_
  rw [hsz]
  have hnew : s.heap.get? s.heap.objs.size = none := Heap.get?_none_of_le (Nat.le_refl _)
  refine forJ (s := { s with heap := s.heap.push _ }) (Walks.range hh s.heap.objs.size 0 1 n) J (by show IsRangeIter _ _ _ _ _; simpa using Heap.get?_push_size _ rfl) (hJw _ hnew 0 _ _ hJ fun b o _ e => Heap.get?_push_of_some _ e)
    (fun i h h' hj hk => hJw _ hnew i h h' hj fun b o hb e => hk b o (by simpa using hb) e) ?_ done (ht _)
  rintro i v h tk hi ⟨tv, rfl⟩ hJi hSt
  have e : (0 : Int) + (i : Int) * 1 = (i : Int) := by (exact om270)
  rw [e]
  refine wpAny_mono (turn _ i tv h tk _ hi hnew hSt hJi) (fun _ s₂ h₂ => wpAny_mono h₂ (fun f s₃ h₃ => ?_) fun _ _ e => e) fun _ _ e => e
  cases f with
  | next => exact let ⟨h3, tk3, e3, j3, f3⟩ := h₃; ⟨h3, tk3, e3, j3, fun b hb o eb => by rw [List.mem_singleton.mp hb] at eb ⊢; rw [f3]; rw [show h.get? _ = _ from hSt] at eb; exact eb⟩
  | cont => exact let ⟨h3, tk3, e3, j3, f3⟩ := h₃; ⟨h3, tk3, e3, j3, fun b hb o eb => by rw [List.mem_singleton.mp hb] at eb ⊢; rw [f3]; rw [show h.get? _ = _ from hSt] at eb; exact eb⟩
  | brk => exact h₃
  | ret v => exact h₃
end
theorem deep {α : Type} {M : Model} {A : Around} {t : Sem α} {Q : α → Shared → Prop} {E : Value → Shared → Prop} {s : Shared} (d u : Nat) (hh : A.handled = none) (hd : A.depth ≤ d) (hu : A.units ≤ u)
    (h : ∀ fr gd, wpAny M ⟨none, d, fr, gd, u⟩ t Q E s) : wpAny M A t Q E s := fun Γ p hΓ => by
  obtain ⟨hdl, d', fr, gd, u'⟩ := A
  cases hh
  exact h fr gd Γ p ⟨hΓ.1, Nat.le_trans hΓ.2.1 hd, hΓ.2.2.1, hΓ.2.2.2.1, Nat.le_trans hΓ.2.2.2.2 hu⟩
theorem news_it {h₀ h1 h : Heap} {L I : Addr} {it : Obj} {m : PySem.Str → Option Value} {news : List (Addr × Obj)} (F : Fr h₀ L h1 m) (hn : h1.get? I = none) (hI : h.get? I = some it) (N : News h₀ L h news) : News h₀ L h ((I, it) :: news) := by
  intro p hp
  rcases List.mem_cons.mp hp with rfl | hp
  · refine ⟨hI, fun e => ?_, ?_⟩
    · obtain ⟨o, _, _, ho, _⟩ := F.ns
      rw [show I = L from e] at hn; rw [hn] at ho; cases ho
    · cases e : h₀.get? I with
      | none => rfl
      | some o => rw [F.keep _ _ e] at hn; cases hn
  · exact N p hp
theorem news_tail {h₀ h : Heap} {L : Addr} {p : Addr × Obj} {news : List (Addr × Obj)} (N : News h₀ L h (p :: news)) : News h₀ L h news := fun q hq => N q (.tail _ hq)
theorem news_but {h₀ h1 h h' : Heap} {L I : Addr} {news : List (Addr × Obj)} (N1 : News h₀ L h1 news) (hn : h1.get? I = none) {news' : List (Addr × Obj)} (N : News h₀ L h news') (he : news'.map (·.1) = news.map (·.1)) (hk : ∀ b o, b ≠ I → h.get? b = some o → h'.get? b = some o) : News h₀ L h' news' := by
  intro p hp
  refine ⟨hk _ _ (fun e => ?_) (N p hp).1, (N p hp).2⟩
  have : p.1 ∈ news'.map (·.1) := List.mem_map_of_mem hp
  rw [he] at this
  obtain ⟨q, hq, e2⟩ := List.mem_map.mp this
  have := (N1 q hq).1
  rw [e2, e, hn] at this; cases this
theorem fr_but {h₀ h1 h h' : Heap} {L I : Addr} {m1 m : PySem.Str → Option Value} (F1 : Fr h₀ L h1 m1) (hn : h1.get? I = none) (F : Fr h₀ L h m) (hk : ∀ b o, b ≠ I → h.get? b = some o → h'.get? b = some o) : Fr h₀ L h' m := by
  have hL : L ≠ I := fun e => by obtain ⟨o, _, _, ho, _⟩ := F1.ns; rw [e, hn] at ho; cases ho
  refine ⟨F.ns.at' fun o e => hk _ _ hL e, fun b o e => ?_, F.above⟩
  exact hk b o (fun eb => by have := F1.keep _ _ e; rw [eb, hn] at this; cases this) (F.keep b o e)
theorem news_ext {h₀ h h' : Heap} {L : Addr} {news : List (Addr × Obj)} (N : News h₀ L h news) (hk : Ext h h') : News h₀ L h' news := fun p hp => ⟨hk _ _ (N p hp).1, (N p hp).2⟩
theorem enterC {w : World} {A : Around} {E : Value → Shared → Prop} {s : Shared} {Q : Value → Shared → Prop} {a : Addr} {o : Obj} {name qual : PySem.Str} {params : Arguments} {body : List Stmt} {scope : Scope} {dV kV doc pm cdv ct : Value} {an : Option Addr} {vals : List Value} {binds : List (PySem.Str × Value)}
    (hh : A.handled = none) (hroom : A.depth < recursionLimit) (ho : s.heap.get? a = some o) (hdata : o.data = .func (fnX name qual params body scope [] dV kV doc pm an cdv ct)) (hlim : s.heap.NoLimit) (hcd : s.heap.CodeRec cdv qual)
    (hbind : BindsTo s (fnX name qual params body scope [] dV kV doc pm an cdv ct) ⟨vals, []⟩ binds)
    (hkind : (binds.all fun y => scope.names.lookup y.1 == some .local || scope.names.lookup y.1 == some .cell) = true)
    (hnd : ((cellsFrom 0 scope.names []).map (·.1)).Nodup)
    (h : ∀ L h₁ tk cells d fr gd u, s.heap.objs.size = L → d = A.depth + 1 → u = A.units + 3 → Fr s.heap L h₁ (bindL (envOfC qual scope L a cdv).kindOf binds fun _ => none) → News s.heap L h₁ cells →
      CellsAre (bindC (envOfC qual scope L a cdv).kindOf binds fun _ => none) (cellsFrom (L + 1) scope.names []) cells →
      wpAny (model prog w) ⟨none, d, fr, gd, u⟩ (execs body (envOfC qual scope L a cdv)) (fun f s' => Q (match f with | .ret v => v | _ => .none) s') (fun _ _ => False)
        ⟨h₁, s.gens, s.drawn, tk, s.os⟩)
    (hco : scope.isCoroutine = false) (hgen : scope.isGenerator = false) (hk : scope.kind = .function) :
    wpAny (model prog w) A (call (.ref a) vals) Q E s := by
  refine wpAny_call ?_
  refine codeAny_call_function hroom ho hdata hco hgen rfl hcd (hbind _ _ _ _ ?_)
  refine wpAny_newFunctionEnv_cells hk (kindsX hkind _) fun env' he s' x => ?_
  subst he
  refine ⟨hlim.keeps x.toInCall.keep, codeAny_func ?_⟩
  obtain ⟨h₁, tk, rfl, _⟩ := x.done
  have hk₁ := x.toInCall.keep
  obtain ⟨cells, NC, Y⟩ := Cl.news (h₀ := s.heap) (Nat.le_refl _) fun n c hm => ⟨x.cell n c (lookup_of_mem_nodup (cellsFrom_names scope.names 0 (s.heap.objs.size + 1) [] [] rfl ▸ hnd) hm), x.above n c hm⟩
  obtain ⟨hdl, d, fr, gd, u⟩ := A
  cases hh
  exact wpAny_mono (h s.heap.objs.size h₁ tk cells (d + 1) _ _ (u + 3) rfl rfl rfl ⟨x.toInCall.ns, hk₁, Nat.le_refl _⟩ NC Y) (fun _ _ x => x) fun _ _ x => x.elim
section
variable {w : World} {A : Around} {E : Value → Shared → Prop} {s : Shared} {env : Env} {Q : Value → Shared → Prop}
/-- a list comprehension over a list: values -/
theorem comp_list {elt iter : PySem.Expr} {x : PySem.Str} {px : Pos} {ifs : List PySem.Expr} {scope : Scope} {cl : List (PySem.Str × Addr)} {pos : Pos} (p : Value → Bool) (F : Value → Value → Prop)
    (hh : A.handled = none) (hclos : closureFor scope env = pure cl) (hcell : ∀ y ∈ scope.names, y.2 ≠ .cell) (hkind : scope.kind = .function)
    (hnames : ∀ y ∈ scope.names, y.2 = .local → scope.names.lookup y.1 = some .local) (hx : scope.names.lookup x = some .local)
    (h : wpAny (model prog w) A (eval iter env) (fun xv s₁ => ∃ l vs, xv = .ref l ∧ s₁.heap.IsList l (List.toArray vs) ∧ vs.length ≤ 1000 ∧
      (∀ C v s₃ m₃, s₁.heap.objs.size ≤ C → v ∈ vs → s₃.heap.Ns C m₃ → m₃ x = some v → Ext s₁.heap s₃.heap →
        wpAny (model prog w) A (forIn ifs true fun c r => if r = true then do let ok ← isTrue c (compEnvC scope cl C env) (eval c (compEnvC scope cl C env)); pure (ForInStep.yield ok) else pure (ForInStep.yield r))
          (fun ok s₄ => ok = p v ∧ Keeps s₃ s₄) (fun _ _ => False) s₃) ∧
      (∀ C v s₃ m₃, s₁.heap.objs.size ≤ C → v ∈ vs → p v = true → s₃.heap.Ns C m₃ → m₃ x = some v → Ext s₁.heap s₃.heap →
        wpAny (model prog w) A (eval elt (compEnvC scope cl C env)) (fun y s₄ => F v y ∧ Keeps s₃ s₄) (fun _ _ => False) s₃) ∧
      (∀ D h' tk ys, s₁.heap.get? D = none → h'.PlainList D ys → Paired F (vs.filter p) ys.toList → Ext s₁.heap h' → Q (.ref D) { s₁ with heap := h', toks := tk })) E s)
    (hs : ∀ x, foldedSetIterable iter env x = pure x) :
    wpAny (model prog w) A (eval (.ListComp elt [⟨.Name x px, iter, ifs, 0⟩] scope pos) env) Q E s := by
  refine wpAny_ListComp_free p F hclos hcell hkind hnames hx (wpAny_mono h (fun xv s₁ h₁ => ?_) fun _ _ e => e) hs
  obtain ⟨l, vs, rfl, hl, hsz, ht, he, hq⟩ := h₁
  have hlt : l < s₁.heap.objs.size := by obtain ⟨o, ho, _⟩ := hl; exact Heap.lt_size ho
  refine wpAny_pyIter_list hl ?_
  have ext : ∀ h' : Heap, (∀ b o, b ∉ [s₁.heap.objs.size] → (s₁.heap.push { cls := .type "list_iterator", data := .fields #[.ref l, rawInt 0] }).get? b = some o → h'.get? b = some o) → Ext s₁.heap h' := fun h' hk b o e =>
    hk b o (fun hm => Nat.lt_irrefl _ ((List.mem_singleton.mp hm) ▸ Heap.lt_size e)) (Heap.get?_push_of_some _ e)
  have mem : ∀ (i : Nat) v, (List.toArray vs)[i]? = some v → v ∈ vs := fun i v hv => by
    have : vs[i]? = some v := by simpa using hv
    exact List.mem_of_getElem? this
  refine ⟨s₁.heap.objs.size, _, _, vs.toArray.size, _, _, rfl, Walks.list hh s₁.heap.objs.size l (Nat.ne_of_lt hlt) vs.toArray, ?_, ⟨⟨_, Heap.get?_push_size _ rfl, rfl, rfl⟩, hl.at fun o e => Heap.get?_push_of_some _ e⟩, ?_, ⟨?_, ?_⟩, ?_⟩
  · rw [List.size_toArray, sizeLine_eq]; (exact om252 hsz)
  · intro b hb
    rw [Heap.size_push]
    rcases List.mem_cons.mp hb with rfl | hb
    · exact Nat.lt_succ_self _
    · rw [List.mem_singleton.mp hb]; exact Nat.lt_succ_of_lt hlt
  · intro C i v s₃ m₃ E' hC hP hn hm hk _
    rw [Heap.size_push] at hC
    exact wpAny_mono (ht C v s₃ m₃ (Nat.le_of_succ_le hC) (mem i v hP) hn hm (ext _ hk)) (fun _ _ q => q) fun _ _ e => e.elim
  · intro C i v s₃ m₃ E' hC hP hp hn hm hk _
    rw [Heap.size_push] at hC
    exact wpAny_mono (he C v s₃ m₃ (Nat.le_of_succ_le hC) (mem i v hP) hp hn hm (ext _ hk)) (fun _ _ q => q) fun _ _ e => e.elim
  · intro D h' tk ys vs' hD hl' hpl hlen hPs hF hk
    have e : vs' = vs := by
      refine List.ext_getElem? fun i => ?_
      by_cases hi : i < vs'.length
      · have := hPs i vs'[i] (List.getElem?_eq_getElem hi)
        rw [List.getElem?_eq_getElem hi]
        simpa using this.symm
      · rw [List.getElem?_eq_none (by (exact om271 hi)), List.getElem?_eq_none (by rw [hlen, List.size_toArray] at hi; (exact om271 hi))]
    subst e
    have hD' : s₁.heap.get? D = none := by
      cases e : s₁.heap.get? D with
      | none => rfl
      | some o => rw [Heap.get?_push_of_some _ e] at hD; cases hD
    exact hq D h' tk ys hD' hpl hF (ext _ hk)
end
section
variable {w : World} {A : Around} {E : Value → Shared → Prop} {s : Shared} {env : Env} {Q : Flow → Shared → Prop}
/-- a loop over the signs of a text -/
theorem for_str {target : PySem.Expr} {body : List Stmt} {l : List Nat} {t : Tok} (hh : A.handled = none) (ha : ∀ c ∈ l, c < 128) (J : Nat → Heap → Prop)
    (hJ : J 0 s.heap) (hJw : ∀ I, I = s.heap.objs.size → s.heap.get? I = none → ∀ i h h', J i h → (∀ b o, b ≠ I → h.get? b = some o → h'.get? b = some o) → J i h')
    (turn : ∀ I i c tv h tk it, l[i]? = some c → I = s.heap.objs.size → s.heap.get? I = none → h.get? I = some it → J i h → wpAny (model prog w) A (assign target env (.str (tx [c]) tv)) (fun _ s₂ => wpAny (model prog w) A (execs body env) (fun f s₃ => match f with
      | .next | .cont => ∃ h' tk', s₃ = ⟨h', s.gens, s.drawn, tk', s.os⟩ ∧ J (i + 1) h' ∧ h'.get? I = some it
      | .brk => Q .next s₃
      | .ret v => Q (.ret v) s₃) (fun _ _ => False) s₂) (fun _ _ => False) ⟨h, s.gens, s.drawn, tk, s.os⟩)
    (done : ∀ h tk, J l.length h → Q .next ⟨h, s.gens, s.drawn, tk, s.os⟩) (ht : ∀ I v, letOwnedTupleGo target (.ref I) v = pure ()) :
    wpAny (model prog w) A (pyIter (.str (tx l) t)) (fun it s₂ => codeAny (model prog w) A (.forLoop target it body [] env) (fun r s' => match r with | .ok f => Q f s' | .error e => cameBackBy (model prog w) A env E e s') s₂) E s := by
  have hall : (tx l).cps.all (· < 128) = true := by
    rw [Array.all_eq_true_iff_forall_mem]
    intro c hc
    exact decide_eq_true (ha c (by simpa [tx] using hc))
  refine wpAny_pyIter_ascii hall ?_
  have hnew : s.heap.get? s.heap.objs.size = none := Heap.get?_none_of_le (Nat.le_refl _)
  have hsz : (tx l).cps.size = l.length := by simp [tx]
  refine forJ (s := { s with heap := s.heap.push _ }) (Walks.strAscii hh s.heap.objs.size (tx l) t) J ⟨_, Heap.get?_push_size _ rfl, rfl, rfl⟩ (hJw _ rfl hnew 0 _ _ hJ fun b o _ e => Heap.get?_push_of_some _ e)
    (fun i h h' hj hk => hJw _ rfl hnew i h h' hj fun b o hb e => hk b o (by simpa using hb) e) ?_ (by rw [hsz]; exact done) (ht _)
  rintro i v h tk hi ⟨c, u, hc, rfl⟩ hJi ⟨it, hit, hst⟩
  have hc' : l[i]? = some c := by simpa [tx] using hc
  refine wpAny_mono (turn _ i c u h tk it hc' rfl hnew hit hJi) (fun _ s₂ h₂ => wpAny_mono h₂ (fun f s₃ h₃ => ?_) fun _ _ e => e) fun _ _ e => e
  cases f with
  | next => exact let ⟨h3, tk3, e3, j3, f3⟩ := h₃; ⟨h3, tk3, e3, j3, fun b hb o eb => by rw [List.mem_singleton.mp hb] at eb ⊢; rw [f3]; rw [hit] at eb; exact eb⟩
  | cont => exact let ⟨h3, tk3, e3, j3, f3⟩ := h₃; ⟨h3, tk3, e3, j3, fun b hb o eb => by rw [List.mem_singleton.mp hb] at eb ⊢; rw [f3]; rw [hit] at eb; exact eb⟩
  | brk => exact h₃
  | ret v => exact h₃
/-- a loop over a list -/
theorem for_list {target : PySem.Expr} {body : List Stmt} {l : Addr} {vs : List Value} (hh : A.handled = none) (hl : s.heap.IsList l (List.toArray vs)) (J : Nat → Heap → Prop)
    (hJ : J 0 s.heap) (hJw : ∀ I, I = s.heap.objs.size → s.heap.get? I = none → ∀ i h h', J i h → (∀ b o, b ≠ I → h.get? b = some o → h'.get? b = some o) → J i h')
    (turn : ∀ I i v h tk it lo, vs[i]? = some v → I = s.heap.objs.size → s.heap.get? I = none → h.get? I = some it → s.heap.get? l = some lo → h.get? l = some lo → J i h → wpAny (model prog w) A (assign target env v) (fun _ s₂ => wpAny (model prog w) A (execs body env) (fun f s₃ => match f with
      | .next | .cont => ∃ h' tk', s₃ = ⟨h', s.gens, s.drawn, tk', s.os⟩ ∧ J (i + 1) h' ∧ h'.get? I = some it ∧ h'.get? l = some lo
      | .brk => Q .next s₃
      | .ret v => Q (.ret v) s₃) (fun _ _ => False) s₂) (fun _ _ => False) ⟨h, s.gens, s.drawn, tk, s.os⟩)
    (done : ∀ h tk, J vs.length h → Q .next ⟨h, s.gens, s.drawn, tk, s.os⟩) (ht : ∀ I v, letOwnedTupleGo target (.ref I) v = pure ()) :
    wpAny (model prog w) A (pyIter (.ref l)) (fun it s₂ => codeAny (model prog w) A (.forLoop target it body [] env) (fun r s' => match r with | .ok f => Q f s' | .error e => cameBackBy (model prog w) A env E e s') s₂) E s := by
  have hlt : l < s.heap.objs.size := by obtain ⟨o, ho, _⟩ := hl; exact Heap.lt_size ho
  obtain ⟨lo, hlo, hlr⟩ := id hl
  refine wpAny_pyIter_list hl ?_
  have hnew : s.heap.get? s.heap.objs.size = none := Heap.get?_none_of_le (Nat.le_refl _)
  refine forJ (s := { s with heap := s.heap.push _ }) (n := vs.length) (P := fun i v => (List.toArray vs)[i]? = some v) (St := fun i h => h.IsListIter s.heap.objs.size l i ∧ h.get? l = some lo) (fp := [s.heap.objs.size, l]) (wr := [s.heap.objs.size]) ?_ J ⟨⟨_, Heap.get?_push_size _ rfl, rfl, rfl⟩, Heap.get?_push_of_some _ hlo⟩ (hJw _ rfl hnew 0 _ _ hJ fun b o _ e => Heap.get?_push_of_some _ e)
    (fun i h h' hj hk => hJw _ rfl hnew i h h' hj fun b o hb e => hk b o (by simpa using hb) e) ?_ done (ht _)
  · have W := Walks.list (prog := prog) (w := w) (A := A) hh s.heap.objs.size l (Nat.ne_of_lt hlt) (List.toArray vs)
    rw [List.size_toArray] at W
    have hne : l ∉ [s.heap.objs.size] := fun hm => Nat.ne_of_lt hlt (List.mem_singleton.mp hm)
    refine ⟨W.sub, fun i h h' st hk => ⟨st.1.at fun o e => hk _ (.head _) o e, hk l (.tail _ (.head _)) _ st.2⟩, fun i s' Q E hi st hQ => ?_, fun s' Q E st hQ => ?_, fun i s' Q E st hQ => ?_⟩
    · refine W.item i s' Q E hi ⟨st.1, ⟨lo, st.2, hlr⟩⟩ fun v h' tk hP hst hk => hQ v h' tk hP ⟨hst.1, hk l lo hne st.2⟩ hk
    · exact W.done s' Q E ⟨st.1, ⟨lo, st.2, hlr⟩⟩ hQ
    · exact W.self i s' Q E ⟨st.1, ⟨lo, st.2, hlr⟩⟩ hQ
  · rintro i v h tk hi hP hJi ⟨⟨it, hit, hst⟩, hlo'⟩
    have hv : vs[i]? = some v := by simpa using hP
    refine wpAny_mono (turn _ i v h tk it lo hv rfl hnew hit hlo hlo' hJi) (fun _ s₂ h₂ => wpAny_mono h₂ (fun f s₃ h₃ => ?_) fun _ _ e => e) fun _ _ e => e
    have fin : ∀ h3 : Heap, h3.get? s.heap.objs.size = some it → h3.get? l = some lo → ∀ b ∈ [s.heap.objs.size, l], ∀ o, h.get? b = some o → h3.get? b = some o := fun h3 f3 g3 b hb o eb => by
      rcases List.mem_cons.mp hb with rfl | hb
      · rw [f3]; rw [hit] at eb; exact eb
      · rw [List.mem_singleton.mp hb] at eb ⊢; rw [g3]; rw [hlo'] at eb; exact eb
    cases f with
    | next => exact let ⟨h3, tk3, e3, j3, f3, g3⟩ := h₃; ⟨h3, tk3, e3, j3, fin h3 f3 g3⟩
    | cont => exact let ⟨h3, tk3, e3, j3, f3, g3⟩ := h₃; ⟨h3, tk3, e3, j3, fin h3 f3 g3⟩
    | brk => exact h₃
    | ret v => exact h₃
end
section
variable {M : Model} {A : Around} {E : Value → Shared → Prop} {s : Shared} {h₀ : Heap} {L : Addr} {m : PySem.Str → Option Value} {news : List (Addr × Obj)}
/-- a store into a name that a comprehension reads -/
theorem st_cell {env : Env} {x : PySem.Str} {pos : Pos} {c : Addr} {o : Obj} {v₀ : Option Value} {v : Value} {g : Obj → List (Addr × Obj)} {Q : Unit → Shared → Prop} (F : Fr h₀ L s.heap m) (N : News h₀ L s.heap news) (U : ∀ o', Upd c o o' news (g o')) (d : o.data = .cell v₀)
    (hk : env.scope.kind = .function) (hl : env.kindOf x = some .cell) (hc : env.cells.lookup x = some c)
    (h : ∀ h' o', Fr h₀ L h' m → News h₀ L h' (g o') → o'.data = .cell (some v) → Q () { s with heap := h' }) :
    wpAny M A (assign (.Name x pos) env v) Q E s := by
  have hm : (c, o) ∈ news := by
    obtain ⟨pre, post, e1, _, _, _⟩ := (U o).split
    rw [e1]; exact List.mem_append_right _ (.head _)
  refine wpAny_assign_Name (wpAny_storeName_cell hk hl hc ⟨o, (N _ hm).1, d⟩ fun h' hx hs => ?_)
  obtain ⟨o', ho', hd'⟩ := hx
  refine h h' o' (F.change hs (N _ hm).2.1 (N _ hm).2.2) ?_ hd'
  obtain ⟨pre, post, e1, e2, x1, x2⟩ := (U o').split
  rw [e2]
  rw [e1] at N
  exact news_set N x1 x2 hs ho'
end
end D54
end
section
open PySem PySem.W PySem.W.X PyProof.Rows PySem.Calls
set_option maxRecDepth 100000
namespace D54
/-- a sign of the law's words -/
def Sg (c : Nat) : Prop := c = 97 ∨ c = 98 ∨ c = 65 ∨ c = 95
theorem mem_keep {h₀ h : Heap} {news : List (Addr × Obj)} (D : Mem h₀ h [] news) : Ext h₀ h := fun b o e => D.keep b o e (by simp [away])
end D54
end
section
open PySem PySem.W PySem.W.X PyProof.Rows PySem.Calls
namespace D54
/-- walk towards a letter: the ends stay small -/
theorem hideP {α : Type} {M : Model} {A : Around} {t : Sem α} {P : α → Heap → Prop} {E : Value → Shared → Prop} {s s₀ : Shared} (h : ∀ P' : α → Heap → Prop, (∀ a h', P a h' → P' a h') → wpAny M A t (End s P') E s₀) : wpAny M A t (End s P) E s₀ := h P fun _ _ x => x
theorem upP {α : Type} {s s' : Shared} {P P' : α → Heap → Prop} {a : α} (hi : ∀ a h', P a h' → P' a h') (h : End s P a s') : End s P' a s' := let ⟨h', tk, e, p⟩ := h; ⟨h', tk, e, hi a h' p⟩
theorem hideG {G : Prop} (h : ∀ R : Prop, (G → R) → R) : G := h G id
/-- cut behind a statement: its end is a letter -/
theorem cutH {M : Model} {A : Around} {st : Stmt} {rest : List Stmt} {env : Env} {Q : Flow → Shared → Prop} {E : Value → Shared → Prop} {s : Shared} (P : Heap → Prop)
    (h1 : ∀ P' : Flow → Heap → Prop, (∀ h', P h' → P' .next h') → wpAny M A (exec st env) (End s P') (fun _ _ => False) s) (h2 : ∀ h' tk, P h' → wpAny M A (execs rest env) Q E ⟨h', s.gens, s.drawn, tk, s.os⟩) : wpAny M A (execs (st :: rest) env) Q E s :=
  wpAny_execs_cons (cut (fun f h' => f = .next ∧ P h') (h1 _ fun h' p => ⟨rfl, p⟩) fun f h' tk q => by obtain ⟨rfl, p⟩ := q; exact h2 h' tk p)
theorem cutB {M : Model} {A : Around} {t : Sem Flow} {Q : Flow → Shared → Prop} {E : Value → Shared → Prop} {s : Shared} (P : Heap → Prop)
    (h1 : ∀ P' : Flow → Heap → Prop, (∀ h', P h' → P' .next h') → wpAny M A t (End s P') (fun _ _ => False) s) (h2 : ∀ h' tk, P h' → Q .next ⟨h', s.gens, s.drawn, tk, s.os⟩) : wpAny M A t Q E s :=
  cut (fun f h' => f = .next ∧ P h') (h1 _ fun h' p => ⟨rfl, p⟩) fun f h' tk q => by obtain ⟨rfl, p⟩ := q; exact h2 h' tk p
/-- hide what is wanted behind -/
theorem hideQ {α : Type} {M : Model} {A : Around} {t : Sem α} {Q : α → Shared → Prop} {E : Value → Shared → Prop} {s : Shared} (h : ∀ Q' : α → Shared → Prop, (∀ a s', Q a s' → Q' a s') → wpAny M A t Q' E s) : wpAny M A t Q E s := h Q fun _ _ x => x
inductive Ex1 {α1 : Type} (p : α1 → Prop) : Prop
  | mk (a1 : α1) (h : p a1) : Ex1 p
inductive Ex3 {α1 α2 α3 : Type} (p : α1 → α2 → α3 → Prop) : Prop
  | mk (a1 : α1) (a2 : α2) (a3 : α3) (h : p a1 a2 a3) : Ex3 p
inductive Ex4 {α1 α2 α3 α4 : Type} (p : α1 → α2 → α3 → α4 → Prop) : Prop
  | mk (a1 : α1) (a2 : α2) (a3 : α3) (a4 : α4) (h : p a1 a2 a3 a4) : Ex4 p
inductive Ex5 {α1 α2 α3 α4 α5 : Type} (p : α1 → α2 → α3 → α4 → α5 → Prop) : Prop
  | mk (a1 : α1) (a2 : α2) (a3 : α3) (a4 : α4) (a5 : α5) (h : p a1 a2 a3 a4 a5) : Ex5 p
inductive Ex6 {α1 α2 α3 α4 α5 α6 : Type} (p : α1 → α2 → α3 → α4 → α5 → α6 → Prop) : Prop
  | mk (a1 : α1) (a2 : α2) (a3 : α3) (a4 : α4) (a5 : α5) (a6 : α6) (h : p a1 a2 a3 a4 a5 a6) : Ex6 p
inductive Ex7 {α1 α2 α3 α4 α5 α6 α7 : Type} (p : α1 → α2 → α3 → α4 → α5 → α6 → α7 → Prop) : Prop
  | mk (a1 : α1) (a2 : α2) (a3 : α3) (a4 : α4) (a5 : α5) (a6 : α6) (a7 : α7) (h : p a1 a2 a3 a4 a5 a6 a7) : Ex7 p
inductive Ex8 {α1 α2 α3 α4 α5 α6 α7 α8 : Type} (p : α1 → α2 → α3 → α4 → α5 → α6 → α7 → α8 → Prop) : Prop
  | mk (a1 : α1) (a2 : α2) (a3 : α3) (a4 : α4) (a5 : α5) (a6 : α6) (a7 : α7) (a8 : α8) (h : p a1 a2 a3 a4 a5 a6 a7 a8) : Ex8 p
inductive Ex12 {α1 α2 α3 α4 α5 α6 α7 α8 α9 α10 α11 α12 : Type} (p : α1 → α2 → α3 → α4 → α5 → α6 → α7 → α8 → α9 → α10 → α11 → α12 → Prop) : Prop
  | mk (a1 : α1) (a2 : α2) (a3 : α3) (a4 : α4) (a5 : α5) (a6 : α6) (a7 : α7) (a8 : α8) (a9 : α9) (a10 : α10) (a11 : α11) (a12 : α12) (h : p a1 a2 a3 a4 a5 a6 a7 a8 a9 a10 a11 a12) : Ex12 p
structure And3 (a1 a2 a3 : Prop) : Prop where
  mk ::
  h1 : a1
  h2 : a2
  h3 : a3
structure And4 (a1 a2 a3 a4 : Prop) : Prop where
  mk ::
  h1 : a1
  h2 : a2
  h3 : a3
  h4 : a4
structure And5 (a1 a2 a3 a4 a5 : Prop) : Prop where
  mk ::
  h1 : a1
  h2 : a2
  h3 : a3
  h4 : a4
  h5 : a5
structure And6 (a1 a2 a3 a4 a5 a6 : Prop) : Prop where
  mk ::
  h1 : a1
  h2 : a2
  h3 : a3
  h4 : a4
  h5 : a5
  h6 : a6
structure And8 (a1 a2 a3 a4 a5 a6 a7 a8 : Prop) : Prop where
  mk ::
  h1 : a1
  h2 : a2
  h3 : a3
  h4 : a4
  h5 : a5
  h6 : a6
  h7 : a7
  h8 : a8
structure And9 (a1 a2 a3 a4 a5 a6 a7 a8 a9 : Prop) : Prop where
  mk ::
  h1 : a1
  h2 : a2
  h3 : a3
  h4 : a4
  h5 : a5
  h6 : a6
  h7 : a7
  h8 : a8
  h9 : a9
structure And10 (a1 a2 a3 a4 a5 a6 a7 a8 a9 a10 : Prop) : Prop where
  mk ::
  h1 : a1
  h2 : a2
  h3 : a3
  h4 : a4
  h5 : a5
  h6 : a6
  h7 : a7
  h8 : a8
  h9 : a9
  h10 : a10
structure And13 (a1 a2 a3 a4 a5 a6 a7 a8 a9 a10 a11 a12 a13 : Prop) : Prop where
  mk ::
  h1 : a1
  h2 : a2
  h3 : a3
  h4 : a4
  h5 : a5
  h6 : a6
  h7 : a7
  h8 : a8
  h9 : a9
  h10 : a10
  h11 : a11
  h12 : a12
  h13 : a13
structure And16 (a1 a2 a3 a4 a5 a6 a7 a8 a9 a10 a11 a12 a13 a14 a15 a16 : Prop) : Prop where
  mk ::
  h1 : a1
  h2 : a2
  h3 : a3
  h4 : a4
  h5 : a5
  h6 : a6
  h7 : a7
  h8 : a8
  h9 : a9
  h10 : a10
  h11 : a11
  h12 : a12
  h13 : a13
  h14 : a14
  h15 : a15
  h16 : a16
end D54
end
section
open PySem PySem.W PySem.W.X PyProof.Rows PySem.Calls PyProof.Rows.LCg
set_option maxRecDepth 100000
namespace D54
section
variable {w : World} {A : Around} {E : Value → Shared → Prop} {s : Shared} {env : Env}
/-- a comprehension's loop: any target, any tests -/
theorem cg_loop {elt target iter : PySem.Expr} {ifs : List PySem.Expr} {scope : Scope} {pos : Pos} {it acc : Value} {env : Env} {R : Result → Shared → Prop} (I : Nat → Shared → Prop)
    (turn : ∀ n s, I n s → wpAny (model prog w) A (pyNext it) (fun r s₁ => match r with
      | none => R (.ok .next) s₁
      | some v => wpAny (model prog w) A (letOwnedTupleGo target it v) (fun _ s₀ => wpAny (model prog w) A (assign target env v) (fun _ s₂ =>
          wpAny (model prog w) A (forIn ifs true fun c r => if r = true then do let ok ← isTrue c env (eval c env); pure (ForInStep.yield ok) else pure (ForInStep.yield r)) (fun ok s₃ => if ok = true then wpAny (model prog w) A (eval elt env) (fun x s₄ =>
            wpAny (model prog w) A (call (.builtin "list.append") [acc, x]) (fun _ s₅ => ∃ m, m < n ∧ I m s₅) (notedBy (model prog w) A env fun e s' => R (.error e) s') s₄) (notedBy (model prog w) A env fun e s' => R (.error e) s') s₃
            else ∃ m, m < n ∧ I m s₃) (notedBy (model prog w) A env fun e s' => R (.error e) s') s₂)
          (notedBy (model prog w) A env fun e s' => R (.error e) s') s₀) (notedBy (model prog w) A env fun e s' => R (.error e) s') s₁) (notedBy (model prog w) A env fun e s' => R (.error e) s') s)
    (n : Nat) (h : I n s) : codeAny (model prog w) A (.compLoop (.ListComp elt [⟨target, iter, ifs, 0⟩] scope pos) 0 it acc env) R s := by
  refine codeAny_loop rfl I (fun n s hI => ?_) n h
  show wpAny _ A ((compTurn (.ListComp elt [⟨target, iter, ifs, 0⟩] scope pos) 0 it acc env).onRaise (fun x => do noteFrame x env; theTreesLotGoes x)) _ _ s
  refine wpAny_noted ?_
  rw [compTurn_list]
  refine wpAny_bind (wpAny_standAt (wpAny_bind (wpAny_mono (turn n s hI) (fun r s₁ h₁ => ?_) fun _ _ h' => h')))
  cases r with
  | none => exact wpAny_pure h₁
  | some v =>
    refine wpAny_bind (wpAny_mono h₁ (fun _ s₀ h₀' => ?_) fun _ _ h' => h')
    refine wpAny_bind (wpAny_mono h₀' (fun _ s₂ h₂ => ?_) fun _ _ h' => h')
    refine wpAny_bind (wpAny_mono h₂ (fun okb s₃ h₃ => ?_) fun _ _ h' => h')
    cases okb with
    | false => exact wpAny_pure ⟨rfl, h₃⟩
    | true => exact wpAny_bind (wpAny_bind (wpAny_mono h₃ (fun x s₄ h₄ => wpAny_bind (wpAny_mono h₄ (fun _ s₅ h₅ => wpAny_pure (wpAny_pure ⟨rfl, h₅⟩)) fun _ _ h' => h')) fun _ _ h' => h'))
theorem paired_mono {α β : Type} {F G : α → β → Prop} (h : ∀ a b, F a b → G a b) {x : List α} {y : List β} (p : Paired F x y) : Paired G x y := by
  induction p with
  | nil => exact .nil
  | cons f t ih => exact .cons (h _ _ f) ih
theorem paired_len' {α β : Type} {F : α → β → Prop} : ∀ {a : List α} {b : List β}, Paired F a b → a.length = b.length
  | _, _, .nil => rfl
  | _, _, .cons _ t => by rw [List.length_cons, List.length_cons, paired_len' t]
/-- a comprehension by its turns; what is asked of the elements is asked of the heap above the comprehension's own -/
theorem cg_block {elt iter target : PySem.Expr} {ifs : List PySem.Expr} {scope : Scope} {cl : List (PySem.Str × Addr)} {pos : Pos} {s₂ : Shared} {I : Addr} {fp wr : List Addr} {n : Nat} {P Md : Nat → Value → Heap → Prop} {St : Nat → Heap → Prop}
    (W : KTurns prog w A target I fp wr n P Md St) (hself : ∀ (s : Shared) (Q : Value → Shared → Prop) (E : Value → Shared → Prop), St 0 s.heap → Q (.ref I) s → wpAny (model prog w) A (pyIter (.ref I)) Q E s)
    (hsz : n ≤ 1000) (Bd : Nat → (PySem.Str → Option Value) → Prop) (p : Nat → Bool) (G : Nat → Value → Heap → Prop) {RR : Value → Addr → Result → Shared → Prop}
    (hG : ∀ i y h h', (∀ b o, s₂.heap.objs.size + 2 ≤ b → h.get? b = some o → h'.get? b = some o) → G i y h → G i y h')
    (hcell : ∀ y ∈ scope.names, y.2 ≠ .cell) (hkind : scope.kind = .function) (hst : St 0 s₂.heap) (hfp : ∀ b ∈ fp, b < s₂.heap.objs.size)
    (hass : ∀ C i v (s₃ : Shared) m₃ (Q : Unit → Shared → Prop) (E' : Value → Shared → Prop), i < n → P i v s₃.heap → s₃.heap.Ns C m₃ → (∀ h' tk m', h'.Ns C m' → Bd i m' → (∀ b o, b ≠ C → s₃.heap.get? b = some o → h'.get? b = some o) → Q () { s₃ with heap := h', toks := tk }) → wpAny (model prog w) A (assign target (compEnvC scope cl C env) v) Q E' s₃)
    (htest : ∀ C i (s₃ : Shared) m₃, s₂.heap.objs.size + 1 = C → i < n → s₃.heap.Ns C m₃ → Bd i m₃ → (∀ b o, b ∉ wr → s₂.heap.get? b = some o → s₃.heap.get? b = some o) →
      wpAny (model prog w) A (forIn ifs true fun c r => if r = true then do let ok ← isTrue c (compEnvC scope cl C env) (eval c (compEnvC scope cl C env)); pure (ForInStep.yield ok) else pure (ForInStep.yield r))
        (fun ok s₄ => ok = p i ∧ Keeps s₃ s₄) (fun _ _ => False) s₃)
    (helt : ∀ C i (s₃ : Shared) m₃, s₂.heap.objs.size + 1 = C → i < n → p i = true → s₃.heap.Ns C m₃ → Bd i m₃ → (∀ b o, b ∉ wr → s₂.heap.get? b = some o → s₃.heap.get? b = some o) →
      wpAny (model prog w) A (eval elt (compEnvC scope cl C env)) (fun y s₄ => G i y s₄.heap ∧ Keeps s₃ s₄) (fun _ _ => False) s₃)
    (hRR : ∀ D C h' tk m' ys, s₂.heap.get? D = none → s₂.heap.get? C = none → D ≠ C → s₂.heap.objs.size = D → s₂.heap.objs.size + 1 = C → h'.Ns C m' → h'.get? D = some (lst ys) → Paired (fun i y => G i y h') ((List.range n).filter p) ys →
      (∀ b o, b ∉ wr → s₂.heap.get? b = some o → h'.get? b = some o) → RR (.ref D) C (.ok .next) { s₂ with heap := h', toks := tk }) :
    wpAny (model prog w) A (newList []) (fun acc s₃ => wpAny (model prog w) A (newFunctionEnv scope env.globals cl [] env.qual none .none (some env)) (fun cenv s₄ =>
      codeAny (model prog w) A (.compStart (.ListComp elt [⟨target, iter, ifs, 0⟩] scope pos) 0 (.ref I) acc { cenv with scope := relabel scope env }) (RR acc cenv.locals) s₄) E s₃) E s₂ := by
  refine wpAny_newObj_type (wpAny_newFunctionEnv hcell (by intro y hy; simp at hy) (fun h₁ hns₁ hsb₁ => ?_) hkind)
  dsimp only at hns₁ hsb₁ ⊢
  generalize hH2 : s₂.heap.push { cls := .type "list", dict := none, data := .seq ([] : List Value).toArray } = H2 at hns₁ hsb₁ ⊢
  have hC : H2.objs.size = s₂.heap.objs.size + 1 := by rw [← hH2, Heap.size_push]
  have hDC : s₂.heap.objs.size ≠ H2.objs.size := by rw [hC]; exact Nat.ne_of_lt (Nat.lt_succ_self _)
  have below : ∀ b, b < s₂.heap.objs.size → b ≠ H2.objs.size ∧ b ≠ s₂.heap.objs.size := fun b hb => ⟨by rw [hC]; exact Nat.ne_of_lt (Nat.lt_succ_of_lt hb), Nat.ne_of_lt hb⟩
  have hDf : s₂.heap.objs.size ∉ fp := fun hm => Nat.lt_irrefl _ (hfp _ hm)
  have hDw : s₂.heap.objs.size ∉ wr := fun hm => hDf (W.sub _ hm)
  have hCf : H2.objs.size ∉ fp := fun hm => by have := hfp _ hm; rw [hC] at this; exact Nat.lt_irrefl _ (Nat.lt_of_succ_lt this)
  have hCw : H2.objs.size ∉ wr := fun hm => hCf (W.sub _ hm)
  have old : ∀ b o, s₂.heap.get? b = some o → h₁.get? b = some o := fun b o e => hsb₁.extBut b o (below b (Heap.lt_size e)).1 (Heap.get?_push_of_some _ (hH2 ▸ Heap.get?_push_of_some _ e))
  have hacc : h₁.get? s₂.heap.objs.size = some (lst []) := hsb₁.extBut _ _ hDC (Heap.get?_push_of_some _ (hH2 ▸ Heap.get?_push_size _ rfl))
  have hst₁ : St 0 h₁ := W.frame _ _ _ hst fun b _ o e => old b o e
  have fresh : ∀ a, s₂.heap.objs.size ≤ a → s₂.heap.get? a = none := fun a ha => by
    cases e : s₂.heap.get? a with
    | none => rfl
    | some o' => exact absurd (Heap.lt_size e) (Nat.not_lt.mpr ha)
  have high : ∀ b, s₂.heap.objs.size + 2 ≤ b → b ≠ H2.objs.size ∧ b ≠ s₂.heap.objs.size ∧ b ∉ wr := fun b hb => ⟨by rw [hC]; exact Nat.ne_of_gt (by (exact om139 hb)), Nat.ne_of_gt (by (exact om140 hb)), fun hm => by have : (b : Nat) < s₂.heap.objs.size := hfp b (W.sub _ hm); (exact om141 hb this)⟩
  have loop : ∀ s₃ : Shared, s₃ = { s₂ with heap := h₁, toks := s₂.toks + ([] : List (PySem.Str × Value)).length } →
      codeAny (model prog w) A (.compLoop (.ListComp elt [⟨target, iter, ifs, 0⟩] scope pos) 0 (.ref I) (.ref s₂.heap.objs.size) (compEnvC scope cl H2.objs.size env))
        (RR (.ref s₂.heap.objs.size) H2.objs.size) s₃ := by
    rintro s₃ rfl
    refine cg_loop
      (fun k s' => ∃ h' tk i ys m', s' = { s₂ with heap := h', toks := tk } ∧ i ≤ n ∧ k = n + 1 - i ∧ St i h' ∧ h'.Ns H2.objs.size m' ∧ h'.get? s₂.heap.objs.size = some (lst ys) ∧
        Paired (fun i y => G i y h') ((List.range i).filter p) ys ∧ (∀ b o, b ∉ wr → s₂.heap.get? b = some o → h'.get? b = some o)) ?_ (n + 1)
      ⟨h₁, _, 0, [], _, rfl, Nat.zero_le _, rfl, hst₁, hns₁, hacc, .nil, fun b o _ e => old b o e⟩
    rintro k s' ⟨h', tk, i, ys, m', rfl, hi, rfl, hst', hn', hD', hPr, hk'⟩
    by_cases hlt : i < n
    · refine W.item i _ _ _ hlt hst' fun v h₂ tk₂ hMd hk₂ => ?_
      refine W.go i v _ _ _ hMd fun h₃ hP hst₃ hk₃ => ?_
      have up₃ : ∀ c o, c ∉ wr → h'.get? c = some o → h₃.get? c = some o := fun c o hc e => hk₃ c o hc (hk₂ c o hc e)
      refine hass H2.objs.size i v _ _ _ _ hlt hP (hn'.at' fun o e => up₃ _ o hCw e) fun h₄ tk₄ m₄ hn₄ hB₄ hs₄ => ?_
      have up₄ : ∀ c o, c ∉ wr → c ≠ H2.objs.size → h'.get? c = some o → h₄.get? c = some o := fun c o h1 h2 e => hs₄ c o h2 (up₃ c o h1 e)
      have hk₄ : ∀ b o, b ∉ wr → s₂.heap.get? b = some o → h₄.get? b = some o := fun b o hb e => up₄ b o hb (below b (Heap.lt_size e)).1 (hk' b o hb e)
      have hst₄ : St (i + 1) h₄ := W.frame _ _ _ hst₃ fun b hb o e => hs₄ b o (fun q => hCf (q ▸ hb)) e
      refine wpAny_mono (htest H2.objs.size i _ m₄ hC.symm hlt hn₄ hB₄ hk₄) (fun ok s₅ h₅ => ?_) fun _ _ e => e.elim
      obtain ⟨rfl, h5, tk₅, rfl, hk₅⟩ := h₅
      have hr : List.range (i + 1) = List.range i ++ [i] := List.range_succ
      cases hp : p i with
      | false =>
        rw [if_neg (by simp)]
        refine ⟨n + 1 - (i + 1), by (exact om142 hlt), h5, tk₅, i + 1, ys, m₄, rfl, hlt, rfl, W.frame _ _ _ hst₄ fun b _ o e => hk₅ b o e, hn₄.at' fun o e => hk₅ _ o e, hk₅ _ _ (up₄ _ _ hDw hDC hD'), ?_, fun b o hb e => hk₅ b o (hk₄ b o hb e)⟩
        rw [hr, List.filter_append, List.filter_cons, hp]
        simp only [Bool.false_eq_true, if_false, List.filter_nil, List.append_nil]
        exact paired_mono (fun j y g => hG j y _ _ (fun b o hb e => hk₅ b o (up₄ b o (high b hb).2.2 (high b hb).1 e)) g) hPr
      | true =>
        rw [if_pos rfl]
        refine wpAny_mono (helt H2.objs.size i _ m₄ hC.symm hlt hp (hn₄.at' fun o e => hk₅ _ o e) hB₄ fun b o hb e => hk₅ b o (hk₄ b o hb e)) (fun y s₆ h₆ => ?_) fun _ _ e => e.elim
        obtain ⟨hGy, h6, tk₆, rfl, hk₆⟩ := h₆
        have hD₆ : h6.get? s₂.heap.objs.size = some (lst ys) := hk₆ _ _ (hk₅ _ _ (up₄ _ _ hDw hDC hD'))
        have hlen : ys.length ≤ n := by
          have e1 := paired_len' hPr
          have e2 := List.length_filter_le p (List.range i)
          rw [List.length_range] at e2; (exact om143 hlt e1 e2)
        refine append_at (hsz := by show ys.toArray.size ≤ sizeLine; rw [List.size_toArray, sizeLine_eq]; (exact om144 hlen hsz)) hD₆ fun h7 hs₇ hD₇ => ?_
        refine ⟨n + 1 - (i + 1), by (exact om142 hlt), h7, tk₆, i + 1, ys ++ [y], m₄, rfl, hlt, rfl, W.frame _ _ _ hst₄ fun b hb o e => hs₇.extBut b o (fun q => hDf (q ▸ hb)) (hk₆ b o (hk₅ b o e)), (hn₄.at' fun o e => hk₆ _ o (hk₅ _ o e)).sameBut hs₇ (Ne.symm hDC), hD₇.trans (congrArg some (lst_snoc ys y)), ?_,
          fun b o hb e => hs₇.extBut b o (below b (Heap.lt_size e)).2 (hk₆ b o (hk₅ b o (hk₄ b o hb e)))⟩
        rw [hr, List.filter_append, List.filter_cons, hp]
        simp only [if_true, List.filter_nil]
        exact Paired.snoc (paired_mono (fun j y g => hG j y _ _ (fun b o hb e => hs₇.extBut b o (high b hb).2.1 (hk₆ b o (hk₅ b o (up₄ b o (high b hb).2.2 (high b hb).1 e)))) g) hPr) (hG _ _ _ _ (fun b o hb e => hs₇.extBut b o (high b hb).2.1 e) hGy)
    · obtain rfl : i = n := Nat.le_antisymm hi (Nat.not_lt.mp hlt)
      refine W.done _ _ _ hst' fun h₂ tk₂ hk₂ => ?_
      exact hRR _ _ h₂ tk₂ m' ys (fresh _ (Nat.le_refl _)) (fresh _ (by rw [hC]; exact Nat.le_succ _)) hDC rfl hC.symm (hn'.at' fun o e => hk₂ _ o hCw e) (hk₂ _ _ hDw hD')
        (paired_mono (fun j y g => hG j y _ _ (fun b o hb e => hk₂ b o (high b hb).2.2 e) g) hPr) fun b o hb e => hk₂ b o hb (hk' b o hb e)
  exact codeAny_compStart_list (loop _ rfl) (hself _ _ _ hst₁ (loop _ rfl))
end
/-- what a comprehension's source must give -/
structure Cg (w : World) (A : Around) (env : Env) (elt target : PySem.Expr) (ifs : List PySem.Expr) (scope : Scope) (cl : List (PySem.Str × Addr)) (p : Nat → Bool) (wr : List Addr) (n : Nat) (G : Nat → Value → Heap → Prop) (I : Addr) (s₂ : Shared) : Prop where
  get : ∃ (fp : List Addr) (P Md : Nat → Value → Heap → Prop) (St : Nat → Heap → Prop) (Bd : Nat → (PySem.Str → Option Value) → Prop),
    KTurns prog w A target I fp wr n P Md St ∧ (∀ (s : Shared) (Q : Value → Shared → Prop) (E : Value → Shared → Prop), St 0 s.heap → Q (.ref I) s → wpAny (model prog w) A (pyIter (.ref I)) Q E s) ∧ n ≤ 1000 ∧
    (∀ i y h h', (∀ b o, s₂.heap.objs.size + 2 ≤ b → h.get? b = some o → h'.get? b = some o) → G i y h → G i y h') ∧ St 0 s₂.heap ∧ (∀ b ∈ fp, b < s₂.heap.objs.size) ∧
    (∀ C i v (s₃ : Shared) m₃ (Q : Unit → Shared → Prop) (E' : Value → Shared → Prop), i < n → P i v s₃.heap → s₃.heap.Ns C m₃ → (∀ h' tk m', h'.Ns C m' → Bd i m' → (∀ b o, b ≠ C → s₃.heap.get? b = some o → h'.get? b = some o) → Q () { s₃ with heap := h', toks := tk }) → wpAny (model prog w) A (assign target (compEnvC scope cl C env) v) Q E' s₃) ∧
    (∀ C i (s₃ : Shared) m₃, s₂.heap.objs.size + 1 = C → i < n → s₃.heap.Ns C m₃ → Bd i m₃ → (∀ b o, b ∉ wr → s₂.heap.get? b = some o → s₃.heap.get? b = some o) →
      wpAny (model prog w) A (forIn ifs true fun c r => if r = true then do let ok ← isTrue c (compEnvC scope cl C env) (eval c (compEnvC scope cl C env)); pure (ForInStep.yield ok) else pure (ForInStep.yield r))
        (fun ok s₄ => ok = p i ∧ Keeps s₃ s₄) (fun _ _ => False) s₃) ∧
    (∀ C i (s₃ : Shared) m₃, s₂.heap.objs.size + 1 = C → i < n → p i = true → s₃.heap.Ns C m₃ → Bd i m₃ → (∀ b o, b ∉ wr → s₂.heap.get? b = some o → s₃.heap.get? b = some o) →
      wpAny (model prog w) A (eval elt (compEnvC scope cl C env)) (fun y s₄ => G i y s₄.heap ∧ Keeps s₃ s₄) (fun _ _ => False) s₃)
section
variable {w : World} {A : Around} {E : Value → Shared → Prop} {s : Shared} {env : Env}
theorem cg_eval {elt target iter : PySem.Expr} {ifs : List PySem.Expr} {scope : Scope} {cl : List (PySem.Str × Addr)} {pos : Pos} {Q : Value → Shared → Prop} (p : Nat → Bool) (n : Nat) (G : Nat → Value → Heap → Prop)
    (hclos : closureFor scope env = pure cl) (hcell : ∀ y ∈ scope.names, y.2 ≠ .cell) (hkind : scope.kind = .function)
    (hnames : ∀ y ∈ scope.names, y.2 = .local → scope.names.lookup y.1 = some .local)
    (h : wpAny (model prog w) A (eval iter env) (fun xv s₁ => wpAny (model prog w) A (pyIter xv) (fun it s₂ => ∃ I wr, it = .ref I ∧ Cg w A env elt target ifs scope cl p wr n G I s₂ ∧
      (∀ D h' tk ys, s₂.heap.get? D = none → s₂.heap.objs.size = D → h'.get? D = some (lst ys) → Paired (fun i y => G i y h') ((List.range n).filter p) ys →
        (∀ b o, b ∉ wr → s₂.heap.get? b = some o → h'.get? b = some o) → Q (.ref D) { s₂ with heap := h', toks := tk })) E s₁) E s)
    (hs : ∀ x, foldedSetIterable iter env x = pure x := by intro _; rfl) :
    wpAny (model prog w) A (eval (.ListComp elt [⟨target, iter, ifs, 0⟩] scope pos) env) Q E s := by
  rw [eval_ListComp]
  refine wpAny_comprehension_free (use := none) rfl hs hclos hkind hnames (wpAny_mono h (fun xv s₁ h₁ => wpAny_mono h₁ (fun it s₂ h₂ => ?_) fun _ _ e => e) fun _ _ e => e)
  obtain ⟨I, wr, rfl, ⟨fp, P, Md, St, Bd, W, hself, hsz, hG, hst, hfp, hass, htest, helt⟩, hQ⟩ := h₂
  refine cg_block (RR := fun acc C => compPost (model prog w) A E none Q acc C) W hself hsz Bd p G hG hcell hkind hst hfp hass htest helt ?_
  intro D C h' tk m' ys hD hC hDC eD eC hn hl hF hk
  refine ⟨m', hn, fun h'' hs'' => hQ D h'' tk ys hD eD (hs''.extBut _ _ hDC hl) (paired_mono (fun j y g => hG j y _ _ (fun b o hb e => hs''.extBut b o (Nat.ne_of_gt (by have : s₂.heap.objs.size + 1 = (C : Nat) := eC; (exact om145 eC hb))) e) g) hF) fun b o hbf e => hs''.extBut b o (by rintro rfl; rw [hC] at e; cases e) (hk b o hbf e)⟩
theorem cg_assign {elt target iter : PySem.Expr} {ifs : List PySem.Expr} {scope : Scope} {cl : List (PySem.Str × Addr)} {pos spos py : Pos} {y : PySem.Str} {Q : Flow → Shared → Prop} (p : Nat → Bool) (n : Nat) (G : Nat → Value → Heap → Prop)
    (hsw : swapsWith (.ListComp elt [⟨target, iter, ifs, 0⟩] scope pos) (some (.Name y py)) spos.line env = pure true)
    (hclos : closureFor scope env = pure cl) (hcell : ∀ y ∈ scope.names, y.2 ≠ .cell) (hkind : scope.kind = .function)
    (hnames : ∀ y ∈ scope.names, y.2 = .local → scope.names.lookup y.1 = some .local)
    (hy : env.kindOf y = some .local) (hp : (env.scope.kind == .class || (env.scope.kind == .module && env.locals != env.globals)) = false)
    (h : wpAny (model prog w) A (eval iter env) (fun xv s₁ => wpAny (model prog w) A (pyIter xv) (fun it s₂ => ∃ I wr m, it = .ref I ∧ Cg w A env elt target ifs scope cl p wr n G I s₂ ∧ env.locals ∉ wr ∧ s₂.heap.Ns env.locals m ∧
      (∀ D h' tk ys, s₂.heap.get? D = none → s₂.heap.objs.size = D → h'.get? D = some (lst ys) → Paired (fun i y => G i y h') ((List.range n).filter p) ys → h'.Ns env.locals (fun z => if z = y then some (.ref D) else m z) →
        (∀ b o, b ≠ env.locals → b ∉ wr → s₂.heap.get? b = some o → h'.get? b = some o) → Q .next { s₂ with heap := h', toks := tk })) E s₁) E s)
    (hs : ∀ x, foldedSetIterable iter env x = pure x := by intro _; rfl) :
    wpAny (model prog w) A (exec (.Assign [.Name y py] (.ListComp elt [⟨target, iter, ifs, 0⟩] scope pos) spos) env) Q E s := by
  rw [exec_Assign_Name_used _ _ _ _ hsw]
  refine wpAny_bind (wpAny_standAt (wpAny_bind ?_))
  show wpAny _ A (do let _ ← comprehension (.ListComp elt [⟨target, iter, ifs, 0⟩] scope pos) scope env _ (newList []) false (eval iter env) (some (assign (.Name y py) env))) _ _ s
  refine wpAny_bind (wpAny_mono (wpAny_comprehension_free (use := some (assign (.Name y py) env)) (Q := fun _ s' => Q .next s') rfl hs hclos hkind hnames
    (wpAny_mono h (fun xv s₁ h₁ => wpAny_mono h₁ (fun it s₂ h₂ => ?_) fun _ _ e => e) fun _ _ e => e)) (fun _ s' hq => wpAny_pure (wpAny_pure hq)) fun _ _ e => e)
  obtain ⟨I, wr, m, rfl, ⟨fp, P, Md, St, Bd, W, hself, hsz, hG, hst, hfp, hass, htest, helt⟩, hLf, hn, hQ⟩ := h₂
  refine cg_block (RR := fun acc C => compPost (model prog w) A E (some (assign (.Name y py) env)) (fun _ s' => Q .next s') acc C) W hself hsz Bd p G hG hcell hkind hst hfp hass htest helt ?_
  intro D C h' tk m' ys hD hC hDC eD eC hnC hlD hF hk
  have hLC : env.locals ≠ C := by rintro rfl; obtain ⟨o, _, _, ho, _⟩ := hn; rw [hC] at ho; cases ho
  have hLD : env.locals ≠ D := by rintro rfl; obtain ⟨o, _, _, ho, _⟩ := hn; rw [hD] at ho; cases ho
  have hLlt : (env.locals : Nat) < s₂.heap.objs.size := hn.lt
  show wpAny _ A (assign (.Name y py) env (.ref D)) _ _ _
  refine wpAny_assign_Name (wpAny_storeName_local hy (hn.at' fun o e => hk _ o hLf e) (fun h₂ hn₂ hs₂ => ?_) hp)
  refine ⟨m', hnC.sameBut hs₂ (Ne.symm hLC), fun h₃ hs₃ => ?_⟩
  exact hQ D h₃ _ ys hD eD (hs₃.extBut _ _ hDC (hs₂.extBut _ _ (Ne.symm hLD) hlD)) (paired_mono (fun j y g => hG j y _ _ (fun b o hb e => hs₃.extBut b o (Nat.ne_of_gt (by have : s₂.heap.objs.size + 1 = (C : Nat) := eC; (exact om145 eC hb))) (hs₂.extBut b o (Nat.ne_of_gt (Nat.lt_of_lt_of_le hLlt (by (exact om146 hb)))) e)) g) hF) (hn₂.sameBut hs₃ hLC) fun b o hbL hbf e =>
    hs₃.extBut b o (by rintro rfl; rw [hC] at e; cases e) (hs₂.extBut b o hbL (hk b o hbf e))
/-- a pair's target -/
theorem cg_pair {scope : Scope} {cl : List (PySem.Str × Addr)} {a b : PySem.Str} {pa pb tp : Pos} {kk : Nat} {C : Addr} {T : Addr} {x y : Value} {m : PySem.Str → Option Value} {Q : Unit → Shared → Prop} (hh : A.handled = none) (hkind : scope.kind = .function) (hxa : scope.names.lookup a = some .local) (hxb : scope.names.lookup b = some .local)
    (hab : ¬ a = b) (ht : s.heap.IsTuple T #[x, y]) (hn : s.heap.Ns C m)
    (h : ∀ (h' : Heap) (tk : Nat) m', h'.Ns C m' → m' a = some x ∧ m' b = some y → (∀ c o, c ≠ C → s.heap.get? c = some o → h'.get? c = some o) → Q () { s with heap := h', toks := tk }) :
    wpAny (model prog w) A (assign (.Tuple [.Name a pa, .Name b pb] kk tp) (compEnvC scope cl C env) (.ref T)) Q E s :=
  kcp_assign (env := compEnvC scope cl C env) hh ht (lookup_relabel_local hxa) (lookup_relabel_local hxb) (by simp [compEnvC, relabel, hkind]) hn fun h' tk hn' hk => h h' tk _ hn' ⟨by simp [hab], by simp⟩ hk
theorem cg_name {scope : Scope} {cl : List (PySem.Str × Addr)} {a : PySem.Str} {pa : Pos} {C : Addr} {v : Value} {m : PySem.Str → Option Value} {Q : Unit → Shared → Prop} (hkind : scope.kind = .function) (hxa : scope.names.lookup a = some .local) (hn : s.heap.Ns C m)
    (h : ∀ (h' : Heap) (tk : Nat) m', h'.Ns C m' → m' a = some v → (∀ c o, c ≠ C → s.heap.get? c = some o → h'.get? c = some o) → Q () { s with heap := h', toks := tk }) :
    wpAny (model prog w) A (assign (.Name a pa) (compEnvC scope cl C env) v) Q E s :=
  wpAny_assign_Name (wpAny_storeName_local (lookup_relabel_local hxa) hn (fun h' hn' hs' => h h' _ _ hn' (by simp) fun c o hc e => hs'.extBut c o hc e) (by simp [compEnvC, relabel, hkind]))
end
end D54
end
section
open PySem PySem.W PySem.W.X PyProof.Rows PySem.Calls
set_option maxRecDepth 100000
namespace D54
theorem own_init : classOwn (.type "object") (PySem.Str.ofString "__init_subclass__") = pure (some (.builtin "object.__init_subclass__")) := by kernel_rfl
theorem ty_cm : typeOf (.builtin "object.__init_subclass__") = pure (.type "classmethod_descriptor") := by kernel_rfl
theorem look_cm : typeLookup (.type "classmethod_descriptor") (PySem.Str.ofString "__get__") = pure (some (.builtin "classmethod_descriptor.__get__")) := by kernel_rfl
/-- no class of another library stands -/
def NoOp (w : World) (h : Heap) : Prop := ∀ a : Addr, Looks (model prog w) h (opaqueClassAbove (.ref a)) none
theorem NoOp.keeps {w : World} {h h' : Heap} (x : NoOp w h) (k : Ext h h') : NoOp w h' := fun a => (x a).keeps k
theorem noop_of {w : World} {h : Heap} (K : (D54.hd.heap_1 w.params).In h) : NoOp w h := fun a => Looks.of_peek K (by kernel_rfl)
theorem no_opq {w : World} {A : Around} {E : Value → Shared → Prop} {h : Heap} {g : Array GenState} {d : Drawn} {t : Nat} {os : OsState} {what how : String} {v : Value} {a : Addr} {Q : Unit → Shared → Prop} (ho : NoOp w h) (hv : v = .ref a) (hq : Q () ⟨h, g, d, t, os⟩) :
    wpAny (model prog w) A (notOfAnOpaqueClass what how v) Q E ⟨h, g, d, t, os⟩ := by
  subst hv
  unfold notOfAnOpaqueClass
  refine wpAny_bind (Looks.at (ho a) ?_)
  repeat wp_step
  all_goals exact hq
set_option maxHeartbeats 1000000 in
theorem super_get {w : World} {A : Around} {E : Value → Shared → Prop} {hp : Heap} {gg : Array GenState} {dd : Drawn} {tt : Nat} {oo : OsState} {Q : PySem.Fin → Shared → Prop} {S C : Addr} {oc : Obj} {cd : ClassData} {t : Tok}
  (ho : NoOp w hp)
  (hS : hp.get? S = some { cls := .type "super", data := .fields #[.ref C, .ref C, .ref C] })
  (hC : hp.get? C = some oc) (hcd : oc.data = .cls cd) (hm : cd.mro = [.ref C, .type "object"])
  (h : wpAny (model prog w) A (call (.builtin "classmethod_descriptor.__get__") [.builtin "object.__init_subclass__", .none, .ref C]) (fun v s' => Q (.done (.ret v)) s') E ⟨hp, gg, dd, tt, oo⟩) :
  wpAny (model prog w) A (Builtin.«super.__getattribute__» ⟨[.ref S, .str (PySem.Str.ofString "__init_subclass__") t], []⟩) Q E ⟨hp, gg, dd, tt, oo⟩ := by
  wp_walk using no_opq ho (show #[Value.ref C, Value.ref C, Value.ref C][2] = Value.ref C from rfl)
  rw [hcd]
  refine wpAny_pure (wpAny_pure ?_)
  rw [hm]
  have e : List.drop 1 (List.dropWhile (fun x => x != #[Value.ref C, Value.ref C, Value.ref C][0]) [Value.ref C, Value.type "object"]) = [.type "object"] := by simp [List.dropWhile]
  dsimp only
  rw [e]
  simp only [List.forIn_cons, List.forIn_nil]
  refine wpAny_bind (wpAny_bind (wpAny_bind (wpAny_of_eq own_init ?_)))
  refine wpAny_bind (wpAny_of_eq ty_cm (wpAny_bind (wpAny_of_eq look_cm ?_)))
  have e1 : (#[Value.ref C, Value.ref C, Value.ref C][1] == #[Value.ref C, Value.ref C, Value.ref C][2]) = true := by simp
  dsimp only
  rw [if_pos e1]
  refine wpAny_bind (wpAny_holding (wpAny_mono h (fun v s' q => ?_) fun _ _ e => e))
  wp_walk
  exact q
end D54
end
section
open PySem PySem.W PySem.W.X PyProof.Rows PySem.Calls
set_option maxRecDepth 100000
namespace D54
/-- an iterator over a written text -/
abbrev SI (h : Heap) (i : Addr) (l : List Nat) (t : Tok) (k : Nat) : Prop := h.IsStrIter i "str_ascii_iterator" (tx l) t k
theorem SI.at {h h' : Heap} {i : Addr} {l : List Nat} {t : Tok} {k : Nat} (x : SI h i l t k) (hk : ∀ o, h.get? i = some o → h'.get? i = some o) : SI h' i l t k := by
  obtain ⟨o, ho, r⟩ := x; exact ⟨o, hk o ho, r⟩
theorem SI.lt {h : Heap} {i : Addr} {l : List Nat} {t : Tok} {k : Nat} (x : SI h i l t k) : i < h.objs.size := by obtain ⟨o, ho, r⟩ := x; exact Heap.lt_size ho
/-- the five objects of a zip lie apart -/
structure ZA (z TI TO i1 i2 : Addr) : Prop where
  a1 : TI ≠ z
  a2 : TO ≠ z
  a3 : i1 ≠ z
  a4 : i2 ≠ z
  a5 : TI ≠ TO
  a6 : TI ≠ i1
  a7 : TI ≠ i2
  a8 : TO ≠ i1
  a9 : TO ≠ i2
  a10 : i1 ≠ i2
section
variable {w : World} {A : Around} {E : Value → Shared → Prop} {s : Shared}
theorem zs_item {z TI TO i1 i2 : Addr} {l1 l2 : List Nat} {t1 t2 : Tok} {k c1 c2 : Nat} {a b : Value} {Q : Value → Shared → Prop} (D : ZA z TI TO i1 i2)
    (hz : IsZip s.heap z TI TO .none) (hTI : IsPair s.heap TI (.ref i1) (.ref i2)) (hTO : IsPair s.heap TO a b) (h1 : SI s.heap i1 l1 t1 k) (h2 : SI s.heap i2 l2 t2 k) (hx : l1[k]? = some c1) (hy : l2[k]? = some c2)
    (hQ : ∀ h' tk u v, IsZip h' z TI TO (rawInt s.heap.objs.size) → IsPair h' TO (.str (tx [c1]) u) (.str (tx [c2]) v) → SI h' i1 l1 t1 (k + 1) → SI h' i2 l2 t2 (k + 1) → IsPair h' s.heap.objs.size (.str (tx [c1]) u) (.str (tx [c2]) v) →
      (∀ c o, c ≠ z → c ≠ TO → c ≠ i1 → c ≠ i2 → s.heap.get? c = some o → h'.get? c = some o) → Q (.ref s.heap.objs.size) { s with heap := h', toks := tk }) :
    wpAny (model prog w) A (Builtin.«zip.__next__» ⟨[.ref z], []⟩) (fun fin s' => ∃ v, fin = .done (.ret v) ∧ Q v s') E s := by
  have hx' : (tx l1).cps[k]? = some c1 := by simpa [tx] using hx
  have hy' : (tx l2).cps[k]? = some c2 := by simpa [tx] using hy
  show wpAny _ _ (field (.ref z) 2 >>= _) _ _ _
  refine wpAny_bind (wpAny_field hz rfl (x := .bool false) rfl ?_)
  show wpAny _ _ (field (.ref z) 3 >>= _) _ _ _
  refine wpAny_bind (wpAny_field hz rfl (x := .ref TI) rfl (wpAny_bind (wpAny_seqItems hTI rfl ?_)))
  show wpAny _ _ (Builtin.SmallTypes.ownedTupleIsFree (.ref z) >>= _) _ _ _
  refine wpAny_bind ?_
  unfold Builtin.SmallTypes.ownedTupleIsFree
  refine wpAny_bind (wpAny_field hz rfl (x := .none) rfl (wpAny_pure ?_))
  simp only [if_true]
  refine wpAny_bind (wpAny_rule (wpAny_bind (wpAny_field hz rfl (x := .ref TO) rfl (wpAny_bind (wpAny_setField_rec hz (by simp) fun h₁ hz₁ hs₁ => ?_)))))
  replace hz₁ : IsZip h₁ z TI TO .ellipsis := hz₁
  refine wpAny_bind ?_
  simp only [List.zipIdx_cons, List.zipIdx_nil, List.forIn_cons, List.forIn_nil]
  refine wpAny_bind (wpAny_bind (wpAny_onRaise ?_))
  show wpAny _ _ (Builtin.SmallTypes.nextOf (.ref i1) >>= _) _ _ _
  refine wpAny_bind (wpAny_nextOf_ascii_item (h1.extBut hs₁.extBut D.a3) hx' fun h₂ h1₂ hs₂ => wpAny_pure ?_)
  have hTO₂ : IsPair h₂ TO a b := hs₂.extBut _ _ D.a8 (hs₁.extBut _ _ D.a2 hTO)
  refine wpAny_bind (wpAny_seqItems hTO₂ rfl (wpAny_bind (wpAny_updateSeq_pair hTO₂ fun h₃ hTO₃ hs₃ => wpAny_bind (wpAny_letGo (wpAny_pure ?_)))))
  refine wpAny_bind (wpAny_bind (wpAny_onRaise ?_))
  show wpAny _ _ (Builtin.SmallTypes.nextOf (.ref i2) >>= _) _ _ _
  refine wpAny_bind (wpAny_nextOf_ascii_item (((h2.extBut hs₁.extBut D.a4).extBut hs₂.extBut D.a10.symm).extBut hs₃.extBut D.a9.symm) hy' fun h₄ h2₄ hs₄ => wpAny_pure ?_)
  obtain ⟨u1, hTO₃⟩ : ∃ u, IsPair h₃ TO (.str (tx [c1]) u) b := ⟨_, hTO₃⟩
  have hTO₄ : IsPair h₄ TO (.str (tx [c1]) u1) b := hs₄.extBut _ _ D.a9 hTO₃
  refine wpAny_bind (wpAny_seqItems hTO₄ rfl (wpAny_bind (wpAny_updateSeq_pair hTO₄ fun h₅ hTO₅ hs₅ => wpAny_bind (wpAny_letGo (wpAny_pure (wpAny_pure ?_))))))
  obtain ⟨u2, hTO₅⟩ : ∃ u, IsPair h₅ TO (.str (tx [c1]) u1) (.str (tx [c2]) u) := ⟨_, hTO₅⟩
  refine wpAny_bind (wpAny_seqItems hTO₅ rfl (wpAny_bind (wpAny_newTuple ?_)))
  have hsz : h₅.objs.size = s.heap.objs.size := by rw [hs₅.1, hs₄.1, hs₃.1, hs₂.1, hs₁.1]
  have hk₅ : ∀ c o, c ≠ z → c ≠ TO → c ≠ i1 → c ≠ i2 → s.heap.get? c = some o → h₅.get? c = some o := fun c o c1 c2 c3 c4 e =>
    hs₅.extBut _ _ c2 (hs₄.extBut _ _ c4 (hs₃.extBut _ _ c2 (hs₂.extBut _ _ c3 (hs₁.extBut _ _ c1 e))))
  have hz₅ : IsZip h₅ z TI TO .ellipsis := hs₅.extBut _ _ D.a2.symm (hs₄.extBut _ _ D.a4.symm (hs₃.extBut _ _ D.a2.symm (hs₂.extBut _ _ D.a3.symm hz₁)))
  have h1₅ : SI h₅ i1 l1 t1 (k + 1) := ((h1₂.extBut hs₃.extBut D.a8.symm).extBut hs₄.extBut D.a10).extBut hs₅.extBut D.a8.symm
  have h2₅ : SI h₅ i2 l2 t2 (k + 1) := h2₄.extBut hs₅.extBut D.a9.symm
  have hzlt : z < h₅.objs.size := Heap.lt_size hz₅
  show wpAny _ _ (Builtin.SmallTypes.ownedTupleHandOut (.ref z) (.ref h₅.objs.size) >>= _) _ _ _
  refine wpAny_bind ?_
  unfold Builtin.SmallTypes.ownedTupleHandOut
  refine wpAny_bind (wpAny_setField_rec (Heap.get?_push_of_some _ hz₅) (by simp) fun h₇ hz₇ hs₇ => ?_)
  refine wpAny_setField_rec hz₇ (by simp) fun h₈ hz₈ hs₈ => ?_
  replace hz₈ : IsZip h₈ z TI TO (rawInt h₅.objs.size) := hz₈
  have up : ∀ c o, c ≠ z → h₅.get? c = some o → h₈.get? c = some o := fun c o c1 e => hs₈.extBut _ _ c1 (hs₇.extBut _ _ c1 (Heap.get?_push_of_some _ e))
  have hT₈ : IsPair h₈ h₅.objs.size _ _ := hs₈.extBut _ _ (Nat.ne_of_gt hzlt) (hs₇.extBut _ _ (Nat.ne_of_gt hzlt) (Heap.get?_push_size _ rfl))
  rw [hsz] at hz₈ hT₈
  refine wpAny_pure ⟨_, rfl, ?_⟩
  show Q (.ref h₅.objs.size) _
  rw [hsz]
  exact hQ h₈ _ _ _ hz₈ (up _ _ D.a2 hTO₅) (h1₅.at fun o e => up _ o D.a3 e) (h2₅.at fun o e => up _ o D.a4 e) hT₈ fun c o c1 c2 c3 c4 e => up c o c1 (hk₅ c o c1 c2 c3 c4 e)
theorem zs_end {z TI TO i1 i2 : Addr} {l1 l2 : List Nat} {t1 t2 : Tok} {k : Nat} {a b : Value} {Q : Fin → Shared → Prop} (hh : A.handled = none) (D : ZA z TI TO i1 i2)
    (hz : IsZip s.heap z TI TO .none) (hTI : IsPair s.heap TI (.ref i1) (.ref i2)) (h1 : SI s.heap i1 l1 t1 k) (hx : l1[k]? = none)
    (hE : ∀ h' e, (∀ c o, c ≠ z → c ≠ i1 → s.heap.get? c = some o → h'.get? c = some o) → (∃ o, h'.get? e = some o ∧ o.cls = .type "StopIteration") → E (.ref e) { s with heap := h' }) :
    wpAny (model prog w) A (Builtin.«zip.__next__» ⟨[.ref z], []⟩) Q E s := by
  have hx' : (tx l1).cps[k]? = none := by simpa [tx] using hx
  show wpAny _ _ (field (.ref z) 2 >>= _) _ _ _
  refine wpAny_bind (wpAny_field hz rfl (x := .bool false) rfl ?_)
  show wpAny _ _ (field (.ref z) 3 >>= _) _ _ _
  refine wpAny_bind (wpAny_field hz rfl (x := .ref TI) rfl (wpAny_bind (wpAny_seqItems hTI rfl ?_)))
  show wpAny _ _ (Builtin.SmallTypes.ownedTupleIsFree (.ref z) >>= _) _ _ _
  refine wpAny_bind ?_
  unfold Builtin.SmallTypes.ownedTupleIsFree
  refine wpAny_bind (wpAny_field hz rfl (x := .none) rfl (wpAny_pure ?_))
  simp only [if_true]
  refine wpAny_bind (wpAny_rule (wpAny_bind (wpAny_field hz rfl (x := .ref TO) rfl (wpAny_bind (wpAny_setField_rec hz (by simp) fun h₁ hz₁ hs₁ => ?_)))))
  replace hz₁ : IsZip h₁ z TI TO .ellipsis := hz₁
  refine wpAny_bind ?_
  simp only [List.zipIdx_cons, List.zipIdx_nil, List.forIn_cons, List.forIn_nil]
  refine wpAny_bind (wpAny_bind (wpAny_onRaise ?_))
  show wpAny _ _ (Builtin.SmallTypes.nextOf (.ref i1) >>= _) _ _ _
  refine wpAny_bind (wpAny_nextOf_ascii_end hh (h1.extBut hs₁.extBut D.a3) hx' fun h₂ e hs₂ he => ?_)
  obtain ⟨oe, hoe, hce⟩ := he
  have hz₂ : IsZip h₂ z TI TO .ellipsis := hs₂ _ _ D.a3.symm hz₁
  have hez : e ≠ z := fun x => by subst x; rw [hz₂] at hoe; cases hoe; simp at hce
  exact wpAny_setField_rec hz₂ (by simp) fun h₃ _ hs₃ => hE h₃ e (fun c o c1 c3 x => hs₃.extBut _ _ c1 (hs₂ _ _ c3 (hs₁.extBut _ _ c1 x))) ⟨oe, hs₃.extBut _ _ hez hoe, hce⟩
theorem zs_walks (hh : A.handled = none) {z TI TO i1 i2 : Addr} {l1 l2 : List Nat} {t1 t2 : Tok} (D : ZA z TI TO i1 i2) (hl : l1.length = l2.length) :
    WalksT prog w A z [z, TI, TO, i1, i2] [z, TO, i1, i2] l1.length
      (fun i vals => ∃ x y u v, l1[i]? = some x ∧ l2[i]? = some y ∧ vals = #[.str (tx [x]) u, .str (tx [y]) v])
      (fun i h => IsZip h z TI TO .none ∧ IsPair h TI (.ref i1) (.ref i2) ∧ (∃ a b, IsPair h TO a b) ∧ SI h i1 l1 t1 i ∧ SI h i2 l2 t2 i)
      (fun i T h => IsZip h z TI TO (rawInt T) ∧ IsPair h TI (.ref i1) (.ref i2) ∧ (∃ a b, IsPair h TO a b) ∧ SI h i1 l1 t1 (i + 1) ∧ SI h i2 l2 t2 (i + 1) ∧ T ≠ z ∧ T ≠ TO ∧ T ≠ i1 ∧ T ≠ i2) where
  sub := fun c hc => by simp at hc ⊢; rcases hc with rfl | rfl | rfl | rfl <;> simp
  frame := fun i h h' hst hk => by
    obtain ⟨hz, hTI, ⟨a, b, hTO⟩, h1, h2⟩ := hst
    exact ⟨hk z (by simp) _ hz, hk TI (by simp) _ hTI, ⟨a, b, hk TO (by simp) _ hTO⟩, h1.at fun o e => hk i1 (by simp) o e, h2.at fun o e => hk i2 (by simp) o e⟩
  item := fun i s Q E hi hst hQ => by
    obtain ⟨hz, hTI, ⟨a, b, hTO⟩, h1, h2⟩ := hst
    have hT : s.TypeIs (.ref z) "zip" := ⟨_, hz, rfl⟩
    have e1 := List.getElem?_eq_getElem hi
    have e2 := List.getElem?_eq_getElem (hl ▸ hi)
    unfold pyNext
    refine wpAny_bind (wpAny_attempt (wpAny_callSpecial?_slot (name := PySem.Str.ofString "__next__") hT F.slot_zip_next
      (wpAny_call_entry F.slot_zip_next hT F.entry_zip_next
        (zs_item D hz hTI hTO h1 h2 e1 e2 fun h' tk u v a1 a2 a3 a4 a5 hk => wpAny_pure ?_) (F.args_zip_next_1 _))))
    have lt : ∀ {c o}, s.heap.get? c = some o → s.heap.objs.size ≠ c := fun e => Nat.ne_of_gt (Heap.lt_size e)
    exact hQ s.heap.objs.size _ h' tk ⟨_, _, u, v, e1, e2, rfl⟩ (Nat.le_refl _) ⟨_, a5, rfl, _, rfl⟩
      ⟨a1, hk _ _ D.a1 D.a5 D.a6 D.a7 hTI, ⟨_, _, a2⟩, a3, a4, lt hz, lt hTO, Nat.ne_of_gt h1.lt, Nat.ne_of_gt h2.lt⟩
      fun c o hc e => hk c o (fun x => hc (by simp [x])) (fun x => hc (by simp [x])) (fun x => hc (by simp [x])) (fun x => hc (by simp [x])) e
  go := fun elts k pos i T s Q E hm hQ => by
    obtain ⟨hz, hTI, ⟨a, b, hTO⟩, h1, h2, _⟩ := hm
    exact wpAny_letOwnedTupleGo_zip hz fun h' hz' hs' => hQ h' ⟨hz', hs'.extBut _ _ D.a1 hTI, ⟨a, b, hs'.extBut _ _ D.a2 hTO⟩, h1.extBut hs'.extBut D.a3, h2.extBut hs'.extBut D.a4⟩ fun c o hc e => hs'.extBut _ _ (fun x => hc (by simp [x])) e
  apart := fun i T h hm hT => by
    obtain ⟨_, _, _, _, _, t1, t2, t3, t4⟩ := hm
    simp at hT
    rcases hT with rfl | rfl | rfl | rfl
    · exact t1 rfl
    · exact t2 rfl
    · exact t3 rfl
    · exact t4 rfl
  done := fun s Q E hst hQ => by
    obtain ⟨hz, hTI, ⟨a, b, hTO⟩, h1, h2⟩ := hst
    have hT : s.TypeIs (.ref z) "zip" := ⟨_, hz, rfl⟩
    unfold pyNext
    refine wpAny_bind (wpAny_attempt (wpAny_callSpecial?_slot (name := PySem.Str.ofString "__next__") hT F.slot_zip_next
      (wpAny_call_entry F.slot_zip_next hT F.entry_zip_next (zs_end (l2 := l2) (a := a) (b := b) (t2 := t2) hh D hz hTI h1 (List.getElem?_eq_none (Nat.le_refl _)) fun h' e hk he => ?_) (F.args_zip_next_1 _))))
    obtain ⟨o, ho, hc⟩ := he
    refine wpAny_bind (wpAny_isInstance (T := "StopIteration") (b := true) ⟨o, ho, hc⟩ isSubtype_stop ?_)
    exact wpAny_pure (hQ _ _ fun c o hc e => hk c o (fun x => hc (by simp [x])) (fun x => hc (by simp [x])) e)
  self := fun i s Q E hst hQ => wpAny_pyIter_zip hst.1 hQ
end
section
variable {w : World} {A : Around} {E : Value → Shared → Prop} {s : Shared}
abbrev sit (l : List Nat) (t : Tok) : Obj := { cls := .type "str_ascii_iterator", data := .fields #[.str (tx l) t, .int 0 0] }
abbrev zh1 (h : Heap) (l1 : List Nat) (t1 : Tok) : Heap := h.push (sit l1 t1)
abbrev zh2 (h : Heap) (l1 l2 : List Nat) (t1 t2 : Tok) : Heap := (zh1 h l1 t1).push (sit l2 t2)
abbrev zh3 (h : Heap) (l1 l2 : List Nat) (t1 t2 : Tok) : Heap := (zh2 h l1 l2 t1 t2).push { cls := .type "tuple", data := .seq #[.ref h.objs.size, .ref (zh1 h l1 t1).objs.size] }
abbrev zh4 (h : Heap) (l1 l2 : List Nat) (t1 t2 : Tok) : Heap := (zh3 h l1 l2 t1 t2).push { cls := .type "tuple", data := .seq #[.none, .none] }
abbrev zh5 (h : Heap) (l1 l2 : List Nat) (t1 t2 : Tok) : Heap := (zh4 h l1 l2 t1 t2).push { cls := .type "zip", data := .fields #[.none, .bool false, .bool false, .ref (zh2 h l1 l2 t1 t2).objs.size, .ref (zh3 h l1 l2 t1 t2).objs.size] }
theorem tx_ascii {l : List Nat} (h : ∀ c ∈ l, c < 128) : (tx l).cps.all (· < 128) = true := by
  rw [Array.all_eq_true_iff_forall_mem]
  intro c hc
  exact decide_eq_true (h c (by simpa [tx] using hc))
set_option maxHeartbeats 4000000 in
theorem zs_new (l1 l2 : List Nat) (t1 t2 : Tok) (ha : ∀ c ∈ l1, c < 128) (hb : ∀ c ∈ l2, c < 128) :
    Meets (Builtin.«zip.__new__» ⟨[.type "zip", .str (tx l1) t1, .str (tx l2) t2], []⟩) (fun _ R s => R (.ok (.ret (.ref (zh4 s.heap l1 l2 t1 t2).objs.size))) { s with heap := zh5 s.heap l1 l2 t1 t2 }) :=
  .of_wp fun prog w A R s h => by
    obtain ⟨hp, g, d, tk, os⟩ := s
    have hsub := sub_zip
    have h1 := tx_ascii ha
    have h2 := tx_ascii hb
    wp_walk using wpAny_pyIter_ascii h1, wpAny_pyIter_ascii h2
    exact ⟨_, rfl, h⟩
theorem zs_call {l1 l2 : List Nat} {t1 t2 : Tok} {Q : Value → Shared → Prop} (ha : ∀ c ∈ l1, c < 128) (hb : ∀ c ∈ l2, c < 128)
    (h : ∀ h', IsZip h' (s.heap.objs.size + 4) (s.heap.objs.size + 2) (s.heap.objs.size + 3) .none → IsPair h' (s.heap.objs.size + 2) (.ref s.heap.objs.size) (.ref (s.heap.objs.size + 1)) →
      IsPair h' (s.heap.objs.size + 3) .none .none → SI h' s.heap.objs.size l1 t1 0 → SI h' (s.heap.objs.size + 1) l2 t2 0 → h'.objs.size = s.heap.objs.size + 5 → Ext s.heap h' → Q (.ref (s.heap.objs.size + 4)) { s with heap := h' }) :
    wpAny (model prog w) A (call (.type "zip") [.str (tx l1) t1, .str (tx l2) t2]) Q E s := by
  refine callType_new F.called_zip (by decide) (F.typeCall_zip_2 _ _) (F.newCall_zip_2 _ _) (fun obj => F.args_object_init_3 obj _ _) F.entry_zip_new
    (zs_new l1 l2 t1 t2 ha hb) ?_
  have z1 : (zh1 s.heap l1 t1).objs.size = s.heap.objs.size + 1 := Heap.size_push ..
  have z2 : (zh2 s.heap l1 l2 t1 t2).objs.size = s.heap.objs.size + 2 := by rw [Heap.size_push, z1]
  have z3 : (zh3 s.heap l1 l2 t1 t2).objs.size = s.heap.objs.size + 3 := by rw [Heap.size_push, z2]
  have z4 : (zh4 s.heap l1 l2 t1 t2).objs.size = s.heap.objs.size + 4 := by rw [Heap.size_push, z3]
  have z5 : (zh5 s.heap l1 l2 t1 t2).objs.size = s.heap.objs.size + 5 := by rw [Heap.size_push, z4]
  have g5 : (zh5 s.heap l1 l2 t1 t2).get? (zh4 s.heap l1 l2 t1 t2).objs.size = some _ := Heap.get?_push_size _ rfl
  have g4 : (zh5 s.heap l1 l2 t1 t2).get? (zh3 s.heap l1 l2 t1 t2).objs.size = some _ := Heap.get?_push_of_some _ (Heap.get?_push_size _ rfl)
  have g3 : (zh5 s.heap l1 l2 t1 t2).get? (zh2 s.heap l1 l2 t1 t2).objs.size = some _ := Heap.get?_push_of_some _ (Heap.get?_push_of_some _ (Heap.get?_push_size _ rfl))
  have g2 : (zh5 s.heap l1 l2 t1 t2).get? (zh1 s.heap l1 t1).objs.size = some _ := Heap.get?_push_of_some _ (Heap.get?_push_of_some _ (Heap.get?_push_of_some _ (Heap.get?_push_size _ rfl)))
  have g1 : (zh5 s.heap l1 l2 t1 t2).get? s.heap.objs.size = some _ := Heap.get?_push_of_some _ (Heap.get?_push_of_some _ (Heap.get?_push_of_some _ (Heap.get?_push_of_some _ (Heap.get?_push_size _ rfl))))
  show _ ∧ _
  rw [z2, z3, z4] at g5
  rw [z1, z2] at g3
  rw [z3] at g4
  rw [z1] at g2
  rw [z4]
  exact ⟨⟨_, g5, rfl⟩, h _ g5 g3 g4 ⟨_, g1, rfl, rfl⟩ ⟨_, g2, rfl, rfl⟩ z5 fun c o x =>
    Heap.get?_push_of_some _ (Heap.get?_push_of_some _ (Heap.get?_push_of_some _ (Heap.get?_push_of_some _ (Heap.get?_push_of_some _ x))))⟩
theorem za_new (n : Nat) : ZA (n + 4) (n + 2) (n + 3) n (n + 1) := by constructor <;> (intro e; have e' : (_ : Nat) = _ := e; (first | exact om128 e' | exact om129 e' | exact om130 e' | exact om131 e' | exact om132 e' | exact om133 e' | exact om134 e' | exact om135 e' | exact om136 e' | exact om137 e'))
end
end D54
end
section
open PySem PySem.W PySem.W.X PyProof.Rows PySem.Calls
set_option maxRecDepth 100000
namespace D54
inductive Dl : {α : Type} → Sem α → Prop where
  | h1 {x1 x2} : Dl (nsDel x1 x2)
  | h2 {x1} : Dl (lookBehind x1)
  | h3 {x1 x2} : Dl (lookBehind x1 x2)
  | h4 {x1} : Dl (Bind.refreshMaker x1)
  | h5 {x1 x2} : Dl (typeLookup (.ref x1) x2)
  | h6 {x1} : Dl (mroOf (.ref x1))
  | h7 {x1 x2} : Dl (classOwn (.ref x1) x2)
  | h8 {x1 x2 x3 x4} : Dl (Builtin.Slots.install x1 x2 x3 x4)
  | h9 {x1 x2 x3} : Dl (nsSetByValue x1 x2 x3)
  | h10 {x1 x2 x3} : Dl (nsSet x1 x2 x3)
  | h11 {x1} : Dl (strHash x1)
  | h12 {x1} : Dl (asStr? x1)
  | h13 {x1 x2} : Dl (isInstance x1 x2)
  | h14 {x1} : Dl (typeOf x1)
  | h15 {x1} : Dl (dictEntries x1)
  | h16 {x1 x2} : Dl (dictEntries x1 x2)
  | h17 {x1 x2} : Dl (nsGet x1 x2)
  | h18 {x1} : Dl (seqItems? x1)
  | h19 {x1 x2} : Dl (specialOf x1 x2)
  | h20 {x1 x2} : Dl (newObj x1 x2)
  | h21 {x1 x2 x3} : Dl (newObj x1 x2 x3)
  | h22 {x1 x2} : Dl (newObjAsIs x1 x2)
  | h23 {x1 x2 x3} : Dl (newObjAsIs x1 x2 x3)
  | h24 {x1 x2 x3} : Dl (setSlotAt x1 x2 x3)
  | h25 {x1 x2} : Dl (updateCls x1 x2)
  | h26 {x1} : Dl (classData x1)
  | h27 {x1} : Dl (mkText x1)
  | h28 {x1 x2} : Dl (newFields x1 x2)
  | h29 {x1 x2} : Dl (slotAt x1 x2)
  | h30 {x1 x2} : Dl (field x1 x2)
  | h31 {x1 x2 x3} : Dl (setField x1 x2 x3)
theorem isT {α : Type} {M : Model} {A : Around} {E : Value → Shared → Prop} {s : Shared} {Q : α → Shared → Prop} {t : Sem α} (k : Dl t) (h : wpAny M A t Q E s) : wpAny M A t Q E s := h
/-- an entry of a class's names -/
abbrev en (n : String) (h : Int) (t : Tok) (v : Value) : DictEntry := ⟨h, .str (PySem.Str.ofString n) t, v⟩
theorem c_tup : isSubtype (.type "tuple") (.type "tuple") = pure true := by kernel_rfl
theorem c_dict : isSubtype (.type "dict") (.type "dict") = pure true := by kernel_rfl
theorem c_type : isSubtype (.type "type") (.type "type") = pure true := by kernel_rfl
theorem c_isT : isType (.type "object") = pure true := by kernel_rfl
theorem c_tyO : typeOf (.type "object") = pure (.type "type") := by kernel_rfl
theorem c_turn : Builtin.notOverATurnedClass [.type "object"] = pure () := by kernel_rfl
theorem c_ext : Builtin.extendedBase [.type "object"] = pure (.type "object") := by kernel_rfl
theorem c_iter : typeLookup (.type "dict") (PySem.Str.ofString "__iter__") = pure (some (.builtin "dict.__iter__")) := by kernel_rfl
theorem c_new : classOwn (.type "object") (PySem.Str.ofString "__new__") = pure (some (.builtin "object.__new__")) := by kernel_rfl
theorem c_best : Builtin.Slots.bestBase [.type "object"] = pure (.type "object") := by kernel_rfl
theorem c_sno : Builtin.Slots.slotNamesOf (.type "object") = pure [] := by kernel_rfl
theorem c_gd : Builtin.Slots.givesDict (.type "object") = pure false := by kernel_rfl
theorem c_gw : Builtin.Slots.givesWeak (.type "object") = pure false := by kernel_rfl
theorem c_vs : Builtin.Slots.varSize (.type "object") = pure false := by kernel_rfl
theorem c_hook : Builtin.mroHook? (.type "type") = pure none := by kernel_rfl
theorem c_lin : Builtin.linearize [.type "object"] mroOf = pure [.type "object"] := by kernel_rfl
theorem c_made : Bind.madeBy (.type "object") = pure (some "object.__new__") := by kernel_rfl
inductive Fl : {α : Type} → Sem α → α → Prop where
  | tup : Fl (isSubtype (.type "tuple") (.type "tuple")) true
  | dict : Fl (isSubtype (.type "dict") (.type "dict")) true
  | type : Fl (isSubtype (.type "type") (.type "type")) true
  | isT : Fl (isType (.type "object")) true
  | tyO : Fl (typeOf (.type "object")) (.type "type")
  | turn : Fl (Builtin.notOverATurnedClass [.type "object"]) ()
  | ext : Fl (Builtin.extendedBase [.type "object"]) (.type "object")
  | iter : Fl (typeLookup (.type "dict") (PySem.Str.ofString "__iter__")) (some (.builtin "dict.__iter__"))
  | new : Fl (classOwn (.type "object") (PySem.Str.ofString "__new__")) (some (.builtin "object.__new__"))
  | best : Fl (Builtin.Slots.bestBase [.type "object"]) (.type "object")
  | sno : Fl (Builtin.Slots.slotNamesOf (.type "object")) []
  | gd : Fl (Builtin.Slots.givesDict (.type "object")) false
  | gw : Fl (Builtin.Slots.givesWeak (.type "object")) false
  | vs : Fl (Builtin.Slots.varSize (.type "object")) false
  | hook : Fl (Builtin.mroHook? (.type "type")) none
  | lin : Fl (Builtin.linearize [.type "object"] mroOf) ([.type "object"])
  | made : Fl (Bind.madeBy (.type "object")) (some "object.__new__")
theorem isF {α : Type} {M : Model} {A : Around} {E : Value → Shared → Prop} {s : Shared} {Q : α → Shared → Prop} {t : Sem α} {a : α} (k : Fl t a) (h : Q a s) : wpAny M A t Q E s := by
  refine wpAny_of_eq ?_ h
  cases k with
  | tup => exact c_tup
  | dict => exact c_dict
  | type => exact c_type
  | isT => exact c_isT
  | tyO => exact c_tyO
  | turn => exact c_turn
  | ext => exact c_ext
  | iter => exact c_iter
  | new => exact c_new
  | best => exact c_best
  | sno => exact c_sno
  | gd => exact c_gd
  | gw => exact c_gw
  | vs => exact c_vs
  | hook => exact c_hook
  | lin => exact c_lin
  | made => exact c_made
def Fi {α β : Type} (M : Model) (A : Around) (f : α → β → Sem (ForInStep β)) (xs : List α) (Q : β → Shared → Prop) (E : Value → Shared → Prop) : ForInStep β → Shared → Prop
  | .done b, s => Q b s
  | .yield b, s => wpAny M A (forIn xs b f) Q E s
section
variable {α β : Type} {M : Model} {A : Around} {f : α → β → Sem (ForInStep β)} {x : α} {xs l : List α} {b : β} {Q : β → Shared → Prop} {E : Value → Shared → Prop} {s : Shared}
theorem Fi.y (h : wpAny M A (forIn xs b f) Q E s) : Fi M A f xs Q E (.yield b) s := h
theorem Fi.d (h : Q b s) : Fi M A f xs Q E (.done b) s := h
theorem fi_cons (e : l = x :: xs) (h : wpAny M A (f x b) (Fi M A f xs Q E) E s) : wpAny M A (forIn l b f) Q E s := by
  subst e
  rw [List.forIn_cons]
  refine wpAny_bind (wpAny_mono h (fun r s' q => ?_) fun _ _ e => e)
  cases r with
  | done b => exact wpAny_pure q
  | yield b => exact q
theorem fi_nil (e : l = []) (h : Q b s) : wpAny M A (forIn l b f) Q E s := by
  subst e
  rw [List.forIn_nil]
  exact wpAny_pure h
theorem fi_arr {a : Array α} (h : wpAny M A (forIn a.toList b f) Q E s) : wpAny M A (forIn a b f) Q E s := by
  rw [← Array.forIn_toList]; exact h
end
end D54
end
section
open PySem PySem.W PySem.W.X PyProof.Rows PySem.Calls
set_option maxRecDepth 100000
namespace D54
local macro_rules | `(tactic| walk_at "D54 r") => `(tactic| repeat (first
  | with_reducible (first | refine wpAny_bind ?_ | refine wpAny_pure ?_)
  | with_reducible (refine' isF ?he ?_; case he => constructor)
  | ((with_reducible (refine isT ?hk ?_; case hk => constructor)); wp_delta)
  | with_reducible (first | refine wpAny_holding ?_ | refine wpAny_standAt ?_ | refine wpAny_point ?_ | refine wpAny_rule ?_ | refine wpAny_mkInt' ?_ | refine wpAny_fresh' ?_ | refine wpAny_alloc' ?_ | refine wpAny_throw ?_ | refine wpAny_askSetting ?_ | refine wpAny_tryCatch ?_ | refine Fi.y ?_ | refine Fi.d ?_)
  | ((with_reducible refine' wpAny_mkStr ?_ ?hi); (case hi => size_fits))
  | ((with_reducible (first | refine' wpAny_load' ?hl ?_ | refine' wpAny_loadPart' ?hl ?_)); (case hl => (heap_get; done)))
  | ((with_reducible refine wpAny_ite_false ?hi ?_); (case hi => rfl)) | ((with_reducible refine wpAny_ite_true ?hi ?_); (case hi => rfl))
  | ((with_reducible refine' fi_cons ?he ?_); case he => rfl) | ((with_reducible refine' fi_nil ?he ?_); case he => rfl) | with_reducible wp_delta))
local macro_rules | `(tactic| walk_at "D54 om") => `(tactic| first | exact om352 (by assumption) | exact om353 (by assumption) | exact om372 (by assumption) | exact om336 (by assumption) (by assumption) | omega)
local macro_rules | `(tactic| walk_at "D54 ne") => `(tactic| first | exact om194 (by assumption) | exact om195 (by assumption) (by assumption) | exact om196 (by assumption) (by assumption) (by assumption) | exact om197 (by assumption) (by assumption) (by assumption) | exact om198 (by assumption) (by assumption) (by assumption) | k_ne)
local macro_rules | `(tactic| k_room) => `(tactic| ((try simp only [depth_mark, depth_under_make, depth_under_kw, depth_in1, depth_deeper]); (try dsimp only); walk_at "D54 om"))
local macro_rules | `(tactic| k_units) => `(tactic| ((try dsimp only [Around.deeper, Around.in1, Around.under, Around.mark]); (show _ < (9900 : Nat)); walk_at "D54 om"))
local macro_rules | `(tactic| walk_at "eval Name") => `(tactic| ((with_reducible show wpAny _ _ (eval _ (envOf _ _ _ _ _)) _ _ _); k_here; k_dflt (refine' ld ?k1 ?k2 ?_; (case k1 => k_asm); (case k2 => first | exact rfl | assumption); k_whole)))
local macro_rules | `(tactic| walk_at "eval Name") => `(tactic| ((with_reducible show wpAny _ _ (eval _ (envOfC _ _ _ _ _)) _ _ _); k_here; k_dflt (refine' ldLoc ?k1 ?k2 ?_; (case k1 => k_asm); (case k2 => first | exact rfl | assumption); k_whole)))
local macro_rules | `(tactic| walk_at "exec While") => `(tactic| refine haltW ?_)
local macro_rules | `(tactic| walk_at "exec For") => `(tactic| refine haltF ?_)
local macro_rules | `(tactic| walk_at "call ref") => `(tactic| refine haltC ?_)
local macro_rules | `(tactic| walk_at "D54 up") => `(tactic| repeat (with_reducible refine upP (by assumption) ?_))
local macro_rules | `(tactic| walk_at "D54 go") => `(tactic| ((try (with_reducible refine hideP ?_; intro _ _)); (repeat' (first | walk1 | (dsimp only; walk1))); all_goals walk_at "D54 up"))
local macro_rules | `(tactic| walk_at "D54 end") => `(tactic| (walk_at "D54 up"; refine End.mk' rfl ?_))
local macro_rules | `(tactic| walk_at "loadName") => `(tactic| ((with_reducible show wpAny _ _ (loadName (envOf _ _ _ _ _) _) _ _ _); k_here; k_dflt (refine' ldn ?k1 ?k2 ?_; (case k1 => k_asm); (case k2 => first | exact rfl | assumption); k_whole)))
local macro_rules | `(tactic| walk_at "subscriptTail Name Slice str ref") => `(tactic| ((with_reducible rename Fr _ _ _ _ => F'); (with_reducible rename News _ _ _ _ => N'); first
  | (refine sl_sn (s := ⟨_, _, _, _, _⟩) ?hp F' N' ?_ ?hs ?ht ?hsz; (case hp => walk_at "D54 om"); (case hs => with_unfolding_all rfl); (case ht => (intro _; with_unfolding_all rfl)); (case hsz => walk_at "D54 om"); intro _ _ _ _ _)
  | (refine sl_nn (s := ⟨_, _, _, _, _⟩) F' N' ?_ ?hs ?ht ?hsz; (case hs => with_unfolding_all rfl); (case ht => (intro _; with_unfolding_all rfl)); (case hsz => walk_at "D54 om"); intro _ _ _ _ _)
  | (refine sl_ns (s := ⟨_, _, _, _, _⟩) ?h0 ?hq F' N' ?_ ?hs ?ht ?hsz; (case h0 => walk_at "D54 om"); (case hq => walk_at "D54 om"); (case hs => with_unfolding_all rfl); (case ht => (intro _; with_unfolding_all rfl)); (case hsz => walk_at "D54 om"); intro _ _ _ _ _)))
local macro_rules | `(tactic| walk_at "truthy str") => `(tactic| ((first | with_reducible refine truthy_drop ?hsz ?_ | with_reducible refine truthy_take ?hsz ?_ | refine truthy_self ?hsz ?_); (case hsz => walk_at "D54 om")))
local macro_rules | `(tactic| walk_at "eval ListComp") => `(tactic| refine haltLC ?_)
-- D54New1
/-- the names of the class's body -/
def esK (h1 h2 h3 h4 h5 h6 h7 h8 h9 h10 h11 h12 : Int) (t1 t2 t3 t4 t5 t6 t7 t8 t9 t10 t11 t12 u1 u2 u3 : Tok) (fl f1 f2 f3 f4 f5 f6 fs : Addr) : Array DictEntry :=
  #[en "__module__" h1 t1 (.str (PySem.Str.ofString "cpy313.functools") u1), en "__qualname__" h2 t2 (.str (PySem.Str.ofString "cmp_to_key.<locals>.K") u2), en "__firstlineno__" h3 t3 (.int 52 u3),
     en "__slots__" h4 t4 (.ref fl), en "__init__" h5 t5 (.ref f1), en "__lt__" h6 t6 (.ref f2), en "__gt__" h7 t7 (.ref f3), en "__eq__" h8 t8 (.ref f4), en "__le__" h9 t9 (.ref f5), en "__ge__" h10 t10 (.ref f6), en "__hash__" h11 t11 .none, en "__static_attributes__" h12 t12 (.ref fs)]
set_option maxHeartbeats 2000000 in
theorem slots_read {w : World} {A : Around} {E : Value → Shared → Prop} {hp : Heap} {gg : Array GenState} {dd : Drawn} {tt : Nat} {oo : OsState} {Q : Builtin.Slots.Plan → Shared → Prop} {es : Array DictEntry} {e : DictEntry} {fl : Addr} {v : Tok} {n : Nat}
  (hf : es.find? (fun x => x.key.isStr (PySem.Str.ofString "__slots__")) = some e) (he : e.val = .ref fl)
  (hno : (es.any fun x => x.key.isStr (PySem.Str.ofString "obj")) = false)
  (hfl : hp.get? fl = some { cls := .type "list", data := .seq #[.str (PySem.Str.ofString "obj") v] })
  (hQ : ∀ h' tk, Ext hp h' → Q { names := [PySem.Str.ofString "obj"], dict := false, weak := false, inherited := [] } ⟨h', gg, dd, tk, oo⟩) :
  wpAny (model prog w) A (Builtin.Slots.read (PySem.Str.ofString "K") [.type "object"] es) Q E ⟨hp, gg, dd, tt, oo⟩ := by
  have ei : Builtin.Slots.isIdentifier (PySem.Str.ofString "obj") = some true := by kernel_rfl
  have em : Builtin.Slots.mangle (PySem.Str.ofString "K") (PySem.Str.ofString "obj") = PySem.Str.ofString "obj" := by kernel_rfl
  wp_delta
  walk_at "D54 r"
  repeat ((first | ((with_reducible (first | apply wpAny_update' | apply wpAny_updatePart')); focus (heap_get; done))); walk_at "D54 r")
  rw [hf]
  walk_at "D54 r"
  repeat ((first | ((with_reducible (first | apply wpAny_update' | apply wpAny_updatePart')); focus (heap_get; done))); walk_at "D54 r")
  rw [he]
  walk_at "D54 r"
  repeat ((first | ((with_reducible (first | apply wpAny_update' | apply wpAny_updatePart')); focus (heap_get; done))); walk_at "D54 r")
  refine collect_list (s := ⟨hp, gg, dd, tt, oo⟩) (vs := [.str (PySem.Str.ofString "obj") v]) ⟨_, hfl, rfl, 0, rfl⟩ ?_
  have X : Ext hp ((hp.push (seqObj "list" #[] 0)).update hp.objs.size (Obj.mapSeq (· ++ List.toArray [.str (PySem.Str.ofString "obj") v]))) := fun b o e =>
    (Heap.get?_update_other _ _ (Nat.ne_of_gt (Heap.lt_size e))).trans (Heap.get?_push_of_some _ e)
  revert X
  generalize ((hp.push (seqObj "list" #[] 0)).update hp.objs.size (Obj.mapSeq (· ++ List.toArray [.str (PySem.Str.ofString "obj") v]))) = hx
  intro X
  walk_at "D54 r"
  repeat ((first | ((with_reducible (first | apply wpAny_update' | apply wpAny_updatePart')); focus (heap_get; done))); walk_at "D54 r")
  rw [ei]
  walk_at "D54 r"
  repeat ((first | ((with_reducible (first | apply wpAny_update' | apply wpAny_updatePart')); focus (heap_get; done))); walk_at "D54 r")
  refine fi_arr ?_
  refine fi_cons (x := PySem.Str.ofString "obj") (xs := []) rfl ?_
  dsimp only
  rw [em]
  walk_at "D54 r"
  repeat ((first | ((with_reducible (first | apply wpAny_update' | apply wpAny_updatePart')); focus (heap_get; done))); walk_at "D54 r")
  rw [hno]
  walk_at "D54 r"
  repeat ((first | ((with_reducible (first | apply wpAny_update' | apply wpAny_updatePart')); focus (heap_get; done))); walk_at "D54 r")
  exact hQ hx _ X
/-- two new objects, all else kept -/
structure St2 (hp : Heap) (n a : Addr) (h : Heap) (dn co : Obj) : Prop where
  keep : Ext hp h
  nn : h.get? n = some dn
  aa : h.get? a = some co
  fn : hp.get? n = none
  fa : hp.get? a = none
  ne : n ≠ a
section
variable {M : Model} {A : Around} {E : Value → Shared → Prop} {hp h : Heap} {g : Array GenState} {d : Drawn} {t : Nat} {os : OsState} {n a : Addr} {dn co : Obj} {p : Option Value} {f : Obj → Obj} {Q : Unit → Shared → Prop}
theorem St2.up_a (S : St2 hp n a h dn co) (hf : (f co).isFreed = false) (hq : ∀ h', St2 hp n a h' dn (f co) → Q () ⟨h', g, d, t, os⟩) : wpAny M A (updatePart a p f) Q E ⟨h, g, d, t, os⟩ := by
  refine wpAny_updatePart' S.aa (hq _ ?_)
  refine ⟨fun b o e => (Heap.get?_update_other _ _ (fun z : a = b => ?_)).trans (S.keep b o e), (Heap.get?_update_other _ _ S.ne.symm).trans S.nn, Heap.get?_update_self _ S.aa hf, S.fn, S.fa, S.ne⟩
  rw [← z, S.fa] at e; cases e
theorem St2.up_n (S : St2 hp n a h dn co) (hf : (f dn).isFreed = false) (hq : ∀ h', St2 hp n a h' (f dn) co → Q () ⟨h', g, d, t, os⟩) : wpAny M A (updatePart n p f) Q E ⟨h, g, d, t, os⟩ := by
  refine wpAny_updatePart' S.nn (hq _ ?_)
  refine ⟨fun b o e => (Heap.get?_update_other _ _ (fun z : n = b => ?_)).trans (S.keep b o e), Heap.get?_update_self _ S.nn hf, (Heap.get?_update_other _ _ S.ne).trans S.aa, S.fn, S.fa, S.ne⟩
  rw [← z, S.fn] at e; cases e
theorem St2.up_a' (S : St2 hp n a h dn co) (hf : (f co).isFreed = false) (hq : ∀ h', St2 hp n a h' dn (f co) → Q () ⟨h', g, d, t, os⟩) : wpAny M A (update a f) Q E ⟨h, g, d, t, os⟩ := by
  refine wpAny_update' S.aa (hq _ ?_)
  refine ⟨fun b o e => (Heap.get?_update_other _ _ (fun z : a = b => ?_)).trans (S.keep b o e), (Heap.get?_update_other _ _ S.ne.symm).trans S.nn, Heap.get?_update_self _ S.aa hf, S.fn, S.fa, S.ne⟩
  rw [← z, S.fa] at e; cases e
theorem St2.ext (S : St2 hp n a h dn co) {h' : Heap} (k : Ext h h') : St2 hp n a h' dn co := ⟨S.keep.trans k, k _ _ S.nn, k _ _ S.aa, S.fn, S.fa, S.ne⟩
end
-- D54New2
abbrev dO (es : Array DictEntry) (n : Nat) : Obj := { cls := .type "dict", data := .dict es n }
/-- a value whose class knows no __set_name__ -/
def ValOk (h : Heap) (v : Value) : Prop := ∃ T, typeLookup (.type T) (PySem.Str.ofString "__set_name__") = pure none ∧ ((∃ b o, v = .ref b ∧ h.get? b = some o ∧ o.cls = .type T) ∨ typeOf v = pure (.type T))
theorem ValOk.keeps {h h' : Heap} {v : Value} (x : ValOk h v) (k : Ext h h') : ValOk h' v := by
  obtain ⟨T, e, r⟩ := x
  refine ⟨T, e, ?_⟩
  rcases r with ⟨b, o, rfl, ho, hc⟩ | r
  · exact .inl ⟨b, o, rfl, k _ _ ho, hc⟩
  · exact .inr r
theorem special_ok {M : Model} {A : Around} {E : Value → Shared → Prop} {s : Shared} {v : Value} {Q : Option Value → Shared → Prop} (V : ValOk s.heap v) (hq : Q none s) : wpAny M A (specialOf v (PySem.Str.ofString "__set_name__")) Q E s := by
  obtain ⟨T, e, r⟩ := V
  rcases r with ⟨b, o, rfl, ho, hc⟩ | r
  · exact wpAny_specialOf ⟨o, ho, hc⟩ e hq
  · exact wpAny_specialOf_val r e hq
theorem sn_list : typeLookup (.type "list") (PySem.Str.ofString "__set_name__") = pure none := by rw [typeLookup_type, builtinLookup_eq_fast]; kernel_rfl
theorem sn_str : typeLookup (.type "str") (PySem.Str.ofString "__set_name__") = pure none := by rw [typeLookup_type, builtinLookup_eq_fast]; kernel_rfl
theorem sn_int : typeLookup (.type "int") (PySem.Str.ofString "__set_name__") = pure none := by rw [typeLookup_type, builtinLookup_eq_fast]; kernel_rfl
theorem sn_none : typeLookup (.type "NoneType") (PySem.Str.ofString "__set_name__") = pure none := by rw [typeLookup_type, builtinLookup_eq_fast]; kernel_rfl
theorem sn_fn : typeLookup (.type "function") (PySem.Str.ofString "__set_name__") = pure none := by rw [typeLookup_type, builtinLookup_eq_fast]; kernel_rfl
theorem sn_tup : typeLookup (.type "tuple") (PySem.Str.ofString "__set_name__") = pure none := by rw [typeLookup_type, builtinLookup_eq_fast]; kernel_rfl
theorem sn_md : typeLookup (.type "member_descriptor") (PySem.Str.ofString "__set_name__") = pure none := by rw [typeLookup_type, builtinLookup_eq_fast]; kernel_rfl
section
variable {α β : Type} {M : Model} {A : Around} {f : α → β → Sem (ForInStep β)} {b : β} {Q : β → Shared → Prop} {E : Value → Shared → Prop} {s : Shared}
theorem fi_same : ∀ {l : List α}, (∀ x ∈ l, ∀ R : ForInStep β → Shared → Prop, R (.yield b) s → wpAny M A (f x b) R E s) → Q b s → wpAny M A (forIn l b f) Q E s
  | [], _, q => fi_nil rfl q
  | x :: l, h, q => fi_cons rfl (h x (.head _) _ (fi_same (fun y hy => h y (.tail _ hy)) q))
end
/-- what the class's making asks of its names -/
structure NK (hp : Heap) (es es1 : Array DictEntry) (q : PySem.Str) (u : Tok) (f4 : Addr) : Prop where
  slots : ∃ e fl v, es.find? (fun x => x.key.isStr (PySem.Str.ofString "__slots__")) = some e ∧ e.val = .ref fl ∧ hp.get? fl = some { cls := .type "list", data := .seq #[.str (PySem.Str.ofString "obj") v] }
  noobj : (es.any fun x => x.key.isStr (PySem.Str.ofString "obj")) = false
  nodel : (es.any fun x => x.key.isStr (PySem.Str.ofString "__del__")) = false
  mod : (es.any fun x => x.key.isStr (PySem.Str.ofString "__module__")) = true
  size : es.size ≤ 100
  emp : es.isEmpty = false
  kq : nsLook (PySem.Str.ofString "__qualname__") (dO es 0) = pure (some (.str q u))
  kdoc : nsLook (PySem.Str.ofString "__doc__") (dO es 0) = pure none
  drop : Obj.dropName (PySem.Str.ofString "__qualname__") (dO es 0) = dO es1 1
  hq : nsHas (PySem.Str.ofString "__qualname__") (dO es 0) = pure true
  k1 : ∀ n ∈ [PySem.Str.ofString "__new__", PySem.Str.ofString "__init_subclass__", PySem.Str.ofString "__class_getitem__", PySem.Str.ofString "__classcell__", PySem.Str.ofString "__classdictcell__", PySem.Str.ofString "obj"], nsLook n (dO es1 1) = pure none
  size1 : es1.size ≤ 100
  ref1 : aRefKeyMayBeTheName (PySem.Str.ofString "obj") es1 = false
  put1 : ∀ i k v, Obj.putName (PySem.Str.ofString "obj") i k v (dO es1 1) = dO (es1.push ⟨i, k, v⟩) 2
  doc2 : ∀ i k v, nsLook (PySem.Str.ofString "__doc__") (dO (es1.push (en "obj" i k v)) 2) = pure none
  ref2 : ∀ i k v, aRefKeyMayBeTheName (PySem.Str.ofString "__doc__") (es1.push (en "obj" i k v)) = false
  put2 : ∀ i k v j l x, Obj.putName (PySem.Str.ofString "__doc__") j l x (dO (es1.push (en "obj" i k v)) 2) = dO ((es1.push (en "obj" i k v)).push ⟨j, l, x⟩) 3
  all : ∀ e ∈ es1.toList, (∃ x t, e.key = .str x t) ∧ Builtin.laidUnderItsOwnName e.key e.val = false ∧ ValOk hp e.val
  eq3 : ∀ i k v j l, nsLook (PySem.Str.ofString "__eq__") (dO ((es1.push (en "obj" i k v)).push (en "__doc__" j l .none)) 3) = pure (some (.ref f4))
  hash3 : ∀ i k v j l, nsLook (PySem.Str.ofString "__hash__") (dO ((es1.push (en "obj" i k v)).push (en "__doc__" j l .none)) 3) = pure (some .none)
abbrev cO (n : Addr) (q : PySem.Str) : Obj := { cls := .type "type", data := .cls { name := PySem.Str.ofString "K", bases := [.type "object"], mro := [], ns := n, qualname := q } }
abbrev cK (n : Addr) (q : PySem.Str) (mro : List Value) (hd : Bool) (sn : List PySem.Str) (sl : Array (Option Value)) : Obj := { cls := .type "type", data := .cls { name := PySem.Str.ofString "K", bases := [.type "object"], mro, ns := n, qualname := q, hasDict := hd, slotNames := sn }, slots := sl }
/-- two new objects under way, other new ones, all else kept -/
structure St3 (hp : Heap) (n a : Addr) (ot : List (Addr × Obj)) (h : Heap) (dn co : Obj) : Prop where
  keep : Ext hp h
  nn : h.get? n = some dn
  aa : h.get? a = some co
  fn : hp.get? n = none
  fa : hp.get? a = none
  ne : n ≠ a
  oth : ∀ p ∈ ot, h.get? p.1 = some p.2 ∧ p.1 ≠ n ∧ p.1 ≠ a ∧ hp.get? p.1 = none
section
variable {M : Model} {A : Around} {E : Value → Shared → Prop} {hp h : Heap} {g : Array GenState} {d : Drawn} {t : Nat} {os : OsState} {n a : Addr} {ot : List (Addr × Obj)} {dn co dn' co' : Obj} {p : Option Value} {f : Obj → Obj} {Q : Unit → Shared → Prop}
theorem St3.set_a (S : St3 hp n a ot h dn co) (e : f co = co') (hf : co'.isFreed = false) : St3 hp n a ot (h.update a f) dn co' := by
  subst e
  refine ⟨fun b o e => (Heap.get?_update_other _ _ (fun z : a = b => ?_)).trans (S.keep b o e), (Heap.get?_update_other _ _ S.ne.symm).trans S.nn, Heap.get?_update_self _ S.aa hf, S.fn, S.fa, S.ne, fun p hq => ⟨(Heap.get?_update_other _ _ (S.oth p hq).2.2.1.symm).trans (S.oth p hq).1, (S.oth p hq).2⟩⟩
  rw [← z, S.fa] at e; cases e
theorem St3.set_n (S : St3 hp n a ot h dn co) (e : f dn = dn') (hf : dn'.isFreed = false) : St3 hp n a ot (h.update n f) dn' co := by
  subst e
  refine ⟨fun b o e => (Heap.get?_update_other _ _ (fun z : n = b => ?_)).trans (S.keep b o e), Heap.get?_update_self _ S.nn hf, (Heap.get?_update_other _ _ S.ne).trans S.aa, S.fn, S.fa, S.ne, fun p hq => ⟨(Heap.get?_update_other _ _ (S.oth p hq).2.1.symm).trans (S.oth p hq).1, (S.oth p hq).2⟩⟩
  rw [← z, S.fn] at e; cases e
theorem St3.up_a2 (S : St3 hp n a ot h dn co) (e : f co = co') (hf : co'.isFreed = false) (hq : ∀ h', St3 hp n a ot h' dn co' → Q () ⟨h', g, d, t, os⟩) : wpAny M A (updatePart a p f) Q E ⟨h, g, d, t, os⟩ := wpAny_updatePart' S.aa (hq _ (S.set_a e hf))
theorem St3.up_a3 (S : St3 hp n a ot h dn co) (e : f co = co') (hf : co'.isFreed = false) (hq : ∀ h', St3 hp n a ot h' dn co' → Q () ⟨h', g, d, t, os⟩) : wpAny M A (update a f) Q E ⟨h, g, d, t, os⟩ := wpAny_update' S.aa (hq _ (S.set_a e hf))
theorem St3.up_n2 (S : St3 hp n a ot h dn co) (e : f dn = dn') (hf : dn'.isFreed = false) (hq : ∀ h', St3 hp n a ot h' dn' co → Q () ⟨h', g, d, t, os⟩) : wpAny M A (updatePart n p f) Q E ⟨h, g, d, t, os⟩ := wpAny_updatePart' S.nn (hq _ (S.set_n e hf))
theorem St3.more (S : St3 hp n a ot h dn co) {o : Obj} (hf : o.isFreed = false) : St3 hp n a ((h.objs.size, o) :: ot) (h.push o) dn co := by
  refine ⟨fun b x e => Heap.get?_push_of_some _ (S.keep b x e), Heap.get?_push_of_some _ S.nn, Heap.get?_push_of_some _ S.aa, S.fn, S.fa, S.ne, fun p hq => ?_⟩
  rcases List.mem_cons.mp hq with rfl | hq
  · refine ⟨Heap.get?_push_size _ hf, Nat.ne_of_gt (Heap.lt_size S.nn), Nat.ne_of_gt (Heap.lt_size S.aa), ?_⟩
    cases e : hp.get? h.objs.size with
    | none => rfl
    | some x => exact absurd (Heap.lt_size (S.keep _ _ e)) (Nat.lt_irrefl _)
  · exact ⟨Heap.get?_push_of_some _ (S.oth p hq).1, (S.oth p hq).2⟩
end
section
variable {w : World} {A : Around} {E : Value → Shared → Prop} {hp h : Heap} {g : Array GenState} {d : Drawn} {t : Nat} {os : OsState} {n a : Addr} {ot : List (Addr × Obj)} {dn co : Obj} {q : PySem.Str} {mro : List Value} {hd : Bool} {sn : List PySem.Str} {sl : Array (Option Value)} {name : PySem.Str} {r : Option Value}
theorem look_k {Q : Option Value → Shared → Prop} (S1 : h.get? n = some dn) (S2 : h.get? a = some (cK n q [.ref a, .type "object"] hd sn sl)) (hk : nsLook name dn = pure none) (ho : classOwn (.type "object") name = pure r) (hq : Q r ⟨h, g, d, t, os⟩) :
    wpAny (model prog w) A (typeLookup (.ref a) name) Q E ⟨h, g, d, t, os⟩ := by
  unfold typeLookup
  walk_at "D54 r"
  repeat ((first | with_reducible refine wpAny_of_eq hk ?_ | with_reducible refine wpAny_of_eq ho ?_); walk_at "D54 r")
  cases r with
  | none => walk_at "D54 r"
            exact hq
  | some v => walk_at "D54 r"
              exact hq
theorem refresh_k {Q : Unit → Shared → Prop} {b0 b1 b2 b3 : Option Value} (S1 : h.get? n = some dn) (S2 : h.get? a = some (cK n q [.ref a, .type "object"] hd sn #[b0, b1, b2, b3, some (.builtin "object.__new__")])) (hk : nsLook (PySem.Str.ofString "__new__") dn = pure none) (hq : Q () ⟨h, g, d, t, os⟩) :
    wpAny (model prog w) A (Bind.refreshMaker a) Q E ⟨h, g, d, t, os⟩ := by
  walk_at "D54 r"
  refine look_k S1 S2 hk c_new ?_
  walk_at "D54 r"
  refine wpAny_ite_false (by kernel_rfl) ?_
  walk_at "D54 r"
  exact hq
set_option maxHeartbeats 1000000 in
theorem install_k {Q : Unit → Shared → Prop} {es1 : Array DictEntry} (S0 : St3 hp n a ot h (dO es1 1) (cK n q mro true [] sl)) (hk : nsLook (PySem.Str.ofString "obj") (dO es1 1) = pure none) (hsz : es1.size ≤ 100)
    (hr : aRefKeyMayBeTheName (PySem.Str.ofString "obj") es1 = false) (hpt : ∀ i k v, Obj.putName (PySem.Str.ofString "obj") i k v (dO es1 1) = dO (es1.push ⟨i, k, v⟩) 2)
    (hq : ∀ D h' t' i k1 k2, St3 hp n a ((D, { cls := .type "member_descriptor", data := .fields #[.str (PySem.Str.ofString "obj") k1, .ref a, .builtin "proto.slot", .builtin "proto.slot#set", .int 0 0] }) :: ot) h' (dO (es1.push (en "obj" i k2 (.ref D))) 2) (cK n q mro false [PySem.Str.ofString "obj"] sl) → Q () ⟨h', g, d, t', os⟩) :
    wpAny (model prog w) A (Builtin.Slots.install (.ref a) n [.type "object"] { names := [PySem.Str.ofString "obj"], dict := false, weak := false }) Q E ⟨h, g, d, t, os⟩ := by
  have S1 := S0.nn; have S2 := S0.aa
  walk_at "D54 r"
  repeat ((first | with_reducible refine wpAny_of_eq hk ?_); walk_at "D54 r")
  have e0 : decide (es1.size > sizeLine) = false := decide_eq_false (by rw [sizeLine_eq]; (exact om335 hsz))
  refine wpAny_ite_false (by rw [e0]; rfl) ?_
  show wpAny _ _ _ _ _ ⟨h.push { cls := .type "member_descriptor", data := .fields #[.str (PySem.Str.ofString "obj") t, .ref a, .builtin "proto.slot", .builtin "proto.slot#set", .int 0 0] }, _, _, _, _⟩
  have S5 := S0.more (o := { cls := .type "member_descriptor", data := .fields #[.str (PySem.Str.ofString "obj") t, .ref a, .builtin "proto.slot", .builtin "proto.slot#set", .int 0 0] }) rfl
  clear S0 S1 S2
  revert S5
  generalize h.push _ = h5
  generalize h.objs.size = D
  intro S5
  have S1 := S5.nn; have S2 := S5.aa
  walk_at "D54 r"
  refine wpAny_ite_false (by rw [hr]; rfl) ?_
  refine St3.up_n2 S5 (hpt _ _ _) rfl ?_
  clear S5 S1 S2; intro h5 S5; have S1 := S5.nn; have S2 := S5.aa
  walk_at "D54 r"
  refine St3.up_a3 (co' := cK n q mro false [PySem.Str.ofString "obj"] sl) S5 (by kernel_rfl) rfl ?_
  clear S5 S1 S2; intro h6 S6; have S1 := S6.nn; have S2 := S6.aa
  walk_at "D54 r"
  refine wpAny_of_eq (a := ()) (by kernel_rfl) ?_
  exact hq _ _ _ _ _ _ S6
end
-- D54New3
abbrev supO (a : Addr) : Obj := { cls := .type "super", data := .fields #[.ref a, .ref a, .ref a] }
abbrev bmO (a : Addr) : Obj := { cls := .type "builtin_function_or_method", data := .fields #[.builtin "object.__init_subclass__", .ref a] }
section
variable {w : World} {A : Around} {E : Value → Shared → Prop} {s : Shared} {Q : Value → Shared → Prop} {a n b B : Addr} {dn : Obj} {t0 u : Tok}
local macro_rules | `(tactic| x_close) => `(tactic| (rename ∀ _ _ _, Ext _ _ → _ => HQx; (exact HQx _ _ _ (mem_keep (by assumption)) (Mem.at (by assumption) 0 _ _ rfl))))
set_option maxHeartbeats 4000000 in
theorem super_call {P : Program} (K : (D54.hd.heap_1 w.params).In s.heap) (hh : A.handled = none) (hd : A.depth ≤ 950) (hu : A.units ≤ 9500)
  (hC : s.heap.get? a = some { cls := .type "type", data := .cls { name := PySem.Str.ofString "K", bases := [.type "object"], mro := [.ref a, .type "object"], ns := n, qualname := PySem.Str.ofString "cmp_to_key.<locals>.K", hasDict := false, slotNames := [PySem.Str.ofString "obj"] }, slots := #[some (.ref B), none, some (.str (PySem.Str.ofString "K") t0), some (.str (PySem.Str.ofString "cmp_to_key.<locals>.K") u), some (.builtin "object.__new__"), some (.bool false)] })
  (HQ : ∀ S h' tk, Ext s.heap h' → h'.get? S = some (supO a) → Q (.ref S) ⟨h', s.gens, s.drawn, tk, s.os⟩) :
  wpAny (model P w) A (call (.type "super") [.ref a, .ref a]) Q E s := by
  refine deep 950 9500 hh hd hu fun fr gd => ?_
  x_run
set_option maxHeartbeats 4000000 in
theorem cm_get {P : Program} (K : (D54.hd.heap_1 w.params).In s.heap) (hh : A.handled = none) (hd : A.depth ≤ 950) (hu : A.units ≤ 9500)
  (hC : s.heap.get? a = some { cls := .type "type", data := .cls { name := PySem.Str.ofString "K", bases := [.type "object"], mro := [.ref a, .type "object"], ns := n, qualname := PySem.Str.ofString "cmp_to_key.<locals>.K", hasDict := false, slotNames := [PySem.Str.ofString "obj"] }, slots := #[some (.ref B), none, some (.str (PySem.Str.ofString "K") t0), some (.str (PySem.Str.ofString "cmp_to_key.<locals>.K") u), some (.builtin "object.__new__"), some (.bool false)] })
  (HQ : ∀ b h' tk, Ext s.heap h' → h'.get? b = some (bmO a) → Q (.ref b) ⟨h', s.gens, s.drawn, tk, s.os⟩) :
  wpAny (model P w) A (call (.builtin "classmethod_descriptor.__get__") [.builtin "object.__init_subclass__", .none, .ref a]) Q E s := by
  refine deep 950 9500 hh hd hu fun fr gd => ?_
  x_run
end
section
variable {w : World} {A : Around} {E : Value → Shared → Prop} {s : Shared} {Q : Value → Shared → Prop} {a n b B : Addr} {dn : Obj} {t0 u : Tok}
local macro_rules | `(tactic| x_close) => `(tactic| (rename ∀ _ _, Ext _ _ → _ => HQx; (first | exact HQx _ _ (mem_keep (by assumption)) | exact HQx _ _ (Ext.refl _))))
set_option maxHeartbeats 4000000 in
theorem isub_call {P : Program} (K : (D54.hd.heap_1 w.params).In s.heap) (hh : A.handled = none) (hd : A.depth ≤ 950) (hu : A.units ≤ 9500)
  (hC : s.heap.get? a = some { cls := .type "type", data := .cls { name := PySem.Str.ofString "K", bases := [.type "object"], mro := [.ref a, .type "object"], ns := n, qualname := PySem.Str.ofString "cmp_to_key.<locals>.K", hasDict := false, slotNames := [PySem.Str.ofString "obj"] }, slots := #[some (.ref B), none, some (.str (PySem.Str.ofString "K") t0), some (.str (PySem.Str.ofString "cmp_to_key.<locals>.K") u), some (.builtin "object.__new__"), some (.bool false)] })
  (hb : s.heap.get? b = some { cls := .type "builtin_function_or_method", data := .fields #[.builtin "object.__init_subclass__", .ref a] })
  (HQ : ∀ h' tk, Ext s.heap h' → Q .none ⟨h', s.gens, s.drawn, tk, s.os⟩) :
  wpAny (model P w) A (call (.ref b) []) Q E s := by
  refine deep 950 9500 hh hd hu fun fr gd => ?_
  x_run
end
section
variable {w : World} {A : Around} {E : Value → Shared → Prop} {h : Heap} {g : Array GenState} {d : Drawn} {t : Nat} {os : OsState} {Q : Value → Shared → Prop} {a n S B : Addr} {t0 u : Tok}
theorem super_attr (K : (D54.hd.heap_1 w.params).In h) (hh : A.handled = none) (hd : A.depth ≤ 900) (hu : A.units ≤ 9000) (ho : NoOp w h)
  (hC : h.get? a = some { cls := .type "type", data := .cls { name := PySem.Str.ofString "K", bases := [.type "object"], mro := [.ref a, .type "object"], ns := n, qualname := PySem.Str.ofString "cmp_to_key.<locals>.K", hasDict := false, slotNames := [PySem.Str.ofString "obj"] }, slots := #[some (.ref B), none, some (.str (PySem.Str.ofString "K") t0), some (.str (PySem.Str.ofString "cmp_to_key.<locals>.K") u), some (.builtin "object.__new__"), some (.bool false)] })
  (hS : h.get? S = some (supO a))
  (HQ : ∀ b h' tk, Ext h h' → h'.get? b = some (bmO a) → Q (.ref b) ⟨h', g, d, tk, os⟩) :
  wpAny (model prog w) A (getAttr (.ref S) (PySem.Str.ofString "__init_subclass__")) Q E ⟨h, g, d, t, os⟩ := by
  have hlk := F.ks_slot_super_ga.lookup
  have hT : ∀ t', (⟨h, g, d, t', os⟩ : Shared).TypeIs (.ref S) "super" := fun _ => ⟨_, hS, rfl⟩
  unfold getAttr getAttrBy
  refine wpAny_bind (wpAny_mkText (wpAny_holding (wpAny_bind (wpAny_typeOf (hT _) (wpAny_bind (wpAny_of_eq hlk ?_))))))
  show wpAny _ _ (getAttrByItsOwn (.ref S) (.str (PySem.Str.ofString "__init_subclass__") t) (.type "super") (.builtin "super.__getattribute__") true false) _ _ _
  unfold getAttrByItsOwn hookBefore callGetattribute boundAndCalled
  refine wpAny_bind (wpAny_of_eq (show (if onTheHeap (.type "super") then typeLookup (.type "super") "__getattr__" else pure none) = pure none from rfl) ?_)
  refine wpAny_bind (wpAny_attempt (wpAny_holding ?_))
  show wpAny _ _ (bindSpecial (.builtin "super.__getattribute__") (.ref S) >>= _) _ _ _
  refine wpAny_bind (wpAny_of_eq (F.ks_slot_super_ga.bind _) ?_)
  refine wpAny_mono (Q := fun v s' => ∃ b h' tk, v = .ref b ∧ s' = ⟨h', g, d, tk, os⟩ ∧ Ext h h' ∧ h'.get? b = some (bmO a)) (E := fun _ _ => False)
    (wpAny_call_entry F.ks_slot_super_ga (hT _) F.ks_entry_super_ga (super_get ho hS hC rfl rfl ?_) (F.ks_gaArgs_super _ _)) (fun v s' hv => ?_) fun _ _ z => z.elim
  · refine cm_get K hh ?_ ?_ hC fun b h' tk k hb => ?_
    · exact Nat.le_trans hd (by decide)
    · dsimp only [Around.in1]; omega
    · exact ⟨_, rfl, b, h', tk, rfl, rfl, k, hb⟩
  · obtain ⟨b, h', tk, rfl, rfl, k, hb⟩ := hv
    exact wpAny_pure (HQ b h' tk k hb)
end
-- D54New4
abbrev qK : PySem.Str := PySem.Str.ofString "cmp_to_key.<locals>.K"
abbrev mdO (a : Addr) (k : Tok) : Obj := { cls := .type "member_descriptor", data := .fields #[.str (PySem.Str.ofString "obj") k, .ref a, .builtin "proto.slot", .builtin "proto.slot#set", .int 0 0] }
abbrev kO (n a B : Addr) (t0 u : Tok) : Obj := cK n qK [.ref a, .type "object"] false [PySem.Str.ofString "obj"] #[some (.ref B), none, some (.str (PySem.Str.ofString "K") t0), some (.str qK u), some (.builtin "object.__new__"), some (.bool false)]
set_option maxHeartbeats 8000000 in
theorem type_new {w : World} {A : Around} {E : Value → Shared → Prop} {hp : Heap} {gg : Array GenState} {dd : Drawn} {tt : Nat} {oo : OsState} {Q : PySem.Fin → Shared → Prop} {B N f4 : Addr} {es es1 : Array DictEntry} {t0 u : Tok}
  (K : (D54.hd.heap_1 w.params).In hp) (hh : A.handled = none) (hd : A.depth ≤ 850) (hu : A.units ≤ 8500)
  (hB : hp.get? B = some { cls := .type "tuple", data := .seq #[.type "object"] })
  (hN : hp.get? N = some (dO es 12)) (hN1 : N ≠ 1) (X : NK hp es es1 qK u f4)
  (HQ : ∀ n a D i k v j l h' tk, Ext hp h' → hp.get? n = none → hp.get? a = none → hp.get? D = none → h'.get? a = some (kO n a B t0 u) → h'.get? D = some (mdO a k) →
    h'.get? n = some (dO ((es1.push (en "obj" i v (.ref D))).push (en "__doc__" j l .none)) 3) → Q (.done (.ret (.ref a))) ⟨h', gg, dd, tk, oo⟩) :
  wpAny (model prog w) A (Builtin.«type.__new__» ⟨[.type "type", .str (PySem.Str.ofString "K") t0, .ref B, .ref N], []⟩) Q E ⟨hp, gg, dd, tt, oo⟩ := by
  have eb : (if ((some #[Value.type "object"]).getD #[]).toList.isEmpty = true then [Value.type "object"] else ((some #[Value.type "object"]).getD #[]).toList) = [Value.type "object"] := rfl
  have eS : (N == sysModules) = false := beq_eq_false_iff_ne.mpr hN1
  generalize hqd : qK = q at X HQ
  obtain ⟨eS1, fl, vv, xs1, xs2, xs3⟩ := X.slots
  have sz : decide (es.size > sizeLine + 1) = false := decide_eq_false (by have := X.size; rw [sizeLine_eq]; omega)
  wp_delta
  walk_at "D54 r"
  rw [eb]
  walk_at "D54 r"
  refine wpAny_ite_false (by rw [eS]; rfl) ?_
  walk_at "D54 r"
  refine wpAny_ite_true (by rw [X.emp]; rfl) ?_
  walk_at "D54 r"
  refine slots_read (n := 0) xs1 xs2 X.noobj xs3 ?_
  intro h1 tk1 k1
  walk_at "D54 r"
  refine wpAny_ite_false sz ?_
  walk_at "D54 r"
  have fn : h1.get? h1.objs.size = none := Heap.get?_none_of_le (Nat.le_refl _)
  have hn : (h1.push (dO es 0)).get? h1.objs.size = some (dO es 0) := Heap.get?_push_size _ rfl
  have k2 : Ext h1 (h1.push (dO es 0)) := fun b o e => Heap.get?_push_of_some _ e
  revert fn hn k2
  generalize h1.objs.size = n
  generalize h1.push (dO es 0) = h2
  intro fn hn k2
  refine wpAny_ite_false (by show decide ((!(es.any fun x => x.key.isStr (PySem.Str.ofString "__module__"))) = true) = false; rw [X.mod]; rfl) ?_
  walk_at "D54 r"
  repeat ((first | with_reducible refine wpAny_of_eq X.kq ?_ | with_reducible refine wpAny_of_eq X.kdoc ?_); walk_at "D54 r")
  refine wpAny_ite_false (by kernel_rfl) ?_
  walk_at "D54 r"
  repeat ((first | with_reducible refine wpAny_of_eq X.kq ?_ | with_reducible refine wpAny_of_eq X.kdoc ?_); walk_at "D54 r")
  refine wpAny_ite_false (by kernel_rfl) ?_
  walk_at "D54 r"
  repeat ((first | with_reducible refine wpAny_of_eq X.kq ?_ | with_reducible refine wpAny_of_eq X.kdoc ?_); walk_at "D54 r")
  have S0 : St3 h1 n h2.objs.size [] (h2.push (cO n q)) (dO es 0) (cO n q) := ⟨k2.trans fun b o e => Heap.get?_push_of_some _ e, Heap.get?_push_of_some _ hn, Heap.get?_push_size _ rfl, fn, by
    cases e : h1.get? h2.objs.size with
    | none => rfl
    | some o => exact absurd (Heap.lt_size (k2 _ _ e)) (Nat.lt_irrefl _), Nat.ne_of_lt (Heap.lt_size hn), fun _ hp => (nomatch hp)⟩
  have S1 := S0.nn
  have S2 := S0.aa
  revert S0 S1 S2
  generalize h2.push (cO n q) = h3
  generalize h2.objs.size = a
  intro S0 S1 S2
  refine St3.up_a2 (co' := cK n q [] true [] #[some (.ref B)]) S0 (by kernel_rfl) rfl ?_
  clear S0 S1 S2; intro h3 S0; have S1 := S0.nn; have S2 := S0.aa
  walk_at "D54 r"
  refine St3.up_a2 (co' := cK n q [] true [] #[some (.ref B), none, some (.str (PySem.Str.ofString "K") t0)]) S0 (by kernel_rfl) rfl ?_
  clear S0 S1 S2; intro h3 S0; have S1 := S0.nn; have S2 := S0.aa
  walk_at "D54 r"
  rw [show ((some (Value.str q u)).orElse fun x => some (Value.str (PySem.Str.ofString "K") t0)) = some (.str q u) from rfl]
  walk_at "D54 r"
  refine St3.up_a2 (co' := cK n q [] true [] #[some (.ref B), none, some (.str (PySem.Str.ofString "K") t0), some (.str q u)]) S0 (by kernel_rfl) rfl ?_
  clear S0 S1 S2; intro h3 S0; have S1 := S0.nn; have S2 := S0.aa
  walk_at "D54 r"
  repeat ((first | with_reducible refine wpAny_of_eq X.hq ?_); walk_at "D54 r")
  refine St3.up_n2 (dn' := dO es1 1) S0 X.drop rfl ?_
  clear S0 S1 S2; intro h3 S0; have S1 := S0.nn; have S2 := S0.aa
  have q1 := X.k1 _ (.head _)
  have q2 := X.k1 _ (.tail _ (.head _))
  have q3 := X.k1 _ (.tail _ (.tail _ (.head _)))
  have q4 := X.k1 _ (.tail _ (.tail _ (.tail _ (.head _))))
  have q5 := X.k1 _ (.tail _ (.tail _ (.tail _ (.tail _ (.head _)))))
  have q6 := X.k1 _ (.tail _ (.tail _ (.tail _ (.tail _ (.tail _ (.head _))))))
  walk_at "D54 r"
  repeat ((first | with_reducible refine wpAny_of_eq q1 ?_ | with_reducible refine wpAny_of_eq q2 ?_ | with_reducible refine wpAny_of_eq q3 ?_ | with_reducible refine wpAny_of_eq q4 ?_ | with_reducible refine wpAny_of_eq q5 ?_); walk_at "D54 r")
  have ef : List.filter (fun x => x != Value.ref a) [Value.ref a, Value.type "object"] = [Value.type "object"] := by simp
  rw [ef]
  refine wpAny_of_eq (a := false) (by kernel_rfl) ?_
  walk_at "D54 r"
  refine St3.up_a3 (co' := cK n q [.ref a, .type "object"] true [] #[some (.ref B), none, some (.str (PySem.Str.ofString "K") t0), some (.str q u)]) S0 (by dsimp only [Obj.mapCls]; rw [X.nodel]; kernel_rfl) rfl ?_
  clear S0 S1 S2; intro h3 S0; have S1 := S0.nn; have S2 := S0.aa
  walk_at "D54 r"
  refine wpAny_of_eq (a := ()) (by kernel_rfl) ?_
  walk_at "D54 r"
  refine St3.up_a2 (co' := cK n q [.ref a, .type "object"] true [] #[some (.ref B), none, some (.str (PySem.Str.ofString "K") t0), some (.str q u), some (.builtin "object.__new__")]) S0 (by kernel_rfl) rfl ?_
  clear S0 S1 S2; intro h3 S0; have S1 := S0.nn; have S2 := S0.aa
  refine wpAny_bind ?_
  refine refresh_k S1 S2 q1 ?_
  refine wpAny_bind ?_
  refine install_k S0 q6 X.size1 X.ref1 X.put1 ?_
  clear S0 S1 S2; intro D h3 tk3 i1 k3 k4 S0; have S1 := S0.nn; have S2 := S0.aa
  walk_at "D54 r"
  refine St3.up_a2 (co' := cK n q [.ref a, .type "object"] false [PySem.Str.ofString "obj"] #[some (.ref B), none, some (.str (PySem.Str.ofString "K") t0), some (.str q u), some (.builtin "object.__new__"), some (.bool false)]) S0 (by kernel_rfl) rfl ?_
  clear S0 S1 S2; intro h3 S0; have S1 := S0.nn; have S2 := S0.aa
  have q7 := X.doc2 i1 k4 (.ref D)
  walk_at "D54 r"
  repeat ((first | with_reducible refine wpAny_of_eq q7 ?_); walk_at "D54 r")
  refine wpAny_ite_false (by rw [X.ref2]; rfl) ?_
  refine St3.up_n2 S0 (X.put2 _ _ _ _ _ _) rfl ?_
  clear S0 S1 S2; intro h3 S0; have S1 := S0.nn; have S2 := S0.aa
  have q8 := fun j l => X.eq3 i1 k4 (.ref D) j l
  have q9 := fun j l => X.hash3 i1 k4 (.ref D) j l
  walk_at "D54 r"
  repeat ((first | with_reducible refine wpAny_of_eq (q8 _ _) ?_ | with_reducible refine wpAny_of_eq (q9 _ _) ?_); walk_at "D54 r")
  refine wpAny_of_eq (a := ()) (by kernel_rfl) ?_
  walk_at "D54 r"
  subst hqd
  obtain ⟨j, l, S9⟩ : ∃ j l, St3 h1 n a [(D, mdO a k3)] h3 (dO ((es1.push (en "obj" i1 k4 (.ref D))).push (en "__doc__" j l .none)) 3) (kO n a B t0 u) := ⟨_, _, S0⟩
  clear S0 S1 S2
  have S1 := S9.nn
  have S2 := S9.aa
  have hD := S9.oth _ (.head _)
  have kk : Ext hp h3 := k1.trans S9.keep
  have KX := K.keeps kk
  have hall : ∀ e ∈ ((es1.push (en "obj" i1 k4 (.ref D))).push (en "__doc__" j l .none)).toList, (∃ x t, e.key = .str x t) ∧ Builtin.laidUnderItsOwnName e.key e.val = false ∧ ValOk h3 e.val := by
    intro e he
    rw [Array.toList_push, Array.toList_push] at he
    rcases List.mem_append.mp he with he | he
    · rcases List.mem_append.mp he with he | he
      · exact ⟨(X.all e he).1, (X.all e he).2.1, (X.all e he).2.2.keeps kk⟩
      · rw [List.mem_singleton.mp he]
        exact ⟨⟨_, _, rfl⟩, by kernel_rfl, _, sn_md, .inl ⟨_, _, rfl, hD.1, rfl⟩⟩
    · rw [List.mem_singleton.mp he]
      exact ⟨⟨_, _, rfl⟩, by kernel_rfl, _, sn_none, .inr rfl⟩
  refine wpAny_tryCatch ?_
  walk_at "D54 r"
  refine fi_arr (fi_same (fun e he R hR => ?_) ?_)
  · obtain ⟨x, t, hk⟩ := (hall e he).1
    rw [hk]
    walk_at "D54 r"
    exact hR
  walk_at "D54 r"
  refine fi_arr (fi_same (fun e he R hR => ?_) ?_)
  · refine wpAny_ite_false (by rw [(hall e he).2.1]; rfl) ?_
    refine wpAny_bind (special_ok (hall e he).2.2 ?_)
    walk_at "D54 r"
    exact hR
  refine wpAny_bind ?_
  refine super_call KX hh (Nat.le_trans hd (by decide)) (Nat.le_trans hu (by decide)) S2 ?_
  intro S h4 tk4 k4' hS4
  refine wpAny_bind (wpAny_holding ?_)
  refine super_attr (KX.keeps k4') hh (Nat.le_trans hd (by decide)) (Nat.le_trans hu (by decide)) (noop_of (KX.keeps k4')) (k4' _ _ S2) hS4 ?_
  intro b h5 tk5 k5' hb5
  refine wpAny_bind ?_
  refine isub_call ((KX.keeps k4').keeps k5') hh (Nat.le_trans hd (by decide)) (Nat.le_trans hu (by decide)) (k5' _ _ (k4' _ _ S2)) hb5 ?_
  intro h6 tk6 k6'
  have k7 : Ext h3 h6 := (k4'.trans k5').trans k6'
  walk_at "D54 r"
  refine wpAny_pure ?_
  have fr : ∀ {b : Addr}, h1.get? b = none → hp.get? b = none := fun {b} e => by
    cases e2 : hp.get? b with
    | none => rfl
    | some o => rw [k1 _ _ e2] at e; cases e
  exact HQ n a D i1 k3 k4 j l h6 tk6 (kk.trans k7) (fr S9.fn) (fr S9.fa) (fr hD.2.2.2) (k7 _ _ S2) (k7 _ _ hD.1) (k7 _ _ S1)
-- D54Code
/-- a code object -/
abbrev codeO (name qual file : PySem.Str) (line ac po ko flags : Nat) (fr : Bool) (text : Nat) (P : Addr) (t1 t2 t3 t4 : Tok) (r8 : Addr) (v13 v14 v15 : Value) (u : Tok) : Obj :=
  { cls := .type "code", data := .fields #[.str name t1, .str qual t2, .str file t3, rawInt line, rawInt ac, rawInt po, rawInt ko, rawInt flags, .ref r8, .bool fr, rawInt text, .ref P, .none, v13, v14, v15, rawInt u, rawInt line, .str file t4] }
section
variable {M : Model} {A : Around} {E : Value → Shared → Prop} {s : Shared} {ctx : CodeContext} {name qual : PySem.Str} {fl ac po ko flags : Nat} {free : List PySem.Str} {isF : Bool} {Q : Value → Shared → Prop}
theorem newCode_c (hQ : ∀ c P h' tk t1 t2 t3 t4 r8 u, Ext s.heap h' → s.heap.get? c = none → s.heap.get? P = none → c ≠ P → h'.get? c = some (codeO name qual ctx.file fl ac po ko flags (isF || ctx.inFunction) ctx.text P t1 t2 t3 t4 r8 .none .none .none u) → h'.get? P = some (tabObj #[]) →
      Q (.ref c) { s with heap := h', toks := tk }) :
    wpAny M A (newCode ctx name qual fl ac po ko flags free isF) Q E s := by
  unfold newCode
  refine wpAny_bind (wpAny_mkText (wpAny_bind (wpAny_mkText (wpAny_bind (wpAny_mkText (wpAny_bind (wpAny_mkStrs fun fs => wpAny_bind (wpAny_newObjAsIs_type (wpAny_bind (wpAny_alloc ?_))))))))))
  generalize hH : (s.heap.push { cls := .type "tuple", dict := none, data := .seq fs.toArray }) = H
  have hz : H.objs.size = s.heap.objs.size + 1 := by rw [← hH, Heap.size_push]
  have hk : ∀ b o, s.heap.get? b = some o → H.get? b = some o := fun b o e => hH ▸ Heap.get?_push_of_some _ e
  have hPl : (H.push { cls := .none, data := .fields #[] }).get? H.objs.size = some { cls := .none, data := .fields #[] } := Heap.get?_push_size _ rfl
  have hf : ∀ n, s.heap.objs.size ≤ n → s.heap.get? n = none := fun n h => Heap.get?_none_of_le h
  refine wpAny_bind (wpAny_pure (wpAny_bind (wpAny_pure (wpAny_bind (wpAny_pure (wpAny_bind (wpAny_fresh (wpAny_bind (wpAny_mkText (wpAny_newObj_type ?_ (by size_fits)))))))))))
  refine hQ _ H.objs.size _ _ _ _ _ _ _ _ (fun b o e => Heap.get?_push_of_some _ (Heap.get?_push_of_some _ (hk b o e))) (hf _ (by rw [Heap.size_push, hz]; (exact om154))) (hf _ (by rw [hz]; (exact om155))) (by rw [Heap.size_push]; exact Nat.succ_ne_self _) (Heap.get?_push_size _ rfl) (Heap.get?_push_of_some _ hPl)
theorem newCode_f {l : List PySem.Str × List PySem.Str} {fd : FuncData} (hQ : ∀ c P h' tk t1 t2 t3 t4 r8 v13 v14 v15 u, Ext s.heap h' → s.heap.get? c = none → s.heap.get? P = none → c ≠ P → h'.get? c = some (codeO name qual ctx.file fl ac po ko flags (isF || ctx.inFunction) ctx.text P t1 t2 t3 t4 r8 v13 v14 v15 u) → h'.get? P = some (tabObj #[]) →
      Q (.ref c) { s with heap := h', toks := tk }) :
    wpAny M A (newCode ctx name qual fl ac po ko flags free isF none (some l) (some fd)) Q E s := by
  unfold newCode
  refine wpAny_bind (wpAny_mkText (wpAny_bind (wpAny_mkText (wpAny_bind (wpAny_mkText (wpAny_bind (wpAny_mkStrs fun fs => wpAny_bind (wpAny_newObjAsIs_type (wpAny_bind (wpAny_alloc ?_))))))))))
  generalize hH : (s.heap.push { cls := .type "tuple", dict := none, data := .seq fs.toArray }) = H
  have hz : H.objs.size = s.heap.objs.size + 1 := by rw [← hH, Heap.size_push]
  have hk : ∀ b o, s.heap.get? b = some o → H.get? b = some o := fun b o e => hH ▸ Heap.get?_push_of_some _ e
  have hPl : (H.push { cls := .none, data := .fields #[] }).get? H.objs.size = some { cls := .none, data := .fields #[] } := Heap.get?_push_size _ rfl
  have hf : ∀ n, s.heap.objs.size ≤ n → s.heap.get? n = none := fun n h => Heap.get?_none_of_le h
  refine wpAny_bind (wpAny_mkStrs fun a => wpAny_bind (wpAny_newObjAsIs_type (wpAny_bind (wpAny_mkStrs fun b => wpAny_bind (wpAny_newObjAsIs_type
        (wpAny_bind (wpAny_bind (wpAny_alloc (wpAny_pure (wpAny_bind (wpAny_fresh (wpAny_bind (wpAny_mkText (wpAny_newObj_type ?_ (by size_fits)))))))))))))))
  refine hQ _ H.objs.size _ _ _ _ _ _ _ _ _ _ _ (fun b o e => Heap.get?_push_of_some _ (Heap.get?_push_of_some _ (Heap.get?_push_of_some _ (Heap.get?_push_of_some _ (Heap.get?_push_of_some _ (hk b o e)))))) (hf _ (by simp only [Heap.size_push, hz]; (exact om156))) (hf _ (by rw [hz]; (exact om155))) (by simp only [Heap.size_push]; exact Nat.ne_of_gt (by (exact om157))) (Heap.get?_push_size _ rfl) (Heap.get?_push_of_some _ (Heap.get?_push_of_some _ (Heap.get?_push_of_some _ (Heap.get?_push_of_some _ hPl))))
end
/-- a code's own facts -/
structure CdHd (h : Heap) (c P : Addr) (file : PySem.Str) (flags text : Nat) : Prop where
  hd : CodeHd h c P
  vs : ∃ o vs tf, h.get? c = some o ∧ o.data = .fields vs ∧ vs.getD 18 .none = .str file tf ∧ vs.getD 7 .none = rawInt flags ∧ vs.getD 9 .none = .bool true ∧ vs.getD 10 .none = rawInt text
section
variable {M : Model} {A : Around} {E : Value → Shared → Prop} {s : Shared} {env : Env} {c P : Addr} {ps : Array Value} {pos : Pos} {file : PySem.Str} {flags text : Nat} {make : CodeContext → Sem Value} {Q : Value → Shared → Prop}
/-- a code that the table lacks is made and laid there -/
theorem codeAt_x (hc : env.code = .ref c) (C : CdHd s.heap c P file flags text) (hP : s.heap.get? P = some (tabObj ps)) (ht : TriplesOk ps.toList) (hnf : codeAmong pos ps.toList = none)
    (h : wpAny M A (make { file, future := flags &&& (coFutureAnnotations ||| coFutureBarry), inFunction := true, text }) (fun v s' => ∃ c', v = .ref c' ∧ s'.heap.get? P = some (tabObj ps) ∧
      Q (.ref c') { s' with heap := s'.heap.update P (Obj.mapFields fun vs => if (codeAmong pos vs.toList).isSome = true then vs else vs ++ #[rawInt pos.line, rawInt pos.col, .ref c']) }) E s) :
    wpAny M A (codeAt env pos make) Q E s := by
  obtain ⟨o, vs, tf, ho, hd, h18, h7, h9, h10⟩ := C.vs
  obtain ⟨o', vs', file', tf', flags', tg, inF, text', tt, e1, e2, e3, e4, e5, e6⟩ := C.hd
  rw [ho] at e1; cases e1
  rw [hd] at e3; cases e3
  unfold codeAt
  rw [hc, if_neg (show ¬ ((Value.ref c == Value.none) = true) from Bool.false_ne_true)]
  refine wpAny_bind (wpAny_fieldsOf ho hd ?_)
  rw [e5]
  refine wpAny_bind (wpAny_fieldsOf hP rfl ?_)
  rw [hnf, h18, h7, h9, h10]
  refine wpAny_bind (wpAny_mono h (fun v s' h' => ?_) fun _ _ e => e)
  obtain ⟨c', rfl, hop', hq⟩ := h'
  refine wpAny_bind (wpAny_updateFieldsOfTheText hop' rfl ?_)
  have hnew : (Obj.mapFields (fun vs => if (codeAmong pos vs.toList).isSome = true then vs else vs ++ #[rawInt pos.line, rawInt pos.col, .ref c']) (tabObj ps)).data = .fields (ps ++ #[rawInt pos.line, rawInt pos.col, .ref c']) := by
    rw [Obj.data_mapFields rfl, hnf]; rfl
  have hget := Heap.get?_update_self (h := s'.heap) (fun o => Obj.mapFields (fun vs => if (codeAmong pos vs.toList).isSome = true then vs else vs ++ #[rawInt pos.line, rawInt pos.col, .ref c']) o) hop' (Obj.isFreed_of_fields hnew)
  refine wpAny_bind (wpAny_fieldsOf hget hnew ?_)
  have hl : (ps ++ #[rawInt pos.line, rawInt pos.col, Value.ref c']).toList = ps.toList ++ [rawInt pos.line, rawInt pos.col, .ref c'] := by simp
  rw [hl, codeAmong_snoc _ ht hnf]
  exact wpAny_pure hq
end
-- D54Mk
section
variable {hp h h' : Heap} {n a c : Addr} {ot : List (Addr × Obj)} {dn co o : Obj}
theorem St3.ext (S : St3 hp n a ot h dn co) (k : Ext h h') : St3 hp n a ot h' dn co := ⟨S.keep.trans k, k _ _ S.nn, k _ _ S.aa, S.fn, S.fa, S.ne, fun p hq => ⟨k _ _ (S.oth p hq).1, (S.oth p hq).2⟩⟩
theorem St3.add (S : St3 hp n a ot h dn co) (k : Ext h h') (hc : h.get? c = none) (hc' : h'.get? c = some o) : St3 hp n a ((c, o) :: ot) h' dn co := by
  have S' := S.ext k
  refine ⟨S'.keep, S'.nn, S'.aa, S.fn, S.fa, S.ne, fun p hq => ?_⟩
  rcases List.mem_cons.mp hq with rfl | hq
  · refine ⟨hc', fun e => ?_, fun e => ?_, ?_⟩
    · rw [show c = n from e, S.nn] at hc; cases hc
    · rw [show c = a from e, S.aa] at hc; cases hc
    · cases e : hp.get? c with
      | none => rfl
      | some x => rw [S.keep _ _ e] at hc; cases hc
  · exact S'.oth p hq
end
theorem map_tab {pos : Pos} {ps : Array Value} {c' : Addr} (hnf : codeAmong pos ps.toList = none) : Obj.mapFields (fun vs => if (codeAmong pos vs.toList).isSome = true then vs else vs ++ #[rawInt pos.line, rawInt pos.col, .ref c']) (tabObj ps) = tabObj (ps ++ #[rawInt pos.line, rawInt pos.col, .ref c']) := by
  unfold Obj.mapFields
  simp only [hnf, Option.isSome_none, Bool.false_eq_true, if_false]
section
variable {M : Model} {A : Around} {E : Value → Shared → Prop} {h hp : Heap} {g : Array GenState} {d : Drawn} {tk : Nat} {os : OsState} {N c P : Addr} {ot : List (Addr × Obj)} {dn : Obj} {name qual : PySem.Str} {params : Arguments} {body : List Stmt} {scope : Scope} {env : Env} {ps : Array Value} {pos : Pos} {fl : Nat} {mg : PySem.Str → Option Value}
  {clos : List (PySem.Str × Addr)} {Q : Value → Shared → Prop} {l : List PySem.Str × List PySem.Str} {file : PySem.Str} {flags text : Nat}
/-- a def whose code is made first -/
theorem mk_x (S : St3 hp N P ot h dn (tabObj ps)) (hcl : closureFor scope env = pure clos) (hge0 : env.globals = mainGlobals) (hg : hp.Ns mainGlobals mg) (hcode : env.code = .ref c) (C : CdHd hp c P file flags text) (ht : TriplesOk ps.toList)
    (hnf : codeAmong pos ps.toList = none) (hb : hp.BuiltinsAt mg P) (hln : localNames params scope (.stmts body) = some l) (hdoc : docOf body = none)
    (hq : ∀ f c' P' t1 t2 t3 t4 r8 v13 v14 v15 u ctv h' tk', St3 hp N P ((f, fnMade name qual params body scope clos .none ((mg "__name__").getD .none) c' ctv) ::
      (c', codeO name qual file fl (params.posonlyargs.length + params.args.length) params.posonlyargs.length params.kwonlyargs.length (functionFlags params.vararg.isSome params.kwarg.isSome scope { file, future := flags &&& (coFutureAnnotations ||| coFutureBarry), inFunction := true, text }) true text P' t1 t2 t3 t4 r8 v13 v14 v15 u) :: ot) h' dn (tabObj (ps ++ #[rawInt pos.line, rawInt pos.col, .ref c'])) →
      Q (.ref f) ⟨h', g, d, tk', os⟩) :
    wpAny M A (makeFunction name qual params (.stmts body) scope env [] [] [] pos fl) Q E ⟨h, g, d, tk, os⟩ := by
  rw [makeFunction_eq]
  simp only [List.zip_nil_right, List.filterMap_nil, List.isEmpty_nil, if_true, pure_bind]
  obtain ⟨bm, ob, hbm, hne0, _, hneP, hbo, hcls, hdict, hdata⟩ := hb
  unfold makeTail
  rw [hcl, hge0]
  refine wpAny_bind (wpAny_pure ?_)
  cases clos with
  | nil =>
    simp only [List.isEmpty_nil, if_true]
    refine wpAny_bind (wpAny_pure ?_)
    unfold functionCode
    refine wpAny_bind (codeAt_x (s := ⟨h, g, d, tk, os⟩) (ps := ps) (file := file) (flags := flags) (text := text) hcode ⟨C.hd.keeps S.keep, let ⟨o, vs, tf, ho, r⟩ := C.vs; ⟨o, vs, tf, S.keep _ _ ho, r⟩⟩ S.aa ht hnf ?_)
    rw [hln]
    refine newCode_f (s := ⟨h, g, d, tk, os⟩) fun c' P' h2 tk2 t1 t2 t3 t4 r8 v13 v14 v15 u k2 fc fP _ hc' hP' => ?_
    have S2 := (S.add k2 fc hc')
    refine ⟨c', rfl, S2.aa, ?_⟩
    have S3 := S2.set_a (map_tab (c' := c') hnf) rfl
    refine wpAny_bind (wpAny_builtinsFor (s := ⟨_, _, _, _, _⟩) (hg.keeps S3.keep) hbm hne0 (S3.keep _ _ hbo) hcls hdict hdata ?_)
    refine wpAny_bind (wpAny_nsGet (s := ⟨_, _, _, _, _⟩) (hg.keeps S3.keep) ?_)
    simp only [hdoc]
    refine wpAny_bind (wpAny_pure (wpAny_newObj_type ?_ (by size_fits)))
    exact hq _ c' P' t1 t2 t3 t4 r8 v13 v14 v15 u _ _ _ (S3.more rfl)
  | cons q r =>
    simp only [List.isEmpty_cons, Bool.false_eq_true, if_false]
    refine wpAny_bind (wpAny_newTextTuple (s := ⟨h, g, d, tk, os⟩) ?_)
    have S0 := S.ext (h' := h.push _) fun b o e => Heap.get?_push_of_some { cls := .type "tuple", data := .seq (((q :: r).mergeSort fun a b => a.1.cps.toList ≤ b.1.cps.toList).map (Value.ref ·.2)).toArray } e
    unfold functionCode
    refine wpAny_bind (codeAt_x (s := ⟨_, g, d, tk, os⟩) (ps := ps) (file := file) (flags := flags) (text := text) hcode ⟨C.hd.keeps S0.keep, let ⟨o, vs, tf, ho, r⟩ := C.vs; ⟨o, vs, tf, S0.keep _ _ ho, r⟩⟩ S0.aa ht hnf ?_)
    rw [hln]
    refine newCode_f (s := ⟨_, g, d, tk, os⟩) fun c' P' h2 tk2 t1 t2 t3 t4 r8 v13 v14 v15 u k2 fc fP _ hc' hP' => ?_
    have S2 := (S0.add k2 fc hc')
    refine ⟨c', rfl, S2.aa, ?_⟩
    have S3 := S2.set_a (map_tab (c' := c') hnf) rfl
    refine wpAny_bind (wpAny_builtinsFor (s := ⟨_, _, _, _, _⟩) (hg.keeps S3.keep) hbm hne0 (S3.keep _ _ hbo) hcls hdict hdata ?_)
    refine wpAny_bind (wpAny_nsGet (s := ⟨_, _, _, _, _⟩) (hg.keeps S3.keep) ?_)
    simp only [hdoc]
    refine wpAny_bind (wpAny_pure (wpAny_newObj_type ?_ (by size_fits)))
    exact hq _ c' P' t1 t2 t3 t4 r8 v13 v14 v15 u _ _ _ (S3.more rfl)
end
-- D54Bd0
def fdOf (n : PySem.Str) : List Stmt → List Stmt
  | [] => []
  | .FunctionDef m _ body _ _ _ _ _ _ _ :: r => if m = n then body else fdOf n r
  | _ :: r => fdOf n r
def cmpBody : List Stmt := fdOf (PySem.Str.ofString "cmp_to_key") PySem.Challenge.pw_dn0054_01.main.body
def clsBody : List Stmt := match cmpBody with
  | .ClassDef _ _ _ b _ _ _ _ _ _ _ :: _ => b
  | _ => []
def clsScope : Scope := match cmpBody with
  | .ClassDef _ _ _ _ _ _ sc _ _ _ _ :: _ => sc
  | _ => { kind := .function, names := [], isGenerator := false, isCoroutine := false }
def clsStat : List PySem.Str := match cmpBody with
  | .ClassDef _ _ _ _ _ _ _ _ _ st _ :: _ => st
  | _ => []
structure FD where
  args : Arguments
  body : List Stmt
  scope : Scope
  pos : Pos
def defAt (n : PySem.Str) : List Stmt → FD
  | [] => ⟨⟨[], [], none, [], [], none, []⟩, [], { kind := .function, names := [], isGenerator := false, isCoroutine := false }, ⟨0, 0, 0, 0⟩⟩
  | .FunctionDef m a body _ _ _ sc _ _ p :: r => if m = n then ⟨a, body, sc, p⟩ else defAt n r
  | _ :: r => defAt n r
def fdK (n : String) : FD := defAt (PySem.Str.ofString n) clsBody
abbrev dfK (n : String) : Stmt := .FunctionDef (PySem.Str.ofString n) (fdK n).args (fdK n).body [] none [] (fdK n).scope none (PySem.Str.ofString n) (fdK n).pos
abbrev asK (n : String) (e : PySem.Expr) (p q : Pos) : Stmt := .Assign [.Name (PySem.Str.ofString n) p] e q
/-- the class's own block -/
abbrev cenv (N c fr cl : Addr) : Env := { scope := clsScope, locals := N, globals := mainGlobals, cells := [(PySem.Str.ofString "mycmp", cl)], qual := qK ++ PySem.Str.ofString ".", code := .ref c, frame := some fr, builtins := builtinsNs }
section
variable {w : World} {A : Around} {E : Value → Shared → Prop} {h hp : Heap} {g : Array GenState} {d : Drawn} {tk : Nat} {os : OsState} {N P : Addr} {ot : List (Addr × Obj)} {co : Obj} {name : PySem.Str} {v : Value} {env : Env} {es : Array DictEntry} {k k' : Nat} {e' : Int → Tok → Array DictEntry} {Q : Unit → Shared → Prop}
theorem set_c (S : St3 hp N P ot h (dO es k) co) (hl : env.locals = N) (hr : aRefKeyMayBeTheName name es = false) (hput : ∀ i t, Obj.putName name i (.str name t) v (dO es k) = dO (e' i t) k')
    (hq : ∀ i t h' tk', St3 hp N P ot h' (dO (e' i t) k') co → Q () ⟨h', g, d, tk', os⟩) : wpAny (model prog w) A (localSet env name v) Q E ⟨h, g, d, tk, os⟩ := by
  have S1 := S.nn
  unfold localSet
  rw [hl]
  walk_at "D54 r"
  refine wpAny_ite_false (by rw [hr]; rfl) ?_
  refine St3.up_n2 S (hput _ _) rfl ?_
  intro h' S'
  exact hq _ _ _ _ S'
end
theorem tri_snoc {ps : Array Value} {a b : Nat} (ht : TriplesOk ps.toList) (c : Addr) : TriplesOk (ps ++ #[rawInt a, rawInt b, .ref c]).toList := by
  have e : (ps ++ #[rawInt a, rawInt b, Value.ref c]).toList = ps.toList ++ [rawInt a, rawInt b, .ref c] := by simp
  rw [e]; exact TriplesOk_snoc _ _ _ _ ht
theorem St3.chA {hp h : Heap} {n a : Addr} {ot : List (Addr × Obj)} {dn co co' : Obj} (S : St3 hp n a ot h dn co) (e : co = co') : St3 hp n a ot h dn co' := e ▸ S
section
variable {w : World} {A : Around} {E : Value → Shared → Prop} {h hp : Heap} {g : Array GenState} {d : Drawn} {tk : Nat} {os : OsState} {N c c' P : Addr} {ot : List (Addr × Obj)} {dn : Obj} {name qual : PySem.Str} {params : Arguments} {body : List Stmt} {scope : Scope} {env : Env} {ps : Array Value} {pos : Pos} {fl : Nat} {mg : PySem.Str → Option Value}
  {clos : List (PySem.Str × Addr)} {Q : Value → Shared → Prop}
theorem mk_hit (S : St3 hp N P ot h dn (tabObj ps)) (hcl : closureFor scope env = pure clos) (hge0 : env.globals = mainGlobals) (hg : hp.Ns mainGlobals mg) (hcode : env.code = .ref c) (C : CodeHd hp c P) (ht : TriplesOk ps.toList)
    (hf : codeAmong pos ps.toList = some (.ref c')) (hb : hp.BuiltinsAt mg P)
    (hq : ∀ f doc ctv h' tk', St3 hp N P ((f, fnMade name qual params body scope clos doc ((mg "__name__").getD .none) c' ctv) :: ot) h' dn (tabObj ps) → Q (.ref f) ⟨h', g, d, tk', os⟩) :
    wpAny (model prog w) A (makeFunction name qual params (.stmts body) scope env [] [] [] pos fl) Q E ⟨h, g, d, tk, os⟩ := by
  obtain ⟨bm, ob, b1, b2, b3, b4, b5, b6⟩ := hb
  refine makeFunction_hit (s := ⟨h, g, d, tk, os⟩) hcl hge0 (hg.keeps S.keep) hcode (C.keeps S.keep) S.aa ht hf ⟨bm, ob, b1, b2, b3, b4, S.keep _ _ b5, b6⟩ fun ctv doc h' tk' k _ => ?_
  exact hq _ doc ctv _ _ ((S.ext k).more rfl)
end
theorem clsBody_is : clsBody = [asK "__module__" (.Constant (.str (PySem.Str.ofString "cpy313.functools")) 0 ⟨53, 21, 53, 39⟩) ⟨53, 8, 53, 18⟩ ⟨53, 8, 53, 39⟩, asK "__slots__" (.List [.Constant (.str (PySem.Str.ofString "obj")) 0 ⟨54, 21, 54, 26⟩] ⟨54, 20, 54, 27⟩) ⟨54, 8, 54, 17⟩ ⟨54, 8, 54, 27⟩,
  dfK "__init__", dfK "__lt__", dfK "__gt__", dfK "__eq__", dfK "__le__", dfK "__ge__", asK "__hash__" (.Constant .none 0 ⟨73, 19, 73, 23⟩) ⟨73, 8, 73, 16⟩ ⟨73, 8, 73, 23⟩] := by kernel_rfl
theorem st__init__ (N c fr cl : Addr) (v : Value) : storeName (cenv N c fr cl) (PySem.Str.ofString "__init__") v = localSet (cenv N c fr cl) (PySem.Str.ofString "__init__") v := by kernel_rfl
theorem st__lt__ (N c fr cl : Addr) (v : Value) : storeName (cenv N c fr cl) (PySem.Str.ofString "__lt__") v = localSet (cenv N c fr cl) (PySem.Str.ofString "__lt__") v := by kernel_rfl
theorem st__gt__ (N c fr cl : Addr) (v : Value) : storeName (cenv N c fr cl) (PySem.Str.ofString "__gt__") v = localSet (cenv N c fr cl) (PySem.Str.ofString "__gt__") v := by kernel_rfl
theorem st__eq__ (N c fr cl : Addr) (v : Value) : storeName (cenv N c fr cl) (PySem.Str.ofString "__eq__") v = localSet (cenv N c fr cl) (PySem.Str.ofString "__eq__") v := by kernel_rfl
theorem st__le__ (N c fr cl : Addr) (v : Value) : storeName (cenv N c fr cl) (PySem.Str.ofString "__le__") v = localSet (cenv N c fr cl) (PySem.Str.ofString "__le__") v := by kernel_rfl
theorem st__ge__ (N c fr cl : Addr) (v : Value) : storeName (cenv N c fr cl) (PySem.Str.ofString "__ge__") v = localSet (cenv N c fr cl) (PySem.Str.ofString "__ge__") v := by kernel_rfl
theorem st__module__ (N c fr cl : Addr) (v : Value) : storeName (cenv N c fr cl) (PySem.Str.ofString "__module__") v = localSet (cenv N c fr cl) (PySem.Str.ofString "__module__") v := by kernel_rfl
theorem st__slots__ (N c fr cl : Addr) (v : Value) : storeName (cenv N c fr cl) (PySem.Str.ofString "__slots__") v = localSet (cenv N c fr cl) (PySem.Str.ofString "__slots__") v := by kernel_rfl
theorem st__hash__ (N c fr cl : Addr) (v : Value) : storeName (cenv N c fr cl) (PySem.Str.ofString "__hash__") v = localSet (cenv N c fr cl) (PySem.Str.ofString "__hash__") v := by kernel_rfl
theorem st__qualname__ (N c fr cl : Addr) (v : Value) : storeName (cenv N c fr cl) (PySem.Str.ofString "__qualname__") v = localSet (cenv N c fr cl) (PySem.Str.ofString "__qualname__") v := by kernel_rfl
theorem st__firstlineno__ (N c fr cl : Addr) (v : Value) : storeName (cenv N c fr cl) (PySem.Str.ofString "__firstlineno__") v = localSet (cenv N c fr cl) (PySem.Str.ofString "__firstlineno__") v := by kernel_rfl
theorem st__static_attributes__ (N c fr cl : Addr) (v : Value) : storeName (cenv N c fr cl) (PySem.Str.ofString "__static_attributes__") v = localSet (cenv N c fr cl) (PySem.Str.ofString "__static_attributes__") v := by kernel_rfl
theorem clo__init__ (N c fr cl : Addr) : closureFor (fdK "__init__").scope (cenv N c fr cl) = pure [] := by kernel_rfl
theorem qn__init__ (N c fr cl : Addr) : qualnameIn (cenv N c fr cl) (PySem.Str.ofString "__init__") (PySem.Str.ofString "__init__") = PySem.Str.ofString "cmp_to_key.<locals>.K.__init__" := by kernel_rfl
theorem ln__init__ : localNames (fdK "__init__").args (fdK "__init__").scope (.stmts (fdK "__init__").body) = some ([PySem.Str.ofString "self", PySem.Str.ofString "obj"], []) := by kernel_rfl
theorem dc__init__ : docOf (fdK "__init__").body = none := by kernel_rfl
theorem df__init__ : (fdK "__init__").args.defaults = [] ∧ (fdK "__init__").args.kw_defaults = [] := ⟨by kernel_rfl, by kernel_rfl⟩
theorem an__init__ (N c fr cl : Addr) : annTrees (fdK "__init__").args none (cenv N c fr cl) = [] := by kernel_rfl
theorem clo__lt__ (N c fr cl : Addr) : closureFor (fdK "__lt__").scope (cenv N c fr cl) = pure [(PySem.Str.ofString "mycmp", cl)] := by kernel_rfl
theorem qn__lt__ (N c fr cl : Addr) : qualnameIn (cenv N c fr cl) (PySem.Str.ofString "__lt__") (PySem.Str.ofString "__lt__") = PySem.Str.ofString "cmp_to_key.<locals>.K.__lt__" := by kernel_rfl
theorem ln__lt__ : localNames (fdK "__lt__").args (fdK "__lt__").scope (.stmts (fdK "__lt__").body) = some ([PySem.Str.ofString "self", PySem.Str.ofString "other"], []) := by kernel_rfl
theorem dc__lt__ : docOf (fdK "__lt__").body = none := by kernel_rfl
theorem df__lt__ : (fdK "__lt__").args.defaults = [] ∧ (fdK "__lt__").args.kw_defaults = [] := ⟨by kernel_rfl, by kernel_rfl⟩
theorem an__lt__ (N c fr cl : Addr) : annTrees (fdK "__lt__").args none (cenv N c fr cl) = [] := by kernel_rfl
theorem clo__gt__ (N c fr cl : Addr) : closureFor (fdK "__gt__").scope (cenv N c fr cl) = pure [(PySem.Str.ofString "mycmp", cl)] := by kernel_rfl
theorem qn__gt__ (N c fr cl : Addr) : qualnameIn (cenv N c fr cl) (PySem.Str.ofString "__gt__") (PySem.Str.ofString "__gt__") = PySem.Str.ofString "cmp_to_key.<locals>.K.__gt__" := by kernel_rfl
theorem ln__gt__ : localNames (fdK "__gt__").args (fdK "__gt__").scope (.stmts (fdK "__gt__").body) = some ([PySem.Str.ofString "self", PySem.Str.ofString "other"], []) := by kernel_rfl
theorem dc__gt__ : docOf (fdK "__gt__").body = none := by kernel_rfl
theorem df__gt__ : (fdK "__gt__").args.defaults = [] ∧ (fdK "__gt__").args.kw_defaults = [] := ⟨by kernel_rfl, by kernel_rfl⟩
theorem an__gt__ (N c fr cl : Addr) : annTrees (fdK "__gt__").args none (cenv N c fr cl) = [] := by kernel_rfl
theorem clo__eq__ (N c fr cl : Addr) : closureFor (fdK "__eq__").scope (cenv N c fr cl) = pure [(PySem.Str.ofString "mycmp", cl)] := by kernel_rfl
theorem qn__eq__ (N c fr cl : Addr) : qualnameIn (cenv N c fr cl) (PySem.Str.ofString "__eq__") (PySem.Str.ofString "__eq__") = PySem.Str.ofString "cmp_to_key.<locals>.K.__eq__" := by kernel_rfl
theorem ln__eq__ : localNames (fdK "__eq__").args (fdK "__eq__").scope (.stmts (fdK "__eq__").body) = some ([PySem.Str.ofString "self", PySem.Str.ofString "other"], []) := by kernel_rfl
theorem dc__eq__ : docOf (fdK "__eq__").body = none := by kernel_rfl
theorem df__eq__ : (fdK "__eq__").args.defaults = [] ∧ (fdK "__eq__").args.kw_defaults = [] := ⟨by kernel_rfl, by kernel_rfl⟩
theorem an__eq__ (N c fr cl : Addr) : annTrees (fdK "__eq__").args none (cenv N c fr cl) = [] := by kernel_rfl
theorem clo__le__ (N c fr cl : Addr) : closureFor (fdK "__le__").scope (cenv N c fr cl) = pure [(PySem.Str.ofString "mycmp", cl)] := by kernel_rfl
theorem qn__le__ (N c fr cl : Addr) : qualnameIn (cenv N c fr cl) (PySem.Str.ofString "__le__") (PySem.Str.ofString "__le__") = PySem.Str.ofString "cmp_to_key.<locals>.K.__le__" := by kernel_rfl
theorem ln__le__ : localNames (fdK "__le__").args (fdK "__le__").scope (.stmts (fdK "__le__").body) = some ([PySem.Str.ofString "self", PySem.Str.ofString "other"], []) := by kernel_rfl
theorem dc__le__ : docOf (fdK "__le__").body = none := by kernel_rfl
theorem df__le__ : (fdK "__le__").args.defaults = [] ∧ (fdK "__le__").args.kw_defaults = [] := ⟨by kernel_rfl, by kernel_rfl⟩
theorem an__le__ (N c fr cl : Addr) : annTrees (fdK "__le__").args none (cenv N c fr cl) = [] := by kernel_rfl
theorem clo__ge__ (N c fr cl : Addr) : closureFor (fdK "__ge__").scope (cenv N c fr cl) = pure [(PySem.Str.ofString "mycmp", cl)] := by kernel_rfl
theorem qn__ge__ (N c fr cl : Addr) : qualnameIn (cenv N c fr cl) (PySem.Str.ofString "__ge__") (PySem.Str.ofString "__ge__") = PySem.Str.ofString "cmp_to_key.<locals>.K.__ge__" := by kernel_rfl
theorem ln__ge__ : localNames (fdK "__ge__").args (fdK "__ge__").scope (.stmts (fdK "__ge__").body) = some ([PySem.Str.ofString "self", PySem.Str.ofString "other"], []) := by kernel_rfl
theorem dc__ge__ : docOf (fdK "__ge__").body = none := by kernel_rfl
theorem df__ge__ : (fdK "__ge__").args.defaults = [] ∧ (fdK "__ge__").args.kw_defaults = [] := ⟨by kernel_rfl, by kernel_rfl⟩
theorem an__ge__ (N c fr cl : Addr) : annTrees (fdK "__ge__").args none (cenv N c fr cl) = [] := by kernel_rfl
-- D54Bd
set_option maxHeartbeats 4000000 in
theorem body_first {w : World} {A : Around} {E : Value → Shared → Prop} {h hp : Heap} {g : Array GenState} {d : Drawn} {tk : Nat} {os : OsState} {N P c fr cl : Addr} {ot : List (Addr × Obj)} {mg : PySem.Str → Option Value} {Q : Flow → Shared → Prop} {i1 i2 i3 : Int} {t1 t2 t3 u2 u3 : Tok} {m0 : Value} {file : PySem.Str} {flags text : Nat} (S0 : St3 hp N P ot h (dO #[en "__module__" i1 t1 m0, en "__qualname__" i2 t2 (.str qK u2), en "__firstlineno__" i3 t3 (.int 52 u3)] 3) (tabObj #[]))
  (G : hp.Ns mainGlobals mg) (C : CdHd hp c P file flags text) (hfl : flags &&& (coFutureAnnotations ||| coFutureBarry) = 0) (B : hp.BuiltinsAt mg P)
  (HQ : ∀ u1 uo fl i4 t4 i5 t5 i6 t6 i7 t7 i8 t8 i9 t9 i10 t10 i11 t11 f1 c1 P1 a1 b1 d1 e1 r1 v1 w1 z1 y1 x1 f2 c2 P2 a2 b2 d2 e2 r2 v2 w2 z2 y2 x2 f3 c3 P3 a3 b3 d3 e3 r3 v3 w3 z3 y3 x3 f4 c4 P4 a4 b4 d4 e4 r4 v4 w4 z4 y4 x4 f5 c5 P5 a5 b5 d5 e5 r5 v5 w5 z5 y5 x5 f6 c6 P6 a6 b6 d6 e6 r6 v6 w6 z6 y6 x6 h' tk', St3 hp N P ((f6, fnMade (PySem.Str.ofString "__ge__") (PySem.Str.ofString "cmp_to_key.<locals>.K.__ge__") (fdK "__ge__").args (fdK "__ge__").body (fdK "__ge__").scope [(PySem.Str.ofString "mycmp", cl)] .none ((mg "__name__").getD .none) c6 x6) :: (c6, codeO (PySem.Str.ofString "__ge__") (PySem.Str.ofString "cmp_to_key.<locals>.K.__ge__") file 71 2 0 0 19 true text P6 a6 b6 d6 e6 r6 v6 w6 z6 y6) :: (f5, fnMade (PySem.Str.ofString "__le__") (PySem.Str.ofString "cmp_to_key.<locals>.K.__le__") (fdK "__le__").args (fdK "__le__").body (fdK "__le__").scope [(PySem.Str.ofString "mycmp", cl)] .none ((mg "__name__").getD .none) c5 x5) :: (c5, codeO (PySem.Str.ofString "__le__") (PySem.Str.ofString "cmp_to_key.<locals>.K.__le__") file 68 2 0 0 19 true text P5 a5 b5 d5 e5 r5 v5 w5 z5 y5) :: (f4, fnMade (PySem.Str.ofString "__eq__") (PySem.Str.ofString "cmp_to_key.<locals>.K.__eq__") (fdK "__eq__").args (fdK "__eq__").body (fdK "__eq__").scope [(PySem.Str.ofString "mycmp", cl)] .none ((mg "__name__").getD .none) c4 x4) :: (c4, codeO (PySem.Str.ofString "__eq__") (PySem.Str.ofString "cmp_to_key.<locals>.K.__eq__") file 65 2 0 0 19 true text P4 a4 b4 d4 e4 r4 v4 w4 z4 y4) :: (f3, fnMade (PySem.Str.ofString "__gt__") (PySem.Str.ofString "cmp_to_key.<locals>.K.__gt__") (fdK "__gt__").args (fdK "__gt__").body (fdK "__gt__").scope [(PySem.Str.ofString "mycmp", cl)] .none ((mg "__name__").getD .none) c3 x3) :: (c3, codeO (PySem.Str.ofString "__gt__") (PySem.Str.ofString "cmp_to_key.<locals>.K.__gt__") file 62 2 0 0 19 true text P3 a3 b3 d3 e3 r3 v3 w3 z3 y3) :: (f2, fnMade (PySem.Str.ofString "__lt__") (PySem.Str.ofString "cmp_to_key.<locals>.K.__lt__") (fdK "__lt__").args (fdK "__lt__").body (fdK "__lt__").scope [(PySem.Str.ofString "mycmp", cl)] .none ((mg "__name__").getD .none) c2 x2) :: (c2, codeO (PySem.Str.ofString "__lt__") (PySem.Str.ofString "cmp_to_key.<locals>.K.__lt__") file 59 2 0 0 19 true text P2 a2 b2 d2 e2 r2 v2 w2 z2 y2) :: (f1, fnMade (PySem.Str.ofString "__init__") (PySem.Str.ofString "cmp_to_key.<locals>.K.__init__") (fdK "__init__").args (fdK "__init__").body (fdK "__init__").scope [] .none ((mg "__name__").getD .none) c1 x1) :: (c1, codeO (PySem.Str.ofString "__init__") (PySem.Str.ofString "cmp_to_key.<locals>.K.__init__") file 56 2 0 0 19 true text P1 a1 b1 d1 e1 r1 v1 w1 z1 y1) :: (fl, { cls := .type "list", data := .seq #[.str (PySem.Str.ofString "obj") uo] }) :: ot) h' (dO #[en "__module__" i1 t1 (.str (PySem.Str.ofString "cpy313.functools") u1), en "__qualname__" i2 t2 (.str qK u2), en "__firstlineno__" i3 t3 (.int 52 u3), en "__slots__" i4 t4 (.ref fl), en "__init__" i5 t5 (.ref f1), en "__lt__" i6 t6 (.ref f2), en "__gt__" i7 t7 (.ref f3), en "__eq__" i8 t8 (.ref f4), en "__le__" i9 t9 (.ref f5), en "__ge__" i10 t10 (.ref f6), en "__hash__" i11 t11 .none] 11) (tabObj #[rawInt 56, rawInt 8, .ref c1, rawInt 59, rawInt 8, .ref c2, rawInt 62, rawInt 8, .ref c3, rawInt 65, rawInt 8, .ref c4, rawInt 68, rawInt 8, .ref c5, rawInt 71, rawInt 8, .ref c6]) → Q .next ⟨h', g, d, tk', os⟩) :
  wpAny (model prog w) A (execs clsBody (cenv N c fr cl)) Q E ⟨h, g, d, tk, os⟩ := by
  rw [clsBody_is]
  have ht : TriplesOk (#[] : Array Value).toList := trivial
  refine wpAny_execs_cons (wpAny_Assign_Name (wpAny_Constant_str ?_) (by kernel_rfl))
  rw [st__module__]
  generalize tk = u1
  refine set_c (e' := fun _ _ => #[en "__module__" i1 t1 (.str (PySem.Str.ofString "cpy313.functools") u1), en "__qualname__" i2 t2 (.str qK u2), en "__firstlineno__" i3 t3 (.int 52 u3)]) (k' := 3) S0 rfl (by kernel_rfl) (fun _ _ => by kernel_rfl) ?_
  clear S0; intro _ _ h tk S0; dsimp only
  refine wpAny_execs_cons (wpAny_Assign_Name (wpAny_List ?_) (by kernel_rfl))
  refine wpAny_bind (wpAny_Constant_str (k := 0) (pos := ⟨54, 21, 54, 26⟩) (wpAny_bind (wpAny_pure (wpAny_bind (wpAny_holding (wpAny_pure (wpAny_pure ⟨by rw [sizeLine_eq]; simp, ?_⟩)))))))
  show wpAny _ _ (storeName _ _ (.ref h.objs.size)) _ _ ⟨h.push { cls := .type "list", data := .seq #[.str (PySem.Str.ofString "obj") tk] }, g, d, tk + 1, os⟩
  have S1 := S0.more (o := { cls := .type "list", data := .seq #[.str (PySem.Str.ofString "obj") tk] }) rfl
  revert S1; generalize h.objs.size = fl; generalize h.push _ = h5; generalize tk = uo; intro S1
  rw [st__slots__]
  refine set_c (e' := fun i4 t4 => #[en "__module__" i1 t1 (.str (PySem.Str.ofString "cpy313.functools") u1), en "__qualname__" i2 t2 (.str qK u2), en "__firstlineno__" i3 t3 (.int 52 u3), en "__slots__" i4 t4 (.ref fl)]) (k' := 4) S1 rfl (by kernel_rfl) (fun _ _ => by kernel_rfl) ?_
  clear S0 S1; intro i4 t4 h tk S0; dsimp only
  refine wpAny_execs_cons (nestDef_K df__init__.1 df__init__.2 (an__init__ N c fr cl) ?_)
  rw [qn__init__]
  refine mk_x S0 (clo__init__ N c fr cl) rfl G rfl C ht (by kernel_rfl) B ln__init__ dc__init__ ?_
  clear S0; intro f1 c1 P1 a1 b1 d1 e1 r1 v1 w1 z1 y1 x1 h tk S0
  replace S0 := S0.chA (co' := tabObj #[rawInt 56, rawInt 8, .ref c1]) (by kernel_rfl)
  have ht : TriplesOk (#[rawInt 56, rawInt 8, .ref c1] : Array Value).toList := trivial
  rw [st__init__]
  refine set_c (e' := fun i5 t5 => #[en "__module__" i1 t1 (.str (PySem.Str.ofString "cpy313.functools") u1), en "__qualname__" i2 t2 (.str qK u2), en "__firstlineno__" i3 t3 (.int 52 u3), en "__slots__" i4 t4 (.ref fl), en "__init__" i5 t5 (.ref f1)]) (k' := 5) S0 rfl (by kernel_rfl) (fun _ _ => by kernel_rfl) ?_
  clear S0; intro i5 t5 h tk S0; dsimp only
  refine wpAny_execs_cons (nestDef_K df__lt__.1 df__lt__.2 (an__lt__ N c fr cl) ?_)
  rw [qn__lt__]
  refine mk_x S0 (clo__lt__ N c fr cl) rfl G rfl C ht (by kernel_rfl) B ln__lt__ dc__lt__ ?_
  clear S0; intro f2 c2 P2 a2 b2 d2 e2 r2 v2 w2 z2 y2 x2 h tk S0
  replace S0 := S0.chA (co' := tabObj #[rawInt 56, rawInt 8, .ref c1, rawInt 59, rawInt 8, .ref c2]) (by kernel_rfl)
  have ht : TriplesOk (#[rawInt 56, rawInt 8, .ref c1, rawInt 59, rawInt 8, .ref c2] : Array Value).toList := trivial
  rw [st__lt__]
  refine set_c (e' := fun i6 t6 => #[en "__module__" i1 t1 (.str (PySem.Str.ofString "cpy313.functools") u1), en "__qualname__" i2 t2 (.str qK u2), en "__firstlineno__" i3 t3 (.int 52 u3), en "__slots__" i4 t4 (.ref fl), en "__init__" i5 t5 (.ref f1), en "__lt__" i6 t6 (.ref f2)]) (k' := 6) S0 rfl (by kernel_rfl) (fun _ _ => by kernel_rfl) ?_
  clear S0; intro i6 t6 h tk S0; dsimp only
  refine wpAny_execs_cons (nestDef_K df__gt__.1 df__gt__.2 (an__gt__ N c fr cl) ?_)
  rw [qn__gt__]
  refine mk_x S0 (clo__gt__ N c fr cl) rfl G rfl C ht (by kernel_rfl) B ln__gt__ dc__gt__ ?_
  clear S0; intro f3 c3 P3 a3 b3 d3 e3 r3 v3 w3 z3 y3 x3 h tk S0
  replace S0 := S0.chA (co' := tabObj #[rawInt 56, rawInt 8, .ref c1, rawInt 59, rawInt 8, .ref c2, rawInt 62, rawInt 8, .ref c3]) (by kernel_rfl)
  have ht : TriplesOk (#[rawInt 56, rawInt 8, .ref c1, rawInt 59, rawInt 8, .ref c2, rawInt 62, rawInt 8, .ref c3] : Array Value).toList := trivial
  rw [st__gt__]
  refine set_c (e' := fun i7 t7 => #[en "__module__" i1 t1 (.str (PySem.Str.ofString "cpy313.functools") u1), en "__qualname__" i2 t2 (.str qK u2), en "__firstlineno__" i3 t3 (.int 52 u3), en "__slots__" i4 t4 (.ref fl), en "__init__" i5 t5 (.ref f1), en "__lt__" i6 t6 (.ref f2), en "__gt__" i7 t7 (.ref f3)]) (k' := 7) S0 rfl (by kernel_rfl) (fun _ _ => by kernel_rfl) ?_
  clear S0; intro i7 t7 h tk S0; dsimp only
  refine wpAny_execs_cons (nestDef_K df__eq__.1 df__eq__.2 (an__eq__ N c fr cl) ?_)
  rw [qn__eq__]
  refine mk_x S0 (clo__eq__ N c fr cl) rfl G rfl C ht (by kernel_rfl) B ln__eq__ dc__eq__ ?_
  clear S0; intro f4 c4 P4 a4 b4 d4 e4 r4 v4 w4 z4 y4 x4 h tk S0
  replace S0 := S0.chA (co' := tabObj #[rawInt 56, rawInt 8, .ref c1, rawInt 59, rawInt 8, .ref c2, rawInt 62, rawInt 8, .ref c3, rawInt 65, rawInt 8, .ref c4]) (by kernel_rfl)
  have ht : TriplesOk (#[rawInt 56, rawInt 8, .ref c1, rawInt 59, rawInt 8, .ref c2, rawInt 62, rawInt 8, .ref c3, rawInt 65, rawInt 8, .ref c4] : Array Value).toList := trivial
  rw [st__eq__]
  refine set_c (e' := fun i8 t8 => #[en "__module__" i1 t1 (.str (PySem.Str.ofString "cpy313.functools") u1), en "__qualname__" i2 t2 (.str qK u2), en "__firstlineno__" i3 t3 (.int 52 u3), en "__slots__" i4 t4 (.ref fl), en "__init__" i5 t5 (.ref f1), en "__lt__" i6 t6 (.ref f2), en "__gt__" i7 t7 (.ref f3), en "__eq__" i8 t8 (.ref f4)]) (k' := 8) S0 rfl (by kernel_rfl) (fun _ _ => by kernel_rfl) ?_
  clear S0; intro i8 t8 h tk S0; dsimp only
  refine wpAny_execs_cons (nestDef_K df__le__.1 df__le__.2 (an__le__ N c fr cl) ?_)
  rw [qn__le__]
  refine mk_x S0 (clo__le__ N c fr cl) rfl G rfl C ht (by kernel_rfl) B ln__le__ dc__le__ ?_
  clear S0; intro f5 c5 P5 a5 b5 d5 e5 r5 v5 w5 z5 y5 x5 h tk S0
  replace S0 := S0.chA (co' := tabObj #[rawInt 56, rawInt 8, .ref c1, rawInt 59, rawInt 8, .ref c2, rawInt 62, rawInt 8, .ref c3, rawInt 65, rawInt 8, .ref c4, rawInt 68, rawInt 8, .ref c5]) (by kernel_rfl)
  have ht : TriplesOk (#[rawInt 56, rawInt 8, .ref c1, rawInt 59, rawInt 8, .ref c2, rawInt 62, rawInt 8, .ref c3, rawInt 65, rawInt 8, .ref c4, rawInt 68, rawInt 8, .ref c5] : Array Value).toList := trivial
  rw [st__le__]
  refine set_c (e' := fun i9 t9 => #[en "__module__" i1 t1 (.str (PySem.Str.ofString "cpy313.functools") u1), en "__qualname__" i2 t2 (.str qK u2), en "__firstlineno__" i3 t3 (.int 52 u3), en "__slots__" i4 t4 (.ref fl), en "__init__" i5 t5 (.ref f1), en "__lt__" i6 t6 (.ref f2), en "__gt__" i7 t7 (.ref f3), en "__eq__" i8 t8 (.ref f4), en "__le__" i9 t9 (.ref f5)]) (k' := 9) S0 rfl (by kernel_rfl) (fun _ _ => by kernel_rfl) ?_
  clear S0; intro i9 t9 h tk S0; dsimp only
  refine wpAny_execs_cons (nestDef_K df__ge__.1 df__ge__.2 (an__ge__ N c fr cl) ?_)
  rw [qn__ge__]
  refine mk_x S0 (clo__ge__ N c fr cl) rfl G rfl C ht (by kernel_rfl) B ln__ge__ dc__ge__ ?_
  clear S0; intro f6 c6 P6 a6 b6 d6 e6 r6 v6 w6 z6 y6 x6 h tk S0
  replace S0 := S0.chA (co' := tabObj #[rawInt 56, rawInt 8, .ref c1, rawInt 59, rawInt 8, .ref c2, rawInt 62, rawInt 8, .ref c3, rawInt 65, rawInt 8, .ref c4, rawInt 68, rawInt 8, .ref c5, rawInt 71, rawInt 8, .ref c6]) (by kernel_rfl)
  have ht : TriplesOk (#[rawInt 56, rawInt 8, .ref c1, rawInt 59, rawInt 8, .ref c2, rawInt 62, rawInt 8, .ref c3, rawInt 65, rawInt 8, .ref c4, rawInt 68, rawInt 8, .ref c5, rawInt 71, rawInt 8, .ref c6] : Array Value).toList := trivial
  rw [st__ge__]
  refine set_c (e' := fun i10 t10 => #[en "__module__" i1 t1 (.str (PySem.Str.ofString "cpy313.functools") u1), en "__qualname__" i2 t2 (.str qK u2), en "__firstlineno__" i3 t3 (.int 52 u3), en "__slots__" i4 t4 (.ref fl), en "__init__" i5 t5 (.ref f1), en "__lt__" i6 t6 (.ref f2), en "__gt__" i7 t7 (.ref f3), en "__eq__" i8 t8 (.ref f4), en "__le__" i9 t9 (.ref f5), en "__ge__" i10 t10 (.ref f6)]) (k' := 10) S0 rfl (by kernel_rfl) (fun _ _ => by kernel_rfl) ?_
  clear S0; intro i10 t10 h tk S0; dsimp only
  refine wpAny_execs_cons (wpAny_Assign_Name (wpAny_Constant_none ?_) (by kernel_rfl))
  rw [st__hash__]
  refine set_c (e' := fun i11 t11 => #[en "__module__" i1 t1 (.str (PySem.Str.ofString "cpy313.functools") u1), en "__qualname__" i2 t2 (.str qK u2), en "__firstlineno__" i3 t3 (.int 52 u3), en "__slots__" i4 t4 (.ref fl), en "__init__" i5 t5 (.ref f1), en "__lt__" i6 t6 (.ref f2), en "__gt__" i7 t7 (.ref f3), en "__eq__" i8 t8 (.ref f4), en "__le__" i9 t9 (.ref f5), en "__ge__" i10 t10 (.ref f6), en "__hash__" i11 t11 .none]) (k' := 11) S0 rfl (by kernel_rfl) (fun _ _ => by kernel_rfl) ?_
  clear S0; intro i11 t11 h tk S0; dsimp only
  refine wpAny_execs_nil ?_
  rw [hfl] at S0
  exact HQ u1 uo fl i4 t4 i5 t5 i6 t6 i7 t7 i8 t8 i9 t9 i10 t10 i11 t11 f1 c1 P1 a1 b1 d1 e1 r1 v1 w1 z1 y1 x1 f2 c2 P2 a2 b2 d2 e2 r2 v2 w2 z2 y2 x2 f3 c3 P3 a3 b3 d3 e3 r3 v3 w3 z3 y3 x3 f4 c4 P4 a4 b4 d4 e4 r4 v4 w4 z4 y4 x4 f5 c5 P5 a5 b5 d5 e5 r5 v5 w5 z5 y5 x5 f6 c6 P6 a6 b6 d6 e6 r6 v6 w6 z6 y6 x6 h tk (Eq.mp (by kernel_rfl) S0)
set_option maxHeartbeats 4000000 in
theorem body_next {w : World} {A : Around} {E : Value → Shared → Prop} {h hp : Heap} {g : Array GenState} {d : Drawn} {tk : Nat} {os : OsState} {N P c fr cl : Addr} {ot : List (Addr × Obj)} {mg : PySem.Str → Option Value} {Q : Flow → Shared → Prop} {i1 i2 i3 : Int} {t1 t2 t3 u2 u3 : Tok} {m0 : Value} {c1 c2 c3 c4 c5 c6 : Addr} (S0 : St3 hp N P ot h (dO #[en "__module__" i1 t1 m0, en "__qualname__" i2 t2 (.str qK u2), en "__firstlineno__" i3 t3 (.int 52 u3)] 3) (tabObj #[rawInt 56, rawInt 8, .ref c1, rawInt 59, rawInt 8, .ref c2, rawInt 62, rawInt 8, .ref c3, rawInt 65, rawInt 8, .ref c4, rawInt 68, rawInt 8, .ref c5, rawInt 71, rawInt 8, .ref c6]))
  (G : hp.Ns mainGlobals mg) (C : CodeHd hp c P) (B : hp.BuiltinsAt mg P)
  (HQ : ∀ u1 uo fl i4 t4 i5 t5 i6 t6 i7 t7 i8 t8 i9 t9 i10 t10 i11 t11 f1 q1 x1 f2 q2 x2 f3 q3 x3 f4 q4 x4 f5 q5 x5 f6 q6 x6 h' tk', St3 hp N P ((f6, fnMade (PySem.Str.ofString "__ge__") (PySem.Str.ofString "cmp_to_key.<locals>.K.__ge__") (fdK "__ge__").args (fdK "__ge__").body (fdK "__ge__").scope [(PySem.Str.ofString "mycmp", cl)] q6 ((mg "__name__").getD .none) c6 x6) :: (f5, fnMade (PySem.Str.ofString "__le__") (PySem.Str.ofString "cmp_to_key.<locals>.K.__le__") (fdK "__le__").args (fdK "__le__").body (fdK "__le__").scope [(PySem.Str.ofString "mycmp", cl)] q5 ((mg "__name__").getD .none) c5 x5) :: (f4, fnMade (PySem.Str.ofString "__eq__") (PySem.Str.ofString "cmp_to_key.<locals>.K.__eq__") (fdK "__eq__").args (fdK "__eq__").body (fdK "__eq__").scope [(PySem.Str.ofString "mycmp", cl)] q4 ((mg "__name__").getD .none) c4 x4) :: (f3, fnMade (PySem.Str.ofString "__gt__") (PySem.Str.ofString "cmp_to_key.<locals>.K.__gt__") (fdK "__gt__").args (fdK "__gt__").body (fdK "__gt__").scope [(PySem.Str.ofString "mycmp", cl)] q3 ((mg "__name__").getD .none) c3 x3) :: (f2, fnMade (PySem.Str.ofString "__lt__") (PySem.Str.ofString "cmp_to_key.<locals>.K.__lt__") (fdK "__lt__").args (fdK "__lt__").body (fdK "__lt__").scope [(PySem.Str.ofString "mycmp", cl)] q2 ((mg "__name__").getD .none) c2 x2) :: (f1, fnMade (PySem.Str.ofString "__init__") (PySem.Str.ofString "cmp_to_key.<locals>.K.__init__") (fdK "__init__").args (fdK "__init__").body (fdK "__init__").scope [] q1 ((mg "__name__").getD .none) c1 x1) :: (fl, { cls := .type "list", data := .seq #[.str (PySem.Str.ofString "obj") uo] }) :: ot) h' (dO #[en "__module__" i1 t1 (.str (PySem.Str.ofString "cpy313.functools") u1), en "__qualname__" i2 t2 (.str qK u2), en "__firstlineno__" i3 t3 (.int 52 u3), en "__slots__" i4 t4 (.ref fl), en "__init__" i5 t5 (.ref f1), en "__lt__" i6 t6 (.ref f2), en "__gt__" i7 t7 (.ref f3), en "__eq__" i8 t8 (.ref f4), en "__le__" i9 t9 (.ref f5), en "__ge__" i10 t10 (.ref f6), en "__hash__" i11 t11 .none] 11) (tabObj #[rawInt 56, rawInt 8, .ref c1, rawInt 59, rawInt 8, .ref c2, rawInt 62, rawInt 8, .ref c3, rawInt 65, rawInt 8, .ref c4, rawInt 68, rawInt 8, .ref c5, rawInt 71, rawInt 8, .ref c6]) → Q .next ⟨h', g, d, tk', os⟩) :
  wpAny (model prog w) A (execs clsBody (cenv N c fr cl)) Q E ⟨h, g, d, tk, os⟩ := by
  rw [clsBody_is]
  have ht : TriplesOk (#[rawInt 56, rawInt 8, .ref c1, rawInt 59, rawInt 8, .ref c2, rawInt 62, rawInt 8, .ref c3, rawInt 65, rawInt 8, .ref c4, rawInt 68, rawInt 8, .ref c5, rawInt 71, rawInt 8, .ref c6] : Array Value).toList := trivial
  refine wpAny_execs_cons (wpAny_Assign_Name (wpAny_Constant_str ?_) (by kernel_rfl))
  rw [st__module__]
  generalize tk = u1
  refine set_c (e' := fun _ _ => #[en "__module__" i1 t1 (.str (PySem.Str.ofString "cpy313.functools") u1), en "__qualname__" i2 t2 (.str qK u2), en "__firstlineno__" i3 t3 (.int 52 u3)]) (k' := 3) S0 rfl (by kernel_rfl) (fun _ _ => by kernel_rfl) ?_
  clear S0; intro _ _ h tk S0; dsimp only
  refine wpAny_execs_cons (wpAny_Assign_Name (wpAny_List ?_) (by kernel_rfl))
  refine wpAny_bind (wpAny_Constant_str (k := 0) (pos := ⟨54, 21, 54, 26⟩) (wpAny_bind (wpAny_pure (wpAny_bind (wpAny_holding (wpAny_pure (wpAny_pure ⟨by rw [sizeLine_eq]; simp, ?_⟩)))))))
  show wpAny _ _ (storeName _ _ (.ref h.objs.size)) _ _ ⟨h.push { cls := .type "list", data := .seq #[.str (PySem.Str.ofString "obj") tk] }, g, d, tk + 1, os⟩
  have S1 := S0.more (o := { cls := .type "list", data := .seq #[.str (PySem.Str.ofString "obj") tk] }) rfl
  revert S1; generalize h.objs.size = fl; generalize h.push _ = h5; generalize tk = uo; intro S1
  rw [st__slots__]
  refine set_c (e' := fun i4 t4 => #[en "__module__" i1 t1 (.str (PySem.Str.ofString "cpy313.functools") u1), en "__qualname__" i2 t2 (.str qK u2), en "__firstlineno__" i3 t3 (.int 52 u3), en "__slots__" i4 t4 (.ref fl)]) (k' := 4) S1 rfl (by kernel_rfl) (fun _ _ => by kernel_rfl) ?_
  clear S0 S1; intro i4 t4 h tk S0; dsimp only
  refine wpAny_execs_cons (nestDef_K df__init__.1 df__init__.2 (an__init__ N c fr cl) ?_)
  rw [qn__init__]
  refine mk_hit (c' := c1) S0 (clo__init__ N c fr cl) rfl G rfl C ht (by kernel_rfl) B ?_
  clear S0; intro f1 q1 x1 h tk S0
  rw [st__init__]
  refine set_c (e' := fun i5 t5 => #[en "__module__" i1 t1 (.str (PySem.Str.ofString "cpy313.functools") u1), en "__qualname__" i2 t2 (.str qK u2), en "__firstlineno__" i3 t3 (.int 52 u3), en "__slots__" i4 t4 (.ref fl), en "__init__" i5 t5 (.ref f1)]) (k' := 5) S0 rfl (by kernel_rfl) (fun _ _ => by kernel_rfl) ?_
  clear S0; intro i5 t5 h tk S0; dsimp only
  refine wpAny_execs_cons (nestDef_K df__lt__.1 df__lt__.2 (an__lt__ N c fr cl) ?_)
  rw [qn__lt__]
  refine mk_hit (c' := c2) S0 (clo__lt__ N c fr cl) rfl G rfl C ht (by kernel_rfl) B ?_
  clear S0; intro f2 q2 x2 h tk S0
  rw [st__lt__]
  refine set_c (e' := fun i6 t6 => #[en "__module__" i1 t1 (.str (PySem.Str.ofString "cpy313.functools") u1), en "__qualname__" i2 t2 (.str qK u2), en "__firstlineno__" i3 t3 (.int 52 u3), en "__slots__" i4 t4 (.ref fl), en "__init__" i5 t5 (.ref f1), en "__lt__" i6 t6 (.ref f2)]) (k' := 6) S0 rfl (by kernel_rfl) (fun _ _ => by kernel_rfl) ?_
  clear S0; intro i6 t6 h tk S0; dsimp only
  refine wpAny_execs_cons (nestDef_K df__gt__.1 df__gt__.2 (an__gt__ N c fr cl) ?_)
  rw [qn__gt__]
  refine mk_hit (c' := c3) S0 (clo__gt__ N c fr cl) rfl G rfl C ht (by kernel_rfl) B ?_
  clear S0; intro f3 q3 x3 h tk S0
  rw [st__gt__]
  refine set_c (e' := fun i7 t7 => #[en "__module__" i1 t1 (.str (PySem.Str.ofString "cpy313.functools") u1), en "__qualname__" i2 t2 (.str qK u2), en "__firstlineno__" i3 t3 (.int 52 u3), en "__slots__" i4 t4 (.ref fl), en "__init__" i5 t5 (.ref f1), en "__lt__" i6 t6 (.ref f2), en "__gt__" i7 t7 (.ref f3)]) (k' := 7) S0 rfl (by kernel_rfl) (fun _ _ => by kernel_rfl) ?_
  clear S0; intro i7 t7 h tk S0; dsimp only
  refine wpAny_execs_cons (nestDef_K df__eq__.1 df__eq__.2 (an__eq__ N c fr cl) ?_)
  rw [qn__eq__]
  refine mk_hit (c' := c4) S0 (clo__eq__ N c fr cl) rfl G rfl C ht (by kernel_rfl) B ?_
  clear S0; intro f4 q4 x4 h tk S0
  rw [st__eq__]
  refine set_c (e' := fun i8 t8 => #[en "__module__" i1 t1 (.str (PySem.Str.ofString "cpy313.functools") u1), en "__qualname__" i2 t2 (.str qK u2), en "__firstlineno__" i3 t3 (.int 52 u3), en "__slots__" i4 t4 (.ref fl), en "__init__" i5 t5 (.ref f1), en "__lt__" i6 t6 (.ref f2), en "__gt__" i7 t7 (.ref f3), en "__eq__" i8 t8 (.ref f4)]) (k' := 8) S0 rfl (by kernel_rfl) (fun _ _ => by kernel_rfl) ?_
  clear S0; intro i8 t8 h tk S0; dsimp only
  refine wpAny_execs_cons (nestDef_K df__le__.1 df__le__.2 (an__le__ N c fr cl) ?_)
  rw [qn__le__]
  refine mk_hit (c' := c5) S0 (clo__le__ N c fr cl) rfl G rfl C ht (by kernel_rfl) B ?_
  clear S0; intro f5 q5 x5 h tk S0
  rw [st__le__]
  refine set_c (e' := fun i9 t9 => #[en "__module__" i1 t1 (.str (PySem.Str.ofString "cpy313.functools") u1), en "__qualname__" i2 t2 (.str qK u2), en "__firstlineno__" i3 t3 (.int 52 u3), en "__slots__" i4 t4 (.ref fl), en "__init__" i5 t5 (.ref f1), en "__lt__" i6 t6 (.ref f2), en "__gt__" i7 t7 (.ref f3), en "__eq__" i8 t8 (.ref f4), en "__le__" i9 t9 (.ref f5)]) (k' := 9) S0 rfl (by kernel_rfl) (fun _ _ => by kernel_rfl) ?_
  clear S0; intro i9 t9 h tk S0; dsimp only
  refine wpAny_execs_cons (nestDef_K df__ge__.1 df__ge__.2 (an__ge__ N c fr cl) ?_)
  rw [qn__ge__]
  refine mk_hit (c' := c6) S0 (clo__ge__ N c fr cl) rfl G rfl C ht (by kernel_rfl) B ?_
  clear S0; intro f6 q6 x6 h tk S0
  rw [st__ge__]
  refine set_c (e' := fun i10 t10 => #[en "__module__" i1 t1 (.str (PySem.Str.ofString "cpy313.functools") u1), en "__qualname__" i2 t2 (.str qK u2), en "__firstlineno__" i3 t3 (.int 52 u3), en "__slots__" i4 t4 (.ref fl), en "__init__" i5 t5 (.ref f1), en "__lt__" i6 t6 (.ref f2), en "__gt__" i7 t7 (.ref f3), en "__eq__" i8 t8 (.ref f4), en "__le__" i9 t9 (.ref f5), en "__ge__" i10 t10 (.ref f6)]) (k' := 10) S0 rfl (by kernel_rfl) (fun _ _ => by kernel_rfl) ?_
  clear S0; intro i10 t10 h tk S0; dsimp only
  refine wpAny_execs_cons (wpAny_Assign_Name (wpAny_Constant_none ?_) (by kernel_rfl))
  rw [st__hash__]
  refine set_c (e' := fun i11 t11 => #[en "__module__" i1 t1 (.str (PySem.Str.ofString "cpy313.functools") u1), en "__qualname__" i2 t2 (.str qK u2), en "__firstlineno__" i3 t3 (.int 52 u3), en "__slots__" i4 t4 (.ref fl), en "__init__" i5 t5 (.ref f1), en "__lt__" i6 t6 (.ref f2), en "__gt__" i7 t7 (.ref f3), en "__eq__" i8 t8 (.ref f4), en "__le__" i9 t9 (.ref f5), en "__ge__" i10 t10 (.ref f6), en "__hash__" i11 t11 .none]) (k' := 11) S0 rfl (by kernel_rfl) (fun _ _ => by kernel_rfl) ?_
  clear S0; intro i11 t11 h tk S0; dsimp only
  refine wpAny_execs_nil ?_
  exact HQ u1 uo fl i4 t4 i5 t5 i6 t6 i7 t7 i8 t8 i9 t9 i10 t10 i11 t11 f1 q1 x1 f2 q2 x2 f3 q3 x3 f4 q4 x4 f5 q5 x5 f6 q6 x6 h tk S0
-- D54Bc0
def fScopeOf (n : PySem.Str) : List Stmt → Scope
  | [] => { kind := .function, names := [], isGenerator := false, isCoroutine := false }
  | .FunctionDef m _ _ _ _ _ sc _ _ _ :: r => if m = n then sc else fScopeOf n r
  | _ :: r => fScopeOf n r
def fScope : Scope := fScopeOf (PySem.Str.ofString "cmp_to_key") PySem.Challenge.pw_dn0054_01.main.body
abbrev fenv (L : Addr) : Env := envOfC (PySem.Str.ofString "cmp_to_key") fScope L 35 (.ref 34)
abbrev clsPos : Pos := ⟨52, 4, 73, 23⟩
theorem c_isTy2 : isType (.type "type") = pure true := by kernel_rfl
abbrev prO : Obj := { cls := .type "builtin_function_or_method", data := .fields #[.builtin "type.__prepare__", .type "type"] }
section
variable {w : World} {A : Around} {E : Value → Shared → Prop} {s : Shared} {Q : Value → Shared → Prop} {b B : Addr} {t t0 : Tok}
theorem Mem.new0 {h₀ h : Heap} {chg news : List (Addr × Obj)} {a : Addr} {o : Obj} (D : Mem h₀ h chg ((a, o) :: news)) : h₀.get? a = none := by
  have := (D.nw (a, o) (.head _)).2
  cases e : h₀.get? a with
  | none => rfl
  | some x => exact absurd rfl (Mem.ne_old D 0 a o rfl a x e)
local macro_rules | `(tactic| x_close) => `(tactic| (rename ∀ _ _ _, Ext _ _ → _ => HQx; (exact HQx _ _ _ (mem_keep (by assumption)) (Mem.at (by assumption) 0 _ _ rfl) (Mem.new0 (by assumption)))))
set_option maxHeartbeats 4000000 in
theorem tg_call {P : Program} (K : (D54.hd.heap_1 w.params).In s.heap) (hh : A.handled = none) (hd : A.depth ≤ 950) (hu : A.units ≤ 9500)
  (HQ : ∀ b h' tk, Ext s.heap h' → h'.get? b = some prO → s.heap.get? b = none → Q (.ref b) ⟨h', s.gens, s.drawn, tk, s.os⟩) :
  wpAny (model P w) A (call (.builtin "type.__getattribute__") [.type "type", .str (PySem.Str.ofString "__prepare__") t]) Q E s := by
  refine deep 950 9500 hh hd hu fun fr gd => ?_
  x_run
set_option maxHeartbeats 4000000 in
theorem prep_call {P : Program} (K : (D54.hd.heap_1 w.params).In s.heap) (hh : A.handled = none) (hd : A.depth ≤ 950) (hu : A.units ≤ 9500)
  (hb : s.heap.get? b = some { cls := .type "builtin_function_or_method", data := .fields #[.builtin "type.__prepare__", .type "type"] })
  (HQ : ∀ N h' tk, Ext s.heap h' → h'.get? N = some (dO #[] 0) → s.heap.get? N = none → Q (.ref N) ⟨h', s.gens, s.drawn, tk, s.os⟩) :
  wpAny (model P w) A (call (.ref b) [.str (PySem.Str.ofString "K") t0, .ref B]) Q E s := by
  refine deep 950 9500 hh hd hu fun fr gd => ?_
  x_run
end
theorem c_tyT : typeOf (.type "type") = pure (.type "type") := by kernel_rfl
theorem c_ga : typeLookup (.type "type") (PySem.Str.ofString "__getattribute__") = pure (some (.builtin "type.__getattribute__")) := by kernel_rfl
theorem c_bs : bindSpecial (.builtin "type.__getattribute__") (.type "type") = pure (.builtin "type.__getattribute__", [.type "type"]) := by kernel_rfl
theorem prep_attr {w : World} {A : Around} {E : Value → Shared → Prop} {h : Heap} {g : Array GenState} {d : Drawn} {t : Nat} {os : OsState} {Q : Option Value → Shared → Prop} (K : (D54.hd.heap_1 w.params).In h) (hh : A.handled = none) (hd : A.depth ≤ 950) (hu : A.units ≤ 9500)
  (HQ : ∀ b h' tk, Ext h h' → h'.get? b = some prO → Q (some (.ref b)) ⟨h', g, d, tk, os⟩) :
  wpAny (model prog w) A (getAttr? (.type "type") (PySem.Str.ofString "__prepare__")) Q E ⟨h, g, d, t, os⟩ := by
  unfold getAttr? getAttrBy? getAttrBy
  refine wpAny_bind (wpAny_mkText (wpAny_bind (wpAny_attempt (wpAny_holding (wpAny_bind (wpAny_of_eq c_tyT (wpAny_bind (wpAny_of_eq c_ga ?_))))))))
  show wpAny _ _ (getAttrByItsOwn (.type "type") (.str (PySem.Str.ofString "__prepare__") t) (.type "type") (.builtin "type.__getattribute__") false false) _ _ _
  unfold getAttrByItsOwn hookBefore callGetattribute boundAndCalled
  refine wpAny_bind (wpAny_of_eq (show (if onTheHeap (.type "type") then typeLookup (.type "type") "__getattr__" else pure none) = pure none from rfl) ?_)
  refine wpAny_bind (wpAny_attempt (wpAny_holding ?_))
  show wpAny _ _ (bindSpecial (.builtin "type.__getattribute__") (.type "type") >>= _) _ _ _
  refine wpAny_bind (wpAny_of_eq c_bs ?_)
  refine tg_call (s := ⟨h, g, d, _, os⟩) K hh hd hu fun b h' tk k hb _ => ?_
  exact wpAny_pure (wpAny_pure (HQ b h' tk k hb))
theorem c_mroT : mroOf (.type "type") = pure [.type "type", .type "object"] := by kernel_rfl
theorem c_madeT : Bind.madeBy (.type "type") = pure (some "type.__new__") := by kernel_rfl
theorem c_initT : typeLookup (.type "type") (PySem.Str.ofString "__init__") = pure (some (.builtin "type.__init__")) := by kernel_rfl
theorem e_new : entryFor table "type.__new__" = some Builtin.«type.__new__» := entryFor_of_fast (by kernel_rfl)
theorem e_init : entryFor table "type.__init__" = some Builtin.«type.__init__» := entryFor_of_fast (by kernel_rfl)
theorem p_new : plainId "type.__new__" = true := by decide +kernel
theorem p_init : plainId "type.__init__" = true := by decide +kernel
section
local macro_rules | `(tactic| x_close) => `(tactic| (rename ∀ _ _, Ext _ _ → _ => HQx; (first | exact HQx _ _ (mem_keep (by assumption)) | exact HQx _ _ (Ext.refl _))))
set_option maxHeartbeats 4000000 in
theorem init_call {P : Program} {w : World} {A : Around} {E : Value → Shared → Prop} {s : Shared} {Q : Value → Shared → Prop} {a n B B' N : Addr} {t0 t0' u : Tok}
  (K : (D54.hd.heap_1 w.params).In s.heap) (hh : A.handled = none) (hd : A.depth ≤ 950) (hu : A.units ≤ 9500)
  (hC : s.heap.get? a = some { cls := .type "type", data := .cls { name := PySem.Str.ofString "K", bases := [.type "object"], mro := [.ref a, .type "object"], ns := n, qualname := PySem.Str.ofString "cmp_to_key.<locals>.K", hasDict := false, slotNames := [PySem.Str.ofString "obj"] }, slots := #[some (.ref B), none, some (.str (PySem.Str.ofString "K") t0), some (.str (PySem.Str.ofString "cmp_to_key.<locals>.K") u), some (.builtin "object.__new__"), some (.bool false)] })
  (HQ : ∀ h' tk, Ext s.heap h' → Q .none ⟨h', s.gens, s.drawn, tk, s.os⟩) :
  wpAny (model P w) A (call (.builtin "type.__init__") [.ref a, .str (PySem.Str.ofString "K") t0', .ref B', .ref N]) Q E s := by
  refine deep 950 9500 hh hd hu fun fr gd => ?_
  x_run
end
set_option maxHeartbeats 2000000 in
theorem type_call {w : World} {A : Around} {E : Value → Shared → Prop} {hp : Heap} {gg : Array GenState} {dd : Drawn} {tt : Nat} {oo : OsState} {Q : Value → Shared → Prop} {B N f4 : Addr} {es es1 : Array DictEntry} {t0 u : Tok}
  (K : (D54.hd.heap_1 w.params).In hp) (hh : A.handled = none) (hd : A.depth ≤ 800) (hu : A.units ≤ 8000)
  (hB : hp.get? B = some { cls := .type "tuple", data := .seq #[.type "object"] })
  (hN : hp.get? N = some (dO es 12)) (hN1 : N ≠ 1) (X : NK hp es es1 qK u f4)
  (HQ : ∀ n a D i k v j l h' tk, Ext hp h' → hp.get? n = none → hp.get? a = none → hp.get? D = none → h'.get? a = some (kO n a B t0 u) → h'.get? D = some (mdO a k) →
    h'.get? n = some (dO ((es1.push (en "obj" i v (.ref D))).push (en "__doc__" j l .none)) 3) → Q (.ref a) ⟨h', gg, dd, tk, oo⟩) :
  wpAny (model prog w) A (call (.type "type") [.str (PySem.Str.ofString "K") t0, .ref B, .ref N]) Q E ⟨hp, gg, dd, tt, oo⟩ := by
  have hmro := c_mroT
  have hmade := c_madeT
  have hsub := c_type
  have hli := c_initT
  refine wpAny_call (codeAny_of_tree ?_)
  show wpAny _ _ (callAny (.type "type") _) _ _ _
  refine wpAny_pure ⟨Code.quiet_builtin _ (by decide +kernel), codeAny_builtin F.entry_type_call ?_⟩
  rw [Around.under_plain (weight_type_call_type "type" _ []) (units_type_call_type "type" _ [])]
  wp_delta
  walk_at "D54 r"
  repeat ((first | with_reducible refine wpAny_of_eq hmro ?_ | with_reducible refine wpAny_of_eq hmade ?_ | with_reducible refine wpAny_of_eq hli ?_); walk_at "D54 r")
  refine wpAny_of_eq (a := ()) (by kernel_rfl) ?_
  walk_at "D54 r"
  repeat ((first | with_reducible refine wpAny_of_eq hmro ?_ | with_reducible refine wpAny_of_eq hmade ?_ | with_reducible refine wpAny_of_eq hli ?_); walk_at "D54 r")
  refine wpAny_call (codeAny_call_builtin p_new e_new (wpAny_of_eq (a := ()) (by kernel_rfl) (type_new (t0 := t0) K hh ?_ ?_ hB hN hN1 X ?_)))
  · exact Nat.le_trans hd (by decide)
  · dsimp only [Around.in1]; (exact om311 hu)
  intro n a D i k v j l h' tk kE fn fa fD ha hD hn
  have hT : (⟨h', gg, dd, tk, oo⟩ : Shared).TypeIs (.ref a) "type" := ⟨_, ha, rfl⟩
  show wpAny _ _ _ _ _ _
  clear hN hN1 X hB
  walk_at "D54 r"
  repeat ((first | with_reducible refine wpAny_of_eq hli ?_); walk_at "D54 r")
  wp_delta
  walk_at "D54 r"
  repeat ((first | with_reducible refine wpAny_of_eq hli ?_); walk_at "D54 r")
  refine wpAny_of_eq (a := (.builtin "type.__init__", [.ref a])) (by kernel_rfl) ?_
  refine wpAny_bind ?_
  refine init_call (K.keeps kE) hh ?_ ?_ ha ?_
  · exact Nat.le_trans hd (by decide)
  · dsimp only [Around.in1]; (exact om312 hu)
  intro h9 tk9 k9
  walk_at "D54 r"
  exact wpAny_pure (HQ n a D i k v j l h9 tk9 (kE.trans k9) fn fa fD (k9 _ _ ha) (k9 _ _ hD) (k9 _ _ hn))
-- D54Bc1
theorem e_prep : entryFor table "type.__prepare__" = some Builtin.«type.__prepare__» := entryFor_of_fast (by kernel_rfl)
theorem p_prep : plainId "type.__prepare__" = true := by decide +kernel
set_option maxHeartbeats 1000000 in
theorem prep_call2 {w : World} {A : Around} {E : Value → Shared → Prop} {h : Heap} {g : Array GenState} {d : Drawn} {tk : Nat} {os : OsState} {Q : Value → Shared → Prop} {b B : Addr} {t0 : Tok}
  (hb : h.get? b = some prO) (h1 : 1 < h.objs.size)
  (HQ : ∀ N h', Ext h h' → h'.get? N = some (dO #[] 0) → h.get? N = none → N ≠ 1 → Q (.ref N) ⟨h', g, d, tk, os⟩) :
  wpAny (model prog w) A (call (.ref b) [.str (PySem.Str.ofString "K") t0, .ref B]) Q E ⟨h, g, d, tk, os⟩ := by
  refine wpAny_call (codeAny_of_tree ?_)
  show wpAny _ _ (callAny (.ref b) _) _ _ _
  wp_delta
  walk_at "D54 r"
  rw [show (#[Value.builtin "type.__prepare__", Value.type "type"] : Array Value)[0]? = some (.builtin "type.__prepare__") from rfl, show (#[Value.builtin "type.__prepare__", Value.type "type"] : Array Value)[1]? = some (.type "type") from rfl]
  walk_at "D54 r"
  refine wpAny_of_eq (show checkBoundCall "type.__prepare__" ⟨[.type "type", .str (PySem.Str.ofString "K") t0, .ref B], []⟩ = pure () by kernel_rfl) ?_
  walk_at "D54 r"
  refine wpAny_pure ⟨Code.quiet_builtin _ (by decide +kernel), codeAny_builtin e_prep ?_⟩
  wp_delta
  refine wpAny_bind ?_
  wp_delta
  refine wpAny_newObj_type (s := ⟨h, g, d, tk, os⟩) ?_ (by size_fits)
  refine wpAny_pure ?_
  exact HQ _ _ (fun b o e => Heap.get?_push_of_some _ e) (Heap.get?_push_size _ rfl) (Heap.get?_none_of_le (Nat.le_refl _)) (Nat.ne_of_gt h1)
-- D54Bc2
/-- the code of cmp_to_key, as the written part has it -/
theorem cd34 {w : World} {h : Heap} (K : (D54.hd.heap_1 w.params).In h) : CdHd h 34 30 (PySem.Str.ofString "/claim/cut.py") 3 181 :=
  ⟨codeHd_of_K K (by kernel_rfl), _, _, _, K 34 _ rfl, rfl, rfl, rfl, rfl, rfl⟩
section
variable {w : World} {A : Around} {E : Value → Shared → Prop} {h : Heap} {g : Array GenState} {d : Drawn} {tk : Nat} {os : OsState} {L : Addr} {Q : Value → Shared → Prop}
abbrev kcO (P : Addr) (t1 t2 t3 t4 : Tok) (r8 : Addr) (u : Tok) : Obj := codeO (PySem.Str.ofString "K") qK (PySem.Str.ofString "/claim/cut.py") 52 0 0 0 0 true 181 P t1 t2 t3 t4 r8 .none .none .none u
theorem cc_first (K : (D54.hd.heap_1 w.params).In h) (h30 : h.get? 30 = some (tabObj #[]))
    (hq : ∀ c P t1 t2 t3 t4 r8 u h' tk', (∀ b o, b ≠ 30 → h.get? b = some o → h'.get? b = some o) → h.get? c = none → h.get? P = none → c ≠ P → h'.get? 30 = some (tabObj #[rawInt 52, rawInt 4, .ref c]) → h'.get? c = some (kcO P t1 t2 t3 t4 r8 u) → h'.get? P = some (tabObj #[]) →
      Q (.ref c) ⟨h', g, d, tk', os⟩) :
    wpAny (model prog w) A (classCode (fenv L) clsPos 52 (PySem.Str.ofString "K") qK clsScope) Q E ⟨h, g, d, tk, os⟩ := by
  unfold classCode
  refine codeAt_x (s := ⟨h, g, d, tk, os⟩) (ps := #[]) rfl (cd34 K) h30 trivial rfl ?_
  refine newCode_c (s := ⟨h, g, d, tk, os⟩) fun c P h' tk' t1 t2 t3 t4 r8 u k fc fP ne hc hP => ?_
  have n30 : ∀ b, h.get? b = none → b ≠ 30 := fun b e q => by rw [q, h30] at e; cases e
  refine ⟨c, rfl, k _ _ h30, ?_⟩
  refine hq c P t1 t2 t3 t4 r8 u _ _ (fun b o hb e => (Heap.get?_update_other _ _ (Ne.symm hb)).trans (k _ _ e)) fc fP ne ?_ ((Heap.get?_update_other _ _ (n30 c fc).symm).trans hc) ((Heap.get?_update_other _ _ (n30 P fP).symm).trans hP)
  exact (Heap.get?_update_self _ (k _ _ h30) rfl).trans (congrArg some (map_tab rfl))
theorem cc_next {c : Addr} (K : (D54.hd.heap_1 w.params).In h) (h30 : h.get? 30 = some (tabObj #[rawInt 52, rawInt 4, .ref c])) (hq : Q (.ref c) ⟨h, g, d, tk, os⟩) :
    wpAny (model prog w) A (classCode (fenv L) clsPos 52 (PySem.Str.ofString "K") qK clsScope) Q E ⟨h, g, d, tk, os⟩ := by
  unfold classCode codeAt
  rw [if_neg (show ¬ (((fenv L).code == Value.none) = true) from Bool.false_ne_true)]
  obtain ⟨o, vs, tf, ho, hd, h18, h7, h9, h10⟩ := (cd34 K).vs
  obtain ⟨o', vs', file', tf', flags', tg, inF, text', tt, e1, e2, e3, e4, e5, e6⟩ := (cd34 K).hd
  rw [ho] at e1; cases e1
  rw [hd] at e3; cases e3
  refine wpAny_bind (wpAny_fieldsOf (s := ⟨h, g, d, tk, os⟩) ho hd ?_)
  rw [e5]
  refine wpAny_bind (wpAny_fieldsOf (s := ⟨h, g, d, tk, os⟩) h30 rfl ?_)
  exact wpAny_pure hq
end
-- D54Bc3
theorem nk_ok {h : Heap} {i1 i2 i3 i4 i5 i6 i7 i8 i9 i10 i11 i12 : Int} {t1 t2 t3 t4 t5 t6 t7 t8 t9 t10 t11 t12 u1 u2 u3 uo us : Tok} {fl f1 f2 f3 f4 f5 f6 fs : Addr} (hfl : h.get? fl = some { cls := .type "list", data := .seq #[.str (PySem.Str.ofString "obj") uo] }) (hfs : h.get? fs = some { cls := .type "tuple", data := .seq #[.str (PySem.Str.ofString "obj") us] })
  (hf : ∀ f ∈ [f1, f2, f3, f4, f5, f6], ∃ o, h.get? f = some o ∧ o.cls = .type "function") :
  NK h #[en "__module__" i1 t1 (.str (PySem.Str.ofString "cpy313.functools") u1), en "__qualname__" i2 t2 (.str qK u2), en "__firstlineno__" i3 t3 (.int 52 u3), en "__slots__" i4 t4 (.ref fl), en "__init__" i5 t5 (.ref f1), en "__lt__" i6 t6 (.ref f2), en "__gt__" i7 t7 (.ref f3), en "__eq__" i8 t8 (.ref f4), en "__le__" i9 t9 (.ref f5), en "__ge__" i10 t10 (.ref f6), en "__hash__" i11 t11 .none, en "__static_attributes__" i12 t12 (.ref fs)] #[en "__module__" i1 t1 (.str (PySem.Str.ofString "cpy313.functools") u1), en "__firstlineno__" i3 t3 (.int 52 u3), en "__slots__" i4 t4 (.ref fl), en "__init__" i5 t5 (.ref f1), en "__lt__" i6 t6 (.ref f2), en "__gt__" i7 t7 (.ref f3), en "__eq__" i8 t8 (.ref f4), en "__le__" i9 t9 (.ref f5), en "__ge__" i10 t10 (.ref f6), en "__hash__" i11 t11 .none, en "__static_attributes__" i12 t12 (.ref fs)] qK u2 f4 := by
  have ff : ∀ f ∈ [f1, f2, f3, f4, f5, f6], ValOk h (.ref f) := fun f hm => let ⟨o, ho, hc⟩ := hf f hm; ⟨_, sn_fn, .inl ⟨_, o, rfl, ho, hc⟩⟩
  refine ⟨⟨en "__slots__" i4 t4 (.ref fl), fl, uo, by kernel_rfl, rfl, hfl⟩, by kernel_rfl, by kernel_rfl, by kernel_rfl, (show 12 ≤ 100 by decide), by kernel_rfl, by kernel_rfl, by kernel_rfl, by kernel_rfl, by kernel_rfl, ?_, (show 11 ≤ 100 by decide), by kernel_rfl, fun _ _ _ => by kernel_rfl, fun _ _ _ => by kernel_rfl, fun _ _ _ => by kernel_rfl, fun _ _ _ _ _ _ => by kernel_rfl, ?_, fun _ _ _ _ _ => by kernel_rfl, fun _ _ _ _ _ => by kernel_rfl⟩
  · intro n hn
    simp only [List.mem_cons, List.not_mem_nil, or_false] at hn
    rcases hn with rfl | rfl | rfl | rfl | rfl | rfl <;> kernel_rfl
  · intro e he
    simp only [List.mem_cons, List.not_mem_nil, or_false] at he
    rcases he with rfl | rfl | rfl | rfl | rfl | rfl | rfl | rfl | rfl | rfl | rfl
    · exact ⟨⟨_, _, rfl⟩, by kernel_rfl, ⟨_, sn_str, .inr rfl⟩⟩
    · exact ⟨⟨_, _, rfl⟩, by kernel_rfl, ⟨_, sn_int, .inr rfl⟩⟩
    · exact ⟨⟨_, _, rfl⟩, by kernel_rfl, ⟨_, sn_list, .inl ⟨_, _, rfl, hfl, rfl⟩⟩⟩
    · exact ⟨⟨_, _, rfl⟩, by kernel_rfl, ff f1 (by simp)⟩
    · exact ⟨⟨_, _, rfl⟩, by kernel_rfl, ff f2 (by simp)⟩
    · exact ⟨⟨_, _, rfl⟩, by kernel_rfl, ff f3 (by simp)⟩
    · exact ⟨⟨_, _, rfl⟩, by kernel_rfl, ff f4 (by simp)⟩
    · exact ⟨⟨_, _, rfl⟩, by kernel_rfl, ff f5 (by simp)⟩
    · exact ⟨⟨_, _, rfl⟩, by kernel_rfl, ff f6 (by simp)⟩
    · exact ⟨⟨_, _, rfl⟩, by kernel_rfl, ⟨_, sn_none, .inr rfl⟩⟩
    · exact ⟨⟨_, _, rfl⟩, by kernel_rfl, ⟨_, sn_tup, .inl ⟨_, _, rfl, hfs, rfl⟩⟩⟩
-- D54Bc4
theorem k_but {w : World} {h h' : Heap} (K : (D54.hd.heap_1 w.params).In h) (k : ∀ b o, b ≠ 30 → h.get? b = some o → h'.get? b = some o) : (D54.hd.heap_1 w.params).In h' := fun a o e => k a o (fun q => by
  subst q
  have z : List.lookup 30 (D54.hd.heap_1 w.params) = none := by kernel_rfl
  rw [show List.lookup 30 (D54.hd.heap_1 w.params) = some o from e] at z; cases z) (K a o e)
theorem ns_but {h h' : Heap} {a : Addr} {m : PySem.Str → Option Value} (x : h.Ns a m) (k : ∀ b o, b ≠ 30 → h.get? b = some o → h'.get? b = some o) (ne : a ≠ 30) : h'.Ns a m := let ⟨o, es, ep, e, r⟩ := x; ⟨o, es, ep, k _ _ ne e, r⟩
theorem top_but {h h' : Heap} {mg mb : PySem.Str → Option Value} (T : TopRead prog [] mg mb h) (k : ∀ b o, b ≠ 30 → h.get? b = some o → h'.get? b = some o) : TopRead prog [] mg mb h' :=
  ⟨ns_but T.g k (by decide), ns_but T.b k (by decide), let ⟨mc, a, r⟩ := T.nolimit; ⟨mc, ns_but a k (by decide), r⟩, T.builtins, T.free⟩
/-- the module of the built-ins -/
def BMn (h : Heap) (mg : PySem.Str → Option Value) : Prop := ∃ bm ob, mg "__builtins__" = some (.ref bm) ∧ bm ≠ builtinsNs ∧ bm ≠ mainGlobals ∧ h.get? bm = some ob ∧ ob.cls = .type "module" ∧ ob.dict = some builtinsNs ∧ ob.data = .plain
theorem BMn.keeps {h h' : Heap} {mg : PySem.Str → Option Value} (x : BMn h mg) (k : Ext h h') : BMn h' mg := by
  obtain ⟨bm, ob, a, b, c, e, r⟩ := x
  exact ⟨bm, ob, a, b, c, k _ _ e, r⟩
theorem BMn.ne {h : Heap} {mg : PySem.Str → Option Value} {P : Addr} {ps : Array Value} (hP : h.get? P = some (tabObj ps)) {bm : Addr} {ob : Obj} (e : h.get? bm = some ob) (hc : ob.cls = .type "module") : bm ≠ P := fun q => by
  rw [q, hP] at e; cases e; cases hc
theorem BMn.but {h h' : Heap} {mg : PySem.Str → Option Value} {ps : Array Value} (x : BMn h mg) (h30 : h.get? 30 = some (tabObj ps)) (k : ∀ b o, b ≠ 30 → h.get? b = some o → h'.get? b = some o) : BMn h' mg := let ⟨bm, ob, a, b, c, e, r⟩ := x; ⟨bm, ob, a, b, c, k _ _ (BMn.ne (mg := mg) h30 e r.1) e, r⟩
theorem BMn.at' {h : Heap} {P : Addr} {ps : Array Value} {mg : PySem.Str → Option Value} (x : BMn h mg) (hP : h.get? P = some (tabObj ps)) : h.BuiltinsAt mg P := let ⟨bm, ob, a, b, c, e, r⟩ := x; ⟨bm, ob, a, b, c, BMn.ne (mg := mg) hP e r.1, e, r⟩
theorem hid_bi {h : Heap} {N P : Addr} {ps : Array Value} {es : Array DictEntry} {n : Nat} {mg : PySem.Str → Option Value} (x : BMn h mg) (hN : h.get? N = some (dO es n)) (hP : h.get? P = some (tabObj ps)) : (hideAll h [N, P]).BuiltinsAt mg P :=
  let ⟨bm, ob, a, b, c, e, r⟩ := x
  have e1 : bm ≠ P := BMn.ne (mg := mg) hP e r.1
  have e2 : bm ≠ N := fun q => by rw [q, hN] at e; cases e; have z := r.1; injection z with z; exact absurd z (by decide)
  ⟨bm, ob, a, b, c, e1, hideAll_get _ e (fun hm => by rcases List.mem_cons.mp hm with q | hm; exact e2 q; exact e1 (List.mem_singleton.mp hm)), r⟩
theorem cd_kc {h : Heap} {c P : Addr} {t1 t2 t3 t4 u : Tok} {r8 : Addr} (hc : h.get? c = some (kcO P t1 t2 t3 t4 r8 u)) (ne : c ≠ P) : CdHd h c P (PySem.Str.ofString "/claim/cut.py") 0 181 :=
  ⟨⟨_, _, _, _, _, _, _, _, _, hc, rfl, rfl, rfl, rfl, rfl, rfl, rfl, rfl, ne⟩, _, _, _, hc, rfl, rfl, rfl, rfl, rfl⟩
theorem ln_name (N c fr cl : Addr) : loadName (cenv N c fr cl) (PySem.Str.ofString "__name__") = (do
    if let some v ← localGet (cenv N c fr cl) (PySem.Str.ofString "__name__") then return v
    loadGlobal (cenv N c fr cl) (PySem.Str.ofString "__name__")) := by kernel_rfl
theorem none_up' {h h' : Heap} {D : Addr} (hk : Ext h h') (hn : h'.get? D = none) : h.get? D = none := by
  cases e : h.get? D with
  | none => rfl
  | some o => rw [hk _ _ e] at hn; cases hn
theorem stat_is : clsStat = [PySem.Str.ofString "obj"] := by kernel_rfl
theorem St3.start {h : Heap} {N P : Addr} {dn co : Obj} (hN : h.get? N = some dn) (hP : h.get? P = some co) (ne : N ≠ P) : St3 (hideAll h [N, P]) N P [] h dn co :=
  ⟨fun b o e => of_hideAll _ e, hN, hP, hideAll_none _ (.head _), hideAll_none _ (.tail _ (.head _)), ne, fun _ hp => (nomatch hp)⟩
theorem hid_get {h : Heap} {N P b : Addr} {o : Obj} (e : h.get? b = some o) (h1 : b ≠ N) (h2 : b ≠ P) : (hideAll h [N, P]).get? b = some o := hideAll_get _ e fun hm => by
  rcases List.mem_cons.mp hm with q | hm
  · exact h1 q
  · exact h2 (List.mem_singleton.mp hm)
theorem hid_ns {h : Heap} {N P a : Addr} {m : PySem.Str → Option Value} (x : h.Ns a m) (h1 : a ≠ N) (h2 : a ≠ P) : (hideAll h [N, P]).Ns a m := let ⟨o, es, ep, e, r⟩ := x; ⟨o, es, ep, hid_get e h1 h2, r⟩
theorem k_hid {w : World} {h : Heap} {N P : Addr} {ps : Array Value} (K : (D54.hd.heap_1 w.params).In h) (hN : ∀ a o, List.lookup a (D54.hd.heap_1 w.params) = some o → a ≠ N) (hP : h.get? P = some (tabObj ps)) : (D54.hd.heap_1 w.params).In (hideAll h [N, P]) := fun a o e =>
  hid_get (K a o e) (hN a o e) fun q => by
    have h1 := K a o e
    rw [q, hP] at h1
    have z : noTabs (D54.hd.heap_1 w.params) = true := by kernel_rfl
    have h2 := List.all_eq_true.mp z (a, o) (mem_of_lookupK e)
    cases h1
    exact absurd (show false = true from h2) Bool.false_ne_true
-- D54Bc5
theorem ln_load {w : World} {A : Around} {E : Value → Shared → Prop} {h : Heap} {g : Array GenState} {d : Drawn} {tk : Nat} {os : OsState} {N c fr cl : Addr} {es : Array DictEntry} {k : Nat} {mg : PySem.Str → Option Value} {v : Value} {Q : Value → Shared → Prop}
    (hN : h.get? N = some (dO es k)) (hk : nsLook (PySem.Str.ofString "__name__") (dO es k) = pure none) (G : h.Ns mainGlobals mg) (hv : mg (PySem.Str.ofString "__name__") = some v) (hq : Q v ⟨h, g, d, tk, os⟩) :
    wpAny (model prog w) A (loadName (cenv N c fr cl) (PySem.Str.ofString "__name__")) Q E ⟨h, g, d, tk, os⟩ := by
  rw [ln_name]
  unfold localGet
  walk_at "D54 r"
  repeat ((first | with_reducible refine wpAny_of_eq hk ?_); walk_at "D54 r")
  unfold loadGlobal
  refine wpAny_bind (wpAny_nsGet (s := ⟨h, g, d, tk, os⟩) G ?_)
  rw [hv]
  exact wpAny_pure hq
theorem c_gi : typeLookup (.type "dict") (PySem.Str.ofString "__getitem__") = pure (some (.builtin "dict.__getitem__")) := by kernel_rfl
theorem clo_f (L : Addr) : closureFor clsScope (fenv L) = pure [(PySem.Str.ofString "mycmp", L + 1)] := by kernel_rfl
/-- the class as it stands -/
structure KCls (h : Heap) (a n f1 f2 : Addr) : Prop where
  is : ∃ (xa : Nat → Addr) (xi : Nat → Int) (xt : Nat → Tok), h.get? a = some (kO n a (xa 0) (xt 0) (xt 20)) ∧ h.get? (xa 1) = some (mdO a (xt 21)) ∧ h.get? n = some (dO #[en "__module__" (xi 1) (xt 1) (.str (PySem.Str.ofString "cpy313.functools") (xt 22)), en "__firstlineno__" (xi 3) (xt 3) (.int 52 (xt 23)), en "__slots__" (xi 4) (xt 4) (.ref (xa 2)), en "__init__" (xi 5) (xt 5) (.ref f1), en "__lt__" (xi 6) (xt 6) (.ref f2), en "__gt__" (xi 7) (xt 7) (.ref (xa 3)), en "__eq__" (xi 8) (xt 8) (.ref (xa 4)), en "__le__" (xi 9) (xt 9) (.ref (xa 5)), en "__ge__" (xi 10) (xt 10) (.ref (xa 6)), en "__hash__" (xi 11) (xt 11) .none, en "__static_attributes__" (xi 12) (xt 12) (.ref (xa 7)), en "obj" (xi 13) (xt 13) (.ref (xa 1)), en "__doc__" (xi 14) (xt 14) .none] 3)
theorem KCls.mk' {h : Heap} {a n f1 f2 B D fl f3 f4 f5 f6 fs : Addr} {i1 i3 i4 i5 i6 i7 i8 i9 i10 i11 i12 i13 i14 : Int} {t0 t1 t3 t4 t5 t6 t7 t8 t9 t10 t11 t12 t13 t14 u k u1 u3 : Tok} (ha : h.get? a = some (kO n a B t0 u)) (hD : h.get? D = some (mdO a k)) (hn : h.get? n = some (dO #[en "__module__" i1 t1 (.str (PySem.Str.ofString "cpy313.functools") u1), en "__firstlineno__" i3 t3 (.int 52 u3), en "__slots__" i4 t4 (.ref fl), en "__init__" i5 t5 (.ref f1), en "__lt__" i6 t6 (.ref f2), en "__gt__" i7 t7 (.ref f3), en "__eq__" i8 t8 (.ref f4), en "__le__" i9 t9 (.ref f5), en "__ge__" i10 t10 (.ref f6), en "__hash__" i11 t11 .none, en "__static_attributes__" i12 t12 (.ref fs), en "obj" i13 t13 (.ref D), en "__doc__" i14 t14 .none] 3)) : KCls h a n f1 f2 :=
  ⟨fun j => [B, D, fl, f3, f4, f5, f6, fs].getD j 0, fun j => ([0, i1, 0, i3, i4, i5, i6, i7, i8, i9, i10, i11, i12, i13, i14] : List Int).getD j 0, fun j => ([t0, t1, 0, t3, t4, t5, t6, t7, t8, t9, t10, t11, t12, t13, t14, 0, 0, 0, 0, 0, u, k, u1, u3] : List Nat).getD j 0, ha, hD, hn⟩
def BodyOk (w : World) (mg : PySem.Str → Option Value) (g : Array GenState) (d : Drawn) (os : OsState) (L : Addr) (Cx : Addr → Addr → Array Value → Heap → Prop) (Bx : Addr → Addr → List (Addr × Obj) → Array Value → Prop) : Prop :=
  ∀ (A : Around) (E : Value → Shared → Prop) (Q : Flow → Shared → Prop) (hp h : Heap) (tk : Nat) (N P c fr : Addr) (ps : Array Value) (i1 i2 i3 : Int) (t1 t2 t3 u2 u3 : Tok) (m0 : Value) (h4 : Heap),
    St3 hp N P [] h (dO #[en "__module__" i1 t1 m0, en "__qualname__" i2 t2 (.str qK u2), en "__firstlineno__" i3 t3 (.int 52 u3)] 3) (tabObj ps) → hp.Ns mainGlobals mg → CdHd hp c P (PySem.Str.ofString "/claim/cut.py") 0 181 → hp.BuiltinsAt mg P → Cx c P ps h4 →
    (∀ u1 uo fl i4 t4 i5 t5 i6 t6 i7 t7 i8 t8 i9 t9 i10 t10 i11 t11 f1 f2 f3 f4 f5 f6 ot ps' h' tk', St3 hp N P ot h' (dO #[en "__module__" i1 t1 (.str (PySem.Str.ofString "cpy313.functools") u1), en "__qualname__" i2 t2 (.str qK u2), en "__firstlineno__" i3 t3 (.int 52 u3), en "__slots__" i4 t4 (.ref fl), en "__init__" i5 t5 (.ref f1), en "__lt__" i6 t6 (.ref f2), en "__gt__" i7 t7 (.ref f3), en "__eq__" i8 t8 (.ref f4), en "__le__" i9 t9 (.ref f5), en "__ge__" i10 t10 (.ref f6), en "__hash__" i11 t11 .none] 11) (tabObj ps') → (fl, ({ cls := .type "list", data := .seq #[.str (PySem.Str.ofString "obj") uo] } : Obj)) ∈ ot →
      (∀ f ∈ [f1, f2, f3, f4, f5, f6], ∃ x, (f, x) ∈ ot ∧ x.cls = .type "function") → Bx f1 f2 ot ps' → Q .next ⟨h', g, d, tk', os⟩) →
    wpAny (model prog w) A (execs clsBody (cenv N c fr (L + 1))) Q E ⟨h, g, d, tk, os⟩
def CodeOk (w : World) (h : Heap) (g : Array GenState) (d : Drawn) (os : OsState) (L : Addr) (Cx : Addr → Addr → Array Value → Heap → Prop) : Prop :=
  ∀ (A : Around) (E : Value → Shared → Prop) (Q : Value → Shared → Prop) (h' : Heap) (tk : Nat), Ext h h' →
    (∀ c P ps t1 t2 t3 t4 r8 u h'' tk', (∀ b o, b ≠ 30 → h'.get? b = some o → h''.get? b = some o) → h''.get? c = some (kcO P t1 t2 t3 t4 r8 u) → h''.get? P = some (tabObj ps) → c ≠ P →
      (∀ b o, h.get? b = none → h'.get? b = some o → b ≠ P ∧ b ≠ c) → Cx c P ps h'' → Q (.ref c) ⟨h'', g, d, tk', os⟩) →
    wpAny (model prog w) A (classCode (fenv L) clsPos 52 (PySem.Str.ofString "K") qK clsScope) Q E ⟨h', g, d, tk, os⟩
set_option maxHeartbeats 4000000 in
theorem build_cls {w : World} {A : Around} {E : Value → Shared → Prop} {h : Heap} {g : Array GenState} {d : Drawn} {tk : Nat} {os : OsState} {L : Addr} {Q : Value → Shared → Prop} {mg mb : PySem.Str → Option Value} {Cx : Addr → Addr → Array Value → Heap → Prop} {Bx : Addr → Addr → List (Addr × Obj) → Array Value → Prop} {p30 : Array Value}
  (K : (D54.hd.heap_1 w.params).In h) (T : TopRead prog [] mg mb h) (hh : A.handled = none) (hd : A.depth ≤ 700) (hu : A.units ≤ 7000) (h30 : h.get? 30 = some (tabObj p30)) (BM : BMn h mg) (CC : CodeOk w h g d os L Cx) (BB : BodyOk w mg g d os L Cx Bx)
  (HQ : ∀ a n c P ps ps' t1 t2 t3 t4 r8 u N h4 ot f1 f2 h' tk', (∀ b o, b ≠ 30 → h.get? b = some o → h4.get? b = some o) → h4.get? c = some (kcO P t1 t2 t3 t4 r8 u) → c ≠ P → Cx c P ps h4 → h.get? N = none → N ≠ P → c ≠ N → (∀ b o, b ≠ N → b ≠ P → h4.get? b = some o → h'.get? b = some o) → h'.get? P = some (tabObj ps') →
    (∀ p ∈ ot, h'.get? p.1 = some p.2) → Bx f1 f2 ot ps' → KCls h' a n f1 f2 → (∀ b o, b ≠ N → b ≠ P → h4.get? b = some o → b ≠ n) → Q (.ref a) ⟨h', g, d, tk', os⟩) :
  wpAny (model prog w) A (buildClass (PySem.Str.ofString "K") qK [.type "object"] [] clsBody clsScope clsStat 52 (fenv L) clsPos) Q E ⟨h, g, d, tk, os⟩ := by
  wp_delta
  walk_at "D54 r"
  refine wpAny_newTuple (s := ⟨h, g, d, tk, os⟩) ?_
  have hB : (h.push { cls := .type "tuple", data := .seq #[.type "object"] }).get? h.objs.size = some { cls := .type "tuple", data := .seq #[.type "object"] } := Heap.get?_push_size _ rfl
  have k1 : Ext h (h.push { cls := .type "tuple", data := .seq #[.type "object"] }) := fun b o e => Heap.get?_push_of_some _ e
  have fB : h.get? h.objs.size = none := Heap.get?_none_of_le (Nat.le_refl _)
  show wpAny _ _ _ _ _ ⟨h.push { cls := .type "tuple", data := .seq #[.type "object"] }, g, d, tk, os⟩
  revert hB k1 fB
  generalize h.objs.size = B
  generalize h.push _ = h1
  intro hB k1 fB
  walk_at "D54 r"
  repeat ((first | with_reducible refine wpAny_of_eq c_isTy2 ?_); walk_at "D54 r")
  rw [show ((([] : List Value), false).fst ++ [Value.type "object"], (([] : List Value), false).snd).fst = [Value.type "object"] from rfl, show ((([] : List Value), false).fst ++ [Value.type "object"], (([] : List Value), false).snd).snd = false from rfl, show List.lookup (PySem.Str.ofString "metaclass") ([] : List (PySem.Str × Value)) = none from rfl]
  walk_at "D54 r"
  repeat ((first | with_reducible refine wpAny_of_eq c_isTy2 ?_); walk_at "D54 r")
  refine prep_attr (K.keeps k1) hh (Nat.le_trans hd (by decide)) (Nat.le_trans hu (by decide)) fun b h2 tk2 k2 hb => ?_
  have hsz : 1 < h2.objs.size := Nat.lt_of_le_of_lt (by decide) (Heap.lt_size ((K.keeps k1).keeps k2 34 _ rfl))
  walk_at "D54 r"
  refine prep_call2 hb hsz fun N h3 k3 hN fN hN1 => ?_
  walk_at "D54 r"
  have eM : (N == sysModules) = false := beq_eq_false_iff_ne.mpr hN1
  refine wpAny_of_eq (show notTheModulesDict "class:the-namespace-that-__prepare__-gave" N = pure () by unfold notTheModulesDict; rw [eM]; rfl) ?_
  walk_at "D54 r"
  repeat ((first | with_reducible refine wpAny_of_eq c_gi ?_); walk_at "D54 r")
  refine CC _ _ _ _ _ ((k1.trans k2).trans k3) ?_
  intro c P ps q1 q2 q3 q4 r8 u h4 tk4 keep hc hP hcP hfr hx
  have fNh : h.get? N = none := none_up' (k1.trans k2) fN
  have hN30 : N ≠ 30 := fun q => by rw [q, h30] at fNh; cases fNh
  have hN4 := keep _ _ hN30 hN
  have hNP := (hfr N _ fNh hN).1
  have hNc := (hfr N _ fNh hN).2
  have kA : ∀ b o, b ≠ 30 → h.get? b = some o → h4.get? b = some o := fun b o hb e => keep b o hb (k3 _ _ (k2 _ _ (k1 _ _ e)))
  have hB30 : B ≠ 30 := fun q => by rw [q, h30] at fB; cases fB
  have hB4 := keep _ _ hB30 (k3 _ _ (k2 _ _ hB))
  have K4 := k_but K kA
  have T4 := top_but T kA
  have M4 := BM.but h30 kA
  obtain ⟨bm, ob, hbm, hne0, _, hneP, hbo, hcls, hdict, hdata⟩ := M4.at' hP
  refine wpAny_bind (wpAny_builtinsFor (s := ⟨h4, g, d, tk4, os⟩) T4.g hbm hne0 hbo hcls hdict hdata ?_)
  refine wpAny_bind ?_
  unfold newBodyFrame
  refine wpAny_bind (wpAny_nsGet (s := ⟨h4, g, d, tk4, os⟩) T4.g (wpAny_alloc' ?_))
  refine wpAny_bind (wpAny_of_eq (clo_f L) ?_)
  rw [show ({ scope := clsScope, locals := N, globals := (fenv L).globals, cells := (Option.map (fun x => (PySem.Str.ofString "__class__", x)) none).toList ++ (Option.map (fun x => (PySem.Str.ofString "__classdict__", x)) none).toList ++ [(PySem.Str.ofString "mycmp", L + 1)], qual := qK ++ PySem.Str.ofString ".", code := Value.ref c, frame := some h4.objs.size, builtins := builtinsNs } : Env) = cenv N c h4.objs.size (L + 1) from rfl]
  generalize hfo : ({ cls := .type "frame", slots := _ } : Obj) = fo
  have k5 : Ext h4 (h4.push fo) := fun b o e => Heap.get?_push_of_some _ e
  revert k5
  generalize h4.push fo = h5
  generalize h4.objs.size = fr
  intro k5
  with_reducible wp_delta
  refine wpAny_holding (wpAny_bind (wpAny_enterFrame (s := ⟨h5, g, d, tk4, os⟩) (T4.keeps k5).nolimit (Nat.lt_of_le_of_lt hd (by decide)) ?_))
  have hN5 := k5 _ _ hN4
  have hP5 := k5 _ _ hP
  have S0 := St3.start hN5 hP5 hNP
  have K5 := K4.keeps k5
  have G5 := T4.g.keeps k5
  have gN : mainGlobals ≠ N := fun q => by
    obtain ⟨o, es, ep, e, r⟩ := T.g
    rw [q, fNh] at e; cases e
  have gP : mainGlobals ≠ P := fun q => by
    obtain ⟨o, es, ep, e, hd', r⟩ := G5
    rw [q, hP5] at e; cases e; cases hd'
  have cN : c ≠ N := fun q => hNc q.symm
  have Gp := hid_ns G5 gN gP
  have Cp := cd_kc (hid_get (k5 _ _ hc) cN hcP) hcP
  have Bp := hid_bi (M4.keeps k5) hN5 hP5
  have hm0 : mg (PySem.Str.ofString "__name__") = some (.str (PySem.Str.ofString "law_dn0054_01") 244) := mg_of K T.g (by kernel_rfl)
  have kH : Ext (hideAll h5 [N, P]) h5 := S0.keep
  refine wpAny_bind (wpAny_onRaise ?_)
  refine wpAny_bind (ln_load S0.nn (by kernel_rfl) (Gp.keeps S0.keep) hm0 ?_)
  generalize (Value.str (PySem.Str.ofString "law_dn0054_01") 244) = m0
  rw [st__module__]
  refine wpAny_bind (set_c (e' := fun i1 t1 => #[en "__module__" i1 t1 m0]) (k' := 1) S0 rfl (by kernel_rfl) (fun _ _ => by kernel_rfl) ?_)
  clear S0; intro i1 t1 h6 tk6 S0
  refine wpAny_bind (wpAny_mkText (s := ⟨h6, g, d, tk6, os⟩) ?_)
  generalize (⟨h6, g, d, tk6, os⟩ : Shared).toks = u2
  rw [st__qualname__]
  refine wpAny_bind (set_c (e' := fun i2 t2 => #[en "__module__" i1 t1 m0, en "__qualname__" i2 t2 (.str qK u2)]) (k' := 2) S0 rfl (by kernel_rfl) (fun _ _ => by kernel_rfl) ?_)
  clear S0; intro i2 t2 h7 tk7 S0
  refine wpAny_bind (wpAny_mkInt' ?_)
  generalize hu3 : tk7 = u3
  rw [st__firstlineno__]
  refine wpAny_bind (set_c (e' := fun i3 t3 => #[en "__module__" i1 t1 m0, en "__qualname__" i2 t2 (.str qK u2), en "__firstlineno__" i3 t3 (.int 52 u3)]) (k' := 3) S0 rfl (by kernel_rfl) (fun _ _ => by kernel_rfl) ?_)
  clear S0; intro i3 t3 h8 tk8 S0
  walk_at "D54 r"
  refine wpAny_run (codeAny_body (by kernel_rfl) (by kernel_rfl) ?_)
  refine BB _ _ _ _ _ _ N P c fr ps i1 i2 i3 t1 t2 t3 u2 u3 m0 h4 S0 Gp Cp Bp hx ?_
  clear S0
  intro u1 uo fl i4 t4 i5 t5 i6 t6 i7 t7 i8 t8 i9 t9 i10 t10 i11 t11 f1 f2 f3 f4 f5 f6 ot ps' h9 tk9 S9 hfl hfn hBx
  show wpAny _ _ _ _ _ _
  refine wpAny_bind (wpAny_onRaise ?_)
  rw [stat_is, List.mapM_cons, List.mapM_nil]
  refine wpAny_bind (wpAny_bind (wpAny_mkText (s := ⟨h9, g, d, tk9, os⟩) (wpAny_bind (wpAny_pure (wpAny_pure ?_)))))
  refine wpAny_bind (wpAny_newTextTuple (s := ⟨h9, g, d, tk9 + 1, os⟩) ?_)
  show wpAny _ _ _ _ _ ⟨h9.push { cls := .type "tuple", data := .seq #[.str (PySem.Str.ofString "obj") tk9] }, g, d, tk9 + 1, os⟩
  have S10 := S9.more (o := { cls := .type "tuple", data := .seq #[.str (PySem.Str.ofString "obj") tk9] }) rfl
  revert S10
  show St3 _ _ _ ((h9.objs.size, _) :: ot) _ _ _ → wpAny _ _ (storeName _ _ (.ref h9.objs.size) >>= _) _ _ _
  generalize h9.objs.size = fs
  generalize h9.push _ = h10
  generalize tk9 = us
  intro S10
  rw [st__static_attributes__]
  refine wpAny_bind (set_c (e' := fun i12 t12 => #[en "__module__" i1 t1 (.str (PySem.Str.ofString "cpy313.functools") u1), en "__qualname__" i2 t2 (.str qK u2), en "__firstlineno__" i3 t3 (.int 52 u3), en "__slots__" i4 t4 (.ref fl), en "__init__" i5 t5 (.ref f1), en "__lt__" i6 t6 (.ref f2), en "__gt__" i7 t7 (.ref f3), en "__eq__" i8 t8 (.ref f4), en "__le__" i9 t9 (.ref f5), en "__ge__" i10 t10 (.ref f6), en "__hash__" i11 t11 .none, en "__static_attributes__" i12 t12 (.ref fs)]) (k' := 12) S10 rfl (by kernel_rfl) (fun _ _ => by kernel_rfl) ?_)
  clear S9 S10; intro i12 t12 h11 tk11 S11
  walk_at "D54 r"
  have KH : (D54.hd.heap_1 w.params).In (hideAll h5 [N, P]) := k_hid K5 (fun a o e q => by have := K a o e; rw [q, fNh] at this; cases this) hP5
  have K11 := KH.keeps S11.keep
  have hBN : B ≠ N := fun q => by have := k2 _ _ hB; rw [q, fN] at this; cases this
  have hBP := (hfr B _ fB (k3 _ _ (k2 _ _ hB))).1
  have hB11 := S11.keep _ _ (hid_get (k5 _ _ hB4) hBN hBP)
  have fo11 := fun p hp => (S11.oth p hp).1
  refine type_call K11 hh (Nat.le_trans hd (by decide)) (Nat.le_trans hu (by decide)) hB11 S11.nn hN1 (nk_ok (us := us) (fo11 _ (.tail _ hfl)) (fo11 _ (.head _)) fun f hf => let ⟨x, hx1, hx2⟩ := hfn f hf; ⟨x, fo11 _ (.tail _ hx1), hx2⟩) ?_
  intro n a D i13 k14 t13 i14 t14 h12 tk12 kE fn fa fD ha hD hn
  walk_at "D54 r"
  refine HQ a n c P ps ps' q1 q2 q3 q4 r8 u N h4 ot f1 f2 h12 tk12 kA hc hcP hx fNh hNP cN (fun b o h1 h2 e => kE _ _ (S11.keep _ _ (hid_get (k5 _ _ e) h1 h2))) (kE _ _ S11.aa) (fun p hp => kE _ _ (fo11 p (.tail _ hp))) hBx ⟨?_⟩ (fun b o h1 h2 e q => by have := S11.keep _ _ (hid_get (k5 _ _ e) h1 h2); rw [q, fn] at this; cases this)
  exact (KCls.mk' ha hD hn).is
-- D54Bc6
theorem qn_K (L : Addr) : qualnameIn (fenv L) (PySem.Str.ofString "K") (PySem.Str.ofString "K") = qK := by kernel_rfl
theorem ln_obj (L : Addr) : loadName (fenv L) (PySem.Str.ofString "object") = loadGlobal (fenv L) (PySem.Str.ofString "object") := by kernel_rfl
theorem c_dbg : (PySem.Str.ofString "object" == PySem.Str.ofString "__debug__") = false := by kernel_rfl
theorem boot_bc : bootBuiltins (PySem.Str.ofString "__build_class__") = some (.builtin "__build_class__") := by kernel_rfl
theorem boot_obj : bootBuiltins (PySem.Str.ofString "object") = some (.type "object") := by kernel_rfl
set_option maxHeartbeats 2000000 in
theorem cls_stmt {w : World} {A : Around} {E : Value → Shared → Prop} {h : Heap} {g : Array GenState} {d : Drawn} {tk : Nat} {os : OsState} {L : Addr} {Q : Flow → Shared → Prop} {mg mb : PySem.Str → Option Value} {p0 : Pos}
  (K : (D54.hd.heap_1 w.params).In h) (T : TopRead prog [] mg mb h)
  (H : wpAny (model prog w) A (buildClass (PySem.Str.ofString "K") qK [.type "object"] [] clsBody clsScope clsStat 52 (fenv L) clsPos) (fun v s' => wpAny (model prog w) A (storeName (fenv L) (PySem.Str.ofString "K") v) (fun _ s'' => Q .next s'') E s') E ⟨h, g, d, tk, os⟩) :
  wpAny (model prog w) A (exec (.ClassDef (PySem.Str.ofString "K") [.Name (PySem.Str.ofString "object") p0] [] clsBody [] [] clsScope none (PySem.Str.ofString "K") clsStat clsPos) (fenv L)) Q E ⟨h, g, d, tk, os⟩ := by
  have hbc : mb (PySem.Str.ofString "__build_class__") = some (.builtin "__build_class__") := (T.builtins _ (by decide +kernel)).trans boot_bc
  have hob : mb (PySem.Str.ofString "object") = some (.type "object") := (T.builtins _ (by decide +kernel)).trans boot_obj
  have hog : mg (PySem.Str.ofString "object") = none := mg_none_of K T.g (by kernel_rfl)
  rw [arm_exec_ClassDef]
  refine wpAny_bind (wpAny_of_eq (a := []) rfl ?_)
  refine wpAny_bind (wpAny_standAt (wpAny_bind ?_))
  unfold buildClassGuard
  refine wpAny_bind (wpAny_nsGet (s := ⟨h, g, d, tk, os⟩) T.b ?_)
  rw [hbc]
  refine wpAny_pure ?_
  refine wpAny_bind (wpAny_holding (wpAny_bind ?_))
  refine wpAny_mono (Q := fun a s' => a = ⟨[.type "object"], []⟩ ∧ s' = ⟨h, g, d, tk, os⟩) (E := fun _ _ => False) ?_ ?_ fun _ _ e => e.elim
  · unfold evalArgs
    walk_at "D54 r"
    show wpAny _ _ (spliced [(false, eval (.Name (PySem.Str.ofString "object") p0) (fenv L))]) _ _ _
    unfold spliced
    refine wpAny_bind ?_
    rw [arm_eval_Name, c_dbg, ln_obj]
    refine wpAny_bind (wpAny_standAt (wpAny_ite_false rfl ?_))
    unfold loadGlobal
    refine wpAny_bind (wpAny_nsGet (s := ⟨h, g, d, tk, os⟩) T.g ?_)
    rw [hog]
    refine wpAny_bind (wpAny_nsGet (s := ⟨h, g, d, tk, os⟩) T.b ?_)
    rw [hob]
    refine wpAny_pure ?_
    walk_at "D54 r"
    repeat ((first | with_reducible refine wpAny_of_eq (a := []) (show spliced [] = pure [] from rfl) ?_); walk_at "D54 r")
    refine wpAny_of_eq (a := []) rfl ?_
    walk_at "D54 r"
    exact ⟨rfl, rfl⟩
  · rintro a s' ⟨rfl, rfl⟩
    refine wpAny_bind (wpAny_standAt (wpAny_holding ?_))
    rw [qn_K]
    refine wpAny_mono H (fun v s' q => ?_) fun _ _ e => e
    show wpAny _ _ (decorate [] v >>= _) _ _ _
    refine wpAny_bind (wpAny_pure (wpAny_bind (wpAny_standAt (wpAny_bind (wpAny_bindName ?_)))))
    exact wpAny_mono q (fun _ _ h'' => wpAny_pure h'') fun _ _ x => x
-- D54Cmp0
/-- the code of a def of the class -/
def CdM (h : Heap) (n : String) (line : Nat) (c : Addr) : Prop := ∃ P a b d e r v w z y, h.get? c = some (codeO (PySem.Str.ofString n) (PySem.Str.ofString ("cmp_to_key.<locals>.K." ++ n)) (PySem.Str.ofString "/claim/cut.py") line 2 0 0 19 true 181 P a b d e r v w z y)
theorem CdM.keeps {h h' : Heap} {n : String} {line : Nat} {c : Addr} (x : CdM h n line c) (k : ∀ o, h.get? c = some o → h'.get? c = some o) : CdM h' n line c := by
  obtain ⟨P, a, b, d, e, r, v, w, z, y, q⟩ := x
  exact ⟨P, a, b, d, e, r, v, w, z, y, k _ q⟩
/-- the tables behind the first call -/
structure Gr (h : Heap) (c P c1 c2 c3 c4 c5 c6 : Addr) : Prop where
  t30 : h.get? 30 = some (tabObj #[rawInt 52, rawInt 4, .ref c])
  hc : ∃ q1 q2 q3 q4 r8 u, h.get? c = some (kcO P q1 q2 q3 q4 r8 u)
  ne : c ≠ P
  n30 : P ≠ 30
  hP : h.get? P = some (tabObj #[rawInt 56, rawInt 8, .ref c1, rawInt 59, rawInt 8, .ref c2, rawInt 62, rawInt 8, .ref c3, rawInt 65, rawInt 8, .ref c4, rawInt 68, rawInt 8, .ref c5, rawInt 71, rawInt 8, .ref c6])
  k1 : CdM h "__init__" 56 c1
  k2 : CdM h "__lt__" 59 c2
theorem Gr.keeps {h h' : Heap} {c P c1 c2 c3 c4 c5 c6 : Addr} (x : Gr h c P c1 c2 c3 c4 c5 c6) (k : Ext h h') : Gr h' c P c1 c2 c3 c4 c5 c6 :=
  ⟨k _ _ x.t30, let ⟨q1, q2, q3, q4, r8, u, e⟩ := x.hc; ⟨q1, q2, q3, q4, r8, u, k _ _ e⟩, x.ne, x.n30, k _ _ x.hP, x.k1.keeps fun _ e => k _ _ e, x.k2.keeps fun _ e => k _ _ e⟩
def GrE (h : Heap) : Prop := ∃ c P c1 c2 c3 c4 c5 c6, Gr h c P c1 c2 c3 c4 c5 c6
theorem GrE.keeps {h h' : Heap} (x : GrE h) (k : Ext h h') : GrE h' := by
  obtain ⟨c, P, c1, c2, c3, c4, c5, c6, e⟩ := x
  exact ⟨c, P, c1, c2, c3, c4, c5, c6, e.keeps k⟩
def TabS (h : Heap) : Prop := h.get? 30 = some (tabObj #[]) ∨ GrE h
/-- what cmp_to_key hands back -/
structure KObj (h : Heap) (a : Addr) : Prop where
  is : ∃ n f1 f2 c1 c2 cl q1 q2 pm x1 x2, KCls h a n f1 f2 ∧ h.get? f1 = some (fnMade (PySem.Str.ofString "__init__") (PySem.Str.ofString "cmp_to_key.<locals>.K.__init__") (fdK "__init__").args (fdK "__init__").body (fdK "__init__").scope [] q1 pm c1 x1) ∧ CdM h "__init__" 56 c1 ∧ h.get? f2 = some (fnMade (PySem.Str.ofString "__lt__") (PySem.Str.ofString "cmp_to_key.<locals>.K.__lt__") (fdK "__lt__").args (fdK "__lt__").body (fdK "__lt__").scope [(PySem.Str.ofString "mycmp", cl)] q2 pm c2 x2) ∧ CdM h "__lt__" 59 c2 ∧ ∃ oc : Obj, h.get? cl = some oc ∧ oc.data = .cell (some (.ref 42))
theorem KCls.keeps {h h' : Heap} {a n f1 f2 : Addr} (x : KCls h a n f1 f2) (k : ∀ b o, b = n ∨ (∀ es m, o.data ≠ .dict es m) → h.get? b = some o → h'.get? b = some o) : KCls h' a n f1 f2 := by
  obtain ⟨xa, xi, xt, ha, hD, hn⟩ := x.is
  exact ⟨xa, xi, xt, k _ _ (.inr nofun) ha, k _ _ (.inr nofun) hD, k _ _ (.inl rfl) hn⟩
theorem KObj.keeps {h h' : Heap} {a : Addr} (x : KObj h a) (k : Ext h h') : KObj h' a := by
  obtain ⟨n, f1, f2, c1, c2, cl, q1, q2, pm, x1, x2, e1, e2, e3, e4, e5, oc, e6, e7⟩ := x.is
  exact ⟨n, f1, f2, c1, c2, cl, q1, q2, pm, x1, x2, e1.keeps fun b o _ e => k b o e, k _ _ e2, e3.keeps fun _ e => k _ _ e, k _ _ e4, e5.keeps fun _ e => k _ _ e, oc, k _ _ e6, e7⟩
def CxF (h₀ : Heap) (c P : Addr) (ps : Array Value) (h : Heap) : Prop := ps = #[] ∧ h.get? 30 = some (tabObj #[rawInt 52, rawInt 4, .ref c]) ∧ P ≠ 30 ∧ h₀.get? P = none
def BxF (mg : PySem.Str → Option Value) (L : Addr) (f1 f2 : Addr) (ot : List (Addr × Obj)) (ps : Array Value) : Prop := ∃ c1 c2 c3 c4 c5 c6 q1 q2 x1 x2 o1 o2, tabObj ps = tabObj #[rawInt 56, rawInt 8, .ref c1, rawInt 59, rawInt 8, .ref c2, rawInt 62, rawInt 8, .ref c3, rawInt 65, rawInt 8, .ref c4, rawInt 68, rawInt 8, .ref c5, rawInt 71, rawInt 8, .ref c6] ∧ (f1, fnMade (PySem.Str.ofString "__init__") (PySem.Str.ofString "cmp_to_key.<locals>.K.__init__") (fdK "__init__").args (fdK "__init__").body (fdK "__init__").scope [] q1 ((mg "__name__").getD .none) c1 x1) ∈ ot ∧ (f2, fnMade (PySem.Str.ofString "__lt__") (PySem.Str.ofString "cmp_to_key.<locals>.K.__lt__") (fdK "__lt__").args (fdK "__lt__").body (fdK "__lt__").scope [(PySem.Str.ofString "mycmp", L + 1)] q2 ((mg "__name__").getD .none) c2 x2) ∈ ot ∧ (c1, o1) ∈ ot ∧ (c2, o2) ∈ ot ∧
  (∀ h : Heap, h.get? c1 = some o1 → CdM h "__init__" 56 c1) ∧ (∀ h : Heap, h.get? c2 = some o2 → CdM h "__lt__" 59 c2)
theorem code_first {w : World} {h : Heap} {g : Array GenState} {d : Drawn} {os : OsState} {L : Addr} (K : (D54.hd.heap_1 w.params).In h) (h30 : h.get? 30 = some (tabObj #[])) : CodeOk w h g d os L (CxF h) := by
  intro A E Q h' tk k hq
  refine cc_first (K.keeps k) (k _ _ h30) fun c P t1 t2 t3 t4 r8 u h'' tk' keep fc fP ne e30 hc hP => ?_
  refine hq c P #[] t1 t2 t3 t4 r8 u h'' tk' keep hc hP ne (fun b o _ e => ⟨fun q => (by rw [q, fP] at e; cases e), fun q => (by rw [q, fc] at e; cases e)⟩) ⟨rfl, e30, fun q => (by rw [q, k _ _ h30] at fP; cases fP), none_up' k fP⟩
set_option maxHeartbeats 1000000 in
theorem bodyOk_first {w : World} {h₀ : Heap} {mg : PySem.Str → Option Value} {g : Array GenState} {d : Drawn} {os : OsState} {L : Addr} : BodyOk w mg g d os L (CxF h₀) (BxF mg L) := by
  rintro A E Q hp h tk N P c fr ps i1 i2 i3 t1 t2 t3 u2 u3 m0 h4 S G C B ⟨rfl, _, _, _⟩ hq
  refine body_first S G C rfl B ?_
  intro u1 uo fl i4 t4 i5 t5 i6 t6 i7 t7 i8 t8 i9 t9 i10 t10 i11 t11 f1 c1 P1 a1 b1 d1 e1 r1 v1 w1 z1 y1 x1 f2 c2 P2 a2 b2 d2 e2 r2 v2 w2 z2 y2 x2 f3 c3 P3 a3 b3 d3 e3 r3 v3 w3 z3 y3 x3 f4 c4 P4 a4 b4 d4 e4 r4 v4 w4 z4 y4 x4 f5 c5 P5 a5 b5 d5 e5 r5 v5 w5 z5 y5 x5 f6 c6 P6 a6 b6 d6 e6 r6 v6 w6 z6 y6 x6 h' tk' S'
  refine hq u1 uo fl i4 t4 i5 t5 i6 t6 i7 t7 i8 t8 i9 t9 i10 t10 i11 t11 f1 f2 f3 f4 f5 f6 _ _ h' tk' S' (by k_mem) ?_ ⟨c1, c2, c3, c4, c5, c6, _, _, _, _, _, _, rfl, by k_mem, by k_mem, by k_mem, by k_mem, fun _ e => ⟨_, _, _, _, _, _, _, _, _, _, e⟩, fun _ e => ⟨_, _, _, _, _, _, _, _, _, _, e⟩⟩
  intro f hf
  simp only [List.mem_cons, List.not_mem_nil, or_false] at hf
  rcases hf with rfl | rfl | rfl | rfl | rfl | rfl
  · exact ⟨_, by k_mem, rfl⟩
  · exact ⟨_, by k_mem, rfl⟩
  · exact ⟨_, by k_mem, rfl⟩
  · exact ⟨_, by k_mem, rfl⟩
  · exact ⟨_, by k_mem, rfl⟩
  · exact ⟨_, by k_mem, rfl⟩
def CxN (h₀ : Heap) (c0 P0 c1 c2 c3 c4 c5 c6 : Addr) (c P : Addr) (ps : Array Value) (h : Heap) : Prop := c = c0 ∧ P = P0 ∧ tabObj ps = tabObj #[rawInt 56, rawInt 8, .ref c1, rawInt 59, rawInt 8, .ref c2, rawInt 62, rawInt 8, .ref c3, rawInt 65, rawInt 8, .ref c4, rawInt 68, rawInt 8, .ref c5, rawInt 71, rawInt 8, .ref c6] ∧ Ext h₀ h
def BxN (mg : PySem.Str → Option Value) (L c1 c2 c3 c4 c5 c6 : Addr) (f1 f2 : Addr) (ot : List (Addr × Obj)) (ps : Array Value) : Prop := ∃ q1 q2 x1 x2, tabObj ps = tabObj #[rawInt 56, rawInt 8, .ref c1, rawInt 59, rawInt 8, .ref c2, rawInt 62, rawInt 8, .ref c3, rawInt 65, rawInt 8, .ref c4, rawInt 68, rawInt 8, .ref c5, rawInt 71, rawInt 8, .ref c6] ∧ (f1, fnMade (PySem.Str.ofString "__init__") (PySem.Str.ofString "cmp_to_key.<locals>.K.__init__") (fdK "__init__").args (fdK "__init__").body (fdK "__init__").scope [] q1 ((mg "__name__").getD .none) c1 x1) ∈ ot ∧ (f2, fnMade (PySem.Str.ofString "__lt__") (PySem.Str.ofString "cmp_to_key.<locals>.K.__lt__") (fdK "__lt__").args (fdK "__lt__").body (fdK "__lt__").scope [(PySem.Str.ofString "mycmp", L + 1)] q2 ((mg "__name__").getD .none) c2 x2) ∈ ot
theorem code_next {w : World} {h : Heap} {g : Array GenState} {d : Drawn} {os : OsState} {L c P c1 c2 c3 c4 c5 c6 : Addr} (K : (D54.hd.heap_1 w.params).In h) (R : Gr h c P c1 c2 c3 c4 c5 c6) : CodeOk w h g d os L (CxN h c P c1 c2 c3 c4 c5 c6) := by
  intro A E Q h' tk k hq
  obtain ⟨q1, q2, q3, q4, r8, u, hc⟩ := R.hc
  refine cc_next (K.keeps k) (k _ _ R.t30) ?_
  refine hq c P _ q1 q2 q3 q4 r8 u h' tk (fun _ _ _ e => e) (k _ _ hc) (k _ _ R.hP) R.ne (fun b o fb e => ⟨fun q => (by rw [q, R.hP] at fb; cases fb), fun q => (by rw [q, hc] at fb; cases fb)⟩) ⟨rfl, rfl, rfl, k⟩
set_option maxHeartbeats 1000000 in
theorem bodyOk_next {w : World} {h₀ : Heap} {mg : PySem.Str → Option Value} {g : Array GenState} {d : Drawn} {os : OsState} {L c0 P0 c1 c2 c3 c4 c5 c6 : Addr} : BodyOk w mg g d os L (CxN h₀ c0 P0 c1 c2 c3 c4 c5 c6) (BxN mg L c1 c2 c3 c4 c5 c6) := by
  rintro A E Q hp h tk N P c fr ps i1 i2 i3 t1 t2 t3 u2 u3 m0 h4 S G C B ⟨rfl, rfl, e, _⟩ hq
  rw [e] at S
  refine body_next S G C.hd B ?_
  intro u1 uo fl i4 t4 i5 t5 i6 t6 i7 t7 i8 t8 i9 t9 i10 t10 i11 t11 f1 q1 x1 f2 q2 x2 f3 q3 x3 f4 q4 x4 f5 q5 x5 f6 q6 x6 h' tk' S'
  refine hq u1 uo fl i4 t4 i5 t5 i6 t6 i7 t7 i8 t8 i9 t9 i10 t10 i11 t11 f1 f2 f3 f4 f5 f6 _ _ h' tk' S' (by k_mem) ?_ ⟨_, _, _, _, rfl, by k_mem, by k_mem⟩
  intro f hf
  simp only [List.mem_cons, List.not_mem_nil, or_false] at hf
  rcases hf with rfl | rfl | rfl | rfl | rfl | rfl
  · exact ⟨_, by k_mem, rfl⟩
  · exact ⟨_, by k_mem, rfl⟩
  · exact ⟨_, by k_mem, rfl⟩
  · exact ⟨_, by k_mem, rfl⟩
  · exact ⟨_, by k_mem, rfl⟩
  · exact ⟨_, by k_mem, rfl⟩
-- D54Cmp
def retPos : Pos × Pos × Pos := match cmpBody with
  | [.ClassDef _ [.Name _ p0] _ _ _ _ _ _ _ _ _, .Return (some (.Name _ p1)) p2] => (p0, p1, p2)
  | _ => (⟨0, 0, 0, 0⟩, ⟨0, 0, 0, 0⟩, ⟨0, 0, 0, 0⟩)
abbrev cmpB : List Stmt := [.ClassDef (PySem.Str.ofString "K") [.Name (PySem.Str.ofString "object") retPos.1] [] clsBody [] [] clsScope none (PySem.Str.ofString "K") clsStat clsPos, .Return (some (.Name (PySem.Str.ofString "K") retPos.2.1)) retPos.2.2]
def cmpArgs : Arguments := ⟨[], [⟨PySem.Str.ofString "mycmp", none, ⟨50, 15, 50, 20⟩⟩], none, [], [], none, []⟩
theorem f35 {w : World} {h : Heap} (K : (D54.hd.heap_1 w.params).In h) : h.get? 35 = some { cls := .type "function", data := .func (fnX (PySem.Str.ofString "cmp_to_key") (PySem.Str.ofString "cmp_to_key") cmpArgs cmpB fScope [] .none .none .none (.str (PySem.Str.ofString "cpy313.functools") 223) none (.ref 34) .none) } := K 35 _ (by kernel_rfl)
theorem cells_is (L : Addr) : cellsFrom (L + 1) fScope.names [] = [(PySem.Str.ofString "mycmp", L + 1)] := by kernel_rfl
/-- the class is bound to its name and handed back -/
theorem cmp_tail {w : World} {A : Around} {E : Value → Shared → Prop} {h : Heap} {g : Array GenState} {d : Drawn} {tk : Nat} {os : OsState} {L a : Addr} {m : PySem.Str → Option Value} {Q : Flow → Shared → Prop}
  (hn : h.Ns L m) (HQ : ∀ h' tk', (∀ b o, b ≠ L → h.get? b = some o → h'.get? b = some o) → Q (.ret (.ref a)) ⟨h', g, d, tk', os⟩) :
  wpAny (model prog w) A (storeName (fenv L) (PySem.Str.ofString "K") (.ref a)) (fun _ s'' => wpAny (model prog w) A (execs [.Return (some (.Name (PySem.Str.ofString "K") retPos.2.1)) retPos.2.2] (fenv L)) Q E s'') E ⟨h, g, d, tk, os⟩ := by
  refine wpAny_storeName_local (env := fenv L) (s := ⟨h, g, d, tk, os⟩) (by kernel_rfl) hn (fun h' hn' hs => ?_) (by kernel_rfl)
  refine wpAny_execs_cons (wpAny_Return_some (wpAny_Name (wpAny_loadName_local (env := fenv L) (by kernel_rfl) (by kernel_rfl) hn' (if_pos rfl) ?_) (by decide)))
  exact HQ _ _ fun b o hb e => (hs.2 b hb).trans e
set_option maxHeartbeats 2000000 in
theorem cmp_call {w : World} {A : Around} {s : Shared} {E : Value → Shared → Prop} {Q : Value → Shared → Prop} {mg mb : PySem.Str → Option Value}
  (K : (D54.hd.heap_1 w.params).In s.heap) (T : TopRead prog [] mg mb s.heap) (BM : BMn s.heap mg) (TS : TabS s.heap) (hh : A.handled = none) (hd : A.depth < 600) (hu : A.units < 6000)
  (HQ : ∀ a h' tk, (∀ b o, b ≠ 30 → s.heap.get? b = some o → h'.get? b = some o) → GrE h' → KObj h' a → Q (.ref a) ⟨h', s.gens, s.drawn, tk, s.os⟩) :
  wpAny (model prog w) A (call (.ref 35) [.ref 42]) Q E s := by
  refine enterC (binds := [(PySem.Str.ofString "mycmp", .ref 42)]) hh (Nat.lt_trans hd (by decide)) (f35 K) rfl T.nolimit ⟨34, _, _, _, rfl, K 34 _ rfl, rfl, rfl⟩ (BindsTo.of_eq rfl) (by kernel_rfl) (by decide +kernel) ?_ (by kernel_rfl) (by kernel_rfl) (by kernel_rfl)
  intro L h₁ tk cells d fr gd u hL hd' hu' F N CA
  show wpAny _ _ (execs cmpB (fenv L)) _ _ _
  have K1 := K.keeps F.keep
  have T1 := T.keeps F.keep
  have M1 := BM.keeps F.keep
  obtain ⟨oc, hcell, hcd⟩ : ∃ oc : Obj, h₁.get? (L + 1) = some oc ∧ oc.data = .cell (some (.ref 42)) := by
    rw [cells_is] at CA
    obtain ⟨o, rfl, ho⟩ := CA.one
    exact ⟨o, (N _ (.head _)).1, ho.trans (congrArg Data.cell (by kernel_rfl))⟩
  have hL30 : 30 < L := by rw [← hL]; exact Nat.lt_of_le_of_lt (by decide : 30 ≤ 34) (Heap.lt_size (K 34 _ rfl))
  obtain ⟨oL, esL, epL, heL, hdL, rL⟩ := F.ns
  have nofieldL : ∀ {b : Addr} {o : Obj}, h₁.get? b = some o → (∀ es n, o.data ≠ .dict es n) → b ≠ L := fun e hn q => by rw [q, heL] at e; cases e; exact hn _ _ hdL
  have hd2 : (⟨none, d, fr, gd, u⟩ : Around).depth ≤ 700 := by show d ≤ 700; (exact om322 hd' hd)
  have hu2 : (⟨none, d, fr, gd, u⟩ : Around).units ≤ 7000 := by show u ≤ 7000; (exact om323 hu' hu)
  refine wpAny_execs_cons (cls_stmt K1 T1 ?_)
  rcases TS with h30 | ⟨c0, P0, c1, c2, c3, c4, c5, c6, R⟩
  · have h30' := F.keep _ _ h30
    refine build_cls K1 T1 rfl hd2 hu2 h30' M1 (code_first K1 h30') bodyOk_first ?_
    rintro a n c P ps ps' q1 q2 q3 q4 r8 u0 N' h4 ot f1 f2 h' tk' kA hc hcP ⟨_, e30, hP30, fP⟩ fN hNP cN kB hP' hot ⟨c1, c2, c3, c4, c5, c6, z1, z2, x1, x2, o1, o2, etab, m1, m2, m3, m4, d1, d2⟩ hK hnn
    have old : ∀ {b : Addr} {o : Obj}, h₁.get? b = some o → b ≠ N' ∧ b ≠ P := fun e => ⟨fun q => (by rw [q, fN] at e; cases e), fun q => (by rw [q, fP] at e; cases e)⟩
    have keep1 : ∀ b o, b ≠ 30 → h₁.get? b = some o → h'.get? b = some o := fun b o hb e => kB _ _ (old e).1 (old e).2 (kA _ _ hb e)
    have hL' := keep1 L _ (Nat.ne_of_gt hL30) heL
    have nL : ∀ {b : Addr} {o : Obj}, h'.get? b = some o → (∀ es n, o.data ≠ .dict es n) → b ≠ L := fun e hn q => by rw [q, hL'] at e; cases e; exact hn _ _ hdL
    have h30'' := kB 30 _ (old h30').1 (old h30').2 e30
    have hc' := kB _ _ cN hcP hc
    have nnL : n ≠ L := fun q => hnn L _ (old heL).1 (old heL).2 (kA L _ (Nat.ne_of_gt hL30) heL) q.symm
    refine cmp_tail ⟨oL, esL, epL, hL', hdL, rL⟩ fun h'' tk'' kL => ?_
    have g1 := hot _ m1
    have g2 := hot _ m2
    refine HQ a h'' tk'' (fun b o hb e => kL _ _ (fun q => ?_) (keep1 b o hb (F.keep _ _ e))) ⟨c, P, c1, c2, c3, c4, c5, c6, kL _ _ (nL h30'' nofun) h30'', ⟨q1, q2, q3, q4, r8, u0, kL _ _ (nL hc' nofun) hc'⟩, hcP, hP30, etab ▸ kL _ _ (nL hP' nofun) hP', ?_, ?_⟩ ⟨n, f1, f2, c1, c2, L + 1, z1, z2, _, x1, x2, ?_, kL _ _ (nL g1 nofun) g1, ?_, kL _ _ (nL g2 nofun) g2, ?_, oc, ?_, hcd⟩
    · rw [q, ← hL] at e; exact absurd (Heap.lt_size e) (Nat.lt_irrefl _)
    · exact (d1 _ (hot _ m3)).keeps fun o e => kL _ _ (nL e (by obtain ⟨P, a, b, d, e', r, v, w, z, y, q⟩ := d1 _ (hot _ m3); rw [q] at e; cases e; nofun)) e
    · exact (d2 _ (hot _ m4)).keeps fun o e => kL _ _ (nL e (by obtain ⟨P, a, b, d, e', r, v, w, z, y, q⟩ := d2 _ (hot _ m4); rw [q] at e; cases e; nofun)) e
    · exact hK.keeps fun b o hb e => kL _ _ (hb.elim (fun q => q ▸ nnL) (nL e)) e
    · exact (d1 _ (hot _ m3)).keeps fun o e => kL _ _ (nL e (by obtain ⟨P, a, b, d, e', r, v, w, z, y, q⟩ := d1 _ (hot _ m3); rw [q] at e; cases e; nofun)) e
    · exact (d2 _ (hot _ m4)).keeps fun o e => kL _ _ (nL e (by obtain ⟨P, a, b, d, e', r, v, w, z, y, q⟩ := d2 _ (hot _ m4); rw [q] at e; cases e; nofun)) e
    · exact kL _ _ (Nat.succ_ne_self L) (keep1 _ _ (fun q => by have : L + 1 = 30 := q; (exact om324 hL30 this)) hcell)
  · have R1 := R.keeps F.keep
    refine build_cls K1 T1 rfl hd2 hu2 R1.t30 M1 (code_next K1 R1) bodyOk_next ?_
    rintro a n c P ps ps' q1 q2 q3 q4 r8 u0 N' h4 ot f1 f2 h' tk' kA hc hcP ⟨rfl, rfl, _, kX⟩ fN hNP cN kB hP' hot ⟨z1, z2, x1, x2, etab, m1, m2⟩ hK hnn
    have keep1 : ∀ b o, h₁.get? b = some o → h'.get? b = some o := fun b o e => by
      by_cases q : b = P
      · rw [q, R1.hP] at e; rw [q, hP', etab]; exact e
      · exact kB _ _ (fun z => by rw [z, fN] at e; cases e) q (kX _ _ e)
    have hL' := keep1 L _ heL
    have nL : ∀ {b : Addr} {o : Obj}, h'.get? b = some o → (∀ es n, o.data ≠ .dict es n) → b ≠ L := fun e hn q => by rw [q, hL'] at e; cases e; exact hn _ _ hdL
    have hLP : L ≠ P := (nL hP' nofun).symm
    have nnL : n ≠ L := fun q => hnn L _ (fun z => by rw [← z, heL] at fN; cases fN) hLP (kX _ _ heL) q.symm
    refine cmp_tail ⟨oL, esL, epL, hL', hdL, rL⟩ fun h'' tk'' kL => ?_
    have g1 := hot _ m1
    have g2 := hot _ m2
    have kS : Ext s.heap h'' := fun b o e => kL _ _ (fun q => by rw [q, ← hL] at e; exact absurd (Heap.lt_size e) (Nat.lt_irrefl _)) (keep1 b o (F.keep _ _ e))
    have RS := R.keeps kS
    refine HQ a h'' tk'' (fun b o _ e => kS b o e) ⟨c, P, c1, c2, c3, c4, c5, c6, RS⟩ ⟨n, f1, f2, c1, c2, L + 1, z1, z2, _, x1, x2, ?_, kL _ _ (nL g1 nofun) g1, RS.k1, kL _ _ (nL g2 nofun) g2, RS.k2, oc, ?_, hcd⟩
    · exact hK.keeps fun b o hb e => kL _ _ (hb.elim (fun q => q ▸ nnL) (nL e)) e
    · exact kL _ _ (Nat.succ_ne_self L) (keep1 _ _ hcell)
-- D54Kx
abbrev instK (a dA : Addr) (x : Value) : Obj := { cls := .ref a, dict := some dA, slots := #[some x] }
theorem Mem.newI {h₀ h : Heap} {chg news : List (Addr × Obj)} (D : Mem h₀ h chg news) (i : Nat) (a : Addr) (o : Obj) (hi : news[i]? = some (a, o)) : h₀.get? a = none := (D.nw _ (List.mem_of_getElem? hi)).2
theorem i_args : (fdK "__init__").args = ⟨[], [⟨PySem.Str.ofString "self", none, ⟨56, 21, 56, 25⟩⟩, ⟨PySem.Str.ofString "obj", none, ⟨56, 27, 56, 30⟩⟩], none, [], [], none, []⟩ := by kernel_rfl
theorem i_body : (fdK "__init__").body = [.Assign [.Attribute (.Name (PySem.Str.ofString "self") ⟨57, 12, 57, 16⟩) (PySem.Str.ofString "obj") ⟨57, 12, 57, 20⟩] (.Name (PySem.Str.ofString "obj") ⟨57, 23, 57, 26⟩) ⟨57, 12, 57, 26⟩] := by kernel_rfl
theorem i_scope : (fdK "__init__").scope = { kind := .function, names := [(PySem.Str.ofString "self", .local), (PySem.Str.ofString "obj", .local)], isGenerator := false, isCoroutine := false } := by kernel_rfl
section
local macro_rules | `(tactic| x_close) => `(tactic| (rename ∀ _ _ _ _, Ext _ _ → _ => HQx; (exact HQx _ _ _ _ (mem_keep (by assumption)) (Mem.at (by assumption) 1 _ _ rfl) (Mem.newI (by assumption) 1 _ _ rfl))))
set_option maxHeartbeats 4000000 in
theorem kx_raw {P : Program} {w : World} {A : Around} {E : Value → Shared → Prop} {s : Shared} {Q : Value → Shared → Prop} {a n B D : Addr} {x : Addr}
  {h1 h2 h3 h4 h5 h6 h7 h8 h9 h10 h11 h12 h13 : Int} {t0 t1 t2 t3 t4 t5 t6 t7 t8 t9 t10 t11 t12 t13 t14 u1 u2 u3 u5 v1 v2 v3 v4 : Tok} {fl f1 f2 f3 f4 f5 f6 fs c1 r8 r11 : Addr} {doc1 pm ct1 r13 r14 r15 : Value}
  (K : (D54.hd.heap_1 w.params).In s.heap) (hh : A.handled = none) (hd : A.depth ≤ 950) (hu : A.units ≤ 9500)
  (hC : s.heap.get? a = some { cls := .type "type", data := .cls { name := PySem.Str.ofString "K", bases := [.type "object"], mro := [.ref a, .type "object"], ns := n, qualname := PySem.Str.ofString "cmp_to_key.<locals>.K", hasDict := false, slotNames := [PySem.Str.ofString "obj"] }, slots := #[some (.ref B), none, some (.str (PySem.Str.ofString "K") t0), some (.str (PySem.Str.ofString "cmp_to_key.<locals>.K") u2), some (.builtin "object.__new__"), some (.bool false)] })
  (hN : s.heap.get? n = some { cls := .type "dict", data := .dict #[en "__module__" h1 t1 (.str (PySem.Str.ofString "cpy313.functools") u1), en "__firstlineno__" h3 t3 (.int 52 u3), en "__slots__" h4 t4 (.ref fl), en "__init__" h5 t5 (.ref f1), en "__lt__" h6 t6 (.ref f2), en "__gt__" h7 t7 (.ref f3), en "__eq__" h8 t8 (.ref f4), en "__le__" h9 t9 (.ref f5), en "__ge__" h10 t10 (.ref f6), en "__hash__" h11 t11 .none, en "__static_attributes__" h12 t12 (.ref fs), en "obj" h2 t2 (.ref D), en "__doc__" h13 t13 .none] 3 })
  (hD : s.heap.get? D = some { cls := .type "member_descriptor", data := .fields #[.str (PySem.Str.ofString "obj") t14, .ref a, .builtin "proto.slot", .builtin "proto.slot#set", .int 0 0] })
  (hF : s.heap.get? f1 = some { cls := .type "function", data := .func { name := PySem.Str.ofString "__init__", qualname := PySem.Str.ofString "cmp_to_key.<locals>.K.__init__", params := ⟨[], [⟨PySem.Str.ofString "self", none, ⟨56, 21, 56, 25⟩⟩, ⟨PySem.Str.ofString "obj", none, ⟨56, 27, 56, 30⟩⟩], none, [], [], none, []⟩, body := .stmts [.Assign [.Attribute (.Name (PySem.Str.ofString "self") ⟨57, 12, 57, 16⟩) (PySem.Str.ofString "obj") ⟨57, 12, 57, 20⟩] (.Name (PySem.Str.ofString "obj") ⟨57, 23, 57, 26⟩) ⟨57, 12, 57, 26⟩], scope := { kind := .function, names := [(PySem.Str.ofString "self", .local), (PySem.Str.ofString "obj", .local)], isGenerator := false, isCoroutine := false }, globals := 3, closure := [], defaults := .none, kwdefaults := .none, doc := doc1, pyModule := pm, annotations := none, code := .ref c1, closureTuple := ct1, builtins := 0 } })
  (hc : s.heap.get? c1 = some { cls := .type "code", data := .fields #[.str (PySem.Str.ofString "__init__") v1, .str (PySem.Str.ofString "cmp_to_key.<locals>.K.__init__") v2, .str (PySem.Str.ofString "/claim/cut.py") v3, .int 56 0, .int 2 0, .int 0 0, .int 0 0, .int 19 0, .ref r8, .bool true, .int 181 0, .ref r11, .none, r13, r14, r15, .int u5 0, .int 56 0, .str (PySem.Str.ofString "/claim/cut.py") v4] })
  (HQ : ∀ i dA h' tk, Ext s.heap h' → h'.get? i = some (instK a dA (.ref x)) → s.heap.get? i = none → Q (.ref i) ⟨h', s.gens, s.drawn, tk, s.os⟩) :
  wpAny (model P w) A (call (.ref a) [.ref x]) Q E s := by
  refine deep 950 9500 hh hd hu fun fr gd => ?_
  x_run
end
theorem kx_call {w : World} {A : Around} {E : Value → Shared → Prop} {s : Shared} {Q : Value → Shared → Prop} {a x : Addr}
  (K : (D54.hd.heap_1 w.params).In s.heap) (hh : A.handled = none) (hd : A.depth ≤ 950) (hu : A.units ≤ 9500) (KO : KObj s.heap a)
  (HQ : ∀ i dA h' tk, Ext s.heap h' → h'.get? i = some (instK a dA (.ref x)) → s.heap.get? i = none → Q (.ref i) ⟨h', s.gens, s.drawn, tk, s.os⟩) :
  wpAny (model prog w) A (call (.ref a) [.ref x]) Q E s := by
  obtain ⟨n, f1, f2, c1, c2, cl, q1, q2, pm, x1, x2, KC, e2, e3, e4, e5, oc, e6, e7⟩ := KO.is
  obtain ⟨xa, xi, xt, ha, hD, hn⟩ := KC.is
  obtain ⟨P, a1, b1, d1, g1, r, v, w', z, y, hc⟩ := e3
  rw [i_args, i_body, i_scope] at e2
  exact kx_raw K hh hd hu ha hn hD e2 hc HQ
-- D54Pair
/-- a pair as a list -/
abbrev prL (d : Int) (t : Tok) (x : List Nat) (u : Tok) (c : Nat) : Obj := { cls := .type "list", data := .seq #[.int d t, .str (tx x) u] c }
def pLt (d1 : Int) (w1 : List Nat) (d2 : Int) (w2 : List Nat) : Bool := decide (d1 < d2 ∨ (d1 = d2 ∧ w1 < w2))
section
variable {w : World} {A : Around} {E : Value → Shared → Prop} {h : Heap} {g : Array GenState} {d : Drawn} {tk : Nat} {os : OsState} {x y : Addr} {d1 d2 : Int} {w1 w2 : List Nat} {t1 t2 u1 u2 : Tok} {c1 c2 : Nat} {R : Result → Shared → Prop}
theorem plt_two (hx : h.get? x = some (prL d1 t1 w1 u1 c1)) (hy : h.get? y = some (prL d2 t2 w2 u2 c2)) (hr : R (.ok (.ret (.bool false))) ⟨h, g, d, tk, os⟩) :
    codeAny (model prog w) A (.builtin "list.__eq__.loop" ⟨[.ref x, .ref y, rawInt 2, rawInt 0], []⟩) R ⟨h, g, d, tk, os⟩ := by
  refine codeAny_builtin MeetsSeq3.entry_eq_loop ?_
  wp_walk
  exact hr
theorem plt_one (hx : h.get? x = some (prL d1 t1 w1 u1 c1)) (hy : h.get? y = some (prL d2 t2 w2 u2 c2)) (hr : R (.ok (.ret (.bool (decide (w1 < w2))))) ⟨h, g, d, tk, os⟩) :
    codeAny (model prog w) A (.builtin "list.__eq__.loop" ⟨[.ref x, .ref y, rawInt 1, rawInt 0], []⟩) R ⟨h, g, d, tk, os⟩ := by
  refine codeAny_builtin MeetsSeq3.entry_eq_loop ?_
  wp_delta
  repeat (first | ((with_reducible show wpAny _ _ (eqBool _ _) _ _ _); refine eqBool_str (x := tx w1) (y := tx w2) (t := u1) (u := u2) ?_) | wp_step)
  rw [tx_beq]
  by_cases e : w1 = w2
  · rw [decide_eq_true e]
    refine wpAny_ite_true rfl (wpAny_pure ⟨plainId_quiet MeetsSeq3.plain_eq_loop _, plt_two hx hy ?_⟩)
    have z : (decide (w1 < w2)) = false := decide_eq_false (by subst e; exact List.lt_irrefl _)
    rw [z] at hr; exact hr
  · rw [decide_eq_false e]
    refine wpAny_ite_false rfl ?_
    repeat (first | ((with_reducible show wpAny _ _ (richCompare _ _ _) _ _ _); refine (show wpAny _ _ (compareOp .Lt (.str (tx w1) u1) (.str (tx w2) u2)) _ _ _ from lt_str ?_)) | wp_step)
    rw [tx_cps, tx_cps]
    exact hr
theorem plt_zero (hx : h.get? x = some (prL d1 t1 w1 u1 c1)) (hy : h.get? y = some (prL d2 t2 w2 u2 c2)) (hr : R (.ok (.ret (.bool (pLt d1 w1 d2 w2)))) ⟨h, g, d, tk, os⟩) :
    codeAny (model prog w) A (.builtin "list.__eq__.loop" ⟨[.ref x, .ref y, rawInt 0, rawInt 0], []⟩) R ⟨h, g, d, tk, os⟩ := by
  refine codeAny_builtin MeetsSeq3.entry_eq_loop ?_
  wp_delta
  repeat (first | ((with_reducible show wpAny _ _ (eqBool _ _) _ _ _); refine wpAny_eqBool_int (a := d1) (b := d2) (t := t1) (u := t2) ?_) | wp_step)
  by_cases e : d1 = d2
  · rw [beq_iff_eq.mpr e]
    refine wpAny_ite_true rfl (wpAny_pure ⟨plainId_quiet MeetsSeq3.plain_eq_loop _, plt_one hx hy ?_⟩)
    have z : (pLt d1 w1 d2 w2) = (decide (w1 < w2)) := by unfold pLt; subst e; simp
    rw [z] at hr; exact hr
  · rw [beq_eq_false_iff_ne.mpr e]
    refine wpAny_ite_false rfl ?_
    repeat (first | ((with_reducible show wpAny _ _ (richCompare _ _ _) _ _ _); refine (show wpAny _ _ (compareOp .Lt (.int d1 t1) (.int d2 t2)) _ _ _ from lt_int ?_)) | wp_step)
    have z : (pLt d1 w1 d2 w2) = (decide (d1 < d2)) := by unfold pLt; congr 1; simp; (exact om325 e)
    rw [z] at hr; exact hr
theorem pair_lt {Q : Value → Shared → Prop} (hu : A.units < cLine) (hx : h.get? x = some (prL d1 t1 w1 u1 c1)) (hy : h.get? y = some (prL d2 t2 w2 u2 c2)) (hq : Q (.bool (pLt d1 w1 d2 w2)) ⟨h, g, d, tk, os⟩) :
    wpAny (model prog w) A (richCompare .Lt (.ref x) (.ref y)) Q E ⟨h, g, d, tk, os⟩ := by
  refine wpAny_richCompare_same_room (s := ⟨h, g, d, tk, os⟩) ⟨_, hx, rfl⟩ ⟨_, hy, rfl⟩ F.slot_list_lt (wpAny_call (codeAny_call_builtin F.slot_list_lt.plain F.entry_list_lt (F.slot_list_lt.check _ _ _ _ _ _ _ _ ⟨_, hx, rfl⟩ (F.args_list_lt_2 _ _) ?_))) hu
  have hT : (⟨h, g, d, tk, os⟩ : Shared).TypeIs (.ref y) "list" := ⟨_, hy, rfl⟩
  have hs : isSubtype (.type "list") (.type "list") = pure true := by rw [isSubtype_type]; kernel_rfl
  wp_walk
  exact ⟨plainId_quiet MeetsSeq3.plain_eq_loop _, plt_zero hx hy ⟨nofun, hq⟩⟩
theorem pgt_two (hx : h.get? x = some (prL d1 t1 w1 u1 c1)) (hy : h.get? y = some (prL d2 t2 w2 u2 c2)) (hr : R (.ok (.ret (.bool false))) ⟨h, g, d, tk, os⟩) :
    codeAny (model prog w) A (.builtin "list.__eq__.loop" ⟨[.ref x, .ref y, rawInt 2, rawInt 4], []⟩) R ⟨h, g, d, tk, os⟩ := by
  refine codeAny_builtin MeetsSeq3.entry_eq_loop ?_
  wp_walk
  exact hr
theorem pgt_one (hx : h.get? x = some (prL d1 t1 w1 u1 c1)) (hy : h.get? y = some (prL d2 t2 w2 u2 c2)) (hr : R (.ok (.ret (.bool (decide (w2 < w1))))) ⟨h, g, d, tk, os⟩) :
    codeAny (model prog w) A (.builtin "list.__eq__.loop" ⟨[.ref x, .ref y, rawInt 1, rawInt 4], []⟩) R ⟨h, g, d, tk, os⟩ := by
  refine codeAny_builtin MeetsSeq3.entry_eq_loop ?_
  wp_delta
  repeat (first | ((with_reducible show wpAny _ _ (eqBool _ _) _ _ _); refine eqBool_str (x := tx w1) (y := tx w2) (t := u1) (u := u2) ?_) | wp_step)
  rw [tx_beq]
  by_cases e : w1 = w2
  · rw [decide_eq_true e]
    refine wpAny_ite_true rfl (wpAny_pure ⟨plainId_quiet MeetsSeq3.plain_eq_loop _, pgt_two hx hy ?_⟩)
    have z : (decide (w2 < w1)) = false := decide_eq_false (by subst e; exact List.lt_irrefl _)
    rw [z] at hr; exact hr
  · rw [decide_eq_false e]
    refine wpAny_ite_false rfl ?_
    repeat (first | ((with_reducible show wpAny _ _ (richCompare _ _ _) _ _ _); refine (show wpAny _ _ (compareOp .Gt (.str (tx w1) u1) (.str (tx w2) u2)) _ _ _ from P.gt_str ?_)) | wp_step)
    rw [tx_cps, tx_cps]
    exact hr
theorem pgt_zero (hx : h.get? x = some (prL d1 t1 w1 u1 c1)) (hy : h.get? y = some (prL d2 t2 w2 u2 c2)) (hr : R (.ok (.ret (.bool (pLt d2 w2 d1 w1)))) ⟨h, g, d, tk, os⟩) :
    codeAny (model prog w) A (.builtin "list.__eq__.loop" ⟨[.ref x, .ref y, rawInt 0, rawInt 4], []⟩) R ⟨h, g, d, tk, os⟩ := by
  refine codeAny_builtin MeetsSeq3.entry_eq_loop ?_
  wp_delta
  repeat (first | ((with_reducible show wpAny _ _ (eqBool _ _) _ _ _); refine wpAny_eqBool_int (a := d1) (b := d2) (t := t1) (u := t2) ?_) | wp_step)
  by_cases e : d1 = d2
  · rw [beq_iff_eq.mpr e]
    refine wpAny_ite_true rfl (wpAny_pure ⟨plainId_quiet MeetsSeq3.plain_eq_loop _, pgt_one hx hy ?_⟩)
    have z : (pLt d2 w2 d1 w1) = (decide (w2 < w1)) := by unfold pLt; subst e; simp
    rw [z] at hr; exact hr
  · rw [beq_eq_false_iff_ne.mpr e]
    refine wpAny_ite_false rfl ?_
    repeat (first | ((with_reducible show wpAny _ _ (richCompare _ _ _) _ _ _); refine (show wpAny _ _ (compareOp .Gt (.int d1 t1) (.int d2 t2)) _ _ _ from gt_int ?_)) | wp_step)
    have z : (pLt d2 w2 d1 w1) = (decide (d2 < d1)) := by unfold pLt; congr 1; simp; (exact om326 e)
    rw [z] at hr; exact hr
theorem pair_gt {Q : Value → Shared → Prop} (hu : A.units < cLine) (hx : h.get? x = some (prL d1 t1 w1 u1 c1)) (hy : h.get? y = some (prL d2 t2 w2 u2 c2)) (hq : Q (.bool (pLt d2 w2 d1 w1)) ⟨h, g, d, tk, os⟩) :
    wpAny (model prog w) A (richCompare .Gt (.ref x) (.ref y)) Q E ⟨h, g, d, tk, os⟩ := by
  refine wpAny_richCompare_same_room (s := ⟨h, g, d, tk, os⟩) ⟨_, hx, rfl⟩ ⟨_, hy, rfl⟩ F.slot_list_gt (wpAny_call (codeAny_call_builtin F.slot_list_gt.plain F.entry_list_gt (F.slot_list_gt.check _ _ _ _ _ _ _ _ ⟨_, hx, rfl⟩ (F.args_list_gt_2 _ _) ?_))) hu
  have hT : (⟨h, g, d, tk, os⟩ : Shared).TypeIs (.ref y) "list" := ⟨_, hy, rfl⟩
  have hs : isSubtype (.type "list") (.type "list") = pure true := by rw [isSubtype_type]; kernel_rfl
  wp_walk
  exact ⟨plainId_quiet MeetsSeq3.plain_eq_loop _, pgt_zero hx hy ⟨nofun, hq⟩⟩
end
-- D54Twc
set_option maxHeartbeats 4000000 in
theorem twc_call {w : World} {A : Around} {s : Shared} {E : Value → Shared → Prop} {Q : Value → Shared → Prop} {x y : Addr} {d1 d2 : Int} {w1 w2 : List Nat} {t1 t2 u1 u2 : Tok} {c1 c2 : Nat} {mg mb : PySem.Str → Option Value}
  (W : Wd w mg mb s.heap) (hh : A.handled = none) (hd : A.depth < 900) (hu : A.units < 9000) (hx : s.heap.get? x = some (prL d1 t1 w1 u1 c1)) (hy : s.heap.get? y = some (prL d2 t2 w2 u2 c2))
  (HQ : ∀ h' tk t, Ext s.heap h' → Q (.int (b2i (pLt d2 w2 d1 w1) - b2i (pLt d1 w1 d2 w2)) t) ⟨h', s.gens, s.drawn, tk, s.os⟩) :
  wpAny (model prog w) A (call (.ref 42) [.ref x, .ref y]) Q E s := by
  have K := W.k
  have T : TopRead PySem.Challenge.rw_dn0054_01.prog [] mg mb s.heap := W.t
  revert T K
  k_fill
  w_on
  w_top on
  intro K T
  refine enter (binds := [(PySem.Str.ofString "x", .ref x), (PySem.Str.ofString "y", .ref y)]) hh (Nat.lt_trans hd (by decide)) (K _ _ (by k_is)) rfl T.nolimit (codeRec_of K (by k_is)) rfl (BindsTo.of_eq rfl) (by decide) (locs rfl) ?_ rfl rfl rfl
  intro L h₁ d fr gd u hL hd' hu' F N
  show wpAny _ _ (execs _ (envOf (PySem.Str.ofString "three_way_cmp") _ L 42 _)) _ _ _
  have hx1 := F.keep _ _ hx
  have hy1 := F.keep _ _ hy
  walk_at "D54 go"
  have hcl : u < cLine := by rw [hu']; exact Nat.lt_of_lt_of_le (Nat.add_lt_add_right hu 3) (by decide)
  refine (show wpAny _ _ (richCompare .Gt _ _) _ _ _ from pair_gt hcl hx1 hy1 ?_)
  walk_at "D54 go"
  refine (show wpAny _ _ (richCompare .Lt _ _) _ _ _ from pair_lt hcl hx1 hy1 ?_)
  walk_at "D54 go"
  exact HQ _ _ _ F.keep
-- D54At
section
local macro_rules | `(tactic| x_close) => `(tactic| (rename ∀ _ _, Ext _ _ → _ => HQx; (first | exact HQx _ _ (mem_keep (by assumption)) | exact HQx _ _ (Ext.refl _))))
set_option maxHeartbeats 4000000 in
theorem at_raw {P : Program} {w : World} {A : Around} {E : Value → Shared → Prop} {s : Shared} {Q : Value → Shared → Prop} {a n B D : Addr} {x i dA : Addr} {t : Tok}
  {h1 h2 h3 h4 h5 h6 h7 h8 h9 h10 h11 h12 h13 : Int} {t0 t1 t2 t3 t4 t5 t6 t7 t8 t9 t10 t11 t12 t13 t14 u1 u2 u3 : Tok} {fl f1 f2 f3 f4 f5 f6 fs : Addr}
  (K : (D54.hd.heap_1 w.params).In s.heap) (hh : A.handled = none) (hd : A.depth ≤ 950) (hu : A.units ≤ 9500)
  (hC : s.heap.get? a = some { cls := .type "type", data := .cls { name := PySem.Str.ofString "K", bases := [.type "object"], mro := [.ref a, .type "object"], ns := n, qualname := PySem.Str.ofString "cmp_to_key.<locals>.K", hasDict := false, slotNames := [PySem.Str.ofString "obj"] }, slots := #[some (.ref B), none, some (.str (PySem.Str.ofString "K") t0), some (.str (PySem.Str.ofString "cmp_to_key.<locals>.K") u2), some (.builtin "object.__new__"), some (.bool false)] })
  (hN : s.heap.get? n = some { cls := .type "dict", data := .dict #[en "__module__" h1 t1 (.str (PySem.Str.ofString "cpy313.functools") u1), en "__firstlineno__" h3 t3 (.int 52 u3), en "__slots__" h4 t4 (.ref fl), en "__init__" h5 t5 (.ref f1), en "__lt__" h6 t6 (.ref f2), en "__gt__" h7 t7 (.ref f3), en "__eq__" h8 t8 (.ref f4), en "__le__" h9 t9 (.ref f5), en "__ge__" h10 t10 (.ref f6), en "__hash__" h11 t11 .none, en "__static_attributes__" h12 t12 (.ref fs), en "obj" h2 t2 (.ref D), en "__doc__" h13 t13 .none] 3 })
  (hD : s.heap.get? D = some { cls := .type "member_descriptor", data := .fields #[.str (PySem.Str.ofString "obj") t14, .ref a, .builtin "proto.slot", .builtin "proto.slot#set", .int 0 0] })
  (hI : s.heap.get? i = some { cls := .ref a, dict := some dA, slots := #[some (.ref x)] })
  (HQ : ∀ h' tk, Ext s.heap h' → Q (.ref x) ⟨h', s.gens, s.drawn, tk, s.os⟩) :
  wpAny (model P w) A (runValue (.builtin "proto.getattr_hooked" ⟨[.ref i, .str (PySem.Str.ofString "obj") t], []⟩)) Q E s := by
  refine deep 950 9500 hh hd hu fun fr gd => ?_
  x_run
end
-- D54Ae
theorem c_gaO : classOwn (.type "object") (PySem.Str.ofString "__getattribute__") = pure (some (.builtin "object.__getattribute__")) := by kernel_rfl
theorem at_get {w : World} {A : Around} {E : Value → Shared → Prop} {h : Heap} {g : Array GenState} {d : Drawn} {tk : Nat} {os : OsState} {Q : Value → Shared → Prop} {a n f1 f2 i dA x : Addr}
  (K : (D54.hd.heap_1 w.params).In h) (hh : A.handled = none) (hd : A.depth ≤ 900) (hu : A.units ≤ 9000) (KC : KCls h a n f1 f2) (hi : h.get? i = some (instK a dA (.ref x)))
  (HQ : ∀ h' tk', Ext h h' → Q (.ref x) ⟨h', g, d, tk', os⟩) :
  wpAny (model prog w) A (getAttr (.ref i) (PySem.Str.ofString "obj") true) Q E ⟨h, g, d, tk, os⟩ := by
  obtain ⟨xa, xi, xt, ha, hD, hn⟩ := KC.is
  unfold getAttr getAttrBy
  refine wpAny_bind (wpAny_mkText (s := ⟨h, g, d, tk, os⟩) (wpAny_holding (wpAny_bind ?_)))
  unfold typeOf
  refine wpAny_bind (wpAny_load (s := ⟨h, g, d, tk + 1, os⟩) hi (wpAny_pure ?_))
  refine wpAny_bind (look_k hn ha (by kernel_rfl) c_gaO ?_)
  refine wpAny_ite_true (by kernel_rfl) ?_
  unfold getAttrEveryday
  refine wpAny_bind (wpAny_onRaise ?_)
  refine at_raw (s := ⟨h, g, d, tk + 1, os⟩) K hh (Nat.le_trans hd (by decide)) (Nat.le_trans hu (by decide)) ha hn hD hi ?_
  intro h' tk' k
  exact wpAny_pure (HQ h' tk' k)
/-- x.obj -/
theorem at_eval {w : World} {A : Around} {E : Value → Shared → Prop} {h : Heap} {g : Array GenState} {d : Drawn} {tk : Nat} {os : OsState} {Q : Value → Shared → Prop} {a n f1 f2 i dA x : Addr} {env : Env} {v : PySem.Str} {p q : Pos}
  (K : (D54.hd.heap_1 w.params).In h) (hh : A.handled = none) (hd : A.depth ≤ 900) (hu : A.units ≤ 9000) (KC : KCls h a n f1 f2) (hi : h.get? i = some (instK a dA (.ref x)))
  (hl : ∀ Q' : Value → Shared → Prop, Q' (.ref i) ⟨h, g, d, tk, os⟩ → wpAny (model prog w) A (eval (.Name v p) env) Q' E ⟨h, g, d, tk, os⟩)
  (HQ : ∀ h' tk', Ext h h' → Q (.ref x) ⟨h', g, d, tk', os⟩) :
  wpAny (model prog w) A (eval (.Attribute (.Name v p) (PySem.Str.ofString "obj") q) env) Q E ⟨h, g, d, tk, os⟩ := by
  rw [arm_eval_Attribute]
  show wpAny _ _ (eval (.Name v p) env >>= _) _ _ _
  refine wpAny_bind (hl _ (wpAny_bind (wpAny_standAt (wpAny_bind (wpAny_holding (at_get K hh hd hu KC hi ?_))))))
  intro h' tk' k
  exact wpAny_bind (wpAny_pure (wpAny_pure (HQ h' tk' k)))
-- D54Lt
set_option maxHeartbeats 4000000 in
theorem lt_call {w : World} {A : Around} {s : Shared} {E : Value → Shared → Prop} {Q : Value → Shared → Prop} {a n f1 f2 c2 cl i j dA dB x y : Addr} {q2 pm x2 : Value} {oc : Obj} {d1 d2 : Int} {w1 w2 : List Nat} {t1 t2 u1 u2 : Tok} {k1 k2 : Nat} {mg mb : PySem.Str → Option Value}
  (W : Wd w mg mb s.heap) (hh : A.handled = none) (hd : A.depth < 800) (hu : A.units < 8000) (KC : KCls s.heap a n f1 f2)
  (hf : s.heap.get? f2 = some (fnMade (PySem.Str.ofString "__lt__") (PySem.Str.ofString "cmp_to_key.<locals>.K.__lt__") (fdK "__lt__").args (fdK "__lt__").body (fdK "__lt__").scope [(PySem.Str.ofString "mycmp", cl)] q2 pm c2 x2)) (hc : CdM s.heap "__lt__" 59 c2) (hcell : s.heap.get? cl = some oc) (hcd : oc.data = .cell (some (.ref 42)))
  (hi : s.heap.get? i = some (instK a dA (.ref x))) (hj : s.heap.get? j = some (instK a dB (.ref y))) (hx : s.heap.get? x = some (prL d1 t1 w1 u1 k1)) (hy : s.heap.get? y = some (prL d2 t2 w2 u2 k2))
  (HQ : ∀ h' tk, Ext s.heap h' → Q (.bool (pLt d1 w1 d2 w2)) ⟨h', s.gens, s.drawn, tk, s.os⟩) :
  wpAny (model prog w) A (call (.ref f2) [.ref i, .ref j]) Q E s := by
  obtain ⟨P, z1, z2, z3, z4, r, v13, v14, v15, u, hco⟩ := hc
  refine enter (binds := [(PySem.Str.ofString "self", .ref i), (PySem.Str.ofString "other", .ref j)]) hh (Nat.lt_trans hd (by decide)) hf rfl W.t.nolimit ⟨_, _, _, _, rfl, hco, rfl, rfl⟩ rfl (BindsTo.of_eq rfl) (show ∀ x ∈ (fdK "__lt__").scope.names, x.2 ≠ .cell by decide +kernel) (fun p hp => by simp only [List.mem_cons, List.not_mem_nil, or_false] at hp; rcases hp with rfl | rfl <;> kernel_rfl) ?_ (by kernel_rfl) (by kernel_rfl) (by kernel_rfl)
  intro L h₁ d fr gd u' hL hd' hu' F N
  have hbody : (fdK "__lt__").body = [.Return (some (.Compare (.Call (.Name (PySem.Str.ofString "mycmp") ⟨60, 19, 60, 24⟩) [.Attribute (.Name (PySem.Str.ofString "self") ⟨60, 25, 60, 29⟩) (PySem.Str.ofString "obj") ⟨60, 25, 60, 33⟩, .Attribute (.Name (PySem.Str.ofString "other") ⟨60, 35, 60, 40⟩) (PySem.Str.ofString "obj") ⟨60, 35, 60, 44⟩] [] ⟨60, 19, 60, 45⟩) [.Lt] [.Constant (.int 0) 0 ⟨60, 48, 60, 49⟩] ⟨60, 19, 60, 49⟩)) ⟨60, 12, 60, 49⟩] := by kernel_rfl
  show wpAny _ _ (execs (fdK "__lt__").body _) _ _ _
  rw [hbody]
  refine wpAny_execs_cons (wpAny_Return_some (wpAny_Compare1 (wpAny_Call_NameR (wpAny_Name (wpAny_loadName_free (by kernel_rfl) (by kernel_rfl) (c := cl) (by kernel_rfl) ⟨oc, F.keep _ _ hcell, hcd⟩ ?_)))))
  obtain ⟨o42, fd42, h42, e42⟩ : ∃ o fd, s.heap.get? 42 = some o ∧ o.data = .func fd := ⟨_, _, W.k 42 _ rfl, rfl⟩
  refine Calls.callWith_function (o := o42) (fd := fd42) ?_
  have W1 := W.keeps F.keep
  have KC1 := KC.keeps fun b o _ e => F.keep b o e
  refine Calls.evalArgs_plain (Calls.spliced_cons (at_eval W1.k rfl (by show d ≤ 900; (exact om277 hd' hd)) (by show u' ≤ 9000; (exact om278 hu' hu)) KC1 (F.keep _ _ hi) (fun Q' hq => wpAny_Name (wpAny_loadName_local (by kernel_rfl) (by kernel_rfl) F.ns (by kernel_rfl) hq) (by decide)) ?_))
  intro h2 tk2 e2
  have F2 := F.keeps e2
  have W2 := W.keeps F2.keep
  have KC2 := KC.keeps fun b o _ e => F2.keep b o e
  refine Calls.spliced_cons (at_eval W2.k rfl (by show d ≤ 900; (exact om277 hd' hd)) (by show u' ≤ 9000; (exact om278 hu' hu)) KC2 (F2.keep _ _ hj) (fun Q' hq => wpAny_Name (wpAny_loadName_local (by kernel_rfl) (by kernel_rfl) F2.ns (by kernel_rfl) hq) (by decide)) ?_)
  intro h3 tk3 e3
  have F3 := F2.keeps e3
  refine Calls.spliced_nil ⟨⟨F3.keep _ _ h42, e42⟩, ?_⟩
  refine twc_call (W.keeps F3.keep) rfl (by show d < 900; (exact om279 hd' hd)) (by show u' < 9000; (exact om280 hu' hu)) (F3.keep _ _ hx) (F3.keep _ _ hy) ?_
  intro h4 tk4 t4 e4
  refine wpAny_Constant_int ?_
  refine lt_int ?_
  have z : decide (PyProof.Rows.b2i (pLt d2 w2 d1 w1) - PyProof.Rows.b2i (pLt d1 w1 d2 w2) < 0) = pLt d1 w1 d2 w2 := by
    have ex : pLt d1 w1 d2 w2 = true → pLt d2 w2 d1 w1 = false := fun h => by
      unfold pLt at h ⊢
      have h := of_decide_eq_true h
      refine decide_eq_false fun q => ?_
      rcases h with h | ⟨h, h'⟩ <;> rcases q with q | ⟨q, q'⟩
      · (exact om281 h q)
      · (exact om282 h q)
      · (exact om283 h q)
      · exact absurd h' (List.lt_asymm q')
    cases h1 : pLt d1 w1 d2 w2 with
    | true => rw [ex h1]; rfl
    | false => cases pLt d2 w2 d1 w1 <;> rfl
  rw [z]
  exact HQ _ _ (F3.keeps e4).keep
-- D54Kl
section
variable {w : World} {A : Around} {E : Value → Shared → Prop} {h : Heap} {g : Array GenState} {d : Drawn} {t : Nat} {os : OsState} {n a : Addr} {dn : Obj} {q : PySem.Str} {hd : Bool} {sn : List PySem.Str} {sl : Array (Option Value)} {name : PySem.Str} {v : Value}
theorem look_hit {Q : Option Value → Shared → Prop} (S1 : h.get? n = some dn) (S2 : h.get? a = some (cK n q [.ref a, .type "object"] hd sn sl)) (hk : nsLook name dn = pure (some v)) (hq : Q (some v) ⟨h, g, d, t, os⟩) :
    wpAny (model prog w) A (typeLookup (.ref a) name) Q E ⟨h, g, d, t, os⟩ := by
  unfold typeLookup
  walk_at "D54 r"
  repeat ((first | with_reducible refine wpAny_of_eq hk ?_); walk_at "D54 r")
  exact hq
end
set_option maxHeartbeats 1000000 in
theorem key_lt {w : World} {A : Around} {s : Shared} {E : Value → Shared → Prop} {Q : Bool → Shared → Prop} {a i j dA dB x y : Addr} {d1 d2 : Int} {w1 w2 : List Nat} {t1 t2 u1 u2 : Tok} {k1 k2 : Nat} {mg mb : PySem.Str → Option Value}
  (W : Wd w mg mb s.heap) (hh : A.handled = none) (hd : A.depth < 800) (hu : A.units < 8000) (KO : KObj s.heap a)
  (hi : s.heap.get? i = some (instK a dA (.ref x))) (hj : s.heap.get? j = some (instK a dB (.ref y))) (hx : s.heap.get? x = some (prL d1 t1 w1 u1 k1)) (hy : s.heap.get? y = some (prL d2 t2 w2 u2 k2))
  (HQ : ∀ h' tk, Ext s.heap h' → Q (pLt d1 w1 d2 w2) ⟨h', s.gens, s.drawn, tk, s.os⟩) :
  wpAny (model prog w) A (keyLt' oneType' (.ref i) (.ref j)) Q E s := by
  obtain ⟨n, f1, f2, c1, c2, cl, q1, q2, pm, x1, x2, KC, e2, e3, e4, e5, oc, e6, e7⟩ := KO.is
  obtain ⟨xa, xi, xt, ha, hD, hn⟩ := KC.is
  rw [keyLt'_oneType, oneLt'_eq]
  simp only [if_true]
  refine wpAny_bind (wpAny_cRoomFor (Nat.lt_trans hu (by decide)) ?_)
  refine wpAny_bind ?_
  simp only [callSpecialIfBound?, bindSpecialIfBound?]
  refine wpAny_holding (wpAny_bind (wpAny_bind ?_))
  unfold specialOf typeOf
  refine wpAny_bind (wpAny_bind (wpAny_load hi (wpAny_pure ?_)))
  refine look_hit (v := .ref f2) hn ha (by kernel_rfl) ?_
  refine wpAny_bind (wpAny_askSetting (wpAny_ite ?_))
  have fin : wpAny (model prog w) A (call (.ref f2) ([.ref i] ++ [.ref j]) >>= fun v => pure (some v)) (fun o s' => wpAny (model prog w) A (match o with
      | some .notImplemented | none => (do rule "list.sort.lt-declined"; truthOfDropped (← richCompare .Lt (.ref i) (.ref j)))
      | some r => truthOfDropped r) Q E s') E s := by
    refine wpAny_bind (lt_call W hh hd hu KC e4 e5 e6 e7 hi hj hx hy fun h' tk k => wpAny_pure ?_)
    exact wpAny_truthy_bool (HQ h' tk k)
  have tf : ∀ {Q' : (Value × List Value) → Shared → Prop} {E'}, Q' (.ref f2, [.ref i]) s → wpAny (model prog w) A (bindSpecial (.ref f2) (.ref i)) Q' E' s := by
    intro Q' E' hq
    unfold bindSpecial typeOf
    refine wpAny_bind (wpAny_bind (wpAny_load e4 (wpAny_pure ?_)))
    exact wpAny_of_eq (by kernel_rfl) hq
  split
  · exact wpAny_bind (tf (wpAny_pure fin))
  · exact wpAny_tryCatch (wpAny_bind (tf (wpAny_pure fin)))
-- D54Enc
/-- a word as a number, of the order of texts -/
def encW : Nat → List Nat → Nat
  | 0, _ => 0
  | _ + 1, [] => 0
  | n + 1, c :: cs => (c + 1) * 129 ^ n + encW n cs
theorem encW_lt : ∀ (n : Nat) (l : List Nat), (∀ c ∈ l, c < 128) → encW n l < 129 ^ n
  | 0, _, _ => Nat.one_pos
  | n + 1, [], _ => Nat.pow_pos (by decide)
  | n + 1, c :: cs, h => by
    have h1 := encW_lt n cs fun x hx => h x (.tail _ hx)
    have h2 : c < 128 := h c (.head _)
    show (c + 1) * 129 ^ n + encW n cs < 129 ^ (n + 1)
    rw [Nat.pow_succ]
    have : (c + 1) * 129 ^ n ≤ 128 * 129 ^ n := Nat.mul_le_mul_right _ h2
    (exact om297 h1 this)
theorem encW_mono : ∀ (n : Nat) (l m : List Nat), l.length ≤ n → m.length ≤ n → (∀ c ∈ l, c < 128) → (∀ c ∈ m, c < 128) → (l < m ↔ encW n l < encW n m)
  | 0, l, m, hl, hm, _, _ => by
    have e1 : l = [] := List.length_eq_zero_iff.mp (Nat.le_zero.mp hl)
    have e2 : m = [] := List.length_eq_zero_iff.mp (Nat.le_zero.mp hm)
    subst e1; subst e2; simp [encW]
  | n + 1, [], [], _, _, _, _ => by simp
  | n + 1, [], c :: cs, _, _, _, _ => by
    have : 0 < (c + 1) * 129 ^ n := Nat.mul_pos (Nat.succ_pos _) (Nat.pow_pos (by decide))
    simp only [encW, List.nil_lt_cons, true_iff]; (exact om298 this)
  | n + 1, c :: cs, [], _, _, _, _ => by simp [encW]
  | n + 1, c :: cs, x :: xs, hl, hm, h1, h2 => by
    have ih := encW_mono n cs xs (by simpa using hl) (by simpa using hm) (fun y hy => h1 y (.tail _ hy)) fun y hy => h2 y (.tail _ hy)
    have a1 := encW_lt n cs fun y hy => h1 y (.tail _ hy)
    have a2 := encW_lt n xs fun y hy => h2 y (.tail _ hy)
    rw [List.cons_lt_cons_iff]
    show _ ↔ (c + 1) * 129 ^ n + encW n cs < (x + 1) * 129 ^ n + encW n xs
    rcases Nat.lt_trichotomy c x with h | h | h
    · have : (c + 1 + 1) * 129 ^ n ≤ (x + 1) * 129 ^ n := Nat.mul_le_mul_right _ (by (exact om299 h))
      rw [Nat.add_mul (c + 1) 1] at this
      constructor
      · intro _; (exact om300 this a1)
      · intro _; exact .inl h
    · subst h
      constructor
      · rintro (q | ⟨_, q⟩)
        · exact absurd q (Nat.lt_irrefl _)
        · have := ih.mp q; (exact om301 this)
      · intro q; exact .inr ⟨rfl, ih.mpr (by (exact om302 q))⟩
    · have : (x + 1 + 1) * 129 ^ n ≤ (c + 1) * 129 ^ n := Nat.mul_le_mul_right _ (by (exact om299 h))
      rw [Nat.add_mul (x + 1) 1] at this
      constructor
      · rintro (q | ⟨q, _⟩) <;> (first | exact om303 h q | exact om304 h q)
      · intro q; (exact om305 a2 this q)
theorem encW_inj : ∀ (n : Nat) (l m : List Nat), l.length ≤ n → m.length ≤ n → (∀ c ∈ l, c < 128) → (∀ c ∈ m, c < 128) → encW n l = encW n m → l = m := fun n l m hl hm h1 h2 e => by
  have a := encW_mono n l m hl hm h1 h2
  have b := encW_mono n m l hm hl h2 h1
  have na : ¬ l < m := fun q => by have := a.mp q; (exact om306 e this)
  have nb : ¬ m < l := fun q => by have := b.mp q; (exact om307 e this)
  exact List.le_antisymm nb na
/-- a pair whose word has at most four signs -/
def Small (p : Int × List Nat) : Prop := 0 ≤ p.1 ∧ p.2.length ≤ 4 ∧ ∀ c ∈ p.2, c < 128
def enc (p : Int × List Nat) : Nat := p.1.toNat * 129 ^ 4 + encW 4 p.2
theorem enc_lt {p q : Int × List Nat} (hp : Small p) (hq : Small q) : pLt p.1 p.2 q.1 q.2 = decide (enc p < enc q) := by
  have a := encW_mono 4 p.2 q.2 hp.2.1 hq.2.1 hp.2.2 hq.2.2
  have a1 := encW_lt 4 p.2 hp.2.2
  have a2 := encW_lt 4 q.2 hq.2.2
  have p0 := hp.1
  have q0 := hq.1
  unfold pLt enc
  refine decide_eq_decide.mpr ?_
  rw [a]
  have e4 : (129 : Nat) ^ 4 = 276922881 := by decide
  rw [e4] at *
  (exact om308 a1 a2 p0 q0)
theorem enc_inj {p q : Int × List Nat} (hp : Small p) (hq : Small q) (e : enc p = enc q) : p = q := by
  have a1 := encW_lt 4 p.2 hp.2.2
  have a2 := encW_lt 4 q.2 hq.2.2
  have p0 := hp.1
  have q0 := hq.1
  unfold enc at e
  have e4 : (129 : Nat) ^ 4 = 276922881 := by decide
  rw [e4] at *
  have e1 : encW 4 p.2 = encW 4 q.2 := by (exact om309 a1 a2 e)
  have e2 : p.1 = q.1 := by (exact om310 p0 q0 e e1)
  exact Prod.ext e2 (encW_inj 4 _ _ hp.2.1 hq.2.1 hp.2.2 hq.2.2 e1)
theorem sorted_eq : ∀ {l m : List (Int × List Nat)}, l.Perm m → (∀ p ∈ l, Small p) → l.Pairwise (fun p q => enc p ≤ enc q) → m.Pairwise (fun p q => enc p ≤ enc q) → l = m := by
  intro l m hp hs h1 h2
  refine List.Perm.eq_of_pairwise (le := fun p q => enc p ≤ enc q) ?_ h1 h2 hp
  intro p q hpl hq a b
  exact enc_inj (hs p hpl) (hs q (hp.mem_iff.mpr hq)) (Nat.le_antisymm a b)
-- D54Sk
def PrAt (h : Heap) (x : Addr) (p : Int × List Nat) : Prop := ∃ t u k, h.get? x = some (prL p.1 t p.2 u k)
def Prs (h : Heap) (xs : List Addr) (ps : List (Int × List Nat)) : Prop := xs.length = ps.length ∧ ∀ i, i < xs.length → PrAt h (xs.getD i 0) (ps.getD i (0, []))
theorem Prs.keeps {h h' : Heap} {xs : List Addr} {ps : List (Int × List Nat)} (x : Prs h xs ps) (k : Ext h h') : Prs h' xs ps := ⟨x.1, fun i hi => let ⟨t, u, c, e⟩ := x.2 i hi; ⟨t, u, c, k _ _ e⟩⟩
theorem ext_upd {h0 h : Heap} {a : Addr} {f : Obj → Obj} (k : Ext h0 h) (n : h0.get? a = none) : Ext h0 (h.update a f) := fun b o e => ((Heap.SameBut.update h a f).2 b (fun q => by rw [q, n] at e; cases e)).trans (k b o e)
theorem ext_push {h0 h : Heap} {o : Obj} (k : Ext h0 h) : Ext h0 (h.push o) := fun b x e => Heap.get?_push_of_some _ (k b x e)
theorem new_of_ext {h0 h : Heap} (k : Ext h0 h) {a : Addr} (ha : h.objs.size ≤ a) : h0.get? a = none := by
  cases e : h0.get? a with
  | none => rfl
  | some o => exact absurd (Heap.lt_size (k _ _ e)) (Nat.not_lt.mpr ha)
/-- what a sort gives back -/
def Srt (h0 : Heap) (ps : List (Int × List Nat)) (D : Addr) (h' : Heap) : Prop := Ext h0 h' ∧ h0.get? D = none ∧ ∃ ys qs c, h'.get? D = some (seqObj "list" (ys.map Value.ref).toArray c) ∧ Prs h' ys qs ∧ qs.Perm ps ∧ qs.Pairwise (fun p q => enc p ≤ enc q)
theorem getD_map_ref (ys : List Addr) (i : Nat) (hi : i < ys.length) : (ys.map Value.ref).getD i .none = .ref (ys.getD i 0) := by
  simp [List.getD, List.getElem?_map, List.getElem?_eq_getElem hi]
theorem srt_mk {h0 h' : Heap} {D : Addr} {c : Nat} {xs : List Addr} {ps : List (Int × List Nat)} {q : Array Nat} (P : Prs h0 xs ps) (k : Ext h0 h') (hD : h0.get? D = none)
    (hq : PermN xs.length q) (hu : Up (fun i => enc (ps.getD i (0, []))) q xs.length) (e : h'.get? D = some (seqObj "list" (q.toList.map fun i => (xs.map Value.ref).getD i .none).toArray c)) : Srt h0 ps D h' := by
  have hlt : ∀ i ∈ q.toList, i < xs.length := fun i hi => List.mem_range.mp (hq.mem_iff.mp hi)
  refine ⟨k, hD, q.toList.map fun i => xs.getD i 0, q.toList.map fun i => ps.getD i (0, []), c, ?_, ⟨by simp, ?_⟩, ?_, ?_⟩
  · have e' : (q.toList.map fun i => (xs.map Value.ref).getD i .none) = (q.toList.map fun i => xs.getD i 0).map Value.ref := by
      rw [List.map_map]
      exact List.map_congr_left fun i hi => getD_map_ref xs i (hlt i hi)
    rw [e, e']
  · intro i hi
    rw [List.length_map] at hi
    have e1 : (q.toList.map fun i => xs.getD i 0).getD i 0 = xs.getD q.toList[i] 0 := by simp [List.getD, List.getElem?_map, List.getElem?_eq_getElem hi]
    have e2 : (q.toList.map fun i => ps.getD i (0, [])).getD i (0, []) = ps.getD q.toList[i] (0, []) := by simp [List.getD, List.getElem?_map, List.getElem?_eq_getElem hi]
    rw [e1, e2]
    exact (P.keeps k).2 _ (hlt _ (List.getElem_mem hi))
  · have h1 := List.Perm.map (fun i => ps.getD i (0, [])) hq
    refine h1.trans (.of_eq ?_)
    rw [P.1]
    refine List.ext_getElem (by simp) fun i h1 h2 => ?_
    simp [List.getD, List.getElem?_eq_getElem h2]
  · rw [List.pairwise_map, List.pairwise_iff_getElem]
    intro i j hi hj hij
    have hs := hq.size
    rw [Array.length_toList] at hi hj
    have := hu i j (Nat.le_of_lt hij) (by (exact om313 hj hs))
    unfold kat at this
    simpa [Array.getD, hi, hj] using this
section
variable {w : World} {A : Around} {E : Value → Shared → Prop} {s : Shared} {h0 h : Heap} {g : Array GenState} {dr : Drawn} {tk : Nat} {os : OsState} {D kS a : Addr} {keys : Array Value} {e e1 : Nat} {P : PySem.Fin → Shared → Prop}
theorem sk_tail {st : SortSt} {out : List Value} (k : Ext h0 h) (hD0 : h0.get? D = none) (hS0 : h0.get? kS = none) (hne : kS ≠ D) (hS : h.get? kS = some (seqObj "list" keys e)) (hD : h.get? D = some (seqObj "list" #[] e1))
    (hks : keys.size < 64) (ho : (arrOf st).map (·.2) = out.toArray) (hol : out.length < 64) (hfl : failedOf st = none)
    (HP : ∀ h' c, Ext h0 h' → h'.get? D = some (seqObj "list" out.toArray c) → P (.done (.ret .none)) ⟨h', g, dr, tk, os⟩) :
    wpAny (model prog w) A (ksk_tail D false e1 (.ref kS) st) P E ⟨h, g, dr, tk, os⟩ := by
  unfold ksk_tail
  dsimp only
  have hD1 : (h.update kS (Obj.mapSeq fun _ => (#[] : Array Value))).get? D = some (seqObj "list" #[] e1) := ((Heap.SameBut.update h kS _).2 D (Ne.symm hne)).trans hD
  have k1 : Ext h0 (h.update kS (Obj.mapSeq fun _ => (#[] : Array Value))) := ext_upd k hS0
  refine wpAny_bind (listUpdate_at (s := ⟨h, g, dr, tk, os⟩) hS rfl ?_ (by rw [sizeLine_eq]; (exact om147 hks)) (Nat.zero_le _))
  refine wpAny_bind (wpAny_letGo ?_)
  refine wpAny_bind (seqEpoch_at hD1 rfl ?_)
  rw [ho]
  refine wpAny_bind (listUpdate_at hD1 rfl ?_ (Nat.zero_le _) (by show (out.toArray).size ≤ _; rw [List.size_toArray, sizeLine_eq]; (exact om148 hol)))
  rw [hfl]
  simp only [bne_self_eq_false, Bool.false_eq_true, if_false]
  exact wpAny_pure (HP _ _ (ext_upd k1 hD0) (get?_update_seq hD1 fun _ => out.toArray))
end
def Insts (h : Heap) (a : Addr) (xs is : List Addr) : Prop := ∀ j, j < is.length → ∃ dA, h.get? (is.getD j 0) = some (instK a dA (.ref (xs.getD j 0)))
theorem Insts.keeps {h h' : Heap} {a : Addr} {xs is : List Addr} (x : Insts h a xs is) (k : ∀ b dA v, h.get? b = some (instK a dA v) → h'.get? b = some (instK a dA v)) : Insts h' a xs is := fun j hj => let ⟨dA, e⟩ := x j hj; ⟨dA, k _ _ _ e⟩
theorem sk_end {w : World} {A : Around} {E : Value → Shared → Prop} {h0 h : Heap} {g : Array GenState} {dr : Drawn} {tk : Nat} {os : OsState} {D kS a : Addr} {e e1 : Nat} {P : PySem.Fin → Shared → Prop} {xs is : List Addr} {ps : List (Int × List Nat)} {mg mb : PySem.Str → Option Value}
    (W : Wd w mg mb h0) (hh : A.handled = none) (hd : A.depth < 800) (hu : A.units < 8000) (KO : KObj h0 a) (hP : Prs h0 xs ps) (hsm : ∀ p ∈ ps, Small p)
    (k : Ext h0 h) (hD0 : h0.get? D = none) (hS0 : h0.get? kS = none) (hne : kS ≠ D) (hS : h.get? kS = some (seqObj "list" (is.map Value.ref).toArray e)) (hD : h.get? D = some (seqObj "list" #[] e1))
    (hl : is.length = xs.length) (h64 : xs.length < 64) (hI : Insts h a xs is)
    (HP : ∀ h' tk', Srt h0 ps D h' → P (.done (.ret .none)) ⟨h', g, dr, tk', os⟩) :
    wpAny (model prog w) A (ksk_end D false (xs.map Value.ref).toArray e1 (.ref kS) (is.map Value.ref).toArray) P E ⟨h, g, dr, tk, os⟩ := by
  unfold ksk_end
  dsimp only
  simp only [Bool.false_eq_true, if_false]
  have hks : (is.map Value.ref).toArray.size < 64 := by simp; (exact om151 hl h64)
  by_cases h2 : (xs.map Value.ref).toArray.size < 2
  · rw [if_pos h2, if_pos h2]
    refine wpAny_bind (wpAny_pure ?_)
    rw [StateT.run_pure]
    refine wpAny_bind (wpAny_pure ?_)
    dsimp only
    refine sk_tail (out := xs.map Value.ref) k hD0 hS0 hne hS hD hks ?_ (by simpa using h64) rfl ?_
    · show ((is.map Value.ref).toArray.zip (xs.map Value.ref).toArray).map (·.2) = _
      apply Array.toList_inj.mp
      rw [Array.toList_map, ksk_zip]
      simp only [List.toList_toArray]
      exact List.map_snd_zip (by simp; (exact om314 hl))
    · intro h' c k' hD'
      refine HP h' tk (srt_mk (q := (List.range xs.length).toArray) (c := c) hP k' hD0 (by simp [PermN]) ?_ ?_)
      · intro i j hij hj
        simp at h2
        have : i = j := by (exact om149 hij hj h2)
        subst this; exact Nat.le_refl _
      · rw [hD']
        congr 3
        refine List.ext_getElem (by simp) fun i h1 h2 => ?_
        have hi : i < xs.length := by simpa using h1
        simp [List.getD, List.getElem?_eq_getElem hi]
  · rw [if_neg h2, if_neg h2]
    have hn : 2 ≤ xs.length := by simp at h2; (exact om150 h2)
    refine wpAny_bind (kas_kind (T := .ref a) (by simp; (exact om315 hl hn)) ?_ (by rfl) (by simp) ?_)
    · intro v hv
      obtain ⟨i, hi, rfl⟩ := List.mem_map.mp hv
      obtain ⟨j, hj, ej⟩ := List.getElem_of_mem hi
      obtain ⟨dA, e⟩ := hI j hj
      have ej' : is.getD j 0 = i := by simp [List.getD, List.getElem?_eq_getElem hj, ej]
      rw [ej'] at e
      intro A' Q' E' s' k' hq
      unfold typeOf
      exact wpAny_bind (wpAny_load (k' _ _ e) (wpAny_pure hq))
    · have hzs : ((is.map Value.ref).toArray.zip (xs.map Value.ref).toArray).size = xs.length := by simp; (exact om316 hl)
      have est : SortSt.mk' oneType' ((is.map Value.ref).toArray.zip (xs.map Value.ref).toArray) #[] 7 none = kas_st oneType' ((is.map Value.ref).toArray.zip (xs.map Value.ref).toArray) (List.toArray (List.range xs.length)) := by
        have e := kas_range ((is.map Value.ref).toArray.zip (xs.map Value.ref).toArray)
        rw [hzs] at e
        show SortSt.mk' oneType' _ #[] 7 none = SortSt.mk' oneType' ((List.toArray (List.range xs.length)).map (kas_item _)) #[] 7 none
        rw [e]
      have hit : ∀ i, i < xs.length → kas_item ((is.map Value.ref).toArray.zip (xs.map Value.ref).toArray) i = (.ref (is.getD i 0), .ref (xs.getD i 0)) := by
        intro i hi
        have hi2 : i < is.length := by (exact om317 hl hi)
        simp [kas_item, Array.getD, List.getD, hi, hi2]
        exact dif_pos (Nat.lt_min.mpr ⟨hi2, hi⟩)
      rw [est]
      have run := kas_runs (prog := prog) (w := w) (A := A) (E := E) (s := ⟨h, g, dr, tk, os⟩) (κ := oneType') (it := (is.map Value.ref).toArray.zip (xs.map Value.ref).toArray) (Q := fun _ st' s' => wpAny (model prog w) A (ksk_tail D false e1 (.ref kS) st') P E s')
        (G := fun p s' => (PermN xs.length p ∧ Up (fun i => enc (ps.getD i (0, []))) p xs.length) ∧ ∃ h' tk', s' = ⟨h', g, dr, tk', os⟩ ∧ Ext h h') hn h64 ?_ ?_
      · refine wpAny_bind (wpAny_mono run (fun r s' hr => hr) fun _ _ e => e)
      · rintro p' st' s' a1 a2 a3 ⟨⟨q1, q2⟩, h', tk', rfl, k'⟩
        refine sk_tail (out := p'.toList.map fun i => (xs.map Value.ref).getD i .none) (k.trans k') hD0 hS0 hne (k' _ _ hS) (k' _ _ hD) hks ?_ (by simp; (exact om151 a1 h64)) a3 ?_
        · apply Array.toList_inj.mp
          rw [a2, Array.map_map, Array.toList_map]
          refine List.map_congr_left fun i hi => ?_
          have hi' : i < xs.length := List.mem_range.mp (q1.mem_iff.mp hi)
          show (kas_item _ i).2 = _
          rw [hit i hi', getD_map_ref xs i hi']
        · intro h'' c k'' hD'
          exact HP h'' tk' (srt_mk hP k'' hD0 q1 q2 hD')
      · refine KOk.wp (n := xs.length) (key := fun i => enc (ps.getD i (0, []))) (I := fun s' => ∃ h' tk', s' = ⟨h', g, dr, tk', os⟩ ∧ Ext h h') (P := fun p => PermN xs.length p ∧ Up (fun i => enc (ps.getD i (0, []))) p xs.length) ?_ (fun p s' a b => ⟨a, b⟩) (sort_ok (by (exact om152 hn))) ⟨h, tk, rfl, Ext.refl _⟩
        rintro i j C s' hi hj ⟨h', tk', rfl, k'⟩ hC
        unfold kas_cmp
        rw [hit i hi, hit j hj]
        have kk := k.trans k'
        obtain ⟨dA, ia⟩ := hI i (by (exact om317 hl hi))
        obtain ⟨dB, ib⟩ := hI j (by (exact om317 hl hj))
        obtain ⟨t1, u1, c1, x1⟩ := hP.2 i hi
        obtain ⟨t2, u2, c2, x2⟩ := hP.2 j hj
        have mp : ∀ i, i < xs.length → ps.getD i (0, []) ∈ ps := fun i hi => by
          have hi' : i < ps.length := by rw [← hP.1]; exact hi
          simp [List.getD, List.getElem?_eq_getElem hi']
        refine key_lt (s := ⟨h', g, dr, tk', os⟩) (W.keeps kk) hh hd hu (KO.keeps kk) (k' _ _ ia) (k' _ _ ib) (kk _ _ x1) (kk _ _ x2) fun h'' tk'' k'' => ?_
        rw [enc_lt (hsm _ (mp i hi)) (hsm _ (mp j hj))]
        exact hC _ ⟨h'', tk'', rfl, k'.trans k''⟩
theorem sk_rest {w : World} {A : Around} {E : Value → Shared → Prop} {h0 h : Heap} {g : Array GenState} {dr : Drawn} {tk : Nat} {os : OsState} {D kS a : Addr} {e1 : Nat} {P : PySem.Fin → Shared → Prop} {xs : List Addr} {ps : List (Int × List Nat)} {mg mb : PySem.Str → Option Value}
    (W : Wd w mg mb h0) (hh : A.handled = none) (hd : A.depth < 800) (hu : A.units < 8000) (KO : KObj h0 a) (hP : Prs h0 xs ps) (hsm : ∀ p ∈ ps, Small p)
    (k : Ext h0 h) (hD0 : h0.get? D = none) (hS0 : h0.get? kS = none) (hne : kS ≠ D) (hS : h.get? kS = some (seqObj "list" #[] 0)) (hD : h.get? D = some (seqObj "list" #[] e1))
    (h64 : xs.length < 64)
    (HP : ∀ h' tk', Srt h0 ps D h' → P (.done (.ret .none)) ⟨h', g, dr, tk', os⟩) :
    wpAny (model prog w) A (ksk_rest D (.ref a) false (xs.map Value.ref).toArray e1 (.ref kS)) P E ⟨h, g, dr, tk, os⟩ := by
  unfold ksk_rest
  refine wpAny_bind (wpAny_rule ?_)
  rw [List.forIn_toArray]
  refine wpAny_bind (ksk_fold (fun i s' => ∃ h' tk is e, s' = ⟨h', g, dr, tk, os⟩ ∧ Ext h0 h' ∧ h'.get? D = some (seqObj "list" #[] e1) ∧ h'.get? kS = some (seqObj "list" (is.map Value.ref).toArray e) ∧ is.length = i ∧ Insts h' a xs is) (xs.map Value.ref) 0 _
    ⟨h, tk, [], 0, rfl, k, hD, hS, rfl, fun j hj => absurd hj (Nat.not_lt_zero _)⟩ ?step ?done)
  case step =>
    rintro j x s' hx ⟨h', tk, is, e, rfl, k', hD', hS', hl, hI⟩
    simp only [Nat.zero_add] at hl ⊢
    have hj : j < xs.length := by have := (List.getElem?_eq_some_iff.mp hx).1; simpa using this
    have ex : x = .ref (xs.getD j 0) := by
      have : (xs.map Value.ref)[j]? = some (.ref xs[j]) := by simp [hj]
      rw [this] at hx; cases hx; simp [List.getD, hj]
    subst ex
    refine wpAny_bind (wpAny_attempt ?_)
    refine kx_call (s := ⟨h', g, dr, tk, os⟩) (W.keeps k').k hh (Nat.le_of_lt (Nat.lt_trans hd (by decide))) (Nat.le_of_lt (Nat.lt_trans hu (by decide))) (KO.keeps k') fun i dA h2 tk2 k2 hi hin => ?_
    dsimp only
    have hS2 := k2 _ _ hS'
    have hD2 := k2 _ _ hD'
    have hik : i ≠ kS := fun q => by rw [q, hS'] at hin; cases hin
    refine wpAny_bind (listUpdate_at (s := ⟨h2, g, dr, tk2, os⟩) hS2 rfl ?_ (by simp [sizeLine_eq]; (exact om318 hl hj h64)) (by simp [sizeLine_eq]; (exact om318 hl hj h64)))
    have same := Heap.SameBut.update h2 kS (Obj.mapSeq (·.push (Value.ref i)))
    have hS3 := get?_update_seq hS2 (·.push (Value.ref i))
    have ep : (is.map Value.ref).toArray.push (Value.ref i) = ((is ++ [i]).map Value.ref).toArray := by simp
    rw [ep] at hS3
    refine wpAny_pure ⟨rfl, _, tk2, is ++ [i], _, rfl, ext_upd (k'.trans k2) hS0, (same.2 D (Ne.symm hne)).trans hD2, hS3, by simp [hl], ?_⟩
    · intro q hq
      have hq' : q < is.length + 1 := by simpa using hq
      by_cases e2 : q < is.length
      · have e3 : (is ++ [i]).getD q 0 = is.getD q 0 := by simp [List.getD, List.getElem?_append_left e2]
        rw [e3]
        obtain ⟨dA', ia⟩ := hI q e2
        have ia2 := k2 _ _ ia
        refine ⟨dA', (same.2 _ fun z => ?_).trans ia2⟩
        rw [z, hS2] at ia2; cases ia2
      · have e4 : q = is.length := by (exact om319 hq' e2)
        subst e4
        have e3 : (is ++ [i]).getD is.length 0 = i := by simp [List.getD]
        rw [e3, hl]
        exact ⟨dA, (same.2 _ hik).trans hi⟩
  case done =>
    rintro s' ⟨h', tk, is, e, rfl, k', hD', hS', hl, hI⟩
    simp only [Nat.zero_add, List.length_map] at hl
    refine wpAny_bind (listItems_at (s := ⟨h', g, dr, tk, os⟩) hS' rfl ?_)
    exact sk_end W hh hd hu KO hP hsm k' hD0 hS0 hne hS' hD' hl h64 hI HP
theorem sk_sort {w : World} {A : Around} {E : Value → Shared → Prop} {h0 h : Heap} {g : Array GenState} {dr : Drawn} {tk : Nat} {os : OsState} {D a : Addr} {n : Nat} {P : PySem.Fin → Shared → Prop} {xs : List Addr} {ps : List (Int × List Nat)} {mg mb : PySem.Str → Option Value}
    (W : Wd w mg mb h0) (hh : A.handled = none) (hd : A.depth < 800) (hu : A.units < 8000) (KO : KObj h0 a) (hP : Prs h0 xs ps) (hsm : ∀ p ∈ ps, Small p)
    (k : Ext h0 h) (hD0 : h0.get? D = none) (hD : h.get? D = some (seqObj "list" (xs.map Value.ref).toArray n)) (h64 : xs.length < 64)
    (HP : ∀ h' tk', Srt h0 ps D h' → P (.done (.ret .none)) ⟨h', g, dr, tk', os⟩) :
    wpAny (model prog w) A (ksk_tree D (.ref a) false) P E ⟨h, g, dr, tk, os⟩ := by
  have hD1 := get?_update_seq hD fun _ => (#[] : Array Value)
  have hsz : (h.update D (Obj.mapSeq fun _ => (#[] : Array Value))).objs.size = h.objs.size := Heap.size_update ..
  have hlt := Heap.lt_size hD
  unfold ksk_tree
  refine wpAny_bind (listItems_at (s := ⟨h, g, dr, tk, os⟩) hD rfl ?_)
  refine wpAny_bind (listUpdate_at (s := ⟨h, g, dr, tk, os⟩) hD rfl ?_ (by simp [sizeLine_eq]; (exact om147 h64)) (Nat.zero_le _))
  refine wpAny_bind (seqEpoch_at hD1 rfl ?_)
  refine wpAny_bind (wpAny_newTuple ?_ (by simp [sizeLine_eq]; (exact om147 h64)))
  refine wpAny_bind (wpAny_newList ?_ (Nat.zero_le _))
  refine wpAny_holding ?_
  refine sk_rest W hh hd hu KO hP hsm (ext_push (ext_push (ext_upd k hD0))) hD0 (new_of_ext k (by show _ ≤ _; rw [size_push', hsz]; exact Nat.le_succ _)) ?_ ?_ ?_ h64 HP
  · show _ ≠ _
    rw [size_push', hsz]; exact Nat.ne_of_gt (Nat.lt_succ_of_lt hlt)
  · exact Heap.get?_push_size _ rfl
  · exact Heap.get?_push_of_some _ (Heap.get?_push_of_some _ hD1)
/-- sorted(l, key=K) -/
theorem sorted_key {w : World} {A : Around} {E : Value → Shared → Prop} {s : Shared} {Q : Value → Shared → Prop} {a l : Addr} {xs : List Addr} {ps : List (Int × List Nat)} {mg mb : PySem.Str → Option Value}
    (W : Wd w mg mb s.heap) (hh : A.handled = none) (hd : A.depth < 700) (hu : A.units < 7000) (KO : KObj s.heap a) (hl : s.heap.IsList l (xs.map Value.ref).toArray) (hP : Prs s.heap xs ps) (hsm : ∀ p ∈ ps, Small p) (h64 : xs.length < 64)
    (HQ : ∀ D h' tk', Srt s.heap ps D h' → Q (.ref D) ⟨h', s.gens, s.drawn, tk', s.os⟩) :
    wpAny (model prog w) A (call (.builtin "sorted") [.ref l] [(PySem.Str.ofString "key", .ref a)]) Q E s := by
  refine call_function_entry_kw kind_sorted plain_sorted entry_sorted (ksk_s1 _ _) ?_
  unfold Builtin.«sorted»
  refine wpAny_bind (m := checkCount "sorted" 1 1 _) (wpAny_pure ?_)
  refine wpAny_bind (collect_list hl ?_ (by simp [sizeLine_eq]; (exact om147 h64)))
  refine wpAny_bind (wpAny_newList ?_ (by simp [sizeLine_eq]; (exact om147 h64)))
  have hsz : ((s.heap.push (seqObj "list" #[] 0)).update s.heap.objs.size (Obj.mapSeq (· ++ (xs.map Value.ref).toArray))).objs.size = s.heap.objs.size + 1 := by
    rw [Heap.size_update, size_push']
  have hoL : (((s.heap.push (seqObj "list" #[] 0)).update s.heap.objs.size (Obj.mapSeq (· ++ (xs.map Value.ref).toArray))).push (seqObj "list" (xs.map Value.ref).toArray 0)).get? (s.heap.objs.size + 1) = some (seqObj "list" (xs.map Value.ref).toArray 0) := by
    rw [← hsz]; exact Heap.get?_push_size _ rfl
  have keep : Ext s.heap (((s.heap.push (seqObj "list" #[] 0)).update s.heap.objs.size (Obj.mapSeq (· ++ (xs.map Value.ref).toArray))).push (seqObj "list" (xs.map Value.ref).toArray 0)) := ext_push (ext_upd (ext_push (Ext.refl _)) (Heap.get?_none_of_le (Nat.le_refl _)))
  show wpAny _ _ _ _ _ { s with heap := ((s.heap.push (seqObj "list" #[] 0)).update s.heap.objs.size (Obj.mapSeq (· ++ (xs.map Value.ref).toArray))).push (seqObj "list" (xs.map Value.ref).toArray 0) }
  rw [hsz]
  refine wpAny_bind (wpAny_holding (wpAny_call_entry_kw slot_list_sort ⟨_, hoL, rfl⟩ entry_list_sort ?body (ksk_l1 _ _)))
  case body =>
    show wpAny (model prog w) A.in1.in1 (Builtin.«list.sort» ⟨[.ref (s.heap.objs.size + 1)], [(PySem.Str.ofString "key", .ref a)]⟩) _ _ _
    rw [ksk_t1]
    refine sk_sort (A := A.in1.in1) W hh (by show A.depth < 800; (exact om320 hd)) (by show A.units + 1 + 1 < 8000; (exact om321 hu)) KO hP hsm keep (Heap.get?_none_of_le (Nat.le_succ _)) hoL h64 fun h' tk' S => ⟨_, rfl, ?_⟩
    exact wpAny_pure ⟨_, rfl, HQ _ h' tk' S⟩
-- D54Sp
section
variable {w : World} {A : Around} {E : Value → Shared → Prop} {h : Heap} {g : Array GenState} {d : Drawn} {tk : Nat} {os : OsState} {x y : Addr} {d1 d2 : Int} {w1 w2 : List Nat} {t1 t2 u1 u2 : Tok} {c1 c2 : Nat}
theorem pair_ltc {Q : Value → Shared → Prop} (hx : h.get? x = some (prL d1 t1 w1 u1 c1)) (hy : h.get? y = some (prL d2 t2 w2 u2 c2)) (hq : Q (.bool (pLt d1 w1 d2 w2)) ⟨h, g, d, tk, os⟩) :
    wpAny (model prog w) A (call (.builtin "list.__lt__") [.ref x, .ref y]) Q E ⟨h, g, d, tk, os⟩ := by
  refine (wpAny_call (codeAny_call_builtin F.slot_list_lt.plain F.entry_list_lt (F.slot_list_lt.check _ _ _ _ _ _ _ _ ⟨_, hx, rfl⟩ (F.args_list_lt_2 _ _) ?_)))
  have hT : (⟨h, g, d, tk, os⟩ : Shared).TypeIs (.ref y) "list" := ⟨_, hy, rfl⟩
  have hs : isSubtype (.type "list") (.type "list") = pure true := by rw [isSubtype_type]; kernel_rfl
  wp_walk
  exact ⟨plainId_quiet MeetsSeq3.plain_eq_loop _, plt_zero hx hy hq⟩
theorem key_pl {Q : Bool → Shared → Prop} (hu : A.units < cLine) (hx : h.get? x = some (prL d1 t1 w1 u1 c1)) (hy : h.get? y = some (prL d2 t2 w2 u2 c2)) (hq : Q (pLt d1 w1 d2 w2) ⟨h, g, d, tk, os⟩) :
    wpAny (model prog w) A (keyLt' oneType' (.ref x) (.ref y)) Q E ⟨h, g, d, tk, os⟩ := by
  rw [keyLt'_oneType, oneLt'_eq]
  simp only [if_true]
  refine wpAny_bind (wpAny_cRoomFor hu ?_)
  refine wpAny_bind (wpAny_callSpecialIfBound?_slot (s := ⟨h, g, d, tk, os⟩) ⟨_, hx, rfl⟩ F.slot_list_lt (pair_ltc hx hy ?_))
  exact wpAny_truthy_bool hq
end
theorem sp_sort {w : World} {A : Around} {E : Value → Shared → Prop} {h0 h : Heap} {g : Array GenState} {dr : Drawn} {tk : Nat} {os : OsState} {D : Addr} {n : Nat} {P : PySem.Fin → Shared → Prop} {xs : List Addr} {ps : List (Int × List Nat)}
    (hu : A.units < cLine) (hP : Prs h0 xs ps) (hsm : ∀ p ∈ ps, Small p)
    (k : Ext h0 h) (hD0 : h0.get? D = none) (hD : h.get? D = some (seqObj "list" (xs.map Value.ref).toArray n)) (h64 : xs.length < 64)
    (HP : ∀ h' tk', Srt h0 ps D h' → P (.done (.ret .none)) ⟨h', g, dr, tk', os⟩) :
    wpAny (model prog w) A (Builtin.«list.sort» ⟨[.ref D], []⟩) P E ⟨h, g, dr, tk, os⟩ := by
  obtain ⟨e1, hD1⟩ : ∃ e1, (h.update D (Obj.mapSeq fun _ => (#[] : Array Value))).get? D = some (seqObj "list" #[] e1) := ⟨_, get?_update_seq hD fun _ => (#[] : Array Value)⟩
  have hsz : (h.update D (Obj.mapSeq fun _ => (#[] : Array Value))).objs.size = h.objs.size := Heap.size_update ..
  have hlt := Heap.lt_size hD
  rw [list_sort_plain]
  refine wpAny_bind (listItems_at (s := ⟨h, g, dr, tk, os⟩) hD rfl ?_)
  refine wpAny_bind (listUpdate_at (s := ⟨h, g, dr, tk, os⟩) hD rfl ?_ (by simp [sizeLine_eq]; (exact om147 h64)) (Nat.zero_le _))
  refine wpAny_bind (seqEpoch_at hD1 rfl ?_)
  refine wpAny_bind (wpAny_newTuple ?_ (by simp [sizeLine_eq]; (exact om147 h64)))
  refine wpAny_bind (wpAny_newList ?_ (Nat.zero_le _))
  refine wpAny_holding ?_
  generalize hh' : (((h.update D (Obj.mapSeq fun _ => (#[] : Array Value))).push _).push _) = h'
  have k' : Ext h0 h' := by rw [← hh']; exact ext_push (ext_push (ext_upd k hD0))
  have hD' : h'.get? D = some (seqObj "list" #[] e1) := by rw [← hh']; exact Heap.get?_push_of_some _ (Heap.get?_push_of_some _ hD1)
  have tail : ∀ (st : SortSt) (out : List Value) (h2 : Heap) (tk2 : Nat), Ext h' h2 → (arrOf st).map (·.2) = out.toArray → out.length < 64 → failedOf st = none → (∀ h3 c, Ext h0 h3 → h3.get? D = some (seqObj "list" out.toArray c) → P (.done (.ret .none)) ⟨h3, g, dr, tk2, os⟩) →
      wpAny (model prog w) A (do
        let touched := (← seqEpoch D) != e1
        Builtin.List.listUpdate (.ref D) fun _ => (arrOf st).map (·.2)
        if let some e := failedOf st then rule "list.sort.comparison-raised"; throw e
        if touched then rule "list.sort.modified"; raiseError "ValueError" "list modified during sort"
        ret .none) P E ⟨h2, g, dr, tk2, os⟩ := by
    intro st out h2 tk2 k2 ho hol hfl hq
    refine wpAny_bind (seqEpoch_at (s := ⟨h2, g, dr, tk2, os⟩) (k2 _ _ hD') rfl ?_)
    rw [ho]
    refine wpAny_bind (listUpdate_at (s := ⟨h2, g, dr, tk2, os⟩) (k2 _ _ hD') rfl ?_ (Nat.zero_le _) (by show (out.toArray).size ≤ _; rw [List.size_toArray, sizeLine_eq]; (exact om148 hol)))
    rw [hfl]
    simp only [bne_self_eq_false, Bool.false_eq_true, if_false]
    exact wpAny_pure (hq _ _ (ext_upd (k'.trans k2) hD0) (get?_update_seq (k2 _ _ hD') fun _ => out.toArray))
  dsimp only
  by_cases h2 : (xs.map Value.ref).toArray.size < 2
  · rw [if_pos h2, if_pos h2]
    refine wpAny_bind (wpAny_pure ?_)
    rw [StateT.run_pure]
    refine wpAny_bind (wpAny_pure ?_)
    refine tail _ (xs.map Value.ref) h' tk (Ext.refl _) ?_ (by simpa using h64) rfl ?_
    · show ((xs.map Value.ref).toArray.zip (xs.map Value.ref).toArray).map (·.2) = _
      apply Array.toList_inj.mp
      rw [Array.toList_map, ksk_zip]
      exact List.map_snd_zip (by simp)
    · intro h3 c k3 hD3
      refine HP h3 tk (srt_mk (q := (List.range xs.length).toArray) (c := c) hP k3 hD0 (by simp [PermN]) ?_ ?_)
      · intro i j hij hj
        simp at h2
        have : i = j := by (exact om149 hij hj h2)
        subst this; exact Nat.le_refl _
      · rw [hD3]
        congr 3
        refine List.ext_getElem (by simp) fun i h1 h2 => ?_
        have hi : i < xs.length := by simpa using h1
        simp [List.getD, List.getElem?_eq_getElem hi]
  · rw [if_neg h2, if_neg h2]
    have hn : 2 ≤ xs.length := by simp at h2; (exact om150 h2)
    refine wpAny_bind (kas_kind (T := .type "list") (by simp; (exact om150 hn)) ?_ (by rfl) (by rfl) ?_)
    · intro v hv
      obtain ⟨i, hi, rfl⟩ := List.mem_map.mp hv
      obtain ⟨j, hj, ej⟩ := List.getElem_of_mem hi
      obtain ⟨t, u, c, e⟩ := hP.2 j hj
      have ej' : xs.getD j 0 = i := by simp [List.getD, List.getElem?_eq_getElem hj, ej]
      rw [ej'] at e
      intro A' Q' E' s' k2 hq
      unfold typeOf
      exact wpAny_bind (wpAny_load (k2 _ _ (k' _ _ e)) (wpAny_pure hq))
    · have hzs : ((xs.map Value.ref).toArray.zip (xs.map Value.ref).toArray).size = xs.length := by simp
      have est : SortSt.mk' oneType' ((xs.map Value.ref).toArray.zip (xs.map Value.ref).toArray) #[] 7 none = kas_st oneType' ((xs.map Value.ref).toArray.zip (xs.map Value.ref).toArray) (List.toArray (List.range xs.length)) := by
        have e := kas_range ((xs.map Value.ref).toArray.zip (xs.map Value.ref).toArray)
        rw [hzs] at e
        show SortSt.mk' oneType' _ #[] 7 none = SortSt.mk' oneType' ((List.toArray (List.range xs.length)).map (kas_item _)) #[] 7 none
        rw [e]
      have hit : ∀ i, i < xs.length → kas_item ((xs.map Value.ref).toArray.zip (xs.map Value.ref).toArray) i = (.ref (xs.getD i 0), .ref (xs.getD i 0)) := by
        intro i hi
        simp [kas_item, Array.getD, List.getD, hi]
      rw [est]
      have run := kas_runs (prog := prog) (w := w) (A := A) (E := E) (s := ⟨h', g, dr, tk, os⟩) (κ := oneType') (it := (xs.map Value.ref).toArray.zip (xs.map Value.ref).toArray) (Q := fun _ st' s' => wpAny (model prog w) A (do
        let touched := (← seqEpoch D) != e1
        Builtin.List.listUpdate (.ref D) fun _ => (arrOf st').map (·.2)
        if let some e := failedOf st' then rule "list.sort.comparison-raised"; throw e
        if touched then rule "list.sort.modified"; raiseError "ValueError" "list modified during sort"
        ret .none) P E s')
        (G := fun p s' => (PermN xs.length p ∧ Up (fun i => enc (ps.getD i (0, []))) p xs.length) ∧ s' = ⟨h', g, dr, tk, os⟩) hn h64 ?_ ?_
      · exact wpAny_bind (wpAny_mono run (fun r s' hr => hr) fun _ _ e => e)
      · rintro p' st' s' a1 a2 a3 ⟨⟨q1, q2⟩, rfl⟩
        refine tail st' (p'.toList.map fun i => (xs.map Value.ref).getD i .none) h' tk (Ext.refl _) ?_ (by simp; (exact om151 a1 h64)) a3 ?_
        · apply Array.toList_inj.mp
          rw [a2, Array.map_map, Array.toList_map]
          refine List.map_congr_left fun i hi => ?_
          have hi' : i < xs.length := List.mem_range.mp (q1.mem_iff.mp hi)
          show (kas_item _ i).2 = _
          rw [hit i hi', getD_map_ref xs i hi']
        · intro h'' c k'' hD'
          exact HP h'' tk (srt_mk hP k'' hD0 q1 q2 hD')
      · refine KOk.wp (n := xs.length) (key := fun i => enc (ps.getD i (0, []))) (I := fun s' => s' = ⟨h', g, dr, tk, os⟩) (P := fun p => PermN xs.length p ∧ Up (fun i => enc (ps.getD i (0, []))) p xs.length) ?_ (fun p s' a b => ⟨a, b⟩) (sort_ok (by (exact om152 hn))) rfl
        rintro i j C s' hi hj rfl hC
        unfold kas_cmp
        rw [hit i hi, hit j hj]
        obtain ⟨t1, u1, c1, x1⟩ := hP.2 i hi
        obtain ⟨t2, u2, c2, x2⟩ := hP.2 j hj
        have mp : ∀ i, i < xs.length → ps.getD i (0, []) ∈ ps := fun i hi => by
          have hi' : i < ps.length := by rw [← hP.1]; exact hi
          simp [List.getD, List.getElem?_eq_getElem hi']
        refine key_pl hu (k' _ _ x1) (k' _ _ x2) ?_
        rw [enc_lt (hsm _ (mp i hi)) (hsm _ (mp j hj))]
        exact hC _ rfl
/-- sorted(l) -/
theorem sorted_plain {w : World} {A : Around} {E : Value → Shared → Prop} {s : Shared} {Q : Value → Shared → Prop} {l : Addr} {xs : List Addr} {ps : List (Int × List Nat)}
    (hu : A.units < 7000) (hl : s.heap.IsList l (xs.map Value.ref).toArray) (hP : Prs s.heap xs ps) (hsm : ∀ p ∈ ps, Small p) (h64 : xs.length < 64)
    (HQ : ∀ D h' tk', Srt s.heap ps D h' → Q (.ref D) ⟨h', s.gens, s.drawn, tk', s.os⟩) :
    wpAny (model prog w) A (call (.builtin "sorted") [.ref l]) Q E s := by
  refine Calls.call_function_entry kind_sorted plain_sorted entry_sorted (args_sorted1 _) ?_
  unfold Builtin.«sorted»
  refine wpAny_bind (m := checkCount "sorted" 1 1 _) (wpAny_pure ?_)
  refine wpAny_bind (collect_list hl ?_ (by simp [sizeLine_eq]; (exact om147 h64)))
  refine wpAny_bind (wpAny_newList ?_ (by simp [sizeLine_eq]; (exact om147 h64)))
  have hsz : ((s.heap.push (seqObj "list" #[] 0)).update s.heap.objs.size (Obj.mapSeq (· ++ (xs.map Value.ref).toArray))).objs.size = s.heap.objs.size + 1 := by
    rw [Heap.size_update, size_push']
  have hoL : (((s.heap.push (seqObj "list" #[] 0)).update s.heap.objs.size (Obj.mapSeq (· ++ (xs.map Value.ref).toArray))).push (seqObj "list" (xs.map Value.ref).toArray 0)).get? (s.heap.objs.size + 1) = some (seqObj "list" (xs.map Value.ref).toArray 0) := by
    rw [← hsz]; exact Heap.get?_push_size _ rfl
  have keep : Ext s.heap (((s.heap.push (seqObj "list" #[] 0)).update s.heap.objs.size (Obj.mapSeq (· ++ (xs.map Value.ref).toArray))).push (seqObj "list" (xs.map Value.ref).toArray 0)) := ext_push (ext_upd (ext_push (Ext.refl _)) (Heap.get?_none_of_le (Nat.le_refl _)))
  show wpAny _ _ _ _ _ { s with heap := ((s.heap.push (seqObj "list" #[] 0)).update s.heap.objs.size (Obj.mapSeq (· ++ (xs.map Value.ref).toArray))).push (seqObj "list" (xs.map Value.ref).toArray 0) }
  rw [hsz]
  refine wpAny_bind (wpAny_holding (wpAny_call_entry slot_list_sort ⟨_, hoL, rfl⟩ entry_list_sort ?body (args_list_sort _)))
  case body =>
    refine sp_sort (A := A.in1.in1) (by show A.units + 1 + 1 < cLine; exact Nat.lt_trans (Nat.add_lt_add_right (Nat.add_lt_add_right hu 1) 1) (by decide)) hP hsm keep (Heap.get?_none_of_le (Nat.le_succ _)) hoL h64 fun h' tk' S => ⟨_, rfl, ?_⟩
    exact wpAny_pure ⟨_, rfl, HQ _ h' tk' S⟩
-- D54Ne
section
variable {w : World} {A : Around} {E : Value → Shared → Prop} {h : Heap} {g : Array GenState} {d : Drawn} {tk : Nat} {os : OsState} {x y : Addr} {d1 : Int} {w1 : List Nat} {t1 t2 u1 u2 : Tok} {c1 c2 : Nat} {R : Result → Shared → Prop}
theorem peq_two (hx : h.get? x = some (prL d1 t1 w1 u1 c1)) (hy : h.get? y = some (prL d1 t2 w1 u2 c2)) (hr : R (.ok (.ret (.bool true))) ⟨h, g, d, tk, os⟩) :
    codeAny (model prog w) A (.builtin "list.__eq__.loop" ⟨[.ref x, .ref y, rawInt 2, rawInt 2], []⟩) R ⟨h, g, d, tk, os⟩ := by
  refine codeAny_builtin MeetsSeq3.entry_eq_loop ?_
  wp_walk
  exact hr
theorem peq_one (hx : h.get? x = some (prL d1 t1 w1 u1 c1)) (hy : h.get? y = some (prL d1 t2 w1 u2 c2)) (hr : R (.ok (.ret (.bool true))) ⟨h, g, d, tk, os⟩) :
    codeAny (model prog w) A (.builtin "list.__eq__.loop" ⟨[.ref x, .ref y, rawInt 1, rawInt 2], []⟩) R ⟨h, g, d, tk, os⟩ := by
  refine codeAny_builtin MeetsSeq3.entry_eq_loop ?_
  wp_delta
  repeat (first | ((with_reducible show wpAny _ _ (eqBool _ _) _ _ _); refine eqBool_str (x := tx w1) (y := tx w1) (t := u1) (u := u2) ?_) | wp_step)
  exact ⟨plainId_quiet MeetsSeq3.plain_eq_loop _, peq_two hx hy hr⟩
theorem peq_zero (hx : h.get? x = some (prL d1 t1 w1 u1 c1)) (hy : h.get? y = some (prL d1 t2 w1 u2 c2)) (hr : R (.ok (.ret (.bool true))) ⟨h, g, d, tk, os⟩) :
    codeAny (model prog w) A (.builtin "list.__eq__.loop" ⟨[.ref x, .ref y, rawInt 0, rawInt 2], []⟩) R ⟨h, g, d, tk, os⟩ := by
  refine codeAny_builtin MeetsSeq3.entry_eq_loop ?_
  wp_delta
  repeat (first | ((with_reducible show wpAny _ _ (eqBool _ _) _ _ _); refine wpAny_eqBool_int (a := d1) (b := d1) (t := t1) (u := t2) ?_) | wp_step)
  exact ⟨plainId_quiet MeetsSeq3.plain_eq_loop _, peq_one hx hy hr⟩
theorem peq {Q : Value → Shared → Prop} (hu : A.units < cLine) (hx : h.get? x = some (prL d1 t1 w1 u1 c1)) (hy : h.get? y = some (prL d1 t2 w1 u2 c2)) (hq : Q (.bool true) ⟨h, g, d, tk, os⟩) :
    wpAny (model prog w) A (richCompare .Eq (.ref x) (.ref y)) Q E ⟨h, g, d, tk, os⟩ := by
  refine wpAny_richCompare_same_room (s := ⟨h, g, d, tk, os⟩) ⟨_, hx, rfl⟩ ⟨_, hy, rfl⟩ F.slot_list_eq (wpAny_call (codeAny_call_builtin F.slot_list_eq.plain F.entry_list_eq (F.slot_list_eq.check _ _ _ _ _ _ _ _ ⟨_, hx, rfl⟩ (F.args_list_eq_2 _ _) ?_))) hu
  have hT : (⟨h, g, d, tk, os⟩ : Shared).TypeIs (.ref y) "list" := ⟨_, hy, rfl⟩
  have hs : isSubtype (.type "list") (.type "list") = pure true := by rw [isSubtype_type]; kernel_rfl
  wp_walk
  exact ⟨plainId_quiet MeetsSeq3.plain_eq_loop _, peq_zero hx hy ⟨nofun, hq⟩⟩
theorem peqB {Q : Bool → Shared → Prop} (hu : A.units < cLine) (hx : h.get? x = some (prL d1 t1 w1 u1 c1)) (hy : h.get? y = some (prL d1 t2 w1 u2 c2)) (hq : Q true ⟨h, g, d, tk, os⟩) :
    wpAny (model prog w) A (eqBool (.ref x) (.ref y)) Q E ⟨h, g, d, tk, os⟩ := by
  unfold eqBool
  refine wpAny_holding ?_
  show wpAny _ _ (if (Value.ref x == Value.ref y) = true then _ else _) _ _ _
  by_cases e : (Value.ref x == Value.ref y) = true
  · rw [if_pos e]
    exact wpAny_bind (wpAny_rule (wpAny_pure hq))
  · rw [if_neg e]
    exact wpAny_bind (peq hu hx hy (wpAny_truthy_bool hq))
theorem ne_loop {D1 D2 : Addr} {ys zs : List Addr} {qs : List (Int × List Nat)} (hu : A.units < 9000) (h1 : h.get? D1 = some (seqObj "list" (ys.map Value.ref).toArray c1)) (h2 : h.get? D2 = some (seqObj "list" (zs.map Value.ref).toArray c2)) (P1 : Prs h ys qs) (P2 : Prs h zs qs)
    (hr : R (.ok (.ret (.bool false))) ⟨h, g, d, tk, os⟩) : ∀ (k i : Nat), i + k = ys.length → codeAny (model prog w) A (.builtin "list.__eq__.loop" ⟨[.ref D1, .ref D2, rawInt (i : Int), rawInt 3], []⟩) R ⟨h, g, d, tk, os⟩ := by
  have hlen : zs.length = ys.length := by rw [P1.1, P2.1]
  intro k
  induction k with
  | zero =>
    intro i hi
    refine codeAny_builtin MeetsSeq3.entry_eq_loop ?_
    have e1 : ((ys.map Value.ref).toArray)[i]? = none := by simp; (exact om272 hi)
    have e2 : ((zs.map Value.ref).toArray)[i]? = none := by simp; (exact om273 hlen hi)
    have e3 : ((ys.map Value.ref).toArray).size = ((zs.map Value.ref).toArray).size := by simp; (exact om274 hlen)
    wp_delta
    refine wpAny_bind (listItems_at (s := ⟨h, g, d, tk, os⟩) h1 rfl ?_)
    refine wpAny_bind (listItems_at (s := ⟨h, g, d, tk, os⟩) h2 rfl ?_)
    simp only [Int.toNat_natCast, e1, e2]
    refine wpAny_bind (listItems_at (s := ⟨h, g, d, tk, os⟩) h1 rfl ?_)
    refine wpAny_bind (listItems_at (s := ⟨h, g, d, tk, os⟩) h2 rfl ?_)
    rw [e3]
    refine wpAny_pure ?_
    have z : ((zs.map Value.ref).toArray.size != (zs.map Value.ref).toArray.size) = false := by simp
    show R (.ok (.ret (.bool ((zs.map Value.ref).toArray.size != (zs.map Value.ref).toArray.size)))) _
    rw [z]; exact hr
  | succ k ih =>
    intro i hi
    refine codeAny_builtin MeetsSeq3.entry_eq_loop ?_
    have hi1 : i < ys.length := by (exact om105 hi)
    have hi2 : i < zs.length := by (exact om109 hlen hi)
    have e1 : ((ys.map Value.ref).toArray)[i]? = some (.ref (ys.getD i 0)) := by simp [List.getD, hi1]
    have e2 : ((zs.map Value.ref).toArray)[i]? = some (.ref (zs.getD i 0)) := by simp [List.getD, hi2]
    obtain ⟨t1, u1, k1, x1⟩ := P1.2 i hi1
    obtain ⟨t2, u2, k2, x2⟩ := P2.2 i hi2
    wp_delta
    refine wpAny_bind (listItems_at (s := ⟨h, g, d, tk, os⟩) h1 rfl ?_)
    refine wpAny_bind (listItems_at (s := ⟨h, g, d, tk, os⟩) h2 rfl ?_)
    simp only [Int.toNat_natCast, e1, e2]
    refine wpAny_bind (peqB (A := A.under _) (Nat.lt_of_lt_of_le (show A.units + 1 < 9001 by (exact om275 hu)) (by decide)) x1 x2 ?_)
    refine wpAny_ite_true rfl (wpAny_pure ⟨plainId_quiet MeetsSeq3.plain_eq_loop _, ?_⟩)
    exact ih (i + 1) (by (exact om108 hi))
/-- two sorted lists of the same pairs are not unequal -/
theorem ne_false {Q : Value → Shared → Prop} {D1 D2 : Addr} {ys zs : List Addr} {qs : List (Int × List Nat)} (hu : A.units < cLine) (h1 : h.get? D1 = some (seqObj "list" (ys.map Value.ref).toArray c1)) (h2 : h.get? D2 = some (seqObj "list" (zs.map Value.ref).toArray c2)) (P1 : Prs h ys qs) (P2 : Prs h zs qs)
    (hu2 : A.units < 9000) (hq : Q (.bool false) ⟨h, g, d, tk, os⟩) : wpAny (model prog w) A (richCompare .NotEq (.ref D1) (.ref D2)) Q E ⟨h, g, d, tk, os⟩ := by
  have hlen : zs.length = ys.length := by rw [P1.1, P2.1]
  refine wpAny_richCompare_same_room (s := ⟨h, g, d, tk, os⟩) ⟨_, h1, rfl⟩ ⟨_, h2, rfl⟩ F.slot_list_ne (wpAny_call (codeAny_call_builtin F.slot_list_ne.plain F.entry_list_ne (F.slot_list_ne.check _ _ _ _ _ _ _ _ ⟨_, h1, rfl⟩ (F.args_list_ne_2 _ _) ?_))) hu
  have hT : (⟨h, g, d, tk, os⟩ : Shared).TypeIs (.ref D2) "list" := ⟨_, h2, rfl⟩
  have hs : isSubtype (.type "list") (.type "list") = pure true := by rw [isSubtype_type]; kernel_rfl
  have e3 : (((ys.map Value.ref).toArray).size != ((zs.map Value.ref).toArray).size) = false := by simp; (exact om274 hlen)
  wp_walk
  exact ⟨plainId_quiet MeetsSeq3.plain_eq_loop _, ne_loop hu2 h1 h2 P1 P2 ⟨nofun, hq⟩ ys.length 0 (by (exact om276))⟩
end
-- N54Sub
theorem lower_sg {c : Nat} (h : Sg c) : Txt.lower (tx [c]) = tx [low c] := by
  rcases h with rfl | rfl | rfl | rfl <;> decide +kernel
theorem low_call {w : World} {A : Around} {E : Value → Shared → Prop} {s : Shared} {c : Nat} {t : Tok} {Q : Value → Shared → Prop} (hc : Sg c) (h : ∀ t' k, Q (.str (tx [low c]) t') { s with toks := k }) :
    wpAny (model prog w) A (call (.builtin "str.lower") [.str (tx [c]) t]) Q E s :=
  KXw.lower (lower_sg hc) (by rw [lower_sg hc]; rfl) h
theorem sub_if {x y : Nat} : sub x y = if tx [x] == tx [y] then 0 else if tx [low x] == tx [low y] then 1 else 2 := by
  rw [tx_beq, tx_beq]; unfold sub
  by_cases h : x = y
  · simp [h]
  · by_cases g : low x = low y <;> simp [h, g]
section
local macro_rules | `(tactic| walk_at "call builtin:str.lower") => `(tactic| (refine low_call (by assumption) ?_; intro _ _))
set_option maxHeartbeats 4000000 in
theorem sub_call {w : World} {A : Around} {E : Value → Shared → Prop} {s : Shared} {Q : Value → Shared → Prop} {t1 t2 : Tok} {x y : Nat} {mg mb : PySem.Str → Option Value}
  (W : Wd w mg mb s.heap) (hh : A.handled = none) (hd : A.depth ≤ 950) (hu : A.units ≤ 9500) (hx : Sg x) (hy : Sg y)
  (HQ : ∀ h' tk t, Ext s.heap h' → Q (.int (sub x y : Nat) t) ⟨h', s.gens, s.drawn, tk, s.os⟩) :
  wpAny (model prog w) A (call (.ref 21) [.str (tx [x]) t1, .str (tx [y]) t2]) Q E s := by
  have K := W.k
  have T : TopRead PySem.Challenge.rw_dn0054_01.prog [] mg mb s.heap := W.t
  revert T K
  k_fill
  w_on
  w_top on
  intro K T
  refine enter (binds := [(PySem.Str.ofString "ch_a", .str (tx [x]) t1), (PySem.Str.ofString "ch_b", .str (tx [y]) t2)]) hh (Nat.lt_of_le_of_lt hd (by decide)) (K _ _ (by k_is)) rfl T.nolimit (codeRec_of K (by k_is)) rfl (BindsTo.of_eq rfl) (by decide) (locs rfl) ?_ rfl rfl rfl
  intro L h₁ d fr gd u hL hd' hu' F N
  show wpAny _ _ (execs _ (envOf (PySem.Str.ofString "_substitution_cost") _ L 21 _)) _ _ _
  walk_at "D54 go"
  · rename_i g
    have e : sub x y = 0 := by rw [sub_if, if_pos g]
    rw [e] at HQ
    exact HQ _ _ _ F.keep
  · rename_i g1 _ _ _ _ g
    have e : sub x y = 1 := by rw [sub_if, if_neg (by rw [g1]; decide), if_pos g]
    rw [e] at HQ
    exact HQ _ _ _ F.keep
  · rename_i g1 _ _ _ _ g
    have e : sub x y = 2 := by rw [sub_if, if_neg (by rw [g1]; decide), if_neg (by rw [g]; decide)]
    rw [e] at HQ
    exact HQ _ _ _ F.keep
end
-- D54Lev
theorem items_eq {a b : List Nat} {p : Nat} (ha : p < a.length) (hb : p < b.length) : (Txt.item (tx a) (p : Int) == Txt.item (tx b) (p : Int)) = decide (a[p]? = b[p]?) := by
  rw [item_at (List.getElem?_eq_getElem ha), item_at (List.getElem?_eq_getElem hb), tx_beq, List.getElem?_eq_getElem ha, List.getElem?_eq_getElem hb]
  simp
theorem lev_c1 {a b : List Nat} {p : Nat} {c : Bool} (h1 : 0 < a.length - p) (h2 : 0 < b.length - p)
    (h3 : (Txt.item (tx a) (p : Int) == Txt.item (tx b) (p : Int)) = c) : c = decide (p < a.length ∧ p < b.length ∧ a[p]? = b[p]?) := by
  have g1 : p < a.length := by (exact om337 h1)
  have g2 : p < b.length := by (exact om337 h2)
  rw [items_eq g1 g2] at h3
  rw [← h3]; simp [g1, g2]
theorem lev_c2 {a b : List Nat} {p : Nat} (h2 : ¬ 0 < b.length - p) : false = decide (p < a.length ∧ p < b.length ∧ a[p]? = b[p]?) := by
  have g2 : ¬ p < b.length := by (exact om338 h2)
  simp [g2]
theorem lev_c3 {a b : List Nat} {p : Nat} (h2 : ¬ 0 < a.length - p) : false = decide (p < a.length ∧ p < b.length ∧ a[p]? = b[p]?) := by
  have g2 : ¬ p < a.length := by (exact om338 h2)
  simp [g2]
theorem itemsn_eq {a b : List Nat} {q : Nat} {i : Int} (hi : i = -((q + 1 : Nat) : Int)) (ha : q < a.length) (hb : q < b.length) : (Txt.item (tx a) i == Txt.item (tx b) i) = decide (a[a.length - (q + 1)]? = b[b.length - (q + 1)]?) := by
  have ga : a.length - (q + 1) < a.length := by (exact om339 ha)
  have gb : b.length - (q + 1) < b.length := by (exact om339 hb)
  rw [hi, item_neg (by (exact om340)) (by (exact om257 ha)) (List.getElem?_eq_getElem ga), item_neg (by (exact om340)) (by (exact om257 hb)) (List.getElem?_eq_getElem gb), tx_beq, List.getElem?_eq_getElem ga, List.getElem?_eq_getElem gb]
  simp
theorem lev_d1 {a b : List Nat} {q : Nat} {i : Int} {c : Bool} (h3 : (Txt.item (tx a) i == Txt.item (tx b) i) = c) (hi : i = -((q + 1 : Nat) : Int)) (h1 : q < a.length) (h2 : q < b.length) : c = decide (q < a.length ∧ q < b.length ∧ a[a.length - (q + 1)]? = b[b.length - (q + 1)]?) := by
  rw [itemsn_eq hi h1 h2] at h3
  rw [← h3]; simp [h1, h2]
theorem drop_succ_eq {a b : List Nat} {q : Nat} (ha : q < a.length) (hb : q < b.length) (h : a.drop (a.length - q) = b.drop (b.length - q)) (e : a[a.length - (q + 1)]? = b[b.length - (q + 1)]?) : a.drop (a.length - (q + 1)) = b.drop (b.length - (q + 1)) := by
  have ga : a.length - (q + 1) < a.length := by (exact om339 ha)
  have gb : b.length - (q + 1) < b.length := by (exact om339 hb)
  rw [List.drop_eq_getElem_cons ga, List.drop_eq_getElem_cons gb]
  rw [List.getElem?_eq_getElem ga, List.getElem?_eq_getElem gb] at e
  have e1 : a.length - (q + 1) + 1 = a.length - q := by (exact om341 ha)
  have e2 : b.length - (q + 1) + 1 = b.length - q := by (exact om341 hb)
  rw [e1, e2, h, Option.some.inj e]
theorem take_succ_eq {a b : List Nat} {p : Nat} (h : a.take p = b.take p) (e : a[p]? = b[p]?) : a.take (p + 1) = b.take (p + 1) := by
  rw [List.take_add_one, List.take_add_one, h, e]
theorem ints_of : ∀ (l : List Value) (f : Nat → Int), (∀ j v, l[j]? = some v → ∃ t, v = Value.int (f j) t) → IntsAre l ((List.range l.length).map f)
  | [], _, _ => .nil
  | v :: l, f, h => by
    refine hideG fun R9 hR9 => ?_
    obtain ⟨t, rfl⟩ := h 0 v rfl
    refine hR9 ?_
    clear hR9 R9
    rw [List.length_cons, List.range_succ_eq_map, List.map_cons, List.map_map]
    exact .cons _ _ (ints_of l (f ∘ Nat.succ) fun j v hj => h (j + 1) v (by simpa using hj))
/-- the table's entry -/
def dp (a b : List Nat) (i j : Nat) : Nat := dist (b.take i) (a.take j)
theorem dp_zero (a b : List Nat) (j : Nat) (hj : j ≤ a.length) : dp a b 0 j = 2 * j := by unfold dp; rw [List.take_zero, dist_nil, List.length_take]; (exact om342 hj)
theorem dp_nil (a b : List Nat) (i : Nat) (hi : i ≤ b.length) : dp a b i 0 = 2 * i := by unfold dp; rw [List.take_zero, dist_nil_r, List.length_take]; (exact om342 hi)
theorem dp_le (a b : List Nat) (i j : Nat) (ha : a.length ≤ 4) (hb : b.length ≤ 4) : dp a b i j ≤ 16 := by
  unfold dp
  have := dist_le (b.take i) (a.take j)
  rw [List.length_take, List.length_take] at this
  (exact om343 ha hb this)
theorem dp_all (a b : List Nat) : dp a b b.length a.length = dist b a := by unfold dp; rw [List.take_length, List.take_length]
theorem dp_step {a b : List Nat} {i j x y : Nat} (hi : i < b.length) (hj : j < a.length) (hx : b[i]? = some x) (hy : a[j]? = some y) {r : Nat} (hr : r = if j = 0 then 2 * i else dp a b (i + 1) j) :
    min (min r (dp a b i (j + 1)) + 2) (dp a b i j + sub x y) = dp a b (i + 1) (j + 1) := by
  have e : dp a b (i + 1) (j + 1) = min (dp a b i (j + 1) + 2) (min (dp a b (i + 1) j + 2) (dp a b i j + sub x y)) := by
    unfold dp
    rw [List.take_add_one (l := b), hx, List.take_add_one (l := a), hy]
    exact dist_snoc _ _ _ _
  rw [e]
  have hs := sub_le x y
  by_cases h0 : j = 0
  · subst h0
    rw [if_pos rfl] at hr
    have h1 : dp a b i 0 + sub x y ≤ 2 * i + 2 := by rw [dp_nil a b i (Nat.le_of_lt hi)]; (exact om344 hs)
    rw [dp_nil a b (i + 1) hi, hr, ← Nat.add_min_add_right, Nat.min_comm (2 * i + 2), Nat.min_assoc, Nat.min_eq_right h1, Nat.min_eq_right (show dp a b i 0 + sub x y ≤ 2 * (i + 1) + 2 from Nat.le_trans h1 (by (exact om345)))]
  · rw [if_neg h0] at hr
    rw [hr, ← Nat.add_min_add_right, Nat.min_comm (dp a b (i + 1) j + 2), Nat.min_assoc]
def RowIs (a b : List Nat) (i j : Nat) (ns : List Int) : Prop := ns.length = a.length ∧ ∀ k, k < a.length → ns.getD k 0 = ((if k < j then dp a b (i + 1) (k + 1) else dp a b i (k + 1) : Nat) : Int)
theorem RowIs.next {a b : List Nat} {i : Nat} {ns : List Int} (h : RowIs a b i a.length ns) : RowIs a b (i + 1) 0 ns := ⟨h.1, fun k hk => by rw [h.2 k hk, if_pos hk, if_neg (Nat.not_lt_zero _)]⟩
theorem RowIs.put {a b : List Nat} {i j : Nat} {ns : List Int} (h : RowIs a b i j ns) (hj : j < a.length) {x : Int} (hx : x = (dp a b (i + 1) (j + 1) : Nat)) : RowIs a b i (j + 1) (ns.set j x) := by
  refine ⟨by rw [List.length_set]; exact h.1, fun k hk => ?_⟩
  rw [List.getD_eq_getElem?_getD]
  by_cases e : j = k
  · subst e
    rw [List.getElem?_set_self (by rw [h.1]; exact hj), if_pos (Nat.lt_succ_self _), hx]; rfl
  · rw [List.getElem?_set_ne e, ← List.getD_eq_getElem?_getD, h.2 k hk]
    by_cases h1 : k < j
    · rw [if_pos h1, if_pos (by (exact om346 h1))]
    · rw [if_neg h1, if_neg (by (exact om347 e h1))]
theorem min_if (x y : Nat) : (if (y : Int) < (x : Int) then (y : Int) else (x : Int)) = ((min x y : Nat) : Int) := by
  by_cases h : y < x
  · rw [if_pos (by (exact om348 h))]; (exact om349 h)
  · rw [if_neg (by (exact om350 h))]; (exact om351 h)
set_option maxHeartbeats 4000000 in
theorem lev_call {w : World} {A : Around} {s : Shared} {E : Value → Shared → Prop} {Q : Value → Shared → Prop} {t1 t2 t3 : Tok} {a b : List Nat} {mg mb : PySem.Str → Option Value}
  (W : Wd w mg mb s.heap) (hh : A.handled = none) (hd : A.depth < 900) (hu : A.units < 9000) (ha4 : a.length ≤ 4) (hb4 : b.length ≤ 4) (hsa : ∀ c ∈ a, Sg c) (hsb : ∀ c ∈ b, Sg c)
  (HQ : ∀ h' tk t, Ext s.heap h' → Q (.int (dist a b : Nat) t) ⟨h', s.gens, s.drawn, tk, s.os⟩) :
  wpAny (model prog w) A (call (.ref 28) [.str (tx a) t1, .str (tx b) t2, .int 24 t3]) Q E s := by
  have K := W.k
  have T : TopRead PySem.Challenge.rw_dn0054_01.prog [] mg mb s.heap := W.t
  revert T K
  k_fill
  w_on
  w_top on
  intro K T
  refine enter (binds := [(PySem.Str.ofString "a", .str (tx a) t1), (PySem.Str.ofString "b", .str (tx b) t2), (PySem.Str.ofString "max_cost", .int 24 t3)]) hh (Nat.lt_trans hd (by decide)) (K _ _ (by k_is)) rfl T.nolimit (codeRec_of K (by k_is)) rfl (BindsTo.of_eq rfl) (by decide) (locs rfl) ?_ rfl rfl rfl
  intro L h₁ d fr gd u hL hd' hu' F N
  show wpAny _ _ (execs _ (envOf (PySem.Str.ofString "_levenshtein_distance") _ L 28 _)) _ _ _
  have la := tx_len a
  have lb := tx_len b
  walk_at "D54 go"
  · rename_i hab
    rw [tx_beq] at hab
    have hab := of_decide_eq_true hab
    subst hab
    have e := dist_self a
    rw [e] at HQ
    exact HQ _ _ _ F.keep
  · rename_i hab h2 F2 N2
    unfold Halt
    refine wpAny_While (codeAny_whileLoop (fun n s' => Ex5 fun (h' : Heap) (tk : Nat) (m : PySem.Str → Option Value) (p : Nat) (tp : Tok) => And10 (s' = ⟨h', s.gens, s.drawn, tk, s.os⟩) (Fr s.heap L h' m) (m "a" = some (.str (tx a) t1)) (m "b" = some (.str (tx b) t2)) (m "max_cost" = some (.int 24 t3)) (m "pre" = some (.int p tp)) (p ≤ a.length) (p ≤ b.length) (a.take p = b.take p) (n = a.length - p)) ?_ (a.length - 0) ?_)
    · rintro n s' xq1
      refine hideG fun R9 hR9 => ?_
      obtain ⟨h', tk, m, p, tp, rfl, F', ha, hb, hm, hp, hpa, hpb, htake, rfl⟩ := xq1
      refine hR9 ?_
      clear hR9 R9
      have N' : News s.heap L h' [] := News.nil
      refine cut (fun c h' => ∀ R9 : Prop, ((Fr s.heap L h' m) → (c = decide (p < a.length ∧ p < b.length ∧ a[p]? = b[p]?)) → R9) → R9) ?_ ?_
      · clear HQ F2 N2
        walk_at "D54 go"
        all_goals walk_at "D54 end"
        · exact fun _ kC => kC (by assumption) (lev_c1 (by assumption) (by assumption) (by assumption))
        · exact fun _ kC => kC (by assumption) (lev_c1 (by assumption) (by assumption) (by assumption))
        · exact fun _ kC => kC (by assumption) (lev_c2 (by assumption))
        · exact fun _ kC => kC (by assumption) (lev_c3 (by assumption))
      · clear F' N' F2 N2
        intro c h5 tk5 xq2
        refine xq2 _ fun F5 hc => ?_
        clear xq2
        have N5 : News s.heap L h5 [] := News.nil
        by_cases hcd : p < a.length ∧ p < b.length ∧ a[p]? = b[p]?
        · rw [decide_eq_true hcd] at hc
          subst hc
          rw [if_pos rfl]
          refine cutB (fun h' => ∀ R9 : Prop, (∀ m' tp', (Fr s.heap L h' m') → (m' "a" = some (.str (tx a) t1)) → (m' "b" = some (.str (tx b) t2)) → (m' "max_cost" = some (.int 24 t3)) → (m' "pre" = some (.int ((p : Int) + 1) tp')) → R9) → R9) (fun P9 hP9 => ?_) ?_
          · clear HQ
            walk_at "D54 go"
            walk_at "D54 end"
            rename_i F9 N9
            exact hP9 _ fun _ k9 => k9 _ _ F9 ha hb hm rfl
          · intro h6 tk6 xq3
            refine xq3 _ fun m' tp' F6 ha6 hb6 hm6 hp6 => ?_
            clear xq3
            exact ⟨a.length - (p + 1), by (exact om358 hcd), h6, tk6, m', p + 1, tp', rfl, F6, ha6, hb6, hm6, hp6, by (exact om359 hcd), by (exact om360 hcd), take_succ_eq htake hcd.2.2, rfl⟩
        · rw [decide_eq_false hcd] at hc
          subst hc
          rw [if_neg (by decide)]
          walk_at "D54 go"
          rename_i h7 t7 k7 h8 h8' t8 k8 h9 h10 F7 N7
          have hD : dist a b = dist (a.drop p) (b.drop p) := by
            conv => lhs; rw [← List.take_append_drop p a, ← List.take_append_drop p b, htake, dist_pre]
          have la1 : (a.drop p).length ≤ 4 := by rw [List.length_drop]; (exact om361 ha4)
          have lb1 : (b.drop p).length ≤ 4 := by rw [List.length_drop]; (exact om361 hb4)
          have hsa1 : ∀ c ∈ a.drop p, Sg c := fun c hc => hsa c (List.mem_of_mem_drop hc)
          have hsb1 : ∀ c ∈ b.drop p, Sg c := fun c hc => hsb c (List.mem_of_mem_drop hc)
          rw [hD] at HQ
          have hm7 : m "max_cost" = some (.int 24 t3) := hm
          revert F7 N7 HQ la1 lb1 hsa1 hsb1
          generalize a.drop p = a1
          generalize b.drop p = b1
          clear hD hcd htake hpa hpb hp ha hb la lb hab ha4 hb4 hsa hsb
          intro HQ F7 N7 ha4 hb4 hsa hsb
          have la := tx_len a1
          have lb := tx_len b1
          unfold Halt
          refine wpAny_While (codeAny_whileLoop (fun n s' => Ex7 fun (h' : Heap) (tk : Nat) (m : PySem.Str → Option Value) (q : Nat) (ta : Tok) (tb : Tok) (tq : Tok) => And10 (s' = ⟨h', s.gens, s.drawn, tk, s.os⟩) (Fr s.heap L h' m) (m "a" = some (.str (tx a1) ta)) (m "b" = some (.str (tx b1) tb)) (m "max_cost" = some (.int 24 t3)) (m "post" = some (.int (-(q : Int)) tq)) (q ≤ a1.length) (q ≤ b1.length) (a1.drop (a1.length - q) = b1.drop (b1.length - q)) (n = a1.length - q)) ?_ (a1.length - 0) ?_)
          · clear F7 N7 hm7 hm
            rintro n s' xq4
            refine hideG fun R9 hR9 => ?_
            obtain ⟨h', tk, m, q, ta, tb, tq, rfl, F', ha, hb, hm, hq, hqa, hqb, hdrop, rfl⟩ := xq4
            refine hR9 ?_
            clear hR9 R9
            have N' : News s.heap L h' [] := News.nil
            refine cut (fun c h' => ∀ R9 : Prop, ((Fr s.heap L h' m) → (c = decide (q < a1.length ∧ q < b1.length ∧ a1[a1.length - (q + 1)]? = b1[b1.length - (q + 1)]?)) → R9) → R9) ?_ ?_
            · clear HQ
              by_cases hq0 : q = 0
              · subst hq0
                walk_at "D54 go"
                all_goals walk_at "D54 end"
                · exact fun _ kC => kC (by assumption) (lev_d1 (by assumption) (by decide) (by (exact om367 (by assumption))) (by (exact om367 (by assumption))))
                · exact fun _ kC => kC (by assumption) (lev_d1 (by assumption) (by decide) (by (exact om367 (by assumption))) (by (exact om367 (by assumption))))
                all_goals refine fun _ kC => kC (by assumption) ?_
                all_goals refine (decide_eq_false fun hx => ?_).symm
                all_goals (have h1 := hx.1; have h2 := hx.2.1; (first | exact om368 (by assumption) hx | exact om369 (by assumption) hx))
              · have hqp : 0 < q := by (exact om370 hq0)
                have hq1 : (-(q : Int)) ≠ 0 := by (exact om371 hqp)
                walk_at "D54 go"
                all_goals walk_at "D54 end"
                all_goals first
                  | (exfalso; (exact om387 hqp (by assumption)))
                  | exact fun _ kC => kC (by assumption) (lev_d1 (by assumption) (by (exact om384)) (by (exact om385 (by assumption))) (by (exact om385 (by assumption))))
                  | (refine fun _ kC => kC (by assumption) ?_; refine (decide_eq_false fun hx => ?_).symm; have h1 := hx.1; have h2 := hx.2.1; (first | exact om386 (by assumption) hx | exact om388 (by assumption) hx))
            · clear F' N'
              intro c h5 tk5 xq5
              refine xq5 _ fun F5 hc => ?_
              clear xq5
              have N5 : News s.heap L h5 [] := News.nil
              by_cases hcd : q < a1.length ∧ q < b1.length ∧ a1[a1.length - (q + 1)]? = b1[b1.length - (q + 1)]?
              · rw [decide_eq_true hcd] at hc
                subst hc
                rw [if_pos rfl]
                refine cutB (fun h' => ∀ R9 : Prop, (∀ m' tp', (Fr s.heap L h' m') → (m' "a" = some (.str (tx a1) ta)) → (m' "b" = some (.str (tx b1) tb)) → (m' "max_cost" = some (.int 24 t3)) → (m' "post" = some (.int (-(q : Int) - 1) tp')) → R9) → R9) (fun P9 hP9 => ?_) ?_
                · clear HQ
                  walk_at "D54 go"
                  walk_at "D54 end"
                  rename_i F9 N9
                  exact hP9 _ fun _ k9 => k9 _ _ F9 ha hb hm rfl
                · intro h6 tk6 xq6
                  refine xq6 _ fun m' tp' F6 ha6 hb6 hm6 hp6 => ?_
                  clear xq6
                  have ei : (-(q : Int) - 1) = -((q + 1 : Nat) : Int) := by (exact om384)
                  rw [ei] at hp6
                  exact ⟨a1.length - (q + 1), by (exact om358 hcd), h6, tk6, m', q + 1, ta, tb, tp', rfl, F6, ha6, hb6, hm6, hp6, by (exact om359 hcd), by (exact om360 hcd), drop_succ_eq hcd.1 hcd.2.1 hdrop hcd.2.2, rfl⟩
              · rw [decide_eq_false hcd] at hc
                subst hc
                rw [if_neg (by decide)]
                walk1
                dsimp only
                refine cutH (fun h' => ∀ R9 : Prop, (∀ m' ta', (Fr s.heap L h' m') → (m' "a" = some (.str (tx (a1.take (a1.length - q))) ta')) → (m' "b" = some (.str (tx b1) tb)) → (m' "max_cost" = some (.int 24 t3)) → (m' "post" = some (.int (-(q : Int)) tq)) → R9) → R9) (fun P9 hP9 => ?_) ?_
                · clear HQ
                  by_cases hq0 : q = 0
                  · subst hq0
                    have e0 : a1.take (a1.length - 0) = a1 := by simp
                    rw [e0] at hP9
                    walk_at "D54 go"
                    walk_at "D54 end"
                    rename_i F9 N9
                    exact hP9 _ fun _ k9 => k9 _ _ F9 rfl hb hm hq
                  · have hqp : 0 < q := by (exact om370 hq0)
                    have hq1 : (-(q : Int)) ≠ 0 := by (exact om371 hqp)
                    walk_at "D54 go"
                    · walk_at "D54 end"
                      rename_i F9 N9
                      exact hP9 _ fun _ k9 => k9 _ _ F9 rfl hb hm hq
                    all_goals (exfalso; (exact om387 hqp (by assumption)))
                intro h6 tk6 xq7
                refine xq7 _ fun m6 ta6 F6 ha6 hb6 hm6 hq6 => ?_
                clear xq7
                clear F5 N5 ha hb hm hq
                have N6 : News s.heap L h6 [] := News.nil
                refine cutH (fun h' => ∀ R9 : Prop, (∀ m' ta' tb', (Fr s.heap L h' m') → (m' "a" = some (.str (tx (a1.take (a1.length - q))) ta')) → (m' "b" = some (.str (tx (b1.take (b1.length - q))) tb')) → (m' "max_cost" = some (.int 24 t3)) → R9) → R9) (fun P9 hP9 => ?_) ?_
                · clear HQ
                  by_cases hq0 : q = 0
                  · subst hq0
                    have e0 : b1.take (b1.length - 0) = b1 := by simp
                    rw [e0] at hP9
                    walk_at "D54 go"
                    walk_at "D54 end"
                    rename_i F9 N9
                    exact hP9 _ fun _ k9 => k9 _ _ _ F9 ha6 rfl hm6
                  · have hqp : 0 < q := by (exact om370 hq0)
                    have hq1 : (-(q : Int)) ≠ 0 := by (exact om371 hqp)
                    walk_at "D54 go"
                    · walk_at "D54 end"
                      rename_i F9 N9
                      exact hP9 _ fun _ k9 => k9 _ _ _ F9 ha6 rfl hm6
                    all_goals (exfalso; (exact om387 hqp (by assumption)))
                intro h7 tk7 xq8
                refine xq8 _ fun m7 ta7 tb7 F7 ha7 hb7 hm7 => ?_
                clear xq8
                have hD : dist a1 b1 = dist (a1.take (a1.length - q)) (b1.take (b1.length - q)) := by
                  conv => lhs; rw [← List.take_append_drop (a1.length - q) a1, ← List.take_append_drop (b1.length - q) b1, hdrop, dist_post]
                have la2 : (a1.take (a1.length - q)).length ≤ 4 := by rw [List.length_take]; (exact om389 ha4)
                have lb2 : (b1.take (b1.length - q)).length ≤ 4 := by rw [List.length_take]; (exact om389 hb4)
                have hsa2 : ∀ c ∈ a1.take (a1.length - q), Sg c := fun c hc => hsa c (List.mem_of_mem_take hc)
                have hsb2 : ∀ c ∈ b1.take (b1.length - q), Sg c := fun c hc => hsb c (List.mem_of_mem_take hc)
                rw [hD] at HQ
                revert HQ la2 lb2 ha7 hb7 hsa2 hsb2
                generalize a1.take (a1.length - q) = a2
                generalize b1.take (b1.length - q) = b2
                clear hD hcd hdrop hqa hqb F6 N6 ha6 hb6 hm6 hq6 ha4 hb4 la lb hsa hsb
                intro HQ ha7 hb7 ha4 hb4 hsa hsb
                have N7 : News s.heap L h7 [] := News.nil
                have la := tx_len a2
                have lb := tx_len b2
                refine wpAny_execs_cons (cut (fun f h' => (f = .next ∧ 0 < a2.length ∧ 0 < b2.length ∧ Fr s.heap L h' m7) ∨ (∃ t, f = .ret (.int (dist a2 b2 : Nat) t) ∧ Ext s.heap h')) ?_ ?_)
                · clear HQ
                  walk_at "D54 go"
                  · rename_i g1 g2
                    walk_at "D54 end"
                    exact .inl ⟨rfl, g1, g2, F7⟩
                  · rename_i g1 g2
                    walk_at "D54 end"
                    have hb0 : b2 = [] := List.length_eq_zero_iff.mp (by (exact om229 g2))
                    subst hb0
                    have e : (2 : Int) * (((tx a2).length : Int) + ((tx []).length : Int)) = ((dist a2 [] : Nat) : Int) := by
                      rw [dist_nil_r, la, lb]; simp
                    exact .inr ⟨_, congrArg (fun i => Flow.ret (.int i _)) e, F7.keep⟩
                  · rename_i g1
                    walk_at "D54 end"
                    have ha0 : a2 = [] := List.length_eq_zero_iff.mp (by (exact om229 g1))
                    subst ha0
                    have e : (2 : Int) * (((tx []).length : Int) + ((tx b2).length : Int)) = ((dist [] b2 : Nat) : Int) := by
                      rw [dist_nil, la, lb]; simp
                    exact .inr ⟨_, congrArg (fun i => Flow.ret (.int i _)) e, F7.keep⟩
                rintro f h8 tk8 (⟨rfl, ga, gb, F8⟩ | ⟨t, rfl, hE⟩)
                · clear F7 N7
                  have N8 : News s.heap L h8 [] := News.nil
                  dsimp only
                  refine cutH (fun h' => ∀ R9 : Prop, ((Fr s.heap L h' m7) → R9) → R9) (fun P9 hP9 => ?_) ?_
                  · clear HQ
                    walk_at "D54 go"
                    all_goals walk_at "D54 end"
                    all_goals first | exact hP9 _ fun _ k9 => k9 F8 | (exfalso; omega)
                  intro h9 tk9 xq9
                  refine xq9 _ fun F9 => ?_
                  clear xq9
                  clear F8 N8
                  have N9 : News s.heap L h9 [] := News.nil
                  dsimp only
                  refine cutH (fun h' => ∀ R9 : Prop, (∀ m' a3 b3 t1 t2, (Fr s.heap L h' m') → (m' "a" = some (.str (tx a3) t1)) → (m' "b" = some (.str (tx b3) t2)) → (m' "max_cost" = some (.int 24 t3)) → (dist b3 a3 = dist a2 b2) → (0 < a3.length) → (a3.length ≤ b3.length) → (b3.length ≤ 4) → ((∀ c ∈ a3, Sg c)) → ((∀ c ∈ b3, Sg c)) → R9) → R9) (fun P9 hP9 => ?_) ?_
                  · clear HQ
                    walk_at "D54 go"
                    · rename_i hlt F10 N10
                      walk_at "D54 end"
                      exact hP9 _ fun _ k9 => k9 _ b2 a2 tb7 ta7 F10 rfl rfl hm7 rfl gb (by (exact om395 la lb (by assumption))) ha4 hsb hsa
                    · rename_i hlt
                      walk_at "D54 end"
                      exact hP9 _ fun _ k9 => k9 m7 a2 b2 ta7 tb7 F9 ha7 hb7 hm7 (dist_comm _ _) ga (by (exact om396 la lb hlt)) hb4 hsa hsb
                  intro h10 tk10 xq10
                  refine xq10 _ fun m10 a3 b3 ta10 tb10 F10 ha10 hb10 hm10 hD3 ga3 gab gb3 hsa3 hsb3 => ?_
                  clear xq10
                  rw [← hD3] at HQ
                  clear F9 N9 ha7 hb7 hm7 la lb ha4 hb4 ga gb hD3 hsa hsb
                  have N10 : News s.heap L h10 [] := News.nil
                  have la := tx_len a3
                  have lb := tx_len b3
                  dsimp only
                  refine cutH (fun h' => ∀ R9 : Prop, ((Fr s.heap L h' m10) → R9) → R9) (fun P9 hP9 => ?_) ?_
                  · clear HQ
                    walk_at "D54 go"
                    all_goals walk_at "D54 end"
                    all_goals first | exact hP9 _ fun _ k9 => k9 F10 | (exfalso; omega)
                  intro h11 tk11 xq11
                  refine xq11 _ fun F11 => ?_
                  clear xq11
                  clear F10 N10
                  have N11 : News s.heap L h11 [] := News.nil
                  dsimp only
                  refine cutH (fun h' => ∀ R9 : Prop, (∀ m' row vs c ns, (Fr s.heap L h' m') → (News s.heap L h' [(row, listOf (List.toArray vs) c)]) → (IntsAre vs ns) → (RowIs a3 b3 0 0 ns) → (m' "row" = some (.ref row)) → (m' "a" = some (.str (tx a3) ta10)) → (m' "b" = some (.str (tx b3) tb10)) → (m' "max_cost" = some (.int 24 t3)) → R9) → R9) (fun P9 hP9 => ?_) ?_
                  · clear HQ
                    walk_at "D54 go"
                    rename_i h12 tk12 _ _ _ hR12 F12 N12 hk12
                    refine call_list_range (n := a3.length) rfl hR12 ?_ ?_ ?_ fun h13 tk13 acc c13 hk13 hS13 hI13 => ?_
                    · rw [la]; rcases (by (exact om401 ga3 gab gb3) : a3.length = 1 ∨ a3.length = 2 ∨ a3.length = 3 ∨ a3.length = 4) with h | h | h | h <;> rw [h] <;> decide
                    · rw [la]; rcases (by (exact om401 ga3 gab gb3) : a3.length = 1 ∨ a3.length = 2 ∨ a3.length = 3 ∨ a3.length = 4) with h | h | h | h <;> rw [h] <;> decide
                    · (exact om402 gab gb3)
                    have hS : h13.get? h12.objs.size = some (listOf (List.toArray acc.toList) c13) := by rw [Array.toArray_toList]; exact hS13
                    have F13 := F12.keeps hk13
                    have N13 : News s.heap L h13 [(h12.objs.size, listOf (List.toArray acc.toList) c13)] := news_pushed (s := ⟨h12, s.gens, s.drawn, tk12, s.os⟩) F12 N12 hk13 hS rfl
                    clear F12 N12 hk12 hk13
                    walk_at "D54 go"
                    walk_at "D54 end"
                    rename_i F14 N14
                    have hI : IntsAre acc.toList ((List.range acc.toList.length).map fun (i : Nat) => (2 + (i : Int) * 2)) := ints_of _ _ fun j v hv => hI13.2 j v (by rw [← Array.getElem?_toList]; exact hv)
                    refine hP9 _ fun _ k9 => k9 _ _ _ _ _ F14 N14 hI ⟨?_, fun k hk => ?_⟩ rfl ha10 hb10 hm10
                    · rw [List.length_map, List.length_range, Array.length_toList, hI13.1]
                    · have hk' : k < acc.toList.length := by rw [Array.length_toList, hI13.1]; exact hk
                      rw [if_neg (Nat.not_lt_zero _), dp_zero _ _ _ (by (exact om257 hk)), List.getD_eq_getElem?_getD, List.getElem?_map, List.getElem?_range hk']
                      simp; (exact om403)
                  intro h12 tk12 xq12
                  refine xq12 _ fun m12 row vs c12 ns F12 N12 hI12 hR12 hrow ha12 hb12 hm12 => ?_
                  clear xq12
                  clear F11 N11 ha10 hb10 hm10
                  dsimp only
                  refine cutH (fun h' => ∀ R9 : Prop, (∀ m' tr, (Fr s.heap L h' m') → (News s.heap L h' [(row, listOf (List.toArray vs) c12)]) → (m' "row" = some (.ref row)) → (m' "a" = some (.str (tx a3) ta10)) → (m' "b" = some (.str (tx b3) tb10)) → (m' "max_cost" = some (.int 24 t3)) → (m' "result" = some (.int 0 tr)) → R9) → R9) (fun P9 hP9 => ?_) ?_
                  · clear HQ
                    walk_at "D54 go"
                    walk_at "D54 end"
                    rename_i F14 N14
                    exact hP9 _ fun _ k9 => k9 _ _ F14 N14 hrow ha12 hb12 hm12 rfl
                  intro h13 tk13 xq13
                  refine xq13 _ fun m13 tr13 F13 N13 hrow13 ha13 hb13 hm13 hr13 => ?_
                  clear xq13
                  clear F12 N12 hrow ha12 hb12 hm12
                  dsimp only
                  refine cutH (fun h' => ∀ R9 : Prop, (∀ m' tr, (Fr s.heap L h' m') → (m' "result" = some (.int (dist b3 a3 : Nat) tr)) → R9) → R9) (fun P9 hP9 => ?_) ?_
                  · clear HQ
                    refine wpAny_For (cut (fun v h' => ∀ R9 : Prop, (∀ r t1 t2 t3, (v = .ref r) → (IsRange h' r 0 ((tx b3).length : Int) 1 t1 t2 t3) → (Fr s.heap L h' m13) → (News s.heap L h' [(row, listOf (List.toArray vs) c12)]) → R9) → R9) ?_ ?_)
                    · walk_at "D54 go"
                      walk_at "D54 end"
                      rename_i hR14 F14 N14 _
                      exact fun _ kC => kC _ _ _ _ rfl hR14 F14 N14
                    clear F13 N13
                    intro v h14 tk14 xq14
                    refine xq14 _ fun r14 t14 u14 v14 eq1 hR14 F14 N14 => ?_
                    clear xq14
                    refine hideG fun R9 hR9 => ?_
                    obtain rfl := eq1
                    refine hR9 ?_
                    clear hR9 R9
                    refine for_rng (n := b3.length) rfl hR14 (by rw [lb]) (by (exact om404 gb3)) (fun i h => ∃ m vs c ns tr, Fr s.heap L h m ∧ News s.heap L h [(row, listOf (List.toArray vs) c)] ∧ IntsAre vs ns ∧ RowIs a3 b3 i 0 ns ∧ m "row" = some (.ref row) ∧ m "a" = some (.str (tx a3) ta10) ∧ m "b" = some (.str (tx b3) tb10) ∧ m "max_cost" = some (.int 24 t3) ∧ m "result" = some (.int (if i = 0 then 0 else dp a3 b3 i a3.length : Nat) tr)) ?_ ?_ ?_ ?_ ?_
                    · exact ⟨m13, vs, c12, ns, tr13, F14, N14, hI12, hR12, hrow13, ha13, hb13, hm13, hr13⟩
                    · rintro I hIn i h h' xq15 hk
                      refine hideG fun R9 hR9 => ?_
                      obtain ⟨m, vs', c', ns', tr, F, N, r1⟩ := xq15
                      refine hR9 ?_
                      clear hR9 R9
                      exact ⟨m, vs', c', ns', tr, fr_but F14 hIn F hk, news_but N14 hIn N rfl hk, r1⟩
                    · clear hr13 hrow13 ha13 hb13 hm13 hI12 hR12
                      rintro I i tv h tk it hi hIn hIt xq16
                      refine hideG fun R9 hR9 => ?_
                      obtain ⟨m, vs, c, ns, tr, F, N, hIs, hRw, hrow, ha, hb, hm, hr⟩ := xq16
                      refine hR9 ?_
                      clear hR9 R9
                      have N1 := news_it F14 hIn hIt N
                      have hrI : row ≠ I := fun e => by
                        have := (N14 _ (.head _)).1
                        rw [e, hIn] at this; cases this
                      have hbi : b3[i]? = some b3[i] := List.getElem?_eq_getElem hi
                      have hsgi : Sg b3[i] := hsb3 _ (List.getElem_mem hi)
                      clear F14 N14 N hr
                      refine cut (fun _ h' => ∀ R9 : Prop, (∀ m' ti, (Fr s.heap L h' m') → (News s.heap L h' [(I, it), (row, listOf (List.toArray vs) c)]) → (m' "row" = some (.ref row)) → (m' "a" = some (.str (tx a3) ta10)) → (m' "b" = some (.str (tx b3) tb10)) → (m' "max_cost" = some (.int 24 t3)) → (m' "bindex" = some (.int (i : Int) ti)) → R9) → R9) ?_ ?_
                      · walk_at "D54 go"
                        walk_at "D54 end"
                        rename_i F2 N2
                        exact fun _ kC => kC _ _ F2 N2 hrow ha hb hm rfl
                      clear F N1 hrow ha hb hm
                      intro _ h1 tk1 xq17
                      refine xq17 _ fun m1 ti F1 N1 hrow ha hb hm hbx => ?_
                      clear xq17
                      refine hideQ fun Q9 hQ9 => ?_
                      refine cutH (fun h' => ∀ R9 : Prop, (∀ m' tc, (Fr s.heap L h' m') → (News s.heap L h' [(I, it), (row, listOf (List.toArray vs) c)]) → (m' "row" = some (.ref row)) → (m' "a" = some (.str (tx a3) ta10)) → (m' "b" = some (.str (tx b3) tb10)) → (m' "max_cost" = some (.int 24 t3)) → (m' "bindex" = some (.int (i : Int) ti)) → (m' "bchar" = some (.str (tx [b3[i]]) tc)) → R9) → R9) (fun P9 hP9 => ?_) ?_
                      · walk_at "D54 go"
                        walk_at "D54 end"
                        rename_i F2 N2
                        rw [item_at hbi] at F2
                        exact hP9 _ fun _ k9 => k9 _ _ F2 N2 hrow ha hb hm hbx rfl
                      clear F1 N1 hrow ha hb hm hbx
                      intro h2 tk2 xq18
                      refine xq18 _ fun m2 tc F2 N2 hrow ha hb hm hbx hbc => ?_
                      clear xq18
                      try dsimp only
                      refine cutH (fun h' => ∀ R9 : Prop, (∀ m' td tr, (Fr s.heap L h' m') → (News s.heap L h' [(I, it), (row, listOf (List.toArray vs) c)]) → (m' "row" = some (.ref row)) → (m' "a" = some (.str (tx a3) ta10)) → (m' "b" = some (.str (tx b3) tb10)) → (m' "max_cost" = some (.int 24 t3)) → (m' "bchar" = some (.str (tx [b3[i]]) tc)) → (m' "distance" = some (.int ((i : Int) * 2) td)) → (m' "result" = some (.int ((i : Int) * 2) tr)) → R9) → R9) (fun P9 hP9 => ?_) ?_
                      · walk_at "D54 go"
                        walk_at "D54 end"
                        rename_i F3 N3
                        exact hP9 _ fun _ k9 => k9 _ _ _ F3 N3 hrow ha hb hm hbc rfl rfl
                      clear F2 N2 hrow ha hb hm hbx hbc
                      intro h3 tk3 xq19
                      refine xq19 _ fun m3 td tr3 F3 N3 hrow ha hb hm hbc hdi hre => ?_
                      clear xq19
                      try dsimp only
                      refine cutH (fun h' => ∀ R9 : Prop, (∀ m' tm, (Fr s.heap L h' m') → (News s.heap L h' [(I, it), (row, listOf (List.toArray vs) c)]) → (m' "row" = some (.ref row)) → (m' "a" = some (.str (tx a3) ta10)) → (m' "b" = some (.str (tx b3) tb10)) → (m' "max_cost" = some (.int 24 t3)) → (m' "bchar" = some (.str (tx [b3[i]]) tc)) → (m' "distance" = some (.int ((i : Int) * 2) td)) → (m' "result" = some (.int ((i : Int) * 2) tr3)) → (m' "minimum" = some (.int 9223372036854775807 tm)) → R9) → R9) (fun P9 hP9 => ?_) ?_
                      · walk_at "D54 go"
                        walk_at "D54 end"
                        rename_i F4 N4
                        exact hP9 _ fun _ k9 => k9 _ _ F4 N4 hrow ha hb hm hbc hdi hre rfl
                      clear F3 N3 hrow ha hb hm hbc hdi hre
                      intro h4 tk4 xq20
                      refine xq20 _ fun m4 tm4 F4 N4 hrow ha hb hm hbc hdi hre hmi => ?_
                      clear xq20
                      try dsimp only
                      refine cutH (fun h' => ∀ R9 : Prop, (∀ m' vs c ns tr mn tm, (Fr s.heap L h' m') → (News s.heap L h' [(I, it), (row, listOf (List.toArray vs) c)]) → (IntsAre vs ns) → (RowIs a3 b3 i a3.length ns) → (m' "row" = some (.ref row)) → (m' "a" = some (.str (tx a3) ta10)) → (m' "b" = some (.str (tx b3) tb10)) → (m' "max_cost" = some (.int 24 t3)) → (m' "result" = some (.int (dp a3 b3 (i + 1) a3.length : Nat) tr)) → (m' "minimum" = some (.int mn tm)) → (mn ≤ 24) → R9) → R9) (fun P9 hP9 => ?_) ?_
                      · refine wpAny_For (cut (fun v h' => ∀ R9 : Prop, (∀ r t1 t2 t3, (v = .ref r) → (IsRange h' r 0 ((tx a3).length : Int) 1 t1 t2 t3) → (Fr s.heap L h' m4) → (News s.heap L h' [(I, it), (row, listOf (List.toArray vs) c)]) → R9) → R9) ?_ ?_)
                        · walk_at "D54 go"
                          walk_at "D54 end"
                          rename_i hR5 F5 N5 _
                          exact fun _ kC => kC _ _ _ _ rfl hR5 F5 N5
                        clear F4 N4
                        intro v h5 tk5 xq21
                        refine xq21 _ fun r5 t5 u5 v5 eq2 hR5 F5 N5 => ?_
                        clear xq21
                        refine hideG fun R9 hR9 => ?_
                        obtain rfl := eq2
                        refine hR9 ?_
                        clear hR9 R9
                        refine for_rng (n := a3.length) rfl hR5 (by rw [la]) (by (exact om409 gab gb3)) (fun j h => ∃ m vs c ns td tr mn tm, Fr s.heap L h m ∧ News s.heap L h [(I, it), (row, listOf (List.toArray vs) c)] ∧ IntsAre vs ns ∧ RowIs a3 b3 i j ns ∧ m "row" = some (.ref row) ∧ m "a" = some (.str (tx a3) ta10) ∧ m "b" = some (.str (tx b3) tb10) ∧ m "max_cost" = some (.int 24 t3) ∧ m "bchar" = some (.str (tx [b3[i]]) tc) ∧ m "distance" = some (.int (dp a3 b3 i j : Nat) td) ∧ m "result" = some (.int (if j = 0 then 2 * i else dp a3 b3 (i + 1) j : Nat) tr) ∧ m "minimum" = some (.int mn tm) ∧ (0 < j → mn ≤ 24)) ?_ ?_ ?_ ?_ ?_
                        · have e1 : (i : Int) * 2 = ((dp a3 b3 i 0 : Nat) : Int) := by rw [dp_nil _ _ _ (by (exact om410 hi))]; (exact om411)
                          have e2 : (i : Int) * 2 = ((if 0 = 0 then 2 * i else dp a3 b3 (i + 1) 0 : Nat) : Int) := by rw [if_pos rfl]; (exact om411)
                          rw [e1] at hdi
                          rw [e2] at hre
                          exact ⟨m4, vs, c, ns, _, _, _, _, F5, N5, hIs, hRw, hrow, ha, hb, hm, hbc, hdi, hre, hmi, fun h => absurd h (Nat.lt_irrefl _)⟩
                        · rintro I' hIn' j h h' xq22 hk
                          refine hideG fun R9 hR9 => ?_
                          obtain ⟨m, vs', c', ns', td', tr', mn', tm', F, N, r1⟩ := xq22
                          refine hR9 ?_
                          clear hR9 R9
                          exact ⟨m, vs', c', ns', td', tr', mn', tm', fr_but F5 hIn' F hk, news_but N5 hIn' N rfl hk, r1⟩
                        · clear hrow ha hb hm hbc hdi hre hmi hIs hRw
                          rintro I' j tv' h tk it' hj hIn' hIt' xq23
                          refine hideG fun R9 hR9 => ?_
                          obtain ⟨m, vs, c, ns, td', tr', mn, tm, F, N, hIs, hRw, hrow, ha, hb, hm, hbc, hdi, hre, hmi, hmn⟩ := xq23
                          refine hR9 ?_
                          clear hR9 R9
                          have N1 := news_it F5 hIn' hIt' N
                          have hrI' : row ≠ I' := fun e => by
                            have := (N5 _ (.tail _ (.head _))).1
                            rw [e, hIn'] at this; cases this
                          refine hideG fun R9 hR9 => ?_
                          obtain ⟨r, hr⟩ : ∃ r, r = if j = 0 then 2 * i else dp a3 b3 (i + 1) j := ⟨_, rfl⟩
                          refine hR9 ?_
                          clear hR9 R9
                          rw [← hr] at hre
                          have hstep := fun x y hx hy => dp_step (a := a3) (b := b3) (x := x) (y := y) hi hj hx hy hr
                          have haj : a3[j]? = some a3[j] := List.getElem?_eq_getElem hj
                          have hsgj : Sg a3[j] := hsa3 _ (List.getElem_mem hj)
                          clear F5 N5 N
                          refine cut (fun _ h' => ∀ R9 : Prop, (∀ m' ti, (Fr s.heap L h' m') → (News s.heap L h' [(I', it'), (I, it), (row, listOf (List.toArray vs) c)]) → (m' "row" = some (.ref row)) → (m' "a" = some (.str (tx a3) ta10)) → (m' "b" = some (.str (tx b3) tb10)) → (m' "max_cost" = some (.int 24 t3)) → (m' "bchar" = some (.str (tx [b3[i]]) tc)) → (m' "distance" = some (.int (dp a3 b3 i j : Nat) td')) → (m' "result" = some (.int (r : Nat) tr')) → (m' "minimum" = some (.int mn tm)) → (m' "index" = some (.int (j : Int) ti)) → R9) → R9) ?_ ?_
                          · walk_at "D54 go"
                            walk_at "D54 end"
                            rename_i F2 N2
                            exact fun _ kC => kC _ _ F2 N2 hrow ha hb hm hbc hdi hre hmi rfl
                          clear F N1 hrow ha hb hm hbc hdi hre hmi
                          intro _ h1 tk1 xq24
                          refine xq24 _ fun m1 ti F1 N1 hrow ha hb hm hbc hdi hre hmi hix => ?_
                          clear xq24
                          refine hideQ fun Q9 hQ9 => ?_
                          refine cutH (fun h' => ∀ R9 : Prop, (∀ m' ts, (Fr s.heap L h' m') → (News s.heap L h' [(I', it'), (I, it), (row, listOf (List.toArray vs) c)]) → (m' "row" = some (.ref row)) → (m' "a" = some (.str (tx a3) ta10)) → (m' "b" = some (.str (tx b3) tb10)) → (m' "max_cost" = some (.int 24 t3)) → (m' "bchar" = some (.str (tx [b3[i]]) tc)) → (m' "result" = some (.int (r : Nat) tr')) → (m' "minimum" = some (.int mn tm)) → (m' "index" = some (.int (j : Int) ti)) → (m' "substitute" = some (.int ((dp a3 b3 i j : Nat) + (sub b3[i] a3[j] : Nat)) ts)) → R9) → R9) (fun P9 hP9 => ?_) ?_
                          · walk_at "D54 go"
                            unfold Halt
                            rw [item_at haj]
                            refine sub_call (W.keeps F1.keep) rfl (by show d ≤ 950; (exact om413 hd' hd)) (by show u ≤ 9500; (exact om414 hu' hu)) hsgi hsgj fun h2 tk2 t2 hE2 => ?_
                            have F2 := F1.keeps hE2
                            have N2 := news_ext N1 hE2
                            clear F1 N1 hE2
                            walk_at "D54 go"
                            walk_at "D54 end"
                            rename_i F3 N3
                            exact hP9 _ fun _ k9 => k9 _ _ F3 N3 hrow ha hb hm hbc hre hmi hix rfl
                          clear F1 N1 hrow ha hb hm hbc hdi hre hmi hix
                          intro h2 tk2 xq25
                          refine xq25 _ fun m2 ts F2 N2 hrow ha hb hm hbc hre hmi hix hsu => ?_
                          clear xq25
                          have hnl : ns.length = a3.length := hRw.1
                          have hjn : j < ns.length := by (exact om44 hj hnl)
                          dsimp only
                          refine cutH (fun h' => ∀ R9 : Prop, (∀ m' td, (Fr s.heap L h' m') → (News s.heap L h' [(I', it'), (I, it), (row, listOf (List.toArray vs) c)]) → (m' "row" = some (.ref row)) → (m' "a" = some (.str (tx a3) ta10)) → (m' "b" = some (.str (tx b3) tb10)) → (m' "max_cost" = some (.int 24 t3)) → (m' "bchar" = some (.str (tx [b3[i]]) tc)) → (m' "result" = some (.int (r : Nat) tr')) → (m' "minimum" = some (.int mn tm)) → (m' "index" = some (.int (j : Int) ti)) → (m' "substitute" = some (.int ((dp a3 b3 i j : Nat) + (sub b3[i] a3[j] : Nat)) ts)) → (m' "distance" = some (.int (dp a3 b3 i (j + 1) : Nat) td)) → R9) → R9) (fun P9 hP9 => ?_) ?_
                          · walk_at "D54 go"
                            walk_at "D54 end"
                            rename_i F3 N3
                            have e : ns.getD (j : Int).toNat 0 = ((dp a3 b3 i (j + 1) : Nat) : Int) := by
                              rw [Int.toNat_natCast, hRw.2 j hj, if_neg (Nat.lt_irrefl _)]
                            rw [e] at F3
                            exact hP9 _ fun _ k9 => k9 _ _ F3 N3 hrow ha hb hm hbc hre hmi hix hsu rfl
                          clear F2 N2 hrow ha hb hm hbc hre hmi hix hsu
                          intro h3 tk3 xq26
                          refine xq26 _ fun m3 td3 F3 N3 hrow ha hb hm hbc hre hmi hix hsu hdi => ?_
                          clear xq26
                          try dsimp only
                          refine cutH (fun h' => ∀ R9 : Prop, (∀ m' tn, (Fr s.heap L h' m') → (News s.heap L h' [(I', it'), (I, it), (row, listOf (List.toArray vs) c)]) → (m' "row" = some (.ref row)) → (m' "a" = some (.str (tx a3) ta10)) → (m' "b" = some (.str (tx b3) tb10)) → (m' "max_cost" = some (.int 24 t3)) → (m' "bchar" = some (.str (tx [b3[i]]) tc)) → (m' "minimum" = some (.int mn tm)) → (m' "index" = some (.int (j : Int) ti)) → (m' "substitute" = some (.int ((dp a3 b3 i j : Nat) + (sub b3[i] a3[j] : Nat)) ts)) → (m' "distance" = some (.int (dp a3 b3 i (j + 1) : Nat) td3)) → (m' "insert_delete" = some (.int (min r (dp a3 b3 i (j + 1)) + 2 : Nat) tn)) → R9) → R9) (fun P9 hP9 => ?_) ?_
                          · walk_at "D54 go"
                            walk_at "D54 end"
                            rename_i F4 N4
                            rw [min_if] at F4
                            exact hP9 _ fun _ k9 => k9 _ _ F4 N4 hrow ha hb hm hbc hmi hix hsu hdi rfl
                          clear F3 N3 hrow ha hb hm hbc hre hmi hix hsu hdi
                          intro h4 tk4 xq27
                          refine xq27 _ fun m4 tn4 F4 N4 hrow ha hb hm hbc hmi hix hsu hdi hid => ?_
                          clear xq27
                          try dsimp only
                          refine cutH (fun h' => ∀ R9 : Prop, (∀ m' tr, (Fr s.heap L h' m') → (News s.heap L h' [(I', it'), (I, it), (row, listOf (List.toArray vs) c)]) → (m' "row" = some (.ref row)) → (m' "a" = some (.str (tx a3) ta10)) → (m' "b" = some (.str (tx b3) tb10)) → (m' "max_cost" = some (.int 24 t3)) → (m' "bchar" = some (.str (tx [b3[i]]) tc)) → (m' "minimum" = some (.int mn tm)) → (m' "index" = some (.int (j : Int) ti)) → (m' "distance" = some (.int (dp a3 b3 i (j + 1) : Nat) td3)) → (m' "result" = some (.int (dp a3 b3 (i + 1) (j + 1) : Nat) tr)) → R9) → R9) (fun P9 hP9 => ?_) ?_
                          · walk_at "D54 go"
                            walk_at "D54 end"
                            rename_i F5 N5
                            have e := min_if (min r (dp a3 b3 i (j + 1)) + 2) (dp a3 b3 i j + sub b3[i] a3[j])
                            rw [hstep _ _ hbi haj] at e
                            have e' : (if ((dp a3 b3 i j : Nat) : Int) + ((sub b3[i] a3[j] : Nat) : Int) < ((min r (dp a3 b3 i (j + 1)) + 2 : Nat) : Int) then ((dp a3 b3 i j : Nat) : Int) + ((sub b3[i] a3[j] : Nat) : Int) else ((min r (dp a3 b3 i (j + 1)) + 2 : Nat) : Int)) = ((dp a3 b3 (i + 1) (j + 1) : Nat) : Int) := e
                            rw [e'] at F5
                            exact hP9 _ fun _ k9 => k9 _ _ F5 N5 hrow ha hb hm hbc hmi hix hdi rfl
                          clear F4 N4 hrow ha hb hm hbc hmi hix hsu hdi hid
                          intro h5 tk5 xq28
                          refine xq28 _ fun m5 tr5 F5 N5 hrow ha hb hm hbc hmi hix hdi hre => ?_
                          clear xq28
                          have hdl := dp_le a3 b3 (i + 1) (j + 1) (by (exact om417 gab gb3)) gb3
                          dsimp only
                          refine cutH (fun h' => ∀ R9 : Prop, (∀ c', (Fr s.heap L h' m5) → (News s.heap L h' [(I', it'), (I, it), (row, listOf (List.toArray (vs.set j (.int (dp a3 b3 (i + 1) (j + 1) : Nat) tr5))) c')]) → R9) → R9) (fun P9 hP9 => ?_) ?_
                          · walk_at "D54 go"
                            refine ksa_set F5 N5 (Upd.tail (Ne.symm hrI') (Upd.tail (Ne.symm hrI) (Upd.head fun p hp => nomatch hp))) hIs (by (exact om246)) (by (exact om415 hj hnl)) (by (exact om416 hj gab gb3)) ?_
                            intro h6 F6 N6 _ _ _
                            walk_at "D54 up"
                            exact End.mk' rfl (hP9 _ fun _ k9 => k9 _ F6 N6)
                          clear F5 N5
                          intro h6 tk6 xq29
                          refine xq29 _ fun c6 F6 N6 => ?_
                          clear xq29
                          try dsimp only
                          refine cutH (fun h' => ∀ R9 : Prop, (∀ m' mn' tm', (Fr s.heap L h' m') → (News s.heap L h' [(I', it'), (I, it), (row, listOf (List.toArray (vs.set j (.int (dp a3 b3 (i + 1) (j + 1) : Nat) tr5))) c6)]) → (m' "row" = some (.ref row)) → (m' "a" = some (.str (tx a3) ta10)) → (m' "b" = some (.str (tx b3) tb10)) → (m' "max_cost" = some (.int 24 t3)) → (m' "bchar" = some (.str (tx [b3[i]]) tc)) → (m' "distance" = some (.int (dp a3 b3 i (j + 1) : Nat) td3)) → (m' "result" = some (.int (dp a3 b3 (i + 1) (j + 1) : Nat) tr5)) → (m' "minimum" = some (.int mn' tm')) → (mn' ≤ 24) → R9) → R9) (fun P9 hP9 => ?_) ?_
                          · walk_at "D54 go"
                            · walk_at "D54 end"
                              rename_i F7 N7
                              exact hP9 _ fun _ k9 => k9 _ _ _ F7 N7 hrow ha hb hm hbc hdi hre rfl (by (exact om418 hdl))
                            · walk_at "D54 end"
                              rename_i hge
                              exact hP9 _ fun _ k9 => k9 _ _ _ F6 N6 hrow ha hb hm hbc hdi hre hmi (by (exact om419 hge hdl))
                          intro h7 tk7 xq30
                          refine xq30 _ fun m7 mn7 tm7 F7 N7 hrow ha hb hm hbc hdi hre hmi hmn7 => ?_
                          clear xq30
                          try dsimp only
                          refine wpAny_execs_nil (hQ9 _ _ ?_)
                          refine ⟨h7, tk7, rfl, ⟨m7, _, c6, _, td3, tr5, mn7, tm7, F7, news_tail N7, ints_set hIs j, hRw.put hj rfl, hrow, ha, hb, hm, hbc, hdi, ?_, hmi, fun _ => hmn7⟩, (N7 _ (.head _)).1⟩
                          rw [if_neg (by (exact om420))]
                          exact hre
                        · rintro h tk xq31
                          refine hideG fun R9 hR9 => ?_
                          obtain ⟨m, vs', c', ns', td', tr', mn', tm', F, N, hIs', hRw', h1, h2, h3, h4, h5, h6, h7, h8, h9⟩ := xq31
                          refine hR9 ?_
                          clear hR9 R9
                          rw [if_neg (by (exact om421 ga3))] at h7
                          walk_at "D54 up"
                          exact End.mk' rfl (hP9 _ fun _ k9 => k9 m vs' c' ns' tr' mn' tm' F N hIs' hRw' h1 h2 h3 h4 h7 h8 (h9 (by (exact om367 ga3))))
                        · intro I v; rfl
                      clear F4 N4 hrow ha hb hm hbc hdi hre hmi hIs hRw
                      intro h5 tk5 xq32
                      refine xq32 _ fun m5 vs5 c5 ns5 tr5 mn5 tm5 F5 N5 hIs5 hRw5 hrow ha hb hm hre hmi hmn5 => ?_
                      clear xq32
                      try dsimp only
                      refine cutH (fun h' => ∀ R9 : Prop, ((Fr s.heap L h' m5) → (News s.heap L h' [(I, it), (row, listOf (List.toArray vs5) c5)]) → R9) → R9) (fun P9 hP9 => ?_) ?_
                      · walk_at "D54 go"
                        all_goals walk_at "D54 end"
                        all_goals first | exact hP9 _ fun _ k9 => k9 F5 N5 | (exfalso; omega)
                      intro h6 tk6 xq33
                      refine xq33 _ fun F6 N6 => ?_
                      clear xq33
                      try dsimp only
                      refine wpAny_execs_nil (hQ9 _ _ ?_)
                      refine ⟨h6, tk6, rfl, ⟨m5, vs5, c5, ns5, tr5, F6, news_tail N6, hIs5, hRw5.next, hrow, ha, hb, hm, ?_⟩, (N6 _ (.head _)).1⟩
                      rw [if_neg (by (exact om420))]
                      exact hre
                    · rintro h tk xq34
                      refine hideG fun R9 hR9 => ?_
                      obtain ⟨m, vs', c', ns', tr, F, N, _, _, _, _, _, _, hr⟩ := xq34
                      refine hR9 ?_
                      clear hR9 R9
                      walk_at "D54 up"
                      refine End.mk' rfl (hP9 _ fun _ k9 => k9 m tr F ?_)
                      rw [if_neg (by (exact om423 gab ga3)), dp_all] at hr
                      exact hr
                    · intro I v; rfl
                  intro h15 tk15 xq35
                  refine xq35 _ fun m15 tr15 F15 hr15 => ?_
                  clear xq35
                  have N15 : News s.heap L h15 [] := News.nil
                  dsimp only
                  walk_at "D54 go"
                  exact HQ _ _ _ F15.keep
                · exact HQ _ _ _ hE
          · exact ⟨h10, _, _, 0, _, _, _, rfl, F7, rfl, rfl, hm7, rfl, Nat.zero_le _, Nat.zero_le _, by simp, rfl⟩
    · exact ⟨h2, _, _, 0, _, rfl, F2, rfl, rfl, rfl, rfl, Nat.zero_le _, Nat.zero_le _, rfl, rfl⟩
-- D54Word
def sg (k : Nat) : Nat := if k = 0 then 97 else if k = 1 then 98 else if k = 2 then 65 else 95
theorem sg_ok (k : Nat) : Sg (sg k) := by
  unfold sg
  by_cases h0 : k = 0
  · rw [if_pos h0]; exact .inl rfl
  · rw [if_neg h0]
    by_cases h1 : k = 1
    · rw [if_pos h1]; exact .inr (.inl rfl)
    · rw [if_neg h1]
      by_cases h2 : k = 2
      · rw [if_pos h2]; exact .inr (.inr (.inl rfl))
      · rw [if_neg h2]; exact .inr (.inr (.inr rfl))
/-- the signs of a number -/
def wgo : Nat → Nat → List Nat
  | 0, _ => []
  | f + 1, n => if 0 < n then sg ((n - 1) % 4) :: wgo f ((n - 1) / 4) else []
def wrd (x : Int) : List Nat := wgo 4 x.natAbs
theorem wgo_len : ∀ f n, (wgo f n).length ≤ f
  | 0, _ => Nat.le_refl _
  | f + 1, n => by
    unfold wgo
    split
    · have := wgo_len f ((n - 1) / 4); simp only [List.length_cons]; (exact om35 this)
    · simp
theorem wgo_ok : ∀ f n, ∀ c ∈ wgo f n, Sg c
  | 0, _, c, h => by cases h
  | f + 1, n, c, h => by
    unfold wgo at h
    split at h
    · rcases List.mem_cons.mp h with rfl | h
      · exact sg_ok _
      · exact wgo_ok f _ c h
    · cases h
theorem wrd_len (x : Int) : (wrd x).length ≤ 4 := wgo_len _ _
theorem wrd_ok (x : Int) : ∀ c ∈ wrd x, Sg c := wgo_ok _ _
theorem wgo_zero (f : Nat) : wgo f 0 = [] := by cases f with
  | zero => rfl
  | succ f => unfold wgo; rw [if_neg (Nat.lt_irrefl _)]
theorem tx_appendW (a b : List Nat) : tx a ++ tx b = tx (a ++ b) := by
  show PySem.Str.mk _ = PySem.Str.mk _
  congr 1
  simp [tx]
theorem abA_item {k : Nat} (hk : k < 4) : Txt.item (PySem.Str.ofString "abA_") (k : Int) = tx [sg k] := by
  rcases (by (exact om284 hk) : k = 0 ∨ k = 1 ∨ k = 2 ∨ k = 3) with rfl | rfl | rfl | rfl <;> decide +kernel
theorem abs_if (x : Int) : (if x < 0 then -x else x) = (x.natAbs : Int) := by
  by_cases h : x < 0
  · rw [if_pos h]; (exact om285 h)
  · rw [if_neg h]; (exact om286 h)
theorem fmod4 {n : Nat} (h : 0 < n) : ((n : Int) - 1).fmod 4 = (((n - 1) % 4 : Nat) : Int) := by
  rw [Int.fmod_eq_emod_of_nonneg _ (by decide)]; (exact om288 h)
theorem fdiv4 {n : Nat} (h : 0 < n) : ((n : Int) - 1).fdiv 4 = (((n - 1) / 4 : Nat) : Int) := by
  rw [Int.fdiv_eq_ediv_of_nonneg _ (by decide)]; (exact om289 h)
theorem wgo_step {acc : List Nat} {x : Int} {i n : Nat} (hi : i < 4) (hn : 0 < n) (h : acc ++ wgo (4 - i) n = wrd x) : (acc ++ [sg ((n - 1) % 4)]) ++ wgo (4 - (i + 1)) ((n - 1) / 4) = wrd x := by
  have e : 4 - i = (4 - (i + 1)) + 1 := by (exact om290 hi)
  rw [e, wgo, if_pos hn] at h
  rw [← h]; simp
theorem wgo_stay {acc : List Nat} {x : Int} {i n : Nat} (hn : ¬ 0 < n) (h : acc ++ wgo (4 - i) n = wrd x) : acc ++ wgo (4 - (i + 1)) n = wrd x := by
  have e : n = 0 := by (exact om229 hn)
  subst e
  rw [wgo_zero] at h ⊢; exact h
set_option maxHeartbeats 4000000 in
theorem word_call {w : World} {A : Around} {s : Shared} {E : Value → Shared → Prop} {Q : Value → Shared → Prop} {t1 : Tok} {x : Int} {mg mb : PySem.Str → Option Value}
  (W : Wd w mg mb s.heap) (hh : A.handled = none) (hd : A.depth < 900) (hu : A.units < 9000)
  (HQ : ∀ h' tk t, Ext s.heap h' → Q (.str (tx (wrd x)) t) ⟨h', s.gens, s.drawn, tk, s.os⟩) :
  wpAny (model prog w) A (call (.ref 49) [.int x t1]) Q E s := by
  have K := W.k
  have T : TopRead PySem.Challenge.rw_dn0054_01.prog [] mg mb s.heap := W.t
  revert T K
  k_fill
  w_on
  w_top on
  intro K T
  refine enter (binds := [(PySem.Str.ofString "x", .int x t1)]) hh (Nat.lt_trans hd (by decide)) (K _ _ (by k_is)) rfl T.nolimit (codeRec_of K (by k_is)) rfl (BindsTo.of_eq rfl) (by decide) (locs rfl) ?_ rfl rfl rfl
  intro L h₁ d fr gd u hL hd' hu' F N
  show wpAny _ _ (execs _ (envOf (PySem.Str.ofString "_law_word") _ L 49 _)) _ _ _
  refine cutH (fun h' => ∀ R9 : Prop, (∀ m' tw t2, (Fr s.heap L h' m') → (m' "word" = some (.str (tx []) tw)) → (m' "x" = some (.int (x.natAbs : Int) t2)) → R9) → R9) (fun P9 hP9 => ?_) ?_
  · clear HQ
    walk_at "D54 go"
    walk_at "D54 end"
    rename_i F2 N2
    rw [abs_if] at F2
    exact hP9 _ fun _ k9 => k9 _ _ _ F2 rfl rfl
  clear F N
  intro h1 tk1 xq1
  refine xq1 _ fun m1 tw1 tx1 F1 hw1 hx1 => ?_
  clear xq1
  have N1 : News s.heap L h1 [] := News.nil
  dsimp only
  refine cutH (fun h' => ∀ R9 : Prop, (∀ m' tw, (Fr s.heap L h' m') → (m' "word" = some (.str (tx (wrd x)) tw)) → R9) → R9) (fun P9 hP9 => ?_) ?_
  · clear HQ
    refine wpAny_For (cut (fun v h' => ∀ R9 : Prop, (∀ r t1 t2 t3, (v = .ref r) → (IsRange h' r 0 4 1 t1 t2 t3) → (Fr s.heap L h' m1) → R9) → R9) ?_ ?_)
    · walk_at "D54 go"
      walk_at "D54 end"
      rename_i hR F2 N2 _
      exact fun _ kC => kC _ _ _ _ rfl hR F2
    clear F1 N1
    intro v h2 tk2 xq2
    refine xq2 _ fun r2 t2 u2 v2 eq1 hR2 F2 => ?_
    clear xq2
    refine hideG fun R9 hR9 => ?_
    obtain rfl := eq1
    refine hR9 ?_
    clear hR9 R9
    refine for_rng (n := 4) rfl hR2 rfl (by decide) (fun i h => Ex5 fun m acc n tw tx' => And5 (Fr s.heap L h m) (m "word" = some (.str (tx acc) tw)) (m "x" = some (.int (n : Nat) tx')) (acc ++ wgo (4 - i) n = wrd x) (acc.length ≤ i)) ?_ ?_ ?_ ?_ ?_
    · exact ⟨m1, [], x.natAbs, tw1, tx1, F2, hw1, hx1, rfl, Nat.le_refl _⟩
    · rintro I hIn i h h' xq3 hk
      refine hideG fun R9 hR9 => ?_
      obtain ⟨m, acc, n, tw, tx', F, r1, r2, r3, r4⟩ := xq3
      refine hR9 ?_
      clear hR9 R9
      exact ⟨m, acc, n, tw, tx', fr_but F2 hIn F hk, r1, r2, r3, r4⟩
    · rintro I i tv h tk it hi hIn hIt xq4
      refine hideG fun R9 hR9 => ?_
      obtain ⟨m, acc, n, tw, tx', F, hw, hx, hacc, hal⟩ := xq4
      refine hR9 ?_
      clear hR9 R9
      have N := news_it F2 hIn hIt (News.nil (h₀ := s.heap) (L := L))
      clear F2 hx1 hw1
      refine cut (fun _ h' => ∀ R9 : Prop, (∀ m', (Fr s.heap L h' m') → (News s.heap L h' [(I, it)]) → (m' "word" = some (.str (tx acc) tw)) → (m' "x" = some (.int (n : Nat) tx')) → R9) → R9) ?_ ?_
      · walk_at "D54 go"
        walk_at "D54 end"
        rename_i F2 N2
        exact fun _ kC => kC _ F2 N2 hw hx
      clear F N hw hx
      intro _ h1 tk1 xq5
      refine xq5 _ fun m1 F1 N1 hw hx => ?_
      clear xq5
      have hla := tx_len acc
      refine cutH (fun h' => ∀ R9 : Prop, (∀ m' acc' n' tw tx', (Fr s.heap L h' m') → (News s.heap L h' [(I, it)]) → (m' "word" = some (.str (tx acc') tw)) → (m' "x" = some (.int (n' : Nat) tx')) → (acc' ++ wgo (4 - (i + 1)) n' = wrd x) → (acc'.length ≤ i + 1) → R9) → R9) (fun P9 hP9 => ?_) ?_
      · walk_at "D54 go"
        · walk_at "D54 end"
          rename_i hn _ _ _ _ _ _ _ F2 N2
          have hn' : 0 < n := by (exact om293 (by assumption))
          rw [fmod4 hn', fdiv4 hn', abA_item (Nat.mod_lt _ (by decide)), tx_appendW] at F2
          exact hP9 _ fun _ k9 => k9 _ _ _ _ _ F2 N2 rfl rfl (wgo_step hi hn' hacc) (by rw [List.length_append]; simp; (exact om295 hal))
        · walk_at "D54 end"
          rename_i hn _
          exact hP9 _ fun _ k9 => k9 _ _ _ _ _ F1 N1 hw hx (wgo_stay (by (exact om296 (by assumption))) hacc) (by (exact om34 hal))
      intro h3 tk3 xq6
      refine xq6 _ fun m3 acc3 n3 tw3 tx3 F3 N3 hw3 hx3 hacc3 hal3 => ?_
      clear xq6
      try dsimp only
      refine wpAny_execs_nil ?_
      exact ⟨h3, tk3, rfl, ⟨m3, acc3, n3, tw3, tx3, F3, hw3, hx3, hacc3, hal3⟩, (N3 _ (.head _)).1⟩
    · rintro h tk xq7
      refine hideG fun R9 hR9 => ?_
      obtain ⟨m, acc, n, tw, tx', F, hw, hx, hacc, hal⟩ := xq7
      refine hR9 ?_
      clear hR9 R9
      have e : acc = wrd x := by rw [← hacc]; simp [wgo]
      rw [e] at hw
      walk_at "D54 up"
      exact End.mk' rfl (hP9 _ fun _ k9 => k9 m tw F hw)
    · intro I v; rfl
  intro h4 tk4 xq8
  refine xq8 _ fun m4 tw4 F4 hw4 => ?_
  clear xq8
  have N4 : News s.heap L h4 [] := News.nil
  dsimp only
  walk_at "D54 go"
  exact HQ _ _ _ F4.keep
-- D54Cho
theorem tx_append (a b : List Nat) : tx a ++ tx b = tx (a ++ b) := by
  show PySem.Str.mk _ = PySem.Str.mk _
  congr 1
  simp [tx]
/-- the choices of a word in the law's order -/
def choices (w : List Nat) : List (List Nat) := w.foldl (fun k c => k ++ k.map (· ++ [c])) [[]]
theorem choices_snoc (w : List Nat) (c : Nat) : choices (w ++ [c]) = choices w ++ (choices w).map (· ++ [c]) := by
  unfold choices; rw [List.foldl_append]; rfl
theorem choices_take {w : List Nat} {i c : Nat} (h : w[i]? = some c) : choices (w.take (i + 1)) = choices (w.take i) ++ (choices (w.take i)).map (· ++ [c]) := by
  rw [List.take_add_one, h]; exact choices_snoc _ _
theorem choices_len (w : List Nat) : ∀ c ∈ choices w, c.length ≤ w.length := by
  have go : ∀ (r : List Nat), ∀ c ∈ choices r.reverse, c.length ≤ r.length := by
    intro r
    induction r with
    | nil => intro c hc; simp [choices] at hc; subst hc; exact Nat.le_refl _
    | cons a r ih =>
      intro c hc
      rw [List.reverse_cons, choices_snoc] at hc
      rcases List.mem_append.mp hc with hc | hc
      · have := ih c hc; simp only [List.length_cons]; (exact om34 this)
      · refine hideG fun R9 hR9 => ?_
        obtain ⟨c', hc', rfl⟩ := List.mem_map.mp hc
        refine hR9 ?_
        clear hR9 R9
        have := ih c' hc'; simp only [List.length_append, List.length_cons, List.length_nil]; (exact om327 this)
  intro c hc
  have := go w.reverse c (by rw [List.reverse_reverse]; exact hc)
  simpa using this
theorem choices_size (w : List Nat) : (choices w).length = 2 ^ w.length := by
  have go : ∀ (r : List Nat), (choices r.reverse).length = 2 ^ r.length := by
    intro r
    induction r with
    | nil => rfl
    | cons a r ih =>
      rw [List.reverse_cons, choices_snoc, List.length_append, List.length_map, ih, List.length_cons, Nat.pow_succ]; (exact om328)
  have := go w.reverse
  rw [List.reverse_reverse, List.length_reverse] at this
  exact this
theorem choices_ch : ∀ r : List Nat, choices r.reverse = (ch r).map List.reverse
  | [] => rfl
  | c :: r => by
    rw [List.reverse_cons, choices_snoc, choices_ch r, ch, List.map_append, List.map_map, List.map_map]
    congr 1
    refine List.map_congr_left fun x _ => ?_
    simp
def TxIs (c : List Nat) (v : Value) : Prop := ∃ t, v = .str (tx c) t
theorem paired_append {α β : Type} {F : α → β → Prop} {a : List α} {b : List β} {a' : List α} {b' : List β} (p : Paired F a b) (q : Paired F a' b') : Paired F (a ++ a') (b ++ b') := by
  induction p with
  | nil => exact q
  | cons h t ih => exact .cons h ih
theorem paired_len {α β : Type} {F : α → β → Prop} : ∀ {a : List α} {b : List β}, Paired F a b → a.length = b.length
  | _, _, .nil => rfl
  | _, _, .cons _ t => by rw [List.length_cons, List.length_cons, paired_len t]
theorem paired_get {α β : Type} {F : α → β → Prop} {a : List α} {b : List β} (p : Paired F a b) (i : Nat) (y : β) (h : b[i]? = some y) : ∃ x, a[i]? = some x ∧ F x y := by
  induction p generalizing i with
  | nil => cases h
  | cons p r ih =>
    cases i with
    | zero => cases h; exact ⟨_, rfl, p⟩
    | succ i => exact ih i h
theorem paired_mem {α β : Type} {F : α → β → Prop} {a : List α} {b : List β} (p : Paired F a b) (y : β) (hy : y ∈ b) : ∃ x ∈ a, F x y := by
  induction p with
  | nil => cases hy
  | cons h t ih =>
    rcases List.mem_cons.mp hy with rfl | e
    · exact ⟨_, .head _, h⟩
    · obtain ⟨x, hx, hf⟩ := ih e; exact ⟨x, .tail _ hx, hf⟩
theorem paired_map {α β γ : Type} {F : α → β → Prop} {G : β → γ → Prop} {H : α → γ → Prop} (hH : ∀ x y z, F x y → G y z → H x z) {a : List α} {b : List β} {c : List γ} (p : Paired F a b) (q : Paired G b c) : Paired H a c := by
  induction p generalizing c with
  | nil => cases q; exact .nil
  | cons h t ih =>
    cases q with
    | cons h' t' => exact .cons (hH _ _ _ h h') (ih t')
theorem paired_mapl {α β γ : Type} {F : γ → β → Prop} {f : α → γ} {a : List α} {b : List β} (p : Paired (fun x y => F (f x) y) a b) : Paired F (a.map f) b := by
  induction p with
  | nil => exact .nil
  | cons h t ih => exact .cons h ih
theorem sg_ascii {c : Nat} (h : Sg c) : c < 128 := by rcases h with rfl | rfl | rfl | rfl <;> decide
set_option maxHeartbeats 4000000 in
theorem choices_call {w : World} {A : Around} {s : Shared} {E : Value → Shared → Prop} {Q : Value → Shared → Prop} {t1 : Tok} {a : List Nat} {mg mb : PySem.Str → Option Value}
  (W : Wd w mg mb s.heap) (hh : A.handled = none) (hd : A.depth < 900) (hu : A.units < 9000) (ha4 : a.length ≤ 4) (hsa : ∀ c ∈ a, Sg c)
  (HQ : ∀ h' tk D vs c, Ext s.heap h' → s.heap.get? D = none → h'.get? D = some (listOf (List.toArray vs) c) → Paired TxIs (choices a) vs → Q (.ref D) ⟨h', s.gens, s.drawn, tk, s.os⟩) :
  wpAny (model prog w) A (call (.ref 54) [.str (tx a) t1]) Q E s := by
  have K := W.k
  have T : TopRead PySem.Challenge.rw_dn0054_01.prog [] mg mb s.heap := W.t
  revert T K
  k_fill
  w_on
  w_top on
  intro K T
  refine enterC (binds := [(PySem.Str.ofString "word", .str (tx a) t1)]) hh (Nat.lt_trans hd (by decide)) (K _ _ (by k_is)) rfl T.nolimit (codeRec_of K (by k_is)) (BindsTo.of_eq rfl) rfl (by decide +kernel) ?_ rfl rfl rfl
  intro L h₁ tk₁ cells d fr gd u hL hd' hu' F N Y
  refine hideG fun R9 hR9 => ?_
  obtain ⟨o1, rfl, d1⟩ := CellsAre.one Y
  refine hR9 ?_
  clear hR9 R9
  clear Y
  refine hideG fun R9 hR9 => ?_
  obtain ⟨x1, d1⟩ : ∃ x, o1.data = .cell x := ⟨_, d1⟩
  refine hR9 ?_
  clear hR9 R9
  refine hideG fun R9 hR9 => ?_
  obtain ⟨m0, F0, hm0⟩ : ∃ m0, Fr s.heap L h₁ m0 ∧ m0 "word" = some (.str (tx a) t1) := ⟨_, F, rfl⟩
  refine hR9 ?_
  clear hR9 R9
  clear F
  refine cutH (fun h' => ∀ R9 : Prop, (∀ m' kp vs c, (Fr s.heap L h' m') → (News s.heap L h' [(kp, listOf (List.toArray vs) c), (L + 1, o1)]) → (m' "word" = some (.str (tx a) t1)) → (m' "kept" = some (.ref kp)) → (Paired TxIs (choices (a.take 0)) vs) → R9) → R9) (fun P9 hP9 => ?_) ?_
  · clear HQ
    walk_at "D54 go"
    walk_at "D54 end"
    rename_i F2 N2
    exact hP9 _ fun _ k9 => k9 _ _ [_] _ F2 N2 hm0 rfl (.cons ⟨_, rfl⟩ .nil)
  clear F0 N hm0
  intro h1 tk1 xq1
  refine xq1 _ fun m1 kp1 vs1 c1 F1 N1 hw1 hk1 hP1 => ?_
  clear xq1
  try dsimp only
  refine cutH (fun h' => ∀ R9 : Prop, (∀ m' kp vs c o, (Fr s.heap L h' m') → (News s.heap L h' [(kp, listOf (List.toArray vs) c), (L + 1, o)]) → (m' "kept" = some (.ref kp)) → (Paired TxIs (choices a) vs) → R9) → R9) (fun P9 hP9 => ?_) ?_
  · clear HQ
    refine wpAny_For (cut (fun v h' => ∀ R9 : Prop, ((v = .str (tx a) t1) → (Fr s.heap L h' m1) → (News s.heap L h' [(kp1, listOf (List.toArray vs1) c1), (L + 1, o1)]) → R9) → R9) ?_ ?_)
    · walk_at "D54 go"
      walk_at "D54 end"
      exact fun _ kC => kC rfl F1 N1
    clear F1 N1
    intro v h2 tk2 xq2
    refine xq2 _ fun eq1 F2 N2 => ?_
    clear xq2
    refine hideG fun R9 hR9 => ?_
    obtain rfl := eq1
    refine hR9 ?_
    clear hR9 R9
    refine for_str rfl (fun c hc => sg_ascii (hsa c hc)) (fun i h => Ex6 fun m kp vs c o x => And6 (Fr s.heap L h m) (News s.heap L h [(kp, listOf (List.toArray vs) c), (L + 1, o)]) (kp ≠ h2.objs.size) (o.data = .cell x) (m "kept" = some (.ref kp)) (Paired TxIs (choices (a.take i)) vs)) ?_ ?_ ?_ ?_ ?_
    · exact ⟨m1, kp1, vs1, c1, o1, _, F2, N2, Nat.ne_of_lt (Heap.lt_size (N2 _ (.head _)).1), d1, hk1, hP1⟩
    · rintro I hIe hIn i h h' xq3 hk
      refine hideG fun R9 hR9 => ?_
      obtain ⟨m, kp, vs, c, o, x, F, N, hkI, hod, hkp, hP⟩ := xq3
      refine hR9 ?_
      clear hR9 R9
      have hI1 : L + 1 ≠ I := fun e => by
        have := (N2 _ (.tail _ (.head _))).1
        rw [e, hIn] at this; cases this
      refine ⟨m, kp, vs, c, o, x, fr_but F2 hIn F hk, fun p hp => ⟨hk _ _ ?_ (N p hp).1, (N p hp).2⟩, hkI, hod, hkp, hP⟩
      rcases List.mem_cons.mp hp with rfl | hp
      · rw [hIe]; exact hkI
      · rw [List.mem_singleton.mp hp]; exact hI1
    · rintro I i c tv h tk it hc hIe hIn hIt xq4
      refine hideG fun R9 hR9 => ?_
      obtain ⟨m, kp, vs, c', o, x, F, N, hkI, hod, hkp, hP⟩ := xq4
      refine hR9 ?_
      clear hR9 R9
      have N0 := news_it F2 hIn hIt N
      have hI1 : I ≠ L + 1 := fun e => by
        have := (N2 _ (.tail _ (.head _))).1
        rw [← e, hIn] at this; cases this
      have hk1' : kp ≠ L + 1 := fun e => by
        have e1 := (N _ (.head _)).1
        have e2 := (N _ (.tail _ (.head _))).1
        rw [show (kp, listOf (List.toArray vs) c').1 = L + 1 from e, show (L + 1 : Nat) = (L + 1, o).1 from rfl, e2] at e1
        have e3 := congrArg Obj.data (Option.some.inj e1)
        rw [show (L + 1, o).2 = o from rfl, hod] at e3; cases e3
      clear F2 N2 N
      refine cut (fun _ h' => ∀ R9 : Prop, (∀ o', (Fr s.heap L h' m) → (News s.heap L h' [(I, it), (kp, listOf (List.toArray vs) c'), (L + 1, o')]) → (o'.data = .cell (some (.str (tx [c]) tv))) → R9) → R9) ?_ ?_
      · exact st_cell F N0 (fun o' => Upd.tail hI1 (Upd.tail hk1' (Upd.head fun p hp => nomatch hp))) hod rfl rfl rfl fun h' o' F' N' d' => End.mk' rfl (fun _ kC => kC o' F' N' d')
      clear F N0
      intro _ h3 tk3 xq5
      refine xq5 _ fun o3 F3 N3 hd3 => ?_
      clear xq5
      have hl3 : h3.IsList kp (List.toArray vs) := ⟨_, (N3 _ (.tail _ (.head _))).1, rfl, _, rfl⟩
      refine cutH (fun h' => ∀ R9 : Prop, (∀ m' kp' vs' c'', (Fr s.heap L h' m') → (News s.heap L h' [(kp', listOf (List.toArray vs') c''), (I, it), (L + 1, o3)]) → (m' "kept" = some (.ref kp')) → (kp' ≠ I) → (Paired TxIs (choices (a.take (i + 1))) vs') → R9) → R9) (fun P9 hP9 => ?_) ?_
      · walk_at "D54 go"
        unfold Halt
        have hvl : vs.length ≤ 16 := by
          have e1 := paired_len hP
          have e2 := choices_size (a.take i)
          have e3 : (a.take i).length ≤ 4 := by rw [List.length_take]; (exact om329 ha4)
          have e4 : 2 ^ (a.take i).length ≤ 2 ^ 4 := Nat.pow_le_pow_right (by decide) e3
          (exact om330 e1 e2 e4)
        refine comp_list (cl := [(PySem.Str.ofString "sign", L + 1)]) (fun _ => true) (fun v y => ∃ c' t t', v = .str (tx c') t ∧ y = .str (tx (c' ++ [c])) t') rfl rfl (by decide) rfl (by decide) rfl (ldLoc F3 hkp ⟨kp, vs, rfl, hl3, by (exact om331 hvl), ?_, ?_, ?_⟩) (fun _ => rfl)
        · intro C v s₃ m₃ _ _ _ _ _
          exact wpAny_pure ⟨rfl, _, _, rfl, fun _ _ e => e⟩
        · intro C v s₃ m₃ hC hv _ hn hm hE
          refine hideG fun R9 hR9 => ?_
          obtain ⟨c1, hc1, t1', rfl⟩ := paired_mem hP v hv
          refine hR9 ?_
          clear hR9 R9
          have hl1 := choices_len _ c1 hc1
          have hl2 : (a.take i).length ≤ 4 := by rw [List.length_take]; (exact om329 ha4)
          refine wpAny_BinOp (wpAny_Name (wpAny_loadName_local rfl rfl hn hm (wpAny_Name (wpAny_loadName_cell rfl rfl rfl ⟨o3, hE _ _ (N3 _ (.tail _ (.tail _ (.head _)))).1, hd3⟩ (add_str (fun t' tk => ?_) ?_)) (by decide))) (by decide))
          · rw [tx_append]
            exact ⟨⟨c1, t1', t', rfl, rfl⟩, _, _, rfl, fun _ _ e => e⟩
          · rw [tx_len, tx_len, sizeLine_eq]; simp; (exact om332 hl1 hl2)
        · intro D h' tk ys hD hpl hPd hE
          refine hideG fun R9 hR9 => ?_
          obtain ⟨nD, hgD⟩ := hpl
          refine hR9 ?_
          clear hR9 R9
          have F4 := F3.keeps hE
          have N4 := news_ext N3 hE
          rw [List.filter_eq_self.mpr (fun _ _ => rfl)] at hPd
          have hlD : h'.IsList D (List.toArray ys.toList) := ⟨_, hgD, rfl, nD, by simp⟩
          refine add_lists F4 N4 (hl3.at fun o e => hE _ _ e) hlD (fun h5 F5 N5 => ?_) ?_
          · have hPv : Paired TxIs (choices (a.take (i + 1))) (vs ++ ys.toList) := by
              rw [choices_take hc]
              exact paired_append hP (paired_mapl (paired_map (fun x y z ⟨t, e1⟩ ⟨c', t2, t3, e2, e3⟩ => by
                rw [e1] at e2
                have e4 := tx_inj (Value.str.inj e2).1
                subst e4
                exact ⟨t3, e3⟩) hP hPd))
            have hDI : h'.objs.size ≠ I := Nat.ne_of_gt (Heap.lt_size (N4 _ (.head _)).1)
            clear F3 N3 F4 N4
            walk_at "D54 go"
            walk_at "D54 end"
            rename_i F6 N6
            exact hP9 _ fun _ k9 => k9 _ _ (vs ++ ys.toList) 0 F6 (fun p hp => N6 p (by
              rcases List.mem_cons.mp hp with rfl | hp
              · exact .head _
              · rcases List.mem_cons.mp hp with rfl | hp
                · exact .tail _ (.head _)
                · exact .tail _ (.tail _ (.tail _ hp)))) rfl hDI hPv
          · have e := paired_len hPd
            rw [sizeLine_eq, ← e]; (exact om333 hvl)
      intro h4 tk4 xq6
      refine xq6 _ fun m4 kp4 vs4 c4 F4 N4 hk4 hkI4 hP4 => ?_
      clear xq6
      try dsimp only
      refine wpAny_execs_nil ?_
      exact ⟨h4, tk4, rfl, ⟨m4, kp4, vs4, c4, o3, _, F4, fun p hp => N4 p (by rcases List.mem_cons.mp hp with rfl | hp; exact .head _; exact .tail _ (.tail _ hp)), by rw [← hIe]; exact hkI4, hd3, hk4, hP4⟩, (N4 _ (.tail _ (.head _))).1⟩
    · rintro h tk xq7
      refine hideG fun R9 hR9 => ?_
      obtain ⟨m, kp, vs, c, o, x, F, N, hkI, hod, hkp, hP⟩ := xq7
      refine hR9 ?_
      clear hR9 R9
      rw [List.take_length] at hP
      walk_at "D54 up"
      exact End.mk' rfl (hP9 _ fun _ k9 => k9 m kp vs c o F N hkp hP)
    · intro I v; rfl
  intro h4 tk4 xq8
  refine xq8 _ fun m4 kp vs c o F4 N4 hk4 hP4 => ?_
  clear xq8
  try dsimp only
  walk_at "D54 go"
  exact HQ _ _ _ _ _ F4.keep (N4 _ (.head _)).2.2 (N4 _ (.head _)).1 hP4
-- D54Cost
/-- append to a list of the ledger -/
theorem app_news {w : World} {A : Around} {E : Value → Shared → Prop} {s : Shared} {h₀ : Heap} {L : Addr} {m : PySem.Str → Option Value} {news : List (Addr × Obj)} {D : Addr} {vs : List Value} {c : Nat} {x : Value} {g : Obj → List (Addr × Obj)} {Q : Value → Shared → Prop}
    (F : Fr h₀ L s.heap m) (N : News h₀ L s.heap news) (U : ∀ o', Upd D (listOf (List.toArray vs) c) o' news (g o')) (hsz : vs.length ≤ 1000)
    (h : ∀ h', Fr h₀ L h' m → News h₀ L h' (g (listOf (List.toArray (vs ++ [x])) (c + 1))) → Q .none { s with heap := h' }) : wpAny (model prog w) A (call (.builtin "list.append") [.ref D, x]) Q E s := by
  have hm : (D, listOf (List.toArray vs) c) ∈ news := by
    refine hideG fun R9 hR9 => ?_
    obtain ⟨pre, post, e1, _, _, _⟩ := (U (listOf (List.toArray vs) c)).split
    refine hR9 ?_
    clear hR9 R9
    rw [e1]; exact List.mem_append_right _ (.head _)
  refine append_at (hsz := by rw [List.size_toArray, sizeLine_eq]; (exact om252 hsz)) (N _ hm).1 fun h' hs ho => ?_
  refine h h' (F.change hs (N _ hm).2.1 (N _ hm).2.2) ?_
  refine hideG fun R9 hR9 => ?_
  obtain ⟨pre, post, e1, e2, x1, x2⟩ := (U (listOf (List.toArray (vs ++ [x])) (c + 1))).split
  refine hR9 ?_
  clear hR9 R9
  rw [e2]
  rw [e1] at N
  refine news_set N x1 x2 hs ?_
  rw [ho, List.push_toArray]
theorem ne_at {h : Heap} {a b : Addr} {o : Obj} (ha : h.get? a = some o) (hb : h.get? b = none) : a ≠ b := fun e => by rw [e, hb] at ha; cases ha
theorem nin4 {b n : Nat} (h : b < n) : b ∉ ([n + 4, n + 3, n, n + 1] : List Nat) := by simp; (exact om467 h)
theorem in5 {b n : Nat} (hm : b ∈ ([n + 4, n + 2, n + 3, n, n + 1] : List Nat)) : b < n + 5 := by simp at hm; (exact om468 hm)
theorem none_up {h h' : Heap} {D : Addr} (hk : ∀ b o, h.get? b = some o → h'.get? b = some o) (hn : h'.get? D = none) : h.get? D = none := by
  cases e : h.get? D with
  | none => rfl
  | some o => rw [hk _ _ e] at hn; cases hn
theorem ne_frame {h₀ h : Heap} {L D : Addr} {m : PySem.Str → Option Value} (F : Fr h₀ L h m) (hn : h.get? D = none) : D ≠ L := fun e => by
  refine hideG fun R9 hR9 => ?_
  obtain ⟨o, _, _, ho, _⟩ := F.ns
  refine hR9 ?_
  clear hR9 R9
  rw [← e, hn] at ho; cases ho
theorem zs_zip : ∀ l1 l2 : List Nat, zs l1 l2 = (List.zipWith sub l1 l2).sum
  | [], _ => by simp [zs]
  | _ :: _, [] => by simp [zs]
  | x :: xs, y :: ys => by rw [zs, zs_zip xs ys]; simp
theorem zs_rev {l1 l2 : List Nat} (h : l1.length = l2.length) : zs l1.reverse l2.reverse = zs l1 l2 := by
  rw [zs_zip, zs_zip, ← List.reverse_zipWith h, List.sum_reverse]
theorem sum_cast : ∀ l : List Nat, (l.map (fun n : Nat => (n : Int))).sum = ((l.sum : Nat) : Int)
  | [] => rfl
  | x :: l => by simp only [List.map_cons, List.sum_cons, sum_cast l]; (exact om469)
theorem zs_range {l1 l2 : List Nat} (h : l1.length = l2.length) : ((List.range l1.length).map (fun i => ((sub (l1.getD i 0) (l2.getD i 0) : Nat) : Int))).sum = (zs l1 l2 : Nat) := by
  rw [zs_zip, ← sum_cast]
  congr 1
  refine List.ext_getElem (by simp [h]) fun i h1 h2 => ?_
  have hi : i < l1.length := by simpa using h1
  have hi2 : i < l2.length := by (exact om201 h hi)
  simp [hi, hi2]
theorem ints_ofC {f : Nat → Int} {xs : List Nat} {ys : List Value} (p : Paired (fun i y => ∃ t, y = .int (f i) t) xs ys) : IntsAre ys (xs.map f) := by
  induction p with
  | nil => exact .nil
  | cons e r ih => obtain ⟨t, rfl⟩ := e; exact .cons _ t ih
theorem ints_snoc {n : Int} {t : Tok} {vs : List Value} {ns : List Int} (p : IntsAre vs ns) : IntsAre (vs ++ [.int n t]) (ns ++ [n]) := by
  induction p with
  | nil => exact .cons n t .nil
  | cons a b r ih => exact .cons a b ih
theorem ints_len : ∀ {vs : List Value} {ns : List Int}, IntsAre vs ns → vs.length = ns.length
  | _, _, .nil => rfl
  | _, _, .cons a b r => by rw [List.length_cons, List.length_cons, ints_len r]
/-- what the law reckons for two choices -/
def cst (a b s o : List Nat) : Int := (zs s o : Nat) + 2 * ((a.length : Int) + b.length - 2 * s.length)
theorem cst_low {a b s o : List Nat} (hs : s ∈ choices a) (ho : o ∈ choices b) (hl : s.length = o.length) : (dist a b : Int) ≤ cst a b s o := by
  have ea := choices_ch a.reverse
  have eb := choices_ch b.reverse
  rw [List.reverse_reverse] at ea eb
  rw [ea] at hs; rw [eb] at ho
  refine hideG fun R9 hR9 => ?_
  obtain ⟨s', hs', rfl⟩ := List.mem_map.mp hs
  refine hR9 ?_
  clear hR9 R9
  refine hideG fun R9 hR9 => ?_
  obtain ⟨o', ho', rfl⟩ := List.mem_map.mp ho
  refine hR9 ?_
  clear hR9 R9
  have hl' : s'.length = o'.length := by simpa using hl
  have := ch_lower _ _ s' o' hs' ho' hl'
  unfold cst dist
  rw [zs_rev hl']
  simp only [List.length_reverse] at this ⊢
  (exact om470 this)
theorem cst_hit (a b : List Nat) : ∃ s ∈ choices a, ∃ o ∈ choices b, s.length = o.length ∧ cst a b s o = (dist a b : Int) := by
  have ea := choices_ch a.reverse
  have eb := choices_ch b.reverse
  rw [List.reverse_reverse] at ea eb
  refine hideG fun R9 hR9 => ?_
  obtain ⟨s', o', hs', ho', hl', e⟩ := ch_upper a.reverse b.reverse
  refine hR9 ?_
  clear hR9 R9
  refine ⟨s'.reverse, ?_, o'.reverse, ?_, by simpa using hl', ?_⟩
  · rw [ea]; exact List.mem_map_of_mem hs'
  · rw [eb]; exact List.mem_map_of_mem ho'
  · unfold cst dist
    rw [zs_rev hl']
    simp only [List.length_reverse] at e ⊢
    (exact om471 e)
theorem choices_ok {P : Nat → Prop} {w : List Nat} (h : ∀ c ∈ w, P c) : ∀ s ∈ choices w, ∀ c ∈ s, P c := by
  have go : ∀ (r : List Nat), (∀ c ∈ r, P c) → ∀ s ∈ choices r.reverse, ∀ c ∈ s, P c := by
    intro r
    induction r with
    | nil => intro _ s hs c hc; simp [choices] at hs; subst hs; simp at hc
    | cons a r ih =>
      intro hr s hs c hc
      rw [List.reverse_cons, choices_snoc] at hs
      rcases List.mem_append.mp hs with hs | hs
      · exact ih (fun c hc => hr c (.tail _ hc)) s hs c hc
      · refine hideG fun R9 hR9 => ?_
        obtain ⟨s', hs', rfl⟩ := List.mem_map.mp hs
        refine hR9 ?_
        clear hR9 R9
        rcases List.mem_append.mp hc with hc | hc
        · exact ih (fun c hc => hr c (.tail _ hc)) s' hs' c hc
        · rw [List.mem_singleton.mp hc]; exact hr _ (.head _)
  have := go w.reverse (fun c hc => h c (by simpa using hc))
  rwa [List.reverse_reverse] at this
/-- the costs found so far: i rows whole, j of the next -/
structure Cs (a b : List Nat) (i j : Nat) (ns : List Int) : Prop where
  low : ∀ n ∈ ns, (dist a b : Int) ≤ n
  row : ∀ s ∈ (choices a).take i, ∀ o ∈ choices b, s.length = o.length → cst a b s o ∈ ns
  now : ∀ s, (choices a)[i]? = some s → ∀ o ∈ (choices b).take j, s.length = o.length → cst a b s o ∈ ns
  len : ns.length ≤ 16 * i + j
theorem Cs.zero (a b : List Nat) : Cs a b 0 0 [] := ⟨nofun, by simp, by simp, Nat.le_refl _⟩
theorem mem_take_succ {α : Type} {l : List α} {i : Nat} {x : α} (h : l[i]? = some x) {y : α} (hy : y ∈ l.take (i + 1)) : y ∈ l.take i ∨ y = x := by
  rw [List.take_add_one, h] at hy
  rcases List.mem_append.mp hy with hy | hy
  · exact .inl hy
  · exact .inr (by simpa using hy)
theorem Cs.skip {a b : List Nat} {i j : Nat} {ns : List Int} (C : Cs a b i j ns) {s o : List Nat} (hs : (choices a)[i]? = some s) (ho : (choices b)[j]? = some o) (hl : s.length ≠ o.length) : Cs a b i (j + 1) ns :=
  ⟨C.low, C.row, fun s' hs' o' ho' hl' => by
    rcases mem_take_succ ho ho' with h | rfl
    · exact C.now s' hs' o' h hl'
    · rw [hs] at hs'; cases hs'; exact absurd hl' hl, Nat.le_succ_of_le C.len⟩
theorem Cs.add {a b : List Nat} {i j : Nat} {ns : List Int} (C : Cs a b i j ns) {s o : List Nat} (hs : (choices a)[i]? = some s) (ho : (choices b)[j]? = some o) (hl : s.length = o.length) : Cs a b i (j + 1) (ns ++ [cst a b s o]) :=
  ⟨fun n hn => by
    rcases List.mem_append.mp hn with hn | hn
    · exact C.low n hn
    · rw [List.mem_singleton.mp hn]; exact cst_low (List.mem_of_getElem? hs) (List.mem_of_getElem? ho) hl, fun s' h1 o' h2 h3 => List.mem_append_left _ (C.row s' h1 o' h2 h3), fun s' hs' o' ho' hl' => by
    rcases mem_take_succ ho ho' with h | rfl
    · exact List.mem_append_left _ (C.now s' hs' o' h hl')
    · rw [hs] at hs'; cases hs'; exact List.mem_append_right _ (.head _), by rw [List.length_append]; have := C.len; simp only [List.length_singleton]; (exact om472 this)⟩
theorem Cs.turn {a b : List Nat} {i : Nat} {ns : List Int} (hb : b.length ≤ 4) (C : Cs a b i (choices b).length ns) {s : List Nat} (hs : (choices a)[i]? = some s) : Cs a b (i + 1) 0 ns :=
  ⟨C.low, fun s' h1 o' h2 h3 => by
    rcases mem_take_succ hs h1 with h | rfl
    · exact C.row s' h o' h2 h3
    · exact C.now s' hs o' (by rw [List.take_length]; exact h2) h3, by simp, by
    have := C.len
    have e := choices_size b
    have : 2 ^ b.length ≤ 2 ^ 4 := Nat.pow_le_pow_right (by decide) hb
    (exact om473 (by assumption) e this)⟩
theorem Cs.min {a b : List Nat} {ns : List Int} (C : Cs a b (choices a).length 0 ns) : 0 < ns.length ∧ ∀ M, M ∈ ns → (∀ x, x ∈ ns → M ≤ x) → M = (dist a b : Int) := by
  refine hideG fun R9 hR9 => ?_
  obtain ⟨s, hs, o, ho, hl, e⟩ := cst_hit a b
  refine hR9 ?_
  clear hR9 R9
  have h := C.row s (by rw [List.take_length]; exact hs) o ho hl
  refine ⟨List.length_pos_of_mem h, fun M hM hx => ?_⟩
  have h1 := C.low M hM
  have h2 := hx _ h
  (exact om474 h1 e h2)
def upc (c : Nat) : Nat := if 97 ≤ c ∧ c ≤ 122 then c - 32 else c
theorem sub_up {x y : Nat} (hx : Sg x) (hy : Sg y) : sub x y = if tx [x] == tx [y] then 0 else if tx [upc x] == tx [upc y] then 1 else 2 := by
  rw [tx_beq, tx_beq]
  rcases hx with rfl | rfl | rfl | rfl <;> rcases hy with rfl | rfl | rfl | rfl <;> decide
theorem up_call {w : World} {A : Around} {E : Value → Shared → Prop} {s : Shared} {c : Nat} {t : Tok} {Q : Value → Shared → Prop} (hc : c < 128) (h : ∀ t' k, Q (.str (tx [upc c]) t') { s with toks := k }) :
    wpAny (model prog w) A (call (.builtin "str.upper") [.str (tx [c]) t]) Q E s := by
  have e : Txt.upper (tx [c]) = tx [upc c] := KOpn.upper_one hc
  exact KXw.upper e (by rw [e]; rfl) h
theorem haltV {M : Model} {A : Around} {f : Value} {vs : List Value} {kw : List (PySem.Str × Value)} {Q : Value → Shared → Prop} {E : Value → Shared → Prop} {s : Shared}
    (h : Halt (wpAny M A (call f vs kw) Q E s)) : wpAny M A (call f vs kw) Q E s := h
theorem haltA {M : Model} {A : Around} {y : PySem.Str} {py : Pos} {e : PySem.Expr} {gs : List Comprehension} {sc : Scope} {p sp : Pos} {env : Env} {Q : Flow → Shared → Prop} {E : Value → Shared → Prop} {s : Shared}
    (h : Halt (wpAny M A (exec (.Assign [.Name y py] (.ListComp e gs sc p) sp) env) Q E s)) : wpAny M A (exec (.Assign [.Name y py] (.ListComp e gs sc p) sp) env) Q E s := h
local macro_rules | `(tactic| walk_at "eval Name") => `(tactic| ((with_reducible show wpAny _ _ (eval _ (compEnvC _ _ _ _)) _ _ _); refine wpAny_Name (wpAny_loadName_local rfl rfl (by assumption) (by assumption) ?_) (by decide)))
local macro_rules | `(tactic| walk_at "call builtin:str.upper") => `(tactic| (refine up_call (by assumption) ?_; intro _ _))
local macro_rules | `(tactic| walk_at "call type:zip") => `(tactic| refine haltV ?_)
local macro_rules | `(tactic| walk_at "exec Assign cons ListComp") => `(tactic| refine haltA ?_)
local macro_rules | `(tactic| walk_at "call builtin:min") => `(tactic| ((with_reducible show wpAny _ _ (call (Value.builtin "min") [Value.ref _]) _ _ _); refine haltV ?_))
local macro_rules | `(tactic| walk_at "call builtin:sum") => `(tactic| ((with_reducible show wpAny _ _ (call (Value.builtin "sum") [Value.ref _]) _ _ _); refine haltV ?_))
local macro_rules | `(tactic| walk_at "call builtin:list.append") => `(tactic| refine haltV ?_)
set_option maxHeartbeats 4000000 in
theorem cost_call {w : World} {A : Around} {s : Shared} {E : Value → Shared → Prop} {Q : Value → Shared → Prop} {t1 t2 : Tok} {a b : List Nat} {mg mb : PySem.Str → Option Value}
  (W : Wd w mg mb s.heap) (hh : A.handled = none) (hd : A.depth < 800) (hu : A.units < 8000) (ha4 : a.length ≤ 4) (hsa : ∀ c ∈ a, Sg c) (hb4 : b.length ≤ 4) (hsb : ∀ c ∈ b, Sg c)
  (HQ : ∀ h' tk t, Ext s.heap h' → Q (.int (dist a b : Nat) t) ⟨h', s.gens, s.drawn, tk, s.os⟩) :
  wpAny (model prog w) A (call (.ref 59) [.str (tx a) t1, .str (tx b) t2]) Q E s := by
  have K := W.k
  have T : TopRead PySem.Challenge.rw_dn0054_01.prog [] mg mb s.heap := W.t
  revert T K
  k_fill
  w_on
  w_top on
  intro K T
  refine enter (binds := [(PySem.Str.ofString "one", .str (tx a) t1), (PySem.Str.ofString "two", .str (tx b) t2)]) hh (Nat.lt_trans hd (by decide)) (K _ _ (by k_is)) rfl T.nolimit (codeRec_of K (by k_is)) rfl (BindsTo.of_eq rfl) (by decide) (locs rfl) ?_ rfl rfl rfl
  intro L h₁ d fr gd u hL hd' hu' F N
  show wpAny _ _ (execs _ (envOf (PySem.Str.ofString "_law_cost") _ L 59 _)) _ _ _
  refine hideG fun R9 hR9 => ?_
  obtain ⟨m0, F0, ho0, ht0⟩ : ∃ m0, Fr s.heap L h₁ m0 ∧ m0 "one" = some (.str (tx a) t1) ∧ m0 "two" = some (.str (tx b) t2) := ⟨_, F, rfl, rfl⟩
  refine hR9 ?_
  clear hR9 R9
  clear F
  generalize s.toks + _ = tk₁
  refine cutH (fun h' => ∀ R9 : Prop, (∀ m' kp c, (Fr s.heap L h' m') → (News s.heap L h' [(kp, listOf (List.toArray []) c)]) → (m' "one" = some (.str (tx a) t1)) → (m' "two" = some (.str (tx b) t2)) → (m' "costs" = some (.ref kp)) → R9) → R9) (fun P9 hP9 => ?_) ?_
  · clear HQ
    walk_at "D54 go"
    walk_at "D54 end"
    rename_i F2 N2
    exact hP9 _ fun _ k9 => k9 _ _ _ F2 N2 ho0 ht0 rfl
  clear F0 N ho0 ht0
  intro h1 tk1 xq1
  refine xq1 _ fun m1 kp1 c1 F1 N1 ho1 ht1 hk1 => ?_
  clear xq1
  try dsimp only
  refine cutH (fun h' => ∀ R9 : Prop, (∀ m' kp vs c ns, (Fr s.heap L h' m') → (News s.heap L h' [(kp, listOf (List.toArray vs) c)]) → (m' "costs" = some (.ref kp)) → (IntsAre vs ns) → (Cs a b (choices a).length 0 ns) → R9) → R9) (fun P9 hP9 => ?_) ?_
  · clear HQ
    refine wpAny_For (cut (fun v h' => ∀ R9 : Prop, (∀ D ws c, (v = .ref D) → (h'.get? D = some (listOf (List.toArray ws) c)) → (Paired TxIs (choices a) ws) → (kp1 ≠ D) → (s.heap.get? D = none) → (D ≠ L) → (Fr s.heap L h' m1) → (News s.heap L h' [(kp1, listOf (List.toArray []) c1)]) → R9) → R9) ?_ ?_)
    · walk_at "D54 go"
      unfold Halt
      refine choices_call (W.keeps F1.keep) rfl (by dsimp only [Around.deeper, Around.in1, Around.under, Around.mark]; (exact om279 hd' hd)) (by dsimp only [Around.deeper, Around.in1, Around.under, Around.mark]; (exact om280 hu' hu)) ha4 hsa fun h' tk D ws c hE hDn hD hP => ?_
      walk_at "D54 end"
      have e : kp1 ≠ D := fun e => by
        have := (N1 _ (.head _)).1
        rw [show (kp1, listOf (List.toArray []) c1).1 = D from e, hDn] at this; cases this
      exact fun _ kC => kC D ws c rfl hD hP e (none_up F1.keep hDn) (ne_frame F1 hDn) (F1.keeps hE) (news_ext N1 hE)
    clear F1 N1
    intro v h2 tk2 xq2
    refine xq2 _ fun D ws c eq1 hD hP hkD hD0 hDL F2 N2 => ?_
    clear xq2
    refine hideG fun R9 hR9 => ?_
    obtain rfl := eq1
    refine hR9 ?_
    clear hR9 R9
    dsimp only
    have hwl : ws.length = (choices a).length := (paired_len hP).symm
    refine for_list rfl ⟨_, hD, rfl, _, rfl⟩ (fun i h => Ex5 fun m kp vs c ns => And8 (Fr s.heap L h m) (News s.heap L h [(kp, listOf (List.toArray vs) c)]) (kp = kp1) (m "one" = some (.str (tx a) t1)) (m "two" = some (.str (tx b) t2)) (m "costs" = some (.ref kp)) (IntsAre vs ns) (Cs a b i 0 ns)) ?_ ?_ ?_ ?_ ?_
    · exact ⟨m1, kp1, [], c1, [], F2, N2, rfl, ho1, ht1, hk1, .nil, Cs.zero a b⟩
    · rintro I hIe hIn i h h' xq3 hk
      refine hideG fun R9 hR9 => ?_
      obtain ⟨m, kp, vs, c, ns, F, N, rfl, r1, r2, r3, r4, r5⟩ := xq3
      refine hR9 ?_
      clear hR9 R9
      refine ⟨m, kp, vs, c, ns, fr_but F2 hIn F hk, fun p hp => ⟨hk _ _ ?_ (N p hp).1, (N p hp).2⟩, rfl, r1, r2, r3, r4, r5⟩
      rw [List.mem_singleton.mp hp]
      exact fun e => by have := (N2 _ (.head _)).1; rw [show (kp, listOf (List.toArray ([] : List Value)) c1).1 = I from e, hIn] at this; cases this
    · rintro I i v h tk it lo hv - (hIn : h2.get? I = none) hIt hlo0 hlo xq4
      refine hideG fun R9 hR9 => ?_
      obtain ⟨m, kp, vs, c', ns, F, N, rfl, ho, ht, hk, hI, hC⟩ := xq4
      refine hR9 ?_
      clear hR9 R9
      dsimp only
      refine hideG fun R9 hR9 => ?_
      obtain ⟨x, hx, t, rfl⟩ := paired_get hP i v hv
      refine hR9 ?_
      clear hR9 R9
      have hxc := List.mem_of_getElem? hx
      have hxl : x.length ≤ 4 := Nat.le_trans (choices_len _ _ hxc) ha4
      have hxs : ∀ c ∈ x, Sg c := choices_ok hsa x hxc
      have N0 : News s.heap L h [(I, it), (D, lo), (kp, listOf (List.toArray vs) c')] := fun p hp => by
        rcases List.mem_cons.mp hp with rfl | hp
        · exact news_it F2 hIn hIt N _ (.head _)
        · rcases List.mem_cons.mp hp with rfl | hp
          · exact ⟨hlo, hDL, hD0⟩
          · exact N p hp
      have hkI : kp ≠ I := ne_at (N2 _ (.head _)).1 hIn
      clear F2 N2 N
      refine cut (fun _ h' => ∀ R9 : Prop, (∀ m', (Fr s.heap L h' m') → (News s.heap L h' [(I, it), (D, lo), (kp, listOf (List.toArray vs) c')]) → (m' "one" = some (.str (tx a) t1)) → (m' "two" = some (.str (tx b) t2)) → (m' "costs" = some (.ref kp)) → (m' "some" = some (.str (tx x) t)) → R9) → R9) ?_ ?_
      · walk_at "D54 go"
        walk_at "D54 end"
        rename_i F5 N5
        exact fun _ kC => kC _ F5 N5 ho ht hk rfl
      clear F N0 ho ht hk
      intro _ h3 tk3 xq5
      refine xq5 _ fun m3 F3 N3 ho3 ht3 hk3 hs3 => ?_
      clear xq5
      dsimp only
      refine cutH (fun h' => ∀ R9 : Prop, (∀ m' vs' c'' ns', (Fr s.heap L h' m') → (News s.heap L h' [(I, it), (D, lo), (kp, listOf (List.toArray vs') c'')]) → (m' "one" = some (.str (tx a) t1)) → (m' "two" = some (.str (tx b) t2)) → (m' "costs" = some (.ref kp)) → (IntsAre vs' ns') → (Cs a b i (choices b).length ns') → R9) → R9) (fun P9 hP9 => ?_) ?_
      · refine wpAny_For (cut (fun v h' => ∀ R9 : Prop, (∀ D2 ws2 c2, (v = .ref D2) → (h'.get? D2 = some (listOf (List.toArray ws2) c2)) → (Paired TxIs (choices b) ws2) → (kp ≠ D2) → (s.heap.get? D2 = none) → (D2 ≠ L) → (Fr s.heap L h' m3) → (News s.heap L h' [(I, it), (D, lo), (kp, listOf (List.toArray vs) c')]) → R9) → R9) ?_ ?_)
        · walk_at "D54 go"
          unfold Halt
          refine choices_call (W.keeps F3.keep) rfl (by dsimp only [Around.deeper, Around.in1, Around.under, Around.mark]; (exact om279 hd' hd)) (by dsimp only [Around.deeper, Around.in1, Around.under, Around.mark]; (exact om280 hu' hu)) hb4 hsb fun h' tk D2 ws2 c2 hE hDn hD2 hP2 => ?_
          walk_at "D54 end"
          exact fun _ kC => kC D2 ws2 c2 rfl hD2 hP2 (ne_at (N3 _ (.tail _ (.tail _ (.head _)))).1 hDn) (none_up F3.keep hDn) (ne_frame F3 hDn) (F3.keeps hE) (news_ext N3 hE)
        clear F3 N3
        intro v h4 tk4 xq6
        refine xq6 _ fun D2 ws2 c2 eq2 hD2 hP2 hkD2 hD20 hD2L F4 N4 => ?_
        clear xq6
        refine hideG fun R9 hR9 => ?_
        obtain rfl := eq2
        refine hR9 ?_
        clear hR9 R9
        dsimp only
        have hwl2 : ws2.length = (choices b).length := (paired_len hP2).symm
        refine for_list rfl ⟨_, hD2, rfl, _, rfl⟩ (fun j h => Ex4 fun m vs c ns => And8 (Fr s.heap L h m) (News s.heap L h [(I, it), (D, lo), (kp, listOf (List.toArray vs) c)]) (m "one" = some (.str (tx a) t1)) (m "two" = some (.str (tx b) t2)) (m "costs" = some (.ref kp)) (m "some" = some (.str (tx x) t)) (IntsAre vs ns) (Cs a b i j ns)) ?_ ?_ ?_ ?_ ?_
        · exact ⟨m3, vs, c', ns, F4, N4, ho3, ht3, hk3, hs3, hI, hC⟩
        · rintro J hJe hJn j h h' xq7 hk
          refine hideG fun R9 hR9 => ?_
          obtain ⟨m, vs, c, ns, F, N, r1, r2, r3, r4, r5, r6⟩ := xq7
          refine hR9 ?_
          clear hR9 R9
          exact ⟨m, vs, c, ns, fr_but F4 hJn F hk, news_but N4 hJn N rfl hk, r1, r2, r3, r4, r5, r6⟩
        · rintro J j v h tk it2 lo2 hv - (hJn : h4.get? J = none) hJt hlo20 hlo2 xq8
          refine hideG fun R9 hR9 => ?_
          obtain ⟨m, vs, c, ns, F, N, ho, ht, hk, hs, hI, hC⟩ := xq8
          refine hR9 ?_
          clear hR9 R9
          dsimp only
          refine hideG fun R9 hR9 => ?_
          obtain ⟨y, hy, t', rfl⟩ := paired_get hP2 j v hv
          refine hR9 ?_
          clear hR9 R9
          have hyc := List.mem_of_getElem? hy
          have hyl : y.length ≤ 4 := Nat.le_trans (choices_len _ _ hyc) hb4
          have hys : ∀ c ∈ y, Sg c := choices_ok hsb y hyc
          have hnl : vs.length ≤ 300 := by
            have e1 := ints_len hI
            have e2 := hC.len
            have e3 : j < (choices b).length := by have := (List.getElem?_eq_some_iff.mp hy).1; exact this
            have e4 : i < (choices a).length := (List.getElem?_eq_some_iff.mp hx).1
            have e5 := choices_size b
            have e6 := choices_size a
            have e7 : 2 ^ b.length ≤ 2 ^ 4 := Nat.pow_le_pow_right (by decide) hb4
            have e8 : 2 ^ a.length ≤ 2 ^ 4 := Nat.pow_le_pow_right (by decide) ha4
            (exact om475 e1 e7 e5 e3 e2 e4 e6 e8)
          have N0 : News s.heap L h [(J, it2), (D2, lo2), (I, it), (D, lo), (kp, listOf (List.toArray vs) c)] := fun p hp => by
            rcases List.mem_cons.mp hp with rfl | hp
            · exact news_it F4 hJn hJt N _ (.head _)
            · rcases List.mem_cons.mp hp with rfl | hp
              · exact ⟨hlo2, hD2L, hD20⟩
              · exact N p hp
          have hkJ : kp ≠ J := ne_at (N4 _ (.tail _ (.tail _ (.head _)))).1 hJn
          clear F4 N4 N hlo20 hlo2 hJt hlo0 hlo hIt hD hP hwl hD2 hP2 hwl2 hv ho3 ht3 hk3 hs3 ho1 ht1 hk1
          refine cut (fun _ h' => ∀ R9 : Prop, (∀ m', (Fr s.heap L h' m') → (News s.heap L h' [(J, it2), (D2, lo2), (I, it), (D, lo), (kp, listOf (List.toArray vs) c)]) → (m' "one" = some (.str (tx a) t1)) → (m' "two" = some (.str (tx b) t2)) → (m' "costs" = some (.ref kp)) → (m' "some" = some (.str (tx x) t)) → (m' "others" = some (.str (tx y) t')) → R9) → R9) ?_ ?_
          · walk_at "D54 go"
            walk_at "D54 end"
            rename_i F5 N5
            exact fun _ kC => kC _ F5 N5 ho ht hk hs rfl
          clear F N0 ho ht hk hs
          intro _ h5 tk5 xq9
          refine xq9 _ fun m5 F5 N5 ho5 ht5 hk5 hs5 hy5 => ?_
          clear xq9
          dsimp only
          refine cutH (fun h' => ∀ R9 : Prop, (∀ m' vs' c'' ns', (Fr s.heap L h' m') → (News s.heap L h' [(J, it2), (D2, lo2), (I, it), (D, lo), (kp, listOf (List.toArray vs') c'')]) → (m' "one" = some (.str (tx a) t1)) → (m' "two" = some (.str (tx b) t2)) → (m' "costs" = some (.ref kp)) → (m' "some" = some (.str (tx x) t)) → (IntsAre vs' ns') → (Cs a b i (j + 1) ns') → R9) → R9) (fun P9 hP9 => ?_) ?_
          · have lx := tx_len x
            have ly := tx_len y
            walk_at "D54 go"
            · rename_i hle tk8
              have hxy : x.length = y.length := by (exact om476 lx ly tk8)
              unfold Halt
              refine cutB (fun h' => ∀ R9 : Prop, (∀ m' ys D3, (Fr s.heap L h' m') → (News s.heap L h' [(D3, PyProof.Rows.LCg.lst ys), (J, it2), (D2, lo2), (I, it), (D, lo), (kp, listOf (List.toArray vs) c)]) → (m' "one" = some (.str (tx a) t1)) → (m' "two" = some (.str (tx b) t2)) → (m' "costs" = some (.ref kp)) → (m' "some" = some (.str (tx x) t)) → (m' "changes" = some (.ref D3)) → (kp ≠ D3) → (IntsAre ys ((List.range x.length).map fun i => ((sub (x.getD i 0) (y.getD i 0) : Nat) : Int))) → R9) → R9) (fun P9 hP9 => ?_) ?_
              · refine cg_assign (cl := []) (fun _ => true) x.length (fun i v _ => ∃ t, v = .int ((sub (x.getD i 0) (y.getD i 0) : Nat) : Int) t) (by with_unfolding_all rfl) rfl (by decide) rfl (by decide) rfl rfl ?_
                refine cut (fun v h' => ∀ R9 : Prop, (∀ n, (v = .ref (n + 4)) → (n = h5.objs.size) → (IsZip h' (n + 4) (n + 2) (n + 3) .none) → (IsPair h' (n + 2) (.ref n) (.ref (n + 1))) → (IsPair h' (n + 3) .none .none) → (SI h' n x t 0) → (SI h' (n + 1) y t' 0) → (h'.objs.size = n + 5) → (Ext h5 h') → R9) → R9) ?_ ?_
                · walk_at "D54 go"
                  unfold Halt
                  refine zs_call (fun c hc => sg_ascii (hxs c hc)) (fun c hc => sg_ascii (hys c hc)) fun h' e1 e2 e3 e4 e5 e6 e7 => ?_
                  walk_at "D54 up"
                  exact End.mk' rfl (fun _ kC => kC _ rfl rfl e1 e2 e3 e4 e5 e6 e7)
                intro v h6 tk6 xq10
                refine xq10 _ fun n eq3 hn hz hTI hTO h1' h2' hsz hE => ?_
                clear xq10
                refine hideG fun R9 hR9 => ?_
                obtain rfl := eq3
                refine hR9 ?_
                clear hR9 R9
                dsimp only
                have F6 := F5.keeps hE
                have N6 := news_ext N5 hE
                have low : ∀ b o, h5.get? b = some o → b < n := fun b o e => by rw [hn]; exact Heap.lt_size e
                have hw : ∀ b o, h5.get? b = some o → b ∉ [n + 4, n + 3, n, n + 1] := fun b o e => nin4 (low b o e)
                have hLw : (L : Addr) ∉ [n + 4, n + 3, n, n + 1] := by obtain ⟨o, _, _, ho, _⟩ := F5.ns; exact hw L o ho
                refine wpAny_pyIter_zip hz ?_
                refine ⟨n + 4, [n + 4, n + 3, n, n + 1], m5, rfl, ⟨_, _, _, _, fun i m => ∃ c1 c2 u v, x[i]? = some c1 ∧ y[i]? = some c2 ∧ m "a" = some (.str (tx [c1]) u) ∧ m "b" = some (.str (tx [c2]) v), KTurns.ofWalksU (zs_walks (t1 := t) (t2 := t') rfl (za_new n) hxy).toU, fun s Q E st q => wpAny_pyIter_zip st.1 q, by (exact om352 hxl), fun _ _ _ _ _ g => g, ⟨hz, hTI, ⟨_, _, hTO⟩, h1', h2'⟩, ?_, ?_, ?_, ?_⟩, hLw, F6.ns, ?_⟩
                · intro b hb
                  exact hsz ▸ in5 hb
                · rintro C i v s₃ m₃ Q' E' hi xq11 hn3 hq
                  refine hideG fun R9 hR9 => ?_
                  obtain ⟨T, vals, rfl, ⟨c1, c2, u, v, e1, e2, rfl⟩, hT⟩ := xq11
                  refine hR9 ?_
                  clear hR9 R9
                  refine cg_pair rfl rfl rfl rfl (by decide) hT hn3 fun h' tk m' hn' hm' hk' => hq h' tk m' hn' ⟨c1, c2, u, v, e1, e2, hm'⟩ hk'
                · intro C i s₃ m₃ _ _ _ _ _
                  exact wpAny_tests_nil ⟨rfl, _, _, rfl, fun _ _ e => e⟩
                · rintro C i xq12 m₃ _ hi _ hn3 xq13 hk3
                  refine hideG fun R9 hR9 => ?_
                  obtain ⟨h7, g7, dr7, tk7, os7⟩ := xq12
                  obtain ⟨c1, c2, u, v, e1, e2, hma, hmb⟩ := xq13
                  refine hR9 ?_
                  clear hR9 R9
                  have hc1 := hxs c1 (List.mem_of_getElem? e1)
                  have hc2 := hys c2 (List.mem_of_getElem? e2)
                  have hb1 := sg_ascii hc1
                  have hb2 := sg_ascii hc2
                  have esub : sub (x.getD i 0) (y.getD i 0) = sub c1 c2 := by simp [List.getD, e1, e2]
                  have e3 := sub_up hc1 hc2
                  refine cut (fun v h' => And ((∃ t, v = .int ((sub (x.getD i 0) (y.getD i 0) : Nat) : Int) t)) (Ext h7 h')) ?_ (fun v h' tk q => ⟨q.1, h', tk, rfl, q.2⟩)
                  rw [esub]
                  clear F5 N5 F6 N6
                  walk_at "D54 go"
                  all_goals walk_at "D54 end"
                  · rename_i q1
                    rw [e3, if_pos q1]
                    exact ⟨⟨_, rfl⟩, Ext.refl _⟩
                  · rename_i q1 _ _ _ _ q2
                    rw [e3, if_neg (by rw [q1]; decide), if_pos q2]
                    exact ⟨⟨_, rfl⟩, Ext.refl _⟩
                  · rename_i q1 _ _ _ _ q2
                    rw [e3, if_neg (by rw [q1]; decide), if_neg (by rw [q2]; decide)]
                    exact ⟨⟨_, rfl⟩, Ext.refl _⟩
                · intro D3 h' tk ys hD3 hD3e hlD hPr hns hk'
                  rw [List.filter_eq_self.mpr (fun _ _ => rfl)] at hPr
                  have hkL : ∀ b o, h5.get? b = some o → b ≠ L → h'.get? b = some o := fun b o e hb => hk' b o hb (hw b o e) (hE b o e)
                  walk_at "D54 up"
                  refine End.mk' rfl (hP9 _ fun _ k9 => k9 _ ys D3 ⟨hns, fun b o e => hkL b o (F5.keep b o e) (fun q => by
                      have := F5.above
                      have e' := Heap.lt_size e
                      rw [q] at e'
                      exact absurd e' (Nat.not_lt.mpr this)), F5.above⟩ (fun p hp => ?_) ho5 ht5 hk5 hs5 rfl (ne_at (N6 _ (.tail _ (.tail _ (.tail _ (.tail _ (.head _)))))).1 hD3) (ints_ofC hPr))
                  rcases List.mem_cons.mp hp with rfl | hp
                  · exact ⟨hlD, ne_frame F6 hD3, none_up F6.keep hD3⟩
                  · exact ⟨hkL _ _ (N5 p hp).1 (N5 p hp).2.1, (N5 p hp).2⟩
              clear F5 N5 ho5 ht5 hk5 hs5 hy5
              intro h8 tk8' xq14
              refine xq14 _ fun m8 ys D3 F8 N8 ho8 ht8 hk8 hs8 hch8 hkD3 hIy => ?_
              clear xq14
              have la := tx_len a
              have lb := tx_len b
              dsimp only
              walk_at "D54 go"
              unfold Halt
              refine LSm.sum_ints F8 N8 rfl ⟨_, (N8 _ (.head _)).1, rfl, _, rfl⟩ hIy fun h9 tk9 t9 F9 N9 => ?_
              rw [zs_range hxy]
              clear F8 N8
              walk_at "D54 go"
              unfold Halt
              refine app_news F9 N9 (fun o' => Upd.tail hkD3.symm (Upd.tail hkJ.symm (Upd.tail hkD2.symm (Upd.tail hkI.symm (Upd.tail hkD.symm (Upd.head fun p hp => nomatch hp)))))) (by (exact om477 hnl)) fun h10 F10 N10 => ?_
              rw [la, lb, lx] at N10
              clear F9 N9
              walk_at "D54 go"
              walk_at "D54 end"
              exact hP9 _ fun _ k9 => k9 m8 _ _ _ F10 (fun p hp => N10 p (.tail _ hp)) ho8 ht8 hk8 hs8 (ints_snoc hI) (hC.add hx hy hxy)
            · rename_i hle tk8
              have hne : x.length ≠ y.length := by (exact om478 lx ly tk8)
              walk_at "D54 up"
              exact End.mk' rfl (hP9 _ fun _ k9 => k9 m5 vs c ns F5 N5 ho5 ht5 hk5 hs5 hI (hC.skip hx hy hne))
          intro h6 tk6 xq15
          refine xq15 _ fun m6 vs6 c6 ns6 F6 N6 ho6 ht6 hk6 hs6 hI6 hC6 => ?_
          clear xq15
          try dsimp only
          refine wpAny_execs_nil ?_
          exact ⟨h6, tk6, rfl, ⟨m6, vs6, c6, ns6, F6, fun p hp => N6 p (.tail _ (.tail _ hp)), ho6, ht6, hk6, hs6, hI6, hC6⟩, (N6 _ (.head _)).1, (N6 _ (.tail _ (.head _))).1⟩
        · rintro h tk xq16
          refine hideG fun R9 hR9 => ?_
          obtain ⟨m, vs, c, ns, F, N, ho, ht, hk, hs, hI, hC⟩ := xq16
          refine hR9 ?_
          clear hR9 R9
          rw [hwl2] at hC
          walk_at "D54 up"
          exact End.mk' rfl (hP9 _ fun _ k9 => k9 m vs c ns F N ho ht hk hI hC)
        · intro I v; rfl
      intro h4 tk4 xq17
      refine xq17 _ fun m4 vs4 c4 ns4 F4 N4 ho4 ht4 hk4 hI4 hC4 => ?_
      clear xq17
      try dsimp only
      refine wpAny_execs_nil ?_
      exact ⟨h4, tk4, rfl, ⟨m4, kp, vs4, c4, ns4, F4, fun p hp => N4 p (.tail _ (.tail _ hp)), rfl, ho4, ht4, hk4, hI4, hC4.turn hb4 hx⟩, (N4 _ (.head _)).1, (N4 _ (.tail _ (.head _))).1⟩
    · rintro h tk xq18
      refine hideG fun R9 hR9 => ?_
      obtain ⟨m, kp, vs, c, ns, F, N, rfl, ho, ht, hk, hI, hC⟩ := xq18
      refine hR9 ?_
      clear hR9 R9
      rw [hwl] at hC
      walk_at "D54 up"
      exact End.mk' rfl (hP9 _ fun _ k9 => k9 m kp vs c ns F N hk hI hC)
    · intro I v; rfl
  intro h4 tk4 xq19
  refine xq19 _ fun m4 kp vs c ns F4 N4 hk4 hI4 hC4 => ?_
  clear xq19
  try dsimp only
  refine hideG fun R9 hR9 => ?_
  obtain ⟨hne, hmin⟩ := hC4.min
  refine hR9 ?_
  clear hR9 R9
  walk_at "D54 go"
  unfold Halt
  refine min_list_N rfl F4 N4 ⟨_, (N4 _ (.head _)).1, rfl, _, rfl⟩ hI4 hne fun h5 M t5 tk5 F5 N5 hM1 hM2 => ?_
  have hM := hmin M hM1 hM2
  subst hM
  walk_at "D54 go"
  exact HQ _ _ _ F5.keep
-- D54L0
theorem words_of {us : List Value} {ns : List Int} {ys : List Value} (h : IntsAre us ns) (p : Paired (fun v y => ∃ x t t', v = Value.int x t ∧ y = Value.str (tx (wrd x)) t') us ys) : Paired TxIs (ns.map wrd) ys := by
  induction h generalizing ys with
  | nil => cases p; exact .nil
  | cons n t r ih =>
    cases p with
    | cons e q =>
      obtain ⟨x, t', t'', e1, e2⟩ := e
      obtain ⟨rfl, rfl⟩ := Value.int.inj e1
      exact .cons ⟨t'', e2⟩ (ih q)
theorem haltS {M : Model} {A : Around} {value slice : PySem.Expr} {x y : Value} {Q : Value → Shared → Prop} {E : Value → Shared → Prop} {s : Shared}
    (h : Halt (wpAny M A (subscriptTail value slice x y) Q E s)) : wpAny M A (subscriptTail value slice x y) Q E s := h
section
variable {w : World} {A : Around} {E : Value → Shared → Prop} {s : Shared} {env : Env} {Q : Flow → Shared → Prop}
/-- a loop by what holds of the heap between the turns, the target any -/
theorem forT {target : PySem.Expr} {body : List Stmt} {I : Addr} {fp wr : List Addr} {n : Nat} {P Md : Nat → Value → Heap → Prop} {St : Nat → Heap → Prop} (W : KTurns prog w A target I fp wr n P Md St) (J : Nat → Heap → Prop)
    (hst : St 0 s.heap) (hJ : J 0 s.heap) (hJw : ∀ i h h', J i h → (∀ b o, b ∉ wr → h.get? b = some o → h'.get? b = some o) → J i h')
    (turn : ∀ i v h tk, i < n → P i v h → J i h → St (i + 1) h → wpAny (model prog w) A (assign target env v) (fun _ s₂ => wpAny (model prog w) A (execs body env) (fun f s₃ => match f with
      | .next | .cont => ∃ h' tk', s₃ = ⟨h', s.gens, s.drawn, tk', s.os⟩ ∧ J (i + 1) h' ∧ ∀ b ∈ fp, ∀ o, h.get? b = some o → h'.get? b = some o
      | .brk => Q .next s₃
      | .ret v => Q (.ret v) s₃) (fun _ _ => False) s₂) (fun _ _ => False) ⟨h, s.gens, s.drawn, tk, s.os⟩)
    (done : ∀ h tk, J n h → Q .next ⟨h, s.gens, s.drawn, tk, s.os⟩) :
    codeAny (model prog w) A (.forLoop target (.ref I) body [] env) (fun r s' => match r with | .ok f => Q f s' | .error e => cameBackBy (model prog w) A env E e s') s := by
  refine codeAny_forLoop_any (fun k s' => ∃ h tk i, s' = ⟨h, s.gens, s.drawn, tk, s.os⟩ ∧ i ≤ n ∧ k = n - i ∧ St i h ∧ J i h) ?_ (n - 0) ⟨s.heap, s.toks, 0, rfl, Nat.zero_le _, rfl, hst, hJ⟩
  rintro k s' ⟨h, tk, i, rfl, hi, rfl, hSt, hJi⟩
  by_cases hlt : i < n
  · refine W.item i _ _ _ hlt hSt fun v h' tk' hM hk => ?_
    refine W.go i v _ _ _ hM fun h2 hP hSt' hk2 => ?_
    refine wpAny_mono (turn i v h2 tk' hlt hP (hJw i _ _ hJi fun b o hb e => hk2 b o hb (hk b o hb e)) hSt') (fun _ s₂ h₂ => wpAny_mono h₂ (fun f s₃ h₃ => ?_) fun _ _ e => e.elim) fun _ _ e => e.elim
    cases f with
    | next =>
      obtain ⟨h3, tk3, rfl, hJ3, hf3⟩ := h₃
      exact ⟨n - (i + 1), by (exact om256 hlt), h3, tk3, i + 1, rfl, by (exact om257 hlt), rfl, W.frame _ _ _ hSt' hf3, hJ3⟩
    | cont =>
      obtain ⟨h3, tk3, rfl, hJ3, hf3⟩ := h₃
      exact ⟨n - (i + 1), by (exact om256 hlt), h3, tk3, i + 1, rfl, by (exact om257 hlt), rfl, W.frame _ _ _ hSt' hf3, hJ3⟩
    | brk => exact h₃
    | ret v => exact h₃
  · have hin : i = n := by (exact om258 hi hlt)
    subst hin
    refine W.done _ _ _ hSt fun h' tk' hk => wpAny_execs_nil ?_
    exact done h' tk' (hJw i _ _ hJi hk)
end
/-- an entry of a dict, a dict -/
def KvIs (e : Nat × Nat) (kv : Int × Value) : Prop := kv.1 = (e.1 : Int) ∧ ∃ t, kv.2 = .int (e.2 : Int) t
def DcIs (w : World) (e : List (Nat × Nat)) (p : Addr × Obj) : Prop := ∃ kvs, p.2.IsDictOf (intKind prog w) kvs ∧ Paired KvIs e kvs ∧ (p.1 == sysModules) = false
abbrev refs (ds : List (Addr × Obj)) : List Value := ds.map fun p => .ref p.1
theorem paired_getl {α β : Type} {F : α → β → Prop} {a : List α} {b : List β} (p : Paired F a b) (i : Nat) (x : α) (h : a[i]? = some x) : ∃ y, b[i]? = some y ∧ F x y := by
  induction p generalizing i with
  | nil => cases h
  | cons p r ih =>
    cases i with
    | zero => cases h; exact ⟨_, rfl, p⟩
    | succ i => exact ih i h
theorem paired_set {α β : Type} {F : α → β → Prop} {a : List α} {b : List β} (p : Paired F a b) (i : Nat) {x : α} {y : β} (h : F x y) : Paired F (a.set i x) (b.set i y) := by
  induction p generalizing i with
  | nil => exact .nil
  | cons p r ih =>
    cases i with
    | zero => exact .cons h r
    | succ i => exact .cons p (ih i)
theorem kv_value {e : List (Nat × Nat)} {kvs : List (Int × Value)} (P : Paired KvIs e kvs) (k : Nat) :
    (∃ c t, (k, c) ∈ e ∧ valueAt kvs (k : Int) = some (.int (c : Nat) t)) ∨ (valueAt kvs (k : Int) = none ∧ ∀ v, stored kvs (k : Int) v = kvs ++ [((k : Int), v)]) := by
  by_cases h : kvs.any (fun kv => decide (kv.1 = (k : Int))) = true
  · refine .inl ?_
    obtain ⟨x, hx⟩ : ∃ x, kvs.find? (fun kv => decide (kv.1 = (k : Int))) = some x := by
      rw [← Option.isSome_iff_exists, List.find?_isSome]
      obtain ⟨x, hx, q⟩ := List.any_eq_true.mp h
      exact ⟨x, hx, q⟩
    have hm := List.mem_of_find?_eq_some hx
    have hk : x.1 = (k : Int) := by have := List.find?_some hx; simpa using this
    obtain ⟨y, hy, h1, t, h2⟩ := paired_mem P x hm
    refine ⟨y.2, t, ?_, ?_⟩
    · have : y.1 = k := by rw [hk] at h1; exact_mod_cast h1.symm
      rw [← this]; exact hy
    · unfold valueAt; rw [hx, ← h2]; rfl
  · refine .inr ⟨?_, fun v => ?_⟩
    · unfold valueAt
      rw [List.find?_eq_none.mpr]
      · rfl
      · intro x hx q
        exact h (List.any_eq_true.mpr ⟨x, hx, q⟩)
    · unfold stored; rw [if_neg h]
theorem ne_obj {h : Heap} {a b : Addr} {o p : Obj} (ha : h.get? a = some o) (hb : h.get? b = some p) (hne : o.data ≠ p.data) : a ≠ b := fun e => by
  rw [e, hb] at ha; cases ha; exact hne rfl
theorem dc_data {w : World} {e : List (Nat × Nat)} {p : Addr × Obj} (x : DcIs w e p) : ∃ es ep, p.2.data = .dict es ep := by
  obtain ⟨_, ⟨es, ep, _, q, _⟩, _⟩ := x
  exact ⟨es, ep, q⟩
theorem allLt_mem {d : Nat} (l : List (Addr × Obj)) (h : AllLt d l) : ∀ p ∈ l, @LT.lt Nat _ p.1 d := by
  induction l with
  | nil => intro p hp; exact nomatch hp
  | cons x l ih =>
    intro p hp
    rcases List.mem_cons.mp hp with e | hp
    · rw [e]; exact h.1
    · exact ih h.2 p hp
theorem map_set_same {α β : Type} {f : α → β} {l : List α} {j : Nat} {x y : α} (hj : l[j]? = some x) (e : f y = f x) : (l.set j y).map f = l.map f := by
  refine List.ext_getElem? fun i => ?_
  rw [List.getElem?_map, List.getElem?_map, List.getElem?_set]
  by_cases h : j = i
  · subst h
    have hl : j < l.length := (List.getElem?_eq_some_iff.mp hj).1
    rw [if_pos rfl, if_pos hl, hj]; simp [e]
  · rw [if_neg h]
theorem news_dset {h₀ h h' : Heap} {L d : Addr} {pre ds : List (Addr × Obj)} {j : Nat} {o o' : Obj} (N : News h₀ L h (pre ++ ds)) (hj : ds[j]? = some (d, o)) (hnd : (ds.map (·.1)).Nodup) (hpre : ∀ p ∈ pre, p.1 ≠ d)
    (hs : Heap.SameBut d h h') (ho : h'.get? d = some o') : News h₀ L h' (pre ++ ds.set j (d, o')) := by
  intro p hp
  rcases List.mem_append.mp hp with hp | hp
  · have q := N p (List.mem_append_left _ hp)
    exact ⟨(hs.2 _ (hpre p hp)).trans q.1, q.2⟩
  · obtain ⟨i, hi⟩ := List.mem_iff_getElem?.mp hp
    rw [List.getElem?_set] at hi
    by_cases e : j = i
    · subst e
      have hl : j < ds.length := (List.getElem?_eq_some_iff.mp hj).1
      rw [if_pos rfl, if_pos hl] at hi
      cases hi
      exact ⟨ho, (N _ (List.mem_append_right _ (List.mem_of_getElem? hj))).2⟩
    · rw [if_neg e] at hi
      have q := N p (List.mem_append_right _ (List.mem_of_getElem? hi))
      refine ⟨(hs.2 _ fun ed => e ?_).trans q.1, q.2⟩
      have hl : j < (ds.map (·.1)).length := by rw [List.length_map]; exact (List.getElem?_eq_some_iff.mp hj).1
      exact (List.getElem?_inj hl hnd).mp (by rw [List.getElem?_map, List.getElem?_map, hj, hi]; simp [ed])
theorem kids_len (par : Nat → Nat) (n i : Nat) : (kids par n i).length ≤ n := by unfold kids; exact Nat.le_trans (List.length_filter_le ..) (by simp)
theorem tree_len {W : Nat → List Nat} {par : Nat → Nat} {C : List (List (Nat × Nat))} (T : TreeP W par C) {j : Nat} {E : List (Nat × Nat)} (h : C[j]? = some E) : E.length ≤ C.length := by
  have hj := (List.getElem?_eq_some_iff.mp h).1
  rw [T.ent j hj] at h
  cases h
  rw [List.length_map]; exact kids_len ..
theorem ins_len {W : Nat → List Nat} {k knot : Nat} {C : List (List (Nat × Nat))} (I : Ins W k knot C) {j : Nat} {E : List (Nat × Nat)} (h : C[j]? = some E) : E.length ≤ k + 1 := by
  obtain ⟨hl, ⟨_, par, C₀, rfl, T, hp⟩ | ⟨e, par, T⟩⟩ := I
  · have hl0 : C₀.length = k := by simpa using hl
    by_cases hj : j < C₀.length
    · rw [List.getElem?_append_left hj] at h
      have := tree_len T h
      (exact om455 hl0 this)
    · rw [List.getElem?_append_right (by (exact om271 hj))] at h
      have := (List.getElem?_eq_some_iff.mp h).1
      have e0 : j - C₀.length = 0 := by simp only [List.length_cons, List.length_nil] at this; (exact om456 this)
      rw [e0] at h; cases h; exact Nat.zero_le _
  · have := tree_len T h; (exact om457 hl this)
section
variable {w : World} {A : Around} {E : Value → Shared → Prop} {s : Shared} {d : Addr} {kvs : List (Int × Value)}
theorem sd_method {pl : Sem Bool} {o : Obj} {Q : Value × List Value → Shared → Prop} (ho : s.heap.get? d = some o) (hd : o.IsDictOf (intKind prog w) kvs) (h : Q (.builtin "dict.setdefault", [.ref d]) s) : wpAny (model prog w) A (getMethod (.ref d) "setdefault" pl) Q E s :=
  let ⟨_, _, q, _⟩ := hd
  getMethod_builtin ⟨o, ho, q.1⟩ PySem.F.plainAttrs_dict PySem.F.slot_dict_setdefault PySem.F.type_dict_setdefault (fun a e => by cases e; exact ⟨o, ho, q.2.1⟩) h
theorem it_method {pl : Sem Bool} {o : Obj} {Q : Value × List Value → Shared → Prop} (ho : s.heap.get? d = some o) (hd : o.IsDictOf (intKind prog w) kvs) (h : Q (.builtin "dict.items", [.ref d]) s) : wpAny (model prog w) A (getMethod (.ref d) "items" pl) Q E s :=
  let ⟨_, _, q, _⟩ := hd
  getMethod_builtin ⟨o, ho, q.1⟩ PySem.F.plainAttrs_dict PySem.F.slot_dict_items PySem.F.type_dict_items (fun a e => by cases e; exact ⟨o, ho, q.2.1⟩) h
theorem sd_call {Q : Value → Shared → Prop} {k : Int} {t : Tok} {dflt : Value} {o : Obj} (ho : s.heap.get? d = some o) (hd : o.IsDictOf (intKind prog w) kvs) (lo : (d == sysModules) = false) (hsz : kvs.length ≤ 1000)
    (h1 : ∀ v, valueAt kvs k = some v → Q v { s with toks := s.toks + 1 })
    (h2 : valueAt kvs k = none → ∀ h' o', h'.get? d = some o' → o'.IsDictOf (intKind prog w) (stored kvs k dflt) → Heap.SameBut d s.heap h' → Q dflt { s with heap := h', toks := s.toks + 1 }) :
    wpAny (model prog w) A (call (.builtin "dict.setdefault") [.ref d, .int k t, dflt]) Q E s :=
  have D : s.heap.DictOf (intKind prog w) d kvs := Heap.dictOf_iff.mpr ⟨o, ho, hd⟩
  call_meetsIn PySem.F.slot_dict_setdefault D.typeIs PySem.F.entry_dict_setdefault (PySem.F.args_dict_setdefault_3 _ _ _) (kt_meets_setdefault _ d (by simp [intKind, Value.isInt]) lo dflt)
    ⟨kvs, D, by rw [sizeLine_eq]; (exact om252 hsz), h1, fun hn h' hD hs => let ⟨o', q1, q2⟩ := Heap.dictOf_iff.mp hD; h2 hn h' o' q1 q2 hs⟩
end
theorem prs_of {h : Heap} {N : Nat} {f : Nat → Int × List Nat} {is : List Nat} {ys : List Value} (p : Paired (fun i y => ∃ a, y = .ref a ∧ N ≤ a ∧ PrAt h a (f i)) is ys) : ∃ xs : List Addr, ys = xs.map Value.ref ∧ xs.length = is.length ∧ (∀ x ∈ xs, N ≤ x) ∧ Paired (fun i x => PrAt h x (f i)) is xs := by
  induction p with
  | nil => exact ⟨[], rfl, rfl, (fun _ h => nomatch h), .nil⟩
  | cons q r ih =>
    obtain ⟨a, e, hN, hp⟩ := q
    obtain ⟨xs, rfl, hl, hx, hP⟩ := ih
    refine ⟨a :: xs, by rw [e]; rfl, by simp [hl], fun x hx' => ?_, .cons hp hP⟩
    rcases List.mem_cons.mp hx' with rfl | h
    · exact hN
    · exact hx x h
theorem prs_range {h : Heap} {f : Nat → Int × List Nat} {ps : List (Int × List Nat)} {n : Nat} {xs : List Addr} (hP : Paired (fun i x => PrAt h x (f i)) (List.range n) xs) (hn : ps.length = n) (hf : ∀ i p, ps[i]? = some p → f i = p) : Prs h xs ps := by
  have hl := paired_len hP
  rw [List.length_range] at hl
  refine ⟨by (exact om458 hn hl), fun i hi => ?_⟩
  obtain ⟨y, hy, q⟩ := paired_getl hP i i (List.getElem?_range (by (exact om317 hl hi)))
  have e1 : xs.getD i 0 = y := by simp [List.getD, hy]
  have hp : ps[i]? = some (ps.getD i (0, [])) := by rw [List.getD_eq_getElem?_getD, List.getElem?_eq_getElem (by (exact om459 hn hl hi))]; rfl
  rw [e1, ← hf i _ hp]; exact q
abbrev PrF (fz : List (Addr × Obj)) (f : Nat → Int × List Nat) (i : Nat) (x : Addr) : Prop := ∃ t u k, (x, prL (f i).1 t (f i).2 u k) ∈ fz
theorem prs_objs {h : Heap} {f : Nat → Int × List Nat} {is : List Nat} {xs : List Addr} (p : Paired (fun i x => PrAt h x (f i)) is xs) : ∃ po : List (Addr × Obj), (∀ p ∈ po, p.1 ∈ xs ∧ h.get? p.1 = some p.2 ∧ ∃ its c, p.2.data = .seq its c) ∧ Paired (PrF po f) is xs := by
  induction p with
  | nil => exact ⟨[], (fun _ h => nomatch h), .nil⟩
  | @cons i x _ _ q r ih =>
    obtain ⟨t, u, k, e⟩ := q
    obtain ⟨po, h1, h2⟩ := ih
    refine ⟨(x, _) :: po, fun p hp => ?_, .cons ⟨t, u, k, .head _⟩ (paired_mono (fun i x hq => ?_) h2)⟩
    · rcases List.mem_cons.mp hp with rfl | hp
      · exact ⟨.head _, e, _, _, rfl⟩
      · exact ⟨.tail _ (h1 p hp).1, (h1 p hp).2⟩
    · obtain ⟨t, u, k, e⟩ := hq
      exact ⟨t, u, k, .tail _ e⟩
theorem prF_at {h₀ h : Heap} {L : Addr} {fz : List (Addr × Obj)} {f : Nat → Int × List Nat} {is : List Nat} {xs : List Addr} (N : ∀ p ∈ fz, h.get? p.1 = some p.2) (P : Paired (PrF fz f) is xs) : Paired (fun i x => PrAt h x (f i)) is xs :=
  paired_mono (fun i x ⟨t, u, k, e⟩ => ⟨t, u, k, N _ e⟩) P
section
variable {w : World} {A : Around} {E : Value → Shared → Prop} {s : Shared} {env : Env} {Q : Flow → Shared → Prop}
theorem for_rngN {target : PySem.Expr} {body : List Stmt} {r : Addr} {n : Nat} {c : Int} {t u v : Tok} (hh : A.handled = none) (hr : IsRange s.heap r 0 c 1 t u v) (hc : c = (n : Int)) (hn : n < 2 ^ 31) (J : Nat → Heap → Prop)
    (hJ : J 0 s.heap) (hJw : ∀ i h h', J i h → (∀ b o, b ≠ s.heap.objs.size → h.get? b = some o → h'.get? b = some o) → J i h')
    (turn : ∀ i tv h tk it, i < n → it.cls = .type "range_iterator" → h.get? s.heap.objs.size = some it → J i h → wpAny (model prog w) A (assign target env (.int (i : Int) tv)) (fun _ s₂ => wpAny (model prog w) A (execs body env) (fun f s₃ => match f with
      | .next | .cont => ∃ h' tk', s₃ = ⟨h', s.gens, s.drawn, tk', s.os⟩ ∧ J (i + 1) h' ∧ h'.get? s.heap.objs.size = some it
      | .brk => Q .next s₃
      | .ret v => Q (.ret v) s₃) (fun _ _ => False) s₂) (fun _ _ => False) ⟨h, s.gens, s.drawn, tk, s.os⟩)
    (done : ∀ h tk, J n h → Q .next ⟨h, s.gens, s.drawn, tk, s.os⟩) (ht : ∀ I v, letOwnedTupleGo target (.ref I) v = pure ()) :
    wpAny (model prog w) A (pyIter (.ref r)) (fun it s₂ => codeAny (model prog w) A (.forLoop target it body [] env) (fun r s' => match r with | .ok f => Q f s' | .error e => cameBackBy (model prog w) A env E e s') s₂) E s := by
  subst hc
  have hsz : Builtin.Range.rangeSize 0 (n : Int) 1 = (n : Int) := by
    unfold Builtin.Range.rangeSize
    rw [if_pos (by decide)]
    by_cases h0 : (0 : Int) < n
    · rw [if_pos h0]; (exact om260)
    · rw [if_neg h0]; (exact om261 h0)
  have hsmall : Builtin.Range.small 0 (n : Int) 1 = true := by
    have fit : ∀ x : Int, 0 ≤ x → x ≤ 2 ^ 31 → Builtin.Range.rangeFitsLong x = true := fun x h1 h2 => by
      unfold Builtin.Range.rangeFitsLong
      rw [Bool.and_eq_true]
      exact ⟨decide_eq_true (by (exact om262 h1)), decide_eq_true (by (exact om263 h2))⟩
    unfold Builtin.Range.small
    rw [hsz, fit 0 (by decide) (by decide), fit n (by (exact om246)) (by (exact om265 hn)), fit 1 (by decide) (by decide), if_pos (show (1 : Int) > 0 by decide), fit ((n : Int) + (1 - 1)) (by (exact om268)) (by (exact om269 hn)), Bool.or_true]
    rfl
  refine wpAny_pyIter_range hr hsmall ?_
  rw [hsz]
  have hnew : s.heap.get? s.heap.objs.size = none := Heap.get?_none_of_le (Nat.le_refl _)
  refine forJ (s := { s with heap := s.heap.push _ }) (Walks.range hh s.heap.objs.size 0 1 n) J (by show IsRangeIter _ _ _ _ _; simpa using Heap.get?_push_size _ rfl) (hJw 0 _ _ hJ fun b o _ e => Heap.get?_push_of_some _ e)
    (fun i h h' hj hk => hJw i h h' hj fun b o hb e => hk b o (by simpa using hb) e) ?_ done (ht _)
  rintro i v h tk hi ⟨tv, rfl⟩ hJi hSt
  have e : (0 : Int) + (i : Int) * 1 = (i : Int) := by (exact om270)
  rw [e]
  refine wpAny_mono (turn i tv h tk _ hi rfl hSt hJi) (fun _ s₂ h₂ => wpAny_mono h₂ (fun f s₃ h₃ => ?_) fun _ _ e => e) fun _ _ e => e
  cases f with
  | next => exact let ⟨h3, tk3, e3, j3, f3⟩ := h₃; ⟨h3, tk3, e3, j3, fun b hb o eb => by rw [List.mem_singleton.mp hb] at eb ⊢; rw [f3]; rw [show h.get? _ = _ from hSt] at eb; exact eb⟩
  | cont => exact let ⟨h3, tk3, e3, j3, f3⟩ := h₃; ⟨h3, tk3, e3, j3, fun b hb o eb => by rw [List.mem_singleton.mp hb] at eb ⊢; rw [f3]; rw [show h.get? _ = _ from hSt] at eb; exact eb⟩
  | brk => exact h₃
  | ret v => exact h₃
end
/-- what of the heap tells the tables that the first call of cmp_to_key fills -/
def GrT (h₀ : Heap) (ps : Array Value) (fz : List (Addr × Obj)) : Prop := ps = #[] ∨ ∃ gz : List (Addr × Obj), (∀ p ∈ gz, p ∈ fz ∨ h₀.get? p.1 = some p.2) ∧ ∀ h : Heap, h.get? 30 = some (tabObj ps) → (∀ p ∈ gz, h.get? p.1 = some p.2) → GrE h
theorem GrT.tab {h₀ h : Heap} {ps : Array Value} {fz : List (Addr × Obj)} (x : GrT h₀ ps fz) (k : Ext h₀ h) (t : h.get? 30 = some (tabObj ps)) (N : ∀ p ∈ fz, h.get? p.1 = some p.2) : TabS h := by
  rcases x with rfl | ⟨gz, hg, hq⟩
  · exact .inl t
  · exact .inr (hq h t fun p hp => (hg p hp).elim (N p) (k _ _))
theorem GrT.mono {h₀ : Heap} {ps : Array Value} {fz fz' : List (Addr × Obj)} (x : GrT h₀ ps fz) (k : ∀ p ∈ fz, p ∈ fz') : GrT h₀ ps fz' := by
  rcases x with rfl | ⟨gz, hg, hq⟩
  · exact .inl rfl
  · exact .inr ⟨gz, fun p hp => (hg p hp).imp (k p) id, hq⟩
theorem gr_pin {h : Heap} (x : GrE h) : ∃ (ps : Array Value) (gz : List (Addr × Obj)), h.get? 30 = some (tabObj ps) ∧ (∀ p ∈ gz, h.get? p.1 = some p.2 ∧ p.1 ≠ 30 ∧ (∃ fs, p.2.data = .fields fs) ∧ p.2.cls ≠ .type "range_iterator") ∧ ∀ h' : Heap, h'.get? 30 = some (tabObj ps) → (∀ p ∈ gz, h'.get? p.1 = some p.2) → GrE h' := by
  obtain ⟨c, P, c1, c2, c3, c4, c5, c6, t30, ⟨q1, q2, q3, q4, r8, u, hc⟩, ne, n30, hP, ⟨P1, a1, b1, d1, f1, r1, v1, w1, z1, y1, k1⟩, ⟨P2, a2, b2, d2, f2, r2, v2, w2, z2, y2, k2⟩⟩ := x
  have off : ∀ x o, h.get? x = some o → o.cls = .type "code" → x ≠ 30 := fun x o e hx q => by
    rw [q, t30] at e; cases e; cases hx
  obtain ⟨oc, eoc⟩ : ∃ o, o = kcO P q1 q2 q3 q4 r8 u := ⟨_, rfl⟩
  obtain ⟨oP, eoP⟩ : ∃ o, some o = h.get? P := ⟨_, hP.symm⟩
  obtain ⟨oa, eoa⟩ : ∃ o, some o = h.get? c1 := ⟨_, k1.symm⟩
  obtain ⟨ob, eob⟩ : ∃ o, some o = h.get? c2 := ⟨_, k2.symm⟩
  rw [← eoc] at hc
  have zP := Option.some.inj (eoP.trans hP)
  have za := Option.some.inj (eoa.trans k1)
  have zb := Option.some.inj (eob.trans k2)
  refine ⟨#[rawInt 52, rawInt 4, .ref c], [(c, oc), (P, oP), (c1, oa), (c2, ob)], t30, fun p hp => ?_, fun h' t' hg => ?_⟩
  · simp only [List.mem_cons, List.not_mem_nil, or_false] at hp
    rcases hp with rfl | rfl | rfl | rfl
    · exact ⟨hc, off _ _ hc (by rw [eoc]), by rw [eoc]; exact ⟨_, rfl⟩, by rw [eoc]; exact (by decide : Value.type "code" ≠ Value.type "range_iterator")⟩
    · exact ⟨eoP.symm, n30, by rw [zP]; exact ⟨_, rfl⟩, by rw [zP]; exact (nofun : Value.none ≠ Value.type "range_iterator")⟩
    · exact ⟨eoa.symm, off _ _ eoa.symm (by rw [za]), by rw [za]; exact ⟨_, rfl⟩, by rw [za]; exact (by decide : Value.type "code" ≠ Value.type "range_iterator")⟩
    · exact ⟨eob.symm, off _ _ eob.symm (by rw [zb]), by rw [zb]; exact ⟨_, rfl⟩, by rw [zb]; exact (by decide : Value.type "code" ≠ Value.type "range_iterator")⟩
  · have g1 := hg _ (.head _)
    have g2 := hg _ (.tail _ (.head _))
    have g3 := hg _ (.tail _ (.tail _ (.head _)))
    have g4 := hg _ (.tail _ (.tail _ (.tail _ (.head _))))
    dsimp only at g1 g2 g3 g4
    rw [eoc] at g1; rw [zP] at g2; rw [za] at g3; rw [zb] at g4
    exact ⟨c, P, c1, c2, c3, c4, c5, c6, t', ⟨q1, q2, q3, q4, r8, u, g1⟩, ne, n30, g2, ⟨P1, a1, b1, d1, f1, r1, v1, w1, z1, y1, g3⟩, ⟨P2, a2, b2, d2, f2, r2, v2, w2, z2, y2, g4⟩⟩
theorem sum_add (l : List Nat) (f g : Nat → Nat) : (l.map fun k => f k + g k).sum = (l.map f).sum + (l.map g).sum := by
  induction l with
  | nil => rfl
  | cons x l ih => simp only [List.map_cons, List.sum_cons, ih]; (exact om460)
theorem meas_append (par : Nat → Nat) (n : Nat) (a b : List Nat) : meas par n (a ++ b) = meas par n a + meas par n b := by
  unfold meas
  rw [← sum_add]
  congr 1
  exact List.map_congr_left fun k _ => cnt_append par a b k
theorem sum_ge {l : List Nat} {f : Nat → Nat} {x : Nat} (hx : x ∈ l) : f x ≤ (l.map f).sum := by
  induction l with
  | nil => cases hx
  | cons y l ih =>
    simp only [List.map_cons, List.sum_cons]
    rcases List.mem_cons.mp hx with rfl | h
    · (exact om461)
    · have := ih h; (exact om462 this)
theorem meas_len {par : Nat → Nat} {n : Nat} : ∀ {todo : List Nat}, (∀ t ∈ todo, t < n) → todo.length ≤ meas par n todo := by
  intro todo
  induction todo with
  | nil => intro _; exact Nat.zero_le _
  | cons t r ih =>
    intro h
    have e := meas_append par n [t] r
    have i := ih fun x hx => h x (.tail _ hx)
    have g : cnt par [t] t ≤ meas par n [t] := sum_ge (f := cnt par [t]) (List.mem_range.mpr (h t (.head _)))
    have c : cnt par [t] t = 1 := by
      have : Anc par t t := .refl _
      simp [cnt, this]
    show r.length + 1 ≤ meas par n ([t] ++ r)
    (exact om463 i e g c)
theorem meas_one (par : Nat → Nat) (n t : Nat) : meas par n [t] ≤ n := by
  unfold meas
  have h : ∀ l : List Nat, (l.map (cnt par [t])).sum ≤ l.length := by
    intro l
    induction l with
    | nil => exact Nat.le_refl _
    | cons x l ih =>
      have : cnt par [t] x ≤ 1 := List.countP_le_length
      simp only [List.map_cons, List.sum_cons, List.length_cons]; (exact om464 ih this)
  simpa using h (List.range n)
theorem next_len (E : List (Nat × Nat)) (dt r : Nat) : (next E dt r).length ≤ E.length := by
  unfold next; rw [List.length_map]; exact List.length_filter_le ..
def castI (l : List Nat) : List Int := l.map fun n : Nat => (n : Int)
theorem ints_split {a : List Int} {n : Int} {vs : List Value} (h : IntsAre vs (a ++ [n])) : ∃ vr t, vs = vr ++ [.int n t] ∧ IntsAre vr a := by
  induction a generalizing vs with
  | nil =>
    cases h with
    | cons _ t r => cases r; exact ⟨[], t, rfl, .nil⟩
  | cons x a ih =>
    cases h with
    | cons _ t r =>
      obtain ⟨vr, t', rfl, h⟩ := ih r
      exact ⟨_ :: vr, t', rfl, .cons _ t h⟩
theorem ints_last {rest : List Nat} {t : Nat} {vs : List Value} (h : IntsAre vs (castI (rest ++ [t]))) : ∃ vr tt, vs = vr ++ [.int ((t : Nat) : Int) tt] ∧ IntsAre vr (castI rest) := by
  unfold castI at h ⊢
  rw [List.map_append] at h
  exact ints_split h
section
variable {M : Model} {A : Around} {E : Value → Shared → Prop} {s : Shared} {h₀ : Heap} {L : Addr} {m : PySem.Str → Option Value} {news : List (Addr × Obj)}
theorem st_nm {env : Env} {x : PySem.Str} {c : Addr} {o : Obj} {v₀ : Option Value} {v : Value} {g : Obj → List (Addr × Obj)} {Q : Unit → Shared → Prop} (F : Fr h₀ L s.heap m) (N : News h₀ L s.heap news) (U : ∀ o', Upd c o o' news (g o')) (d : o.data = .cell v₀)
    (hk : env.scope.kind = .function) (hl : env.kindOf x = some .cell) (hc : env.cells.lookup x = some c)
    (h : ∀ h' o', Fr h₀ L h' m → News h₀ L h' (g o') → o'.data = .cell (some v) → Q () { s with heap := h' }) :
    wpAny M A (storeName env x v) Q E s := by
  have hm : (c, o) ∈ news := by
    obtain ⟨pre, post, e1, _, _, _⟩ := (U o).split
    rw [e1]; exact List.mem_append_right _ (.head _)
  refine wpAny_storeName_cell hk hl hc ⟨o, (N _ hm).1, d⟩ fun h' hx hs => ?_
  obtain ⟨o', ho', hd'⟩ := hx
  refine h h' o' (F.change hs (N _ hm).2.1 (N _ hm).2.2) ?_ hd'
  obtain ⟨pre, post, e1, e2, x1, x2⟩ := (U o').split
  rw [e2]
  rw [e1] at N
  exact news_set N x1 x2 hs ho'
end
theorem not_nil (todo : List Nat) : (!decide (castI todo = [])) = decide (0 < todo.length) := by cases todo <;> simp [castI]
theorem pop_last (vr : List Value) (v : Value) : (List.toArray (vr ++ [v])).pop = List.toArray vr := by simp
theorem range_self {α : Type} (E : List α) (d : α) : (List.range E.length).map (fun j => E.getD j d) = E := by
  refine List.ext_getElem (by simp) fun i h1 h2 => ?_
  simp [List.getD, h2]
theorem range_filter {α β : Type} (E : List α) (d : α) (q : α → Bool) (g : α → β) : ((List.range E.length).filter (fun j => q (E.getD j d))).map (fun j => g (E.getD j d)) = (E.filter q).map g := by
  conv => rhs; rw [← range_self E d, List.filter_map, List.map_map]
  rfl
theorem next_ints {E : List (Nat × Nat)} {dt r : Nat} {ys : List Value} (h : Paired (fun j y => ∃ t, y = .int (((E.getD j (0, 0)).2 : Nat) : Int) t) ((List.range E.length).filter fun j => decide ((((E.getD j (0, 0)).1 : Int) - (dt : Int)).natAbs ≤ r)) ys) : IntsAre ys (castI (next E dt r)) := by
  have e := ints_ofC (f := fun j => (((E.getD j (0, 0)).2 : Nat) : Int)) h
  rw [range_filter E (0, 0) (fun e => decide (((e.1 : Int) - (dt : Int)).natAbs ≤ r)) (fun e => ((e.2 : Nat) : Int))] at e
  unfold castI next
  rw [List.map_map]
  exact e
theorem ints_app {a : List Value} {x : List Int} {b : List Value} {y : List Int} (p : IntsAre a x) (h : IntsAre b y) : IntsAre (a ++ b) (x ++ y) := by
  induction p with
  | nil => exact h
  | cons n t r ih => exact .cons n t ih
theorem abs_le {x : Int} {i : Nat} : ((if x < 0 then -x else x) ≤ (i : Int)) ↔ x.natAbs ≤ i := by split <;> (first | exact om465 (by assumption) | exact om466 (by assumption))
theorem ld_builtin {w : World} {A : Around} {E : Value → Shared → Prop} {s : Shared} {Q : Value → Shared → Prop} {env : Env} {x : PySem.Str} {v : Value} {p : Pos} {mg mb : PySem.Str → Option Value} (hL : loadName env x = loadGlobal env x) (hd : (x == PySem.Str.ofString "__debug__") = false) (hge : env.globals = mainGlobals) (hbe : env.builtins = builtinsNs)
    (hg : s.heap.Ns mainGlobals mg) (hb : s.heap.Ns builtinsNs mb) (h1 : mg x = none) (h2 : mb x = some v) (h : Q v s) : wpAny (model prog w) A (eval (.Name x p) env) Q E s := by
  obtain ⟨hp, g, d, tk, os⟩ := s
  rw [arm_eval_Name, hd, hL]
  refine wpAny_bind (wpAny_standAt (wpAny_ite_false rfl ?_))
  unfold loadGlobal
  rw [hge, hbe]
  refine wpAny_bind (wpAny_nsGet (s := ⟨hp, g, d, tk, os⟩) hg ?_)
  rw [h1]
  refine wpAny_bind (wpAny_nsGet (s := ⟨hp, g, d, tk, os⟩) hb ?_)
  rw [h2]
  exact wpAny_pure h
def Mk : Prop := True
theorem prs_map {h : Heap} {f : Nat → Int × List Nat} {is : List Nat} {xs : List Addr} (hP : Paired (fun i x => PrAt h x (f i)) is xs) : Prs h xs (is.map f) := by
  have hl := paired_len hP
  refine ⟨by rw [List.length_map, hl], fun i hi => ?_⟩
  have hi' : i < is.length := by (exact om317 hl hi)
  obtain ⟨y, hy, q⟩ := paired_getl hP i is[i] (List.getElem?_eq_getElem hi')
  have e1 : xs.getD i 0 = y := by simp [List.getD, hy]
  have e2 : (is.map f).getD i (0, []) = f is[i] := by simp [List.getD, hi']
  rw [e1, e2]; exact q
theorem paired_self {α β : Type} {F : α → β → Prop} {g : α → β} : ∀ {l : List α}, (∀ x ∈ l, F x (g x)) → Paired F l (l.map g)
  | [], _ => .nil
  | x :: l, h => .cons (h x (.head _)) (paired_self fun y hy => h y (.tail _ hy))
theorem ys_of {g : Nat → Addr} {is : List Nat} {ys : List Value} (p : Paired (fun i y => y = .ref (g i)) is ys) : ys = (is.map g).map Value.ref := by
  induction p with
  | nil => rfl
  | cons e r ih => rw [e, ih]; rfl
theorem haltR {M : Model} {A : Around} {op : CmpOp} {x y : Value} {Q : Value → Shared → Prop} {E : Value → Shared → Prop} {s : Shared}
    (h : Halt (wpAny M A (compareOp op x y) Q E s)) : wpAny M A (compareOp op x y) Q E s := h
-- D54Law
local macro_rules | `(tactic| walk_at "subscriptTail Name Name ref int") => `(tactic| refine haltS ?_)
local macro_rules | `(tactic| walk_at "call type:enumerate") => `(tactic| refine haltV ?_)
local macro_rules | `(tactic| walk_at "call builtin:dict.setdefault") => `(tactic| refine haltV ?_)
local macro_rules | `(tactic| walk_at "eval Name") => `(tactic| ((with_reducible show wpAny _ _ (eval _ (compEnvC _ _ _ _)) _ _ _); refine wpAny_Name (wpAny_loadName_cell rfl rfl rfl (by assumption) ?_) (by decide)))
local macro_rules | `(tactic| walk_at "call builtin:dict.items") => `(tactic| refine haltV ?_)
local macro_rules | `(tactic| walk_at "call builtin:list.extend") => `(tactic| refine haltV ?_)
local macro_rules | `(tactic| walk_at "call builtin:sorted") => `(tactic| refine haltV ?_)
local macro_rules | `(tactic| walk_at "subscriptTail Name Constant ref int") => `(tactic| ((have _mk : Mk := by assumption); refine haltS ?_))
local macro_rules | `(tactic| walk_at "compareOp NotEq ref ref") => `(tactic| ((have _mk : Mk := by assumption); refine haltR ?_))
theorem sp_cell {c : Addr} {o o' : Obj} {r : List (Addr × Obj)} (h : ∀ p ∈ r, p.1 ≠ c) : Upd c o o' ((c, o) :: r) ((c, o') :: r) := Upd.head h
abbrev celO (v : Option Value) : Obj := { cls := .type "cell", data := .cell v }
set_option maxHeartbeats 4000000 in
theorem law_call {w : World} {A : Around} {s : Shared} {E : Value → Shared → Prop} {Q : Value → Shared → Prop} {l : Addr} {vs : List Value} {ns : List Int} {mg mb : PySem.Str → Option Value} {h₀ : Heap}
  (W0 : Wd w mg mb h₀) (BM : BMn h₀ mg) (k0 : Ext h₀ s.heap) (hsz : h₀.objs.size ≤ s.heap.objs.size) (h30 : h₀.get? 30 = none) (s30 : s.heap.get? 30 = some (tabObj #[])) (hh : A.handled = none) (hd : A.depth < 400) (hu : A.units < 1000) (hl : h₀.IsList l vs.toArray) (hI : IntsAre vs ns) (hn : ns.length ≤ 63)
  (HQ : ∀ h' tk, Ext h₀ h' → (∃ ps, h'.get? 30 = some (tabObj ps)) → Q (.bool true) ⟨h', s.gens, s.drawn, tk, s.os⟩) :
  wpAny (model prog w) A (call (.ref 64) [.ref l]) Q E s := by
  have K := W0.k
  have T : TopRead PySem.Challenge.rw_dn0054_01.prog [] mg mb h₀ := W0.t
  revert T K
  k_fill
  w_on
  w_top on
  intro K T
  refine enterC (binds := [(PySem.Str.ofString "script", .ref l)]) hh (Nat.lt_trans hd (by decide)) ((K.keeps k0) _ _ (by k_is)) rfl (T.keeps k0).nolimit (codeRec_of (K.keeps k0) (by k_is)) (BindsTo.of_eq rfl) (by kernel_rfl) (by decide +kernel) ?_ rfl rfl rfl
  intro L h₁ tk cells d fr gd u hL hd' hu' F N CA
  show wpAny _ _ (execs _ (envOfC (PySem.Str.ofString "law") _ L 64 _)) _ _ _
  refine hideG fun R9 hR9 => ?_
  obtain ⟨m0, F0, hs0⟩ : ∃ m0, Fr h₀ L h₁ m0 ∧ m0 "script" = some (.ref l) := ⟨_, ⟨F.ns, k0.trans F.keep, Nat.le_trans hsz F.above⟩, rfl⟩
  refine hR9 ?_
  clear hR9 R9
  have hL30 : 30 < L := by rw [← hL]; exact Heap.lt_size s30
  obtain ⟨o1, o2, o3, N0, e1, e2, e3⟩ : ∃ o1 o2 o3 : Obj, News h₀ L h₁ [(L + 1, o1), (L + 2, o2), (L + 3, o3), (30, tabObj #[])] ∧ o1.data = .cell none ∧ o2.data = .cell none ∧ o3.data = .cell none := by
    refine hideG fun R9 hR9 => ?_
    obtain ⟨o3, o2, o1, rfl, e3, e2, e1⟩ := CellsAre.three (n₁ := PySem.Str.ofString "distance") (n₂ := PySem.Str.ofString "radius") (n₃ := PySem.Str.ofString "wanted") (c₁ := L + 1 + 1 + 1) (c₂ := L + 1 + 1) (c₃ := L + 1) CA
    refine hR9 ?_
    clear hR9 R9
    refine ⟨o1, o2, o3, ?_, e1.trans (congrArg Data.cell (by kernel_rfl)), e2.trans (congrArg Data.cell (by kernel_rfl)), e3.trans (congrArg Data.cell (by kernel_rfl))⟩
    have up : ∀ p, p ∈ [(L + 1 + 1 + 1, o3), (L + 1 + 1, o2), (L + 1, o1)] → h₁.get? p.1 = some p.2 ∧ p.1 ≠ L ∧ h₀.get? p.1 = none := fun p hp => ⟨(N p hp).1, (N p hp).2.1, by
      cases e : h₀.get? p.1 with
      | none => rfl
      | some o => have := (N p hp).2.2; rw [k0 _ _ e] at this; cases this⟩
    intro p hp
    simp only [List.mem_cons, List.not_mem_nil, or_false] at hp
    rcases hp with rfl | rfl | rfl | rfl
    · exact up _ (by simp)
    · exact up _ (by simp)
    · exact up _ (by simp)
    · exact ⟨F.keep _ _ s30, Nat.ne_of_lt hL30, h30⟩
  clear F N CA
  have hlen : vs.length = ns.length := hI.length
  -- numbers
  refine cutH (fun h' => ∀ R9 : Prop, (∀ m' q vs' ns' o1 o2 o3, (Fr h₀ L h' m') → (News h₀ L h' [(L + 1, o1), (L + 2, o2), (L + 3, o3), (30, tabObj #[])]) → (o1.data = .cell none) → (o2.data = .cell none) → (o3.data = .cell none) → (m' "numbers" = some (.ref q)) → (h'.IsList q (List.toArray vs')) → (IntsAre vs' ns') → (ns'.length ≤ 63) → (0 < ns'.length) → R9) → R9) (fun PEnd hEnd => ?_) ?_
  · skip
    clear HQ
    walk_at "D54 go"
    · walk_at "D54 end"
      rename_i F2 N2
      refine hEnd _ fun _ kEnd => kEnd _ _ [.int 1 _, .int 3 _] [1, 3] o1 o2 o3 F2 (fun p hp => N2 p (.tail _ (.tail _ hp))) e1 e2 e3 rfl ⟨_, (N2 _ (.head _)).1, rfl, _, rfl⟩ (.cons _ _ (.cons _ _ .nil)) (by decide) (by decide)
    · walk_at "D54 end"
      rename_i hne _ F2 N2
      have hpos : 0 < ns.length := by
        cases ns with
        | nil => simp at hne
        | cons _ _ => simp
      refine hEnd _ fun _ kEnd => kEnd _ l vs ns o1 o2 o3 F2 (fun p hp => N2 p (.tail _ hp)) e1 e2 e3 rfl (hl.at (fun o e => F2.keep _ _ e)) hI hn hpos
  clear F0 N0 e1 e2 e3 hI hn hlen hs0
  intro h1 tk1 xq1
  refine xq1 _ fun m1 q vs1 ns1 o1 o2 o3 F1 N1 e1 e2 e3 hq1 hl1 hI1 hn1 hp1 => ?_
  clear xq1
  try dsimp only
  -- wanted
  obtain ⟨x0, t0, vr, nr, rfl, rfl, hIr⟩ : ∃ x0 t0 vr nr, vs1 = .int x0 t0 :: vr ∧ ns1 = x0 :: nr ∧ IntsAre vr nr := by
    cases hI1 with
    | nil => simp at hp1
    | cons n t h => exact ⟨_, _, _, _, rfl, rfl, h⟩
  refine cutH (fun h' => ∀ R9 : Prop, (∀ o1 t1, (Fr h₀ L h' m1) → (News h₀ L h' [(L + 1, o1), (L + 2, o2), (L + 3, o3), (30, tabObj #[])]) → (o1.data = .cell (some (.str (tx (wrd x0)) t1))) → (h'.IsList q (List.toArray (.int x0 t0 :: vr))) → R9) → R9) (fun PEnd hEnd => ?_) ?_
  · skip
    clear HQ
    walk_at "D54 go"
    unfold Halt
    refine word_call (W0.keeps F1.keep) rfl (by dsimp only; (exact om162 hd' hd)) (by dsimp only; (exact om163 hu' hu)) fun h' tk t hE => ?_
    refine wpAny_storeName_cell rfl rfl rfl ⟨o1, hE _ _ (N1 _ (.head _)).1, e1⟩ fun h2 hx hs => ?_
    refine hideG fun R9 hR9 => ?_
    obtain ⟨o', ho', hd1⟩ := hx
    refine hR9 ?_
    clear hR9 R9
    have N1' := news_ext N1 hE
    walk_at "D54 up"
    refine End.mk' rfl (hEnd _ fun _ kEnd => kEnd o' t ((F1.keeps hE).change hs (N1 _ (.head _)).2.1 (N1 _ (.head _)).2.2) (fun p hp => ?_) hd1 ?_)
    · rcases List.mem_cons.mp hp with rfl | hp
      · exact ⟨ho', (N1 _ (.head _)).2⟩
      · refine ⟨(hs.2 _ ?_).trans (N1' p (.tail _ hp)).1, (N1' p (.tail _ hp)).2⟩
        simp only [List.mem_cons, List.not_mem_nil, or_false] at hp
        rcases hp with rfl | rfl | rfl <;> walk_at "D54 ne"
    · refine hideG fun R9 hR9 => ?_
      obtain ⟨oq, hoq, hcq, r⟩ := hl1
      refine hR9 ?_
      clear hR9 R9
      refine ⟨oq, (hs.2 q fun e => ?_).trans (hE _ _ hoq), hcq, r⟩
      have z := (N1 _ (.head _)).1
      rw [show (L + 1, o1).1 = q from e.symm, hoq] at z
      cases z
      refine hideG fun R9 hR9 => ?_
      obtain ⟨_, r⟩ := r
      refine hR9 ?_
      clear hR9 R9
      rw [e1] at r; cases r
  clear F1 N1 e1 hl1
  intro h2 tk2 xq2
  refine xq2 _ fun o1 tw F2 N2 e1 hl2 => ?_
  clear xq2
  try dsimp only
  -- words
  refine cutH (fun h' => ∀ R9 : Prop, (∀ aw ws c m', (Fr h₀ L h' m') → (News h₀ L h' [(aw, listOf (List.toArray ws) c), (L + 1, o1), (L + 2, o2), (L + 3, o3), (30, tabObj #[])]) → (m' "words" = some (.ref aw)) → (Paired TxIs (nr.map wrd ++ [wrd x0]) ws) → R9) → R9) (fun PEnd hEnd => ?_) ?_
  · skip
    clear HQ
    walk_at "D54 go"
    unfold Halt
    refine comp_list (cl := []) (fun _ => true) (fun v y => ∃ x t t', v = .int x t ∧ y = .str (tx (wrd x)) t') rfl rfl (by decide) rfl (by decide) rfl (cut (fun v h' => Ex3 fun D c us => And4 (v = .ref D) (Fr h₀ L h' m1) (News h₀ L h' [(D, listOf (List.toArray us) c), (L + 1, o1), (L + 2, o2), (L + 3, o3), (30, tabObj #[])]) (IntsAre us nr)) ?_ ?_) (fun _ => rfl)
    · walk_at "D54 go"
      rename_i F' N' hI' _ _ _
      walk_at "D54 up"
      exact End.mk' rfl ⟨_, _, _, rfl, F', N', hI'⟩
    rintro v h3 tk3 xq3
    refine hideG fun R9 hR9 => ?_
    obtain ⟨D, c, us, rfl, F3, N3, hus⟩ := xq3
    refine hR9 ?_
    clear hR9 R9
    have hul := hus.length
    have hrl : nr.length ≤ 62 := by simpa using hn1
    refine ⟨D, us, rfl, ⟨_, (N3 _ (.head _)).1, rfl, _, rfl⟩, by (exact om168 hul hrl), ?_, ?_, ?_⟩
    · intro C v s₃ m₃ _ _ _ _ _
      exact wpAny_pure ⟨rfl, _, _, rfl, fun _ _ e => e⟩
    · rintro C v xq4 m₃ hC hv _ hn hm hE
      refine hideG fun R9 hR9 => ?_
      obtain ⟨h7, g7, dr7, tk7, os7⟩ := xq4
      refine hR9 ?_
      clear hR9 R9
      refine hideG fun R9 hR9 => ?_
      obtain ⟨x, t, rfl⟩ := hus.all v hv
      refine hR9 ?_
      clear hR9 R9
      have F7 := F3.keeps hE
      have W7 := W0.keeps F7.keep
      refine cut (fun v h' => And ((∃ x' t' t'', Value.int x t = .int x' t' ∧ v = .str (tx (wrd x')) t'')) (Ext h7 h')) ?_ (fun v h' tk q => ⟨q.1, h', tk, rfl, q.2⟩)
      clear F2 N2 F3 N3
      walk_at "D54 go"
      unfold Halt
      refine word_call W7 rfl (by dsimp only; (exact om162 hd' hd)) (by dsimp only; (exact om163 hu' hu)) fun h' tk t hE => ?_
      walk_at "D54 up"
      exact End.mk' rfl ⟨⟨_, _, _, rfl, rfl⟩, hE⟩
    · intro D' h' tk ys hD hpl hPd hE
      refine hideG fun R9 hR9 => ?_
      obtain ⟨nD, hgD⟩ := hpl
      refine hR9 ?_
      clear hR9 R9
      have F4 := F3.keeps hE
      have N4 := news_ext N3 hE
      rw [List.filter_eq_self.mpr (fun _ _ => rfl)] at hPd
      have hPw : Paired TxIs (nr.map wrd) ys.toList := words_of hus hPd
      have hyl := paired_len hPw
      rw [List.length_map] at hyl
      have hlD : h'.IsList D' (List.toArray ys.toList) := ⟨_, hgD, rfl, nD, by simp⟩
      have hLD : L + 3 < h'.objs.size := Heap.lt_size (N4 _ (.tail _ (.tail _ (.tail _ (.head _))))).1
      have N5 := news_it (it := listOf (List.toArray ys.toList) nD) F3 hD (hgD.trans (by simp [W.listOf])) N4
      clear F2 N2 F3 N3 N4
      walk_at "D54 go"
      rename_i F8 N8
      walk_at "D54 up"
      exact End.mk' rfl (hEnd _ fun _ kEnd => kEnd _ _ _ _ F8 (fun p hp => N8 p (by
        rcases List.mem_cons.mp hp with rfl | hp
        · exact .head _
        · exact .tail _ (.tail _ (.tail _ (.tail _ hp))))) rfl (paired_append hPw (.cons ⟨_, rfl⟩ .nil)))
  clear F2 N2 hl2 hI1 hIr hq1
  intro h3 tk3 xq5
  refine xq5 _ fun aw ws cw m3 F3 N3 hw3 hPw => ?_
  clear xq5
  try dsimp only
  have hnl : ws.length ≤ 63 := by have := paired_len hPw; simp only [List.length_append, List.length_map, List.length_cons, List.length_nil] at this hn1; (exact om171 this hn1)
  have hpos : 0 < ws.length := by have := paired_len hPw; simp only [List.length_append, List.length_map, List.length_cons, List.length_nil] at this; (exact om172 this)
  obtain ⟨Ws, hWs, hok⟩ : ∃ Ws : List (List Nat), Ws = nr.map wrd ++ [wrd x0] ∧ ∀ x ∈ Ws, x.length ≤ 4 ∧ ∀ c ∈ x, Sg c := ⟨_, rfl, fun x hx => by
    rcases List.mem_append.mp hx with hx | hx
    · refine hideG fun R9 hR9 => ?_
      obtain ⟨y, _, rfl⟩ := List.mem_map.mp hx
      refine hR9 ?_
      clear hR9 R9
      exact ⟨wrd_len y, wrd_ok y⟩
    · rw [List.mem_singleton.mp hx]; exact ⟨wrd_len x0, wrd_ok x0⟩⟩
  rw [← hWs] at hPw
  have hW0 : ∀ c ∈ wrd x0, Sg c := wrd_ok x0
  have hW4 : (wrd x0).length ≤ 4 := wrd_len x0
  revert hW0 hW4 e1
  generalize wrd x0 = wan
  intro e1 hW0 hW4
  clear hWs hn1 hp1
  refine hideG fun R9 hR9 => ?_
  obtain ⟨Wf, hWf⟩ : ∃ Wf : Nat → List Nat, ∀ k x, Ws[k]? = some x → Wf k = x := ⟨fun k => Ws.getD k [], fun k x h => by simp [List.getD, h]⟩
  refine hR9 ?_
  clear hR9 R9
  -- children
  refine cutH (fun h' => ∀ R9 : Prop, (∀ ac c m', (Fr h₀ L h' m') → (News h₀ L h' [(ac, W.listOf (List.toArray []) c), (aw, W.listOf (List.toArray ws) cw), (L + 1, o1), (L + 2, o2), (L + 3, o3), (30, tabObj #[])]) → (m' "words" = some (.ref aw)) → (m' "children" = some (.ref ac)) → (aw ≠ ac) → R9) → R9) (fun PEnd hEnd => ?_) ?_
  · skip
    clear HQ
    walk_at "D54 go"
    rename_i hlt _ F8 N8
    walk_at "D54 up"
    exact End.mk' rfl (hEnd _ fun _ kEnd => kEnd _ _ _ F8 N8 hw3 rfl (Nat.ne_of_lt hlt.1))
  clear F3 N3 hw3
  intro h4 tk4 xq6
  refine xq6 _ fun ac cc m4 F4 N4 hw4 hc4 hne => ?_
  clear xq6
  try dsimp only
  -- the tree
  refine cutH (fun h' => ∀ R9 : Prop, (∀ m' ds C c par, (Fr h₀ L h' m') → (News h₀ L h' ((ac, W.listOf (List.toArray (refs ds)) c) :: (aw, W.listOf (List.toArray ws) cw) :: (L + 1, o1) :: (L + 2, o2) :: (L + 3, o3) :: (30, tabObj #[]) :: ds)) → (m' "words" = some (.ref aw)) → (m' "children" = some (.ref ac)) → ((ds.map (·.1)).Nodup) → (Paired (DcIs w) C ds) → (C.length = Ws.length) → (TreeP Wf par C) → R9) → R9) (fun PEnd hEnd => ?_) ?_
  · skip
    clear HQ
    have hwl := paired_len hPw
    refine wpAny_For (cut (fun v h' => Ex1 fun n => And6 (v = .ref (n + 1)) (n = h4.objs.size) (IsEnum h' (n + 1) n 0 .none) (h'.IsListIter n aw 0) (Fr h₀ L h' m4) (Ext h4 h')) ?_ ?_)
    · skip
      walk_at "D54 go"
      unfold Halt
      refine call_enumerate_list ⟨_, (N4 _ (.tail _ (.head _))).1, rfl, _, rfl⟩ fun h' q1 q2 _ q4 => ?_
      walk_at "D54 up"
      exact End.mk' rfl ⟨_, rfl, rfl, q1, q2, F4.keeps q4, q4⟩
    rintro v h5 tk5 xq7
    refine hideG fun R9 hR9 => ?_
    obtain ⟨n, rfl, hn, hen, hli, F5, hE⟩ := xq7
    refine hR9 ?_
    clear hR9 R9
    dsimp only
    have N5 := news_ext N4 hE
    have low : ∀ b o, h4.get? b = some o → b ≠ n + 1 ∧ b ≠ n := fun b o e => have q : b < n := hn ▸ Heap.lt_size e; ⟨Nat.ne_of_lt (Nat.lt_succ_of_lt q), Nat.ne_of_lt q⟩
    have lowN : ∀ p ∈ [(ac, W.listOf (List.toArray []) cc), (aw, W.listOf (List.toArray ws) cw), (L + 1, o1), (L + 2, o2), (L + 3, o3), (30, tabObj #[])], p.1 ≠ n + 1 ∧ p.1 ≠ n := fun p hp => low _ _ (N4 p hp).1
    have hLn : L ≠ n + 1 ∧ L ≠ n := by obtain ⟨o, _, _, ho, _⟩ := F4.ns; exact low L o ho
    have h0n : ∀ b o, h₀.get? b = some o → b ≠ n + 1 ∧ b ≠ n := fun b o e => low b o (F4.keep b o e)
    have WT := (WalksT.enumerate (prog := prog) (w := w) (A := ⟨none, d, fr, gd, u⟩) rfl (n + 1) n aw (Nat.succ_ne_self n) (lowN _ (.tail _ (.head _))).1 (lowN _ (.tail _ (.head _))).2 (List.toArray ws))
    have hst0 : (∃ old, IsEnum h5 (n + 1) n (0 : Nat) old) ∧ h5.IsListIter n aw 0 ∧ h5.IsList aw (List.toArray ws) := ⟨⟨_, hen⟩, hli, ⟨_, (N5 _ (.tail _ (.head _))).1, rfl, _, rfl⟩⟩
    refine WT.self 0 _ _ _ hst0 ?_
    refine forT (KTurns.ofWalksU WT.toU) (fun i h => Ex5 fun m ds C c par => And9 (Fr h₀ L h m) (News h₀ L h ((ac, W.listOf (List.toArray (refs ds)) c) :: (aw, W.listOf (List.toArray ws) cw) :: (L + 1, o1) :: (L + 2, o2) :: (L + 3, o3) :: (30, tabObj #[]) :: ds)) (m "words" = some (.ref aw)) (m "children" = some (.ref ac)) ((ds.map (·.1)).Nodup) ((∀ p ∈ ds, p.1 ≠ n + 1 ∧ p.1 ≠ n)) (Paired (DcIs w) C ds) (C.length = i) (TreeP Wf par C)) hst0 ?_ ?_ ?_ ?_
    · skip
      have N5' : News h₀ L h5 ((ac, W.listOf (List.toArray (refs [])) cc) :: (aw, W.listOf (List.toArray ws) cw) :: (L + 1, o1) :: (L + 2, o2) :: (L + 3, o3) :: (30, tabObj #[]) :: []) := N5
      exact ⟨m4, [], [], cc, fun _ => 0, F5, N5', hw4, hc4, List.nodup_nil, (fun p hp => nomatch hp), Paired.nil, rfl, treeP_nil _ _⟩
    · skip
      rintro i h h' xq8 hk
      refine hideG fun R9 hR9 => ?_
      obtain ⟨m, ds, C, c, par, F, N, hw, hc, hnd, hei, r1, r2, r3⟩ := xq8
      refine hR9 ?_
      clear hR9 R9
      have off : ∀ b, b ≠ n + 1 ∧ b ≠ n → b ∉ [n + 1, n] := fun b hb hm => (List.mem_cons.mp hm).elim hb.1 fun hm => hb.2 (List.mem_singleton.mp hm)
      refine ⟨m, ds, C, c, par, ⟨F.ns.at' fun o e => hk _ o (off _ hLn) e, fun b o e => hk b o (off _ (h0n b o e)) (F.keep b o e), F.above⟩, fun p hp => ⟨hk _ _ (off _ ?_) (N p hp).1, (N p hp).2⟩, hw, hc, hnd, hei, r1, r2, r3⟩
      rcases List.mem_append.mp (show p ∈ [(ac, W.listOf (List.toArray (refs ds)) c), (aw, W.listOf (List.toArray ws) cw), (L + 1, o1), (L + 2, o2), (L + 3, o3), (30, tabObj #[])] ++ ds from hp) with hp | hp
      · rcases List.mem_cons.mp hp with rfl | hp
        · exact lowN (ac, W.listOf (List.toArray []) cc) (.head _)
        · exact lowN _ (.tail _ hp)
      · exact hei p hp
    · skip
      rintro i v h tk hi xq9 xq10 xq11
      refine hideG fun R9 hR9 => ?_
      obtain ⟨T', vals, rfl, ⟨ti, x, hx, rfl⟩, hT⟩ := xq9
      obtain ⟨m, ds, C, c, par, F, N, hw, hc, hnd, hei, hP, hC, hTr⟩ := xq10
      obtain ⟨⟨old, hen'⟩, hli', hla'⟩ := xq11
      refine hR9 ?_
      clear hR9 R9
      dsimp only
      clear F4 N4 F5 N5 hst0 hen hli WT
      refine hideG fun R9 hR9 => ?_
      obtain ⟨oi, hoi, hoc, hod⟩ := hli'
      refine hR9 ?_
      clear hR9 R9
      refine hideG fun R9 hR9 => ?_
      obtain ⟨wk, hwk, tw', rfl⟩ := paired_get hPw i x (by simpa using hx)
      refine hR9 ?_
      clear hR9 R9
      have hWk : Wf i = wk := hWf i wk hwk
      refine hideG fun R9 hR9 => ?_
      obtain ⟨oe, hoe, hed⟩ : ∃ oe : Obj, h.get? (n + 1) = some oe ∧ oe.data = .fields #[.none, .bool false, .ref n, rawInt ((i + 1 : Nat) : Int), .none, old] := ⟨_, hen', rfl⟩
      refine hR9 ?_
      clear hR9 R9
      have n0 : ∀ b : Addr, (b = n + 1 ∨ b = n) → h₀.get? b = none := fun b hb => by
        cases e : h₀.get? b with
        | none => rfl
        | some o => exact (hb.elim (h0n b o e).1 (h0n b o e).2).elim
      refine kcp_assign rfl hT rfl rfl rfl F.ns fun h6 tk6 hn6 hk6 => ?_
      obtain ⟨m6, F6, hw6, hc6, hi6, hx6⟩ : ∃ m6, Fr h₀ L h6 m6 ∧ m6 "words" = some (.ref aw) ∧ m6 "children" = some (.ref ac) ∧ m6 "k" = some (.int i ti) ∧ m6 "word" = some (.str (tx wk) tw') :=
        ⟨_, ⟨hn6, fun b o e => hk6 b o (Nat.ne_of_lt (Nat.lt_of_lt_of_le (Heap.lt_size e) F.above)) (F.keep b o e), F.above⟩, hw, hc, rfl, rfl⟩
      have N6 : News h₀ L h6 ((n + 1, oe) :: (n, oi) :: (ac, W.listOf (List.toArray (refs ds)) c) :: (aw, W.listOf (List.toArray ws) cw) :: (L + 1, o1) :: (L + 2, o2) :: (L + 3, o3) :: (30, tabObj #[]) :: ds) := fun p hp => by
        rcases List.mem_cons.mp hp with rfl | hp
        · exact ⟨hk6 _ _ hLn.1.symm hoe, hLn.1.symm, n0 _ (.inl rfl)⟩
        · rcases List.mem_cons.mp hp with rfl | hp
          · exact ⟨hk6 _ _ hLn.2.symm hoi, hLn.2.symm, n0 _ (.inr rfl)⟩
          · exact ⟨hk6 _ _ (N p hp).2.1 (N p hp).1, (N p hp).2⟩
      have eC : C.length = i := hC
      have hawh : h.get? aw = some (W.listOf (List.toArray ws) cw) := (N _ (.tail _ (.head _))).1
      clear F N hn6 hk6 hw hc hT
      dsimp only
      refine hideQ fun Q9 hQ9 => ?_
      refine cutH (fun h' => ∀ R9 : Prop, (∀ ds' c', (Fr h₀ L h' m6) → (News h₀ L h' ((n + 1, oe) :: (n, oi) :: (ac, W.listOf (List.toArray (refs ds')) c') :: (aw, W.listOf (List.toArray ws) cw) :: (L + 1, o1) :: (L + 2, o2) :: (L + 3, o3) :: (30, tabObj #[]) :: ds')) → ((ds'.map (·.1)).Nodup) → ((∀ p ∈ ds', p.1 ≠ n + 1 ∧ p.1 ≠ n)) → (Paired (DcIs w) (C ++ [[]]) ds') → R9) → R9) (fun PEnd hEnd => ?_) ?_
      · skip
        walk_at "D54 go"
        rename_i dn hD oD FD ND lo _ _ hiD _ l1
        unfold Halt
        have hdl := allLt_mem _ l1.2.2.2.2.2.2.2.2
        refine hideG fun R9 hR9 => ?_
        obtain ⟨esD, epD, _, hdD, _⟩ := id hiD
        refine hR9 ?_
        clear hR9 R9
        have hac : ∀ p ∈ (aw, W.listOf (List.toArray ws) cw) :: (L + 1, o1) :: (L + 2, o2) :: (L + 3, o3) :: (30, tabObj #[]) :: ds, p.1 ≠ ac := fun p hp => by
          have z := (ND _ (.tail _ (.tail _ (.tail _ (.head _))))).1
          rcases List.mem_cons.mp hp with rfl | hp
          · exact hne
          have hp' := (ND p (.tail _ (.tail _ (.tail _ (.tail _ (.tail _ hp)))))).1
          refine ne_obj hp' z fun q => ?_
          simp only [List.mem_cons] at hp
          rcases hp with rfl | rfl | rfl | rfl | hp
          · rw [e1] at q; cases q
          · rw [e2] at q; cases q
          · rw [e3] at q; cases q
          · cases q
          · refine hideG fun R9 hR9 => ?_
            obtain ⟨_, _, q'⟩ := paired_mem hP p hp
            refine hR9 ?_
            clear hR9 R9
            refine hideG fun R9 hR9 => ?_
            obtain ⟨_, _, q''⟩ := dc_data q'
            refine hR9 ?_
            clear hR9 R9
            rw [q''] at q; cases q
        have hdsl : ds.length ≤ 63 := by rw [← paired_len hP, eC]; simp only [List.size_toArray] at hi; (exact om173 hi hnl)
        refine app_news FD ND (fun o' => Upd.tail (Nat.ne_of_gt l1.2.2.1) (Upd.tail (lowN (ac, W.listOf (List.toArray []) cc) (.head _)).1.symm (Upd.tail (lowN (ac, W.listOf (List.toArray []) cc) (.head _)).2.symm (Upd.head hac)))) (by simp only [refs, List.length_map]; (exact om174 hdsl)) fun h8 F8 N8 => ?_
        walk_at "D54 up"
        refine End.mk' rfl (hEnd _ fun _ kEnd => kEnd (ds ++ [(dn, oD)]) (c + 1) F8 ?_ ?_ ?_ ?_)
        · rw [show refs (ds ++ [(dn, oD)]) = refs ds ++ [.ref dn] by simp [refs]]
          intro p hp
          rw [← List.cons_append, ← List.cons_append, ← List.cons_append, ← List.cons_append, ← List.cons_append, ← List.cons_append, ← List.cons_append, ← List.cons_append] at hp
          rcases List.mem_append.mp hp with hp | hp
          · exact N8 p (.tail _ hp)
          · rw [List.mem_singleton.mp hp]; exact N8 _ (.head _)
        · rw [List.map_append, List.nodup_append]
          refine ⟨hnd, by simp, fun a ha b hb => ?_⟩
          refine hideG fun R9 hR9 => ?_
          obtain ⟨p, hp, rfl⟩ := List.mem_map.mp ha
          refine hR9 ?_
          clear hR9 R9
          rw [show b = dn by simpa using hb]
          exact Nat.ne_of_lt (hdl p hp)
        · intro p hp
          rcases List.mem_append.mp hp with hp | hp
          · exact hei p hp
          · rw [List.mem_singleton.mp hp]; exact ⟨Nat.ne_of_gt l1.1, Nat.ne_of_gt l1.2.1⟩
        · exact paired_append hP (.cons ⟨[], hiD, .nil, lo⟩ .nil)
      clear F6 N6 hnd hei hP
      intro h7 tk7 xq12
      refine xq12 _ fun ds7 c7 F7 N7 hnd7 hei7 hP7 => ?_
      clear xq12
      have hI7 : Ins Wf i 0 (C ++ [[]]) := eC ▸ ins_start hTr
      clear hTr hC
      revert hP7 hI7
      generalize C ++ [[]] = C7
      intro hP7 hI7
      dsimp only
      refine cutH (fun h' => ∀ R9 : Prop, (∀ m' t', (Fr h₀ L h' m') → (News h₀ L h' ((n + 1, oe) :: (n, oi) :: (ac, W.listOf (List.toArray (refs ds7)) c7) :: (aw, W.listOf (List.toArray ws) cw) :: (L + 1, o1) :: (L + 2, o2) :: (L + 3, o3) :: (30, tabObj #[]) :: ds7)) → (m' "words" = some (.ref aw)) → (m' "children" = some (.ref ac)) → (m' "k" = some (.int i ti)) → (m' "word" = some (.str (tx wk) tw')) → (m' "knot" = some (.int (0 : Nat) t')) → R9) → R9) (fun PEnd hEnd => ?_) ?_
      · skip
        walk_at "D54 go"
        rename_i F8 N8
        walk_at "D54 up"
        exact End.mk' rfl (hEnd _ fun _ kEnd => kEnd _ _ F8 N8 hw6 hc6 hi6 hx6 rfl)
      clear F7 N7 hw6 hc6 hi6 hx6
      intro h8 tk8 xq13
      refine xq13 _ fun m8 t8 F8 N8 hw8 hc8 hi8 hx8 hk8 => ?_
      clear xq13
      try dsimp only
      refine cutH (fun h' => ∀ R9 : Prop, (∀ m' ds' C' c', (Fr h₀ L h' m') → (News h₀ L h' ((n + 1, oe) :: (n, oi) :: (ac, W.listOf (List.toArray (refs ds')) c') :: (aw, W.listOf (List.toArray ws) cw) :: (L + 1, o1) :: (L + 2, o2) :: (L + 3, o3) :: (30, tabObj #[]) :: ds')) → (m' "words" = some (.ref aw)) → (m' "children" = some (.ref ac)) → ((ds'.map (·.1)).Nodup) → ((∀ p ∈ ds', p.1 ≠ n + 1 ∧ p.1 ≠ n)) → (Paired (DcIs w) C' ds') → (Ex1 fun knot => And (Ins Wf i knot C') (¬ knot < i)) → R9) → R9) (fun PEnd hEnd => ?_) ?_
      · skip
        refine wpAny_While (codeAny_whileLoop (fun q s' => Ex8 fun (h' : Heap) (tk : Nat) (m : PySem.Str → Option Value) (ds : List (Addr × Obj)) (C : List (List (Nat × Nat))) (c : Nat) (knot : Nat) (t' : Tok) => And13 (s' = ⟨h', s.gens, s.drawn, tk, s.os⟩) (Fr h₀ L h' m) (News h₀ L h' ((n + 1, oe) :: (n, oi) :: (ac, W.listOf (List.toArray (refs ds)) c) :: (aw, W.listOf (List.toArray ws) cw) :: (L + 1, o1) :: (L + 2, o2) :: (L + 3, o3) :: (30, tabObj #[]) :: ds)) (m "words" = some (.ref aw)) (m "children" = some (.ref ac)) (m "k" = some (.int i ti)) (m "word" = some (.str (tx wk) tw')) (m "knot" = some (.int (knot : Nat) t')) ((ds.map (·.1)).Nodup) ((∀ p ∈ ds, p.1 ≠ n + 1 ∧ p.1 ≠ n)) (Paired (DcIs w) C ds) (Ins Wf i knot C) (q = i - knot)) ?_ (i - 0) ?_)
        · rintro q s' xq14
          refine hideG fun R9 hR9 => ?_
          obtain ⟨h9, tk9, m9, ds9, C9, c9, knot, t9, rfl, F9, N9, hw9, hc9, hi9, hx9, hk9, hnd9, hei9, hP9, hI9, rfl⟩ := xq14
          refine hR9 ?_
          clear hR9 R9
          refine cut (fun b h' => And3 (b = decide (knot < i)) (Fr h₀ L h' m9) (News h₀ L h' ((n + 1, oe) :: (n, oi) :: (ac, W.listOf (List.toArray (refs ds9)) c9) :: (aw, W.listOf (List.toArray ws) cw) :: (L + 1, o1) :: (L + 2, o2) :: (L + 3, o3) :: (30, tabObj #[]) :: ds9))) ?_ ?_
          · skip
            walk_at "D54 go"
            walk_at "D54 up"
            exact End.mk' rfl ⟨decide_eq_decide.mpr (by (exact om175)), F9, N9⟩
          clear F8 N8 F9 N9
          rintro b h9 tk9 xq15
          refine hideG fun R9 hR9 => ?_
          obtain ⟨rfl, F9, N9⟩ := xq15
          refine hR9 ?_
          clear hR9 R9
          by_cases hlt : knot < i
          · rw [decide_eq_true hlt, if_pos rfl]
            dsimp only
            refine cutH (fun h' => ∀ R9 : Prop, (∀ m' ds' C' c' knot' t', (Fr h₀ L h' m') → (News h₀ L h' ((n + 1, oe) :: (n, oi) :: (ac, W.listOf (List.toArray (refs ds')) c') :: (aw, W.listOf (List.toArray ws) cw) :: (L + 1, o1) :: (L + 2, o2) :: (L + 3, o3) :: (30, tabObj #[]) :: ds')) → (m' "words" = some (.ref aw)) → (m' "children" = some (.ref ac)) → (m' "k" = some (.int i ti)) → (m' "word" = some (.str (tx wk) tw')) → (m' "knot" = some (.int ((knot' : Nat) : Int) t')) → ((ds'.map (·.1)).Nodup) → ((∀ p ∈ ds', p.1 ≠ n + 1 ∧ p.1 ≠ n)) → (Paired (DcIs w) C' ds') → (Ins Wf i knot' C') → (knot < knot') → R9) → R9) (fun PEnd hEnd => ?_) ?_
            · skip
              have hCl : C9.length = i + 1 := hI9.1
              refine hideG fun R9 hR9 => ?_
              obtain ⟨E9, hE9⟩ : ∃ E, C9[knot]? = some E := ⟨_, List.getElem?_eq_getElem (by (exact om176 hlt hCl))⟩
              refine hR9 ?_
              clear hR9 R9
              refine hideG fun R9 hR9 => ?_
              obtain ⟨⟨dk, ok⟩, hdk, kvs, hok', hkv, lok⟩ := paired_getl hP9 knot E9 hE9
              refine hR9 ?_
              clear hR9 R9
              have hdm : (dk, ok) ∈ ds9 := List.mem_of_getElem? hdk
              have hdN : (dk, ok) ∈ (n + 1, oe) :: (n, oi) :: (ac, W.listOf (List.toArray (refs ds9)) c9) :: (aw, W.listOf (List.toArray ws) cw) :: (L + 1, o1) :: (L + 2, o2) :: (L + 3, o3) :: (30, tabObj #[]) :: ds9 := .tail _ (.tail _ (.tail _ (.tail _ (.tail _ (.tail _ (.tail _ (.tail _ hdm)))))))
              have hkl : knot < Ws.length := by rw [hwl]; simp only [List.size_toArray] at hi; (exact om177 hlt hi)
              refine hideG fun R9 hR9 => ?_
              obtain ⟨wn, hwn⟩ : ∃ x, Ws[knot]? = some x := ⟨_, List.getElem?_eq_getElem hkl⟩
              refine hR9 ?_
              clear hR9 R9
              refine hideG fun R9 hR9 => ?_
              obtain ⟨wv, hwv, twn, rfl⟩ := paired_getl hPw knot wn hwn
              refine hR9 ?_
              clear hR9 R9
              refine hideG fun R9 hR9 => ?_
              obtain ⟨hl4, hsg⟩ := hok wn (List.mem_of_getElem? hwn)
              refine hR9 ?_
              clear hR9 R9
              refine hideG fun R9 hR9 => ?_
              obtain ⟨hl4k, hsgk⟩ := hok wk (List.mem_of_getElem? hwk)
              refine hR9 ?_
              clear hR9 R9
              have hkvl : kvs.length ≤ 1000 := by have := paired_len hkv; have := ins_len hI9 hE9; simp only [List.size_toArray] at hi; (exact om178 (by assumption) this hi hnl)
              have hWn : Wf knot = wn := hWf knot wn hwn
              have hrf : (refs ds9)[((knot : Nat) : Int).toNat]? = some (.ref dk) := by simp [refs, hdk]
              walk_at "D54 go"
              unfold Halt
              refine item_litK ⟨_, (N9 _ (.tail _ (.tail _ (.head _)))).1, rfl, _, rfl⟩ (Int.natCast_nonneg _) (by (exact om179 hkl hwl hnl)) hrf ?_
              refine sd_method (N9 _ hdN).1 hok' ?_
              walk_at "D54 go"
              unfold Halt
              refine item_litK ⟨_, (N9 _ (.tail _ (.tail _ (.tail _ (.head _))))).1, rfl, _, rfl⟩ (Int.natCast_nonneg _) (by (exact om179 hkl hwl hnl)) (by simpa using hwv) ?_
              walk_at "D54 go"
              unfold Halt
              refine lev_call (W0.keeps F9.keep) rfl (by dsimp only; (exact om162 hd' hd)) (by dsimp only; (exact om163 hu' hu)) hl4k hl4 hsgk hsg fun h' tk t hE => ?_
              have F10 := F9.keeps hE
              have N10 := news_ext N9 hE
              clear F9 N9
              walk_at "D54 go"
              unfold Halt
              refine sd_call (N10 _ hdN).1 hok' lok hkvl (fun v hv => ?_) (fun hv h'' o'' ho'' hd'' hs'' => ?_)
              · obtain ⟨c', t', hm', hv'⟩ | ⟨hv', _⟩ := kv_value hkv (dist wk wn)
                · rw [hv] at hv'
                  cases hv'
                  obtain ⟨i1, i2, i3⟩ := ins_down hI9 hlt hE9 (by rw [hWk, hWn]; exact hm')
                  walk_at "D54 go"
                  rename_i F11 N11
                  walk_at "D54 up"
                  exact End.mk' rfl (hEnd _ fun _ kEnd => kEnd _ ds9 C9 c9 c' t' F11 N11 hw9 hc9 hi9 hx9 rfl hnd9 hei9 hP9 i1 i2)
                · rw [hv] at hv'; cases hv'
              · obtain ⟨c', t', hm', hv'⟩ | ⟨_, hst⟩ := kv_value hkv (dist wk wn)
                · rw [hv] at hv'; cases hv'
                have i1 := ins_new hI9 hlt hE9
                rw [hWk, hWn] at i1
                have hpre : ∀ p ∈ [(n + 1, oe), (n, oi), (ac, W.listOf (List.toArray (refs ds9)) c9), (aw, W.listOf (List.toArray ws) cw), (L + 1, o1), (L + 2, o2), (L + 3, o3), (30, tabObj #[])], p.1 ≠ dk := fun p hp => by
                  refine hideG fun R9 hR9 => ?_
                  obtain ⟨_, _, qd⟩ := dc_data (w := w) (p := (dk, ok)) ⟨kvs, hok', hkv, lok⟩
                  refine hR9 ?_
                  clear hR9 R9
                  refine ne_obj (N10 p (List.mem_append_left ds9 hp)).1 (N10 _ hdN).1 fun q => ?_
                  rw [qd] at q
                  simp only [List.mem_cons, List.not_mem_nil, or_false] at hp
                  rcases hp with rfl | rfl | rfl | rfl | rfl | rfl | rfl | rfl
                  · rw [hed] at q; cases q
                  · rw [hod] at q; cases q
                  · cases q
                  · cases q
                  · rw [e1] at q; cases q
                  · rw [e2] at q; cases q
                  · rw [e3] at q; cases q
                  · cases q
                have F11 := F10.change hs'' (N10 _ hdN).2.1 (N10 _ hdN).2.2
                have N11 := news_dset (pre := [(n + 1, oe), (n, oi), (ac, W.listOf (List.toArray (refs ds9)) c9), (aw, W.listOf (List.toArray ws) cw), (L + 1, o1), (L + 2, o2), (L + 3, o3), (30, tabObj #[])]) (ds := ds9) N10 hdk hnd9 hpre hs'' ho''
                have er : refs (ds9.set knot (dk, o'')) = refs ds9 := map_set_same (f := fun p : Addr × Obj => Value.ref p.1) (y := (dk, o'')) hdk rfl
                have em : (ds9.set knot (dk, o'')).map (·.1) = ds9.map (·.1) := map_set_same (f := fun p : Addr × Obj => p.1) (y := (dk, o'')) hdk rfl
                have hP12 : Paired (DcIs w) (C9.set knot (E9 ++ [(dist wk wn, i)])) (ds9.set knot (dk, o'')) := paired_set hP9 knot ⟨_, hd'', by rw [hst]; exact paired_append hkv (.cons ⟨rfl, _, rfl⟩ .nil), lok⟩
                revert N11 hP12 er em
                generalize ds9.set knot (dk, o'') = ds12
                intro N11 er em hP12
                rw [← er] at N11
                have N12 : News h₀ L h'' ((n + 1, oe) :: (n, oi) :: (ac, W.listOf (List.toArray (refs ds12)) c9) :: (aw, W.listOf (List.toArray ws) cw) :: (L + 1, o1) :: (L + 2, o2) :: (L + 3, o3) :: (30, tabObj #[]) :: ds12) := N11
                have hei12 : ∀ p ∈ ds12, p.1 ≠ n + 1 ∧ p.1 ≠ n := fun p hp => by
                  have : p.1 ∈ ds12.map (·.1) := List.mem_map_of_mem hp
                  rw [em] at this
                  refine hideG fun R9 hR9 => ?_
                  obtain ⟨q, hq, eq⟩ := List.mem_map.mp this
                  refine hR9 ?_
                  clear hR9 R9
                  rw [← eq]; exact hei9 q hq
                have hnd12 : (ds12.map (·.1)).Nodup := em ▸ hnd9
                clear F10 N10 N11
                walk_at "D54 go"
                rename_i F13 N13
                walk_at "D54 up"
                exact End.mk' rfl (hEnd _ fun _ kEnd => kEnd _ ds12 _ c9 i ti F13 N13 hw9 hc9 hi9 hx9 rfl hnd12 hei12 hP12 i1 hlt)
            intro h10 tk10 xq16
            refine xq16 _ fun m10 ds10 C10 c10 knot10 t10 F10 N10 hw10 hc10 hi10 hx10 hk10 hnd10 hei10 hP10 hI10 hl10 => ?_
            clear xq16
            exact wpAny_execs_nil ⟨i - knot10, by (exact om180 hlt hl10), h10, tk10, m10, ds10, C10, c10, knot10, t10, rfl, F10, N10, hw10, hc10, hi10, hx10, hk10, hnd10, hei10, hP10, hI10, rfl⟩
          · rw [decide_eq_false hlt, if_neg Bool.false_ne_true]
            exact wpAny_execs_nil (End.mk' rfl (hEnd _ fun _ kEnd => kEnd m9 ds9 C9 c9 F9 N9 hw9 hc9 hnd9 hei9 hP9 ⟨knot, hI9, hlt⟩))
        · exact ⟨h8, tk8, m8, ds7, C7, c7, 0, t8, rfl, F8, N8, hw8, hc8, hi8, hx8, hk8, hnd7, hei7, hP7, hI7, rfl⟩
      intro h9 tk9 xq17
      refine xq17 _ fun m9 ds9 C9 c9 F9 N9 hw9 hc9 hnd9 hei9 hP9 ez1 => ?_
      clear xq17
      refine hideG fun R9 hR9 => ?_
      obtain ⟨knot, hI9, hlt⟩ := ez1
      refine hR9 ?_
      clear hR9 R9
      refine hideG fun R9 hR9 => ?_
      obtain ⟨hC9, par9, hTr9⟩ := ins_end hI9 hlt
      refine hR9 ?_
      clear hR9 R9
      refine wpAny_execs_nil (hQ9 _ _ ⟨h9, tk9, rfl, ⟨m9, ds9, C9, c9, par9, F9, fun p hp => N9 p (.tail _ (.tail _ hp)), hw9, hc9, hnd9, hei9, hP9, hC9, hTr9⟩, fun b hb o e => ?_⟩)
      rcases List.mem_cons.mp hb with rfl | hb
      · rw [hoe] at e; cases e; exact (N9 _ (.head _)).1
      · rcases List.mem_cons.mp hb with rfl | hb
        · rw [hoi] at e; cases e; exact (N9 _ (.tail _ (.head _))).1
        · rw [List.mem_singleton.mp hb] at e ⊢
          rw [hawh] at e; cases e
          exact (N9 _ (.tail _ (.tail _ (.tail _ (.head _))))).1
    · skip
      rintro h tk xq18
      refine hideG fun R9 hR9 => ?_
      obtain ⟨m, ds, C, c, par, F, N, hw, hc, hnd, hei, hP, hC, hTr⟩ := xq18
      refine hR9 ?_
      clear hR9 R9
      walk_at "D54 up"
      exact End.mk' rfl (hEnd _ fun _ kEnd => kEnd m ds C c par F N hw hc hnd hP (by rw [hC, List.size_toArray, hwl]) hTr)
  clear F4 N4 hw4 hc4
  intro h5 tk5 xq19
  refine xq19 _ fun m5 ds C c5 par F5 N5 hw5 hc5 hnd hP hC hTr => ?_
  clear xq19
  try dsimp only
  -- costs
  refine cutH (fun h' => ∀ R9 : Prop, (∀ m' xs ck aco fz, (Fr h₀ L h' m') → (News h₀ L h' ((L + 1, o1) :: (L + 2, o2) :: (L + 3, o3) :: (30, tabObj #[]) :: fz)) → (m' "words" = some (.ref aw)) → (m' "children" = some (.ref ac)) → (m' "costs" = some (.ref aco)) → ((aw, W.listOf (List.toArray ws) cw) ∈ fz) → ((ac, W.listOf (List.toArray (refs ds)) c5) ∈ fz) → ((aco, W.listOf (List.toArray (xs.map Value.ref)) ck) ∈ fz) → ((∀ p ∈ ds, p ∈ fz)) → (Paired (PrF fz fun i => ((dist wan (Wf i) : Nat), Wf i)) (List.range ws.length) xs) → (∀ p ∈ fz, p.1 ≠ L + 1 ∧ p.1 ≠ L + 2 ∧ p.1 ≠ L + 3 ∧ p.1 ≠ 30) → R9) → R9) (fun PEnd hEnd => ?_) ?_
  · skip
    clear HQ
    have hwl := paired_len hPw
    walk_at "D54 go"
    unfold Halt
    have hawN : h5.get? aw = some (W.listOf (List.toArray ws) cw) := (N5 _ (.tail _ (.head _))).1
    refine cg_assign (cl := [(PySem.Str.ofString "wanted", L + 1)]) (fun _ => true) ws.length (fun i y h => ∃ a, y = .ref a ∧ h5.objs.size + 1 + 2 ≤ a ∧ PrAt h a ((dist wan (Wf i) : Nat), Wf i)) (by with_unfolding_all rfl) rfl (by decide) rfl (by decide) rfl rfl ?_
    refine ldLoc F5 hw5 ?_
    refine wpAny_pyIter_list ⟨_, hawN, rfl, _, rfl⟩ ?_
    have hsz : (h5.push { cls := .type "list_iterator", data := .fields #[.ref aw, .int 0 0] }).objs.size = h5.objs.size + 1 := Heap.size_push ..
    have hlt : aw < h5.objs.size := Heap.lt_size hawN
    have WL := Walks.list (prog := prog) (w := w) (A := ⟨none, d, fr, gd, u⟩) rfl h5.objs.size aw (Nat.ne_of_lt hlt) (List.toArray ws)
    have E5 : Ext h5 (h5.push { cls := .type "list_iterator", data := .fields #[.ref aw, .int 0 0] }) := fun b o e => Heap.get?_push_of_some _ e
    have hst0 : (h5.push { cls := .type "list_iterator", data := .fields #[.ref aw, .int 0 0] }).IsListIter h5.objs.size aw 0 ∧ (h5.push { cls := .type "list_iterator", data := .fields #[.ref aw, .int 0 0] }).IsList aw (List.toArray ws) := ⟨⟨_, Heap.get?_push_size _ rfl, rfl, rfl⟩, ⟨_, E5 _ _ hawN, rfl, _, rfl⟩⟩
    have hLs : L ∉ [h5.objs.size] := fun hm => absurd F5.ns.lt (by rw [List.mem_singleton.mp hm]; exact Nat.lt_irrefl _)
    refine ⟨h5.objs.size, [h5.objs.size], m5, rfl, ⟨_, _, _, _, fun i m => ∃ x t, Ws[i]? = some x ∧ m "word" = some (.str (tx x) t), KTurns.ofWalks WL (fun _ _ _ _ _ _ q => wpAny_pure q), fun s Q E st q => WL.self 0 s Q E st q, by (exact om174 hnl), ?_, hst0, ?_, ?_, ?_, ?_⟩, hLs, (F5.keeps E5).ns, ?_⟩
    · skip
      rintro i y h h' hk xq20
      refine hideG fun R9 hR9 => ?_
      obtain ⟨a, rfl, ha, t, u, k, e⟩ := xq20
      refine hR9 ?_
      clear hR9 R9
      exact ⟨a, rfl, ha, t, u, k, hk a _ (by show (h5.push _).objs.size + 2 ≤ a; rw [hsz]; exact ha) e⟩
    · skip
      intro b hb
      show b < (h5.push _).objs.size
      rw [hsz]
      rcases List.mem_cons.mp hb with rfl | hb
      · exact Nat.lt_succ_self _
      · rw [List.mem_singleton.mp hb]; exact Nat.lt_succ_of_lt hlt
    · skip
      rintro C i v s₃ m₃ Q' E' hi hP hn3 hq
      refine hideG fun R9 hR9 => ?_
      obtain ⟨x, hx, t, rfl⟩ := paired_get hPw i v (by simpa using hP)
      refine hR9 ?_
      clear hR9 R9
      exact cg_name rfl rfl hn3 fun h' tk m' hn' hm' hk' => hq h' tk m' hn' ⟨x, t, hx, hm'⟩ hk'
    · skip
      intro C i s₃ m₃ _ _ _ _ _
      exact wpAny_tests_nil ⟨rfl, _, _, rfl, fun _ _ e => e⟩
    · skip
      rintro CC i xq21 m₃ hCC hi _ hn3 xq22 hk3
      refine hideG fun R9 hR9 => ?_
      obtain ⟨h7, g7, dr7, tk7, os7⟩ := xq21
      obtain ⟨x, t, hx, hmx⟩ := xq22
      refine hR9 ?_
      clear hR9 R9
      have hCC' : h5.objs.size + 1 + 1 = CC := by rw [← hCC]; exact congrArg (· + 1) hsz.symm
      have hk7 : ∀ b o, h5.get? b = some o → h7.get? b = some o := fun b o e => hk3 b o (fun hm => absurd (Heap.lt_size e) (by rw [List.mem_singleton.mp hm]; exact Nat.lt_irrefl _)) (E5 b o e)
      have F7 := F5.keeps hk7
      have N7 := news_ext N5 hk7
      have hcl : h7.IsCell (L + 1) (some (.str (tx wan) tw)) := ⟨o1, (N7 _ (.tail _ (.tail _ (.head _)))).1, e1⟩
      have W7 := W0.keeps F7.keep
      have hWi := hWf i x hx
      refine hideG fun R9 hR9 => ?_
      obtain ⟨hx4, hxs⟩ := hok x (List.mem_of_getElem? hx)
      refine hR9 ?_
      clear hR9 R9
      rw [hWi]
      refine cut (fun y h' => And ((∃ a, y = .ref a ∧ h5.objs.size + 1 + 2 ≤ a ∧ PrAt h' a ((dist wan x : Nat), x))) (Ext h7 h')) ?_ (fun v h' tk q => ⟨q.1, h', tk, rfl, q.2⟩)
      clear F5 N5
      walk_at "D54 go"
      unfold Halt
      refine cost_call W7 rfl (by dsimp only; (exact om181 hd' hd)) (by dsimp only; (exact om182 hu' hu)) hW4 hW0 hx4 hxs fun h' tk t' hE => ?_
      have hn8 : h'.Ns CC m₃ := hn3.at' fun o e => hE _ _ e
      have hC8 : CC < h'.objs.size := hn8.lt
      clear hn3
      walk1
      walk1
      walk1
      refine wpAny_newList ?_ (by rw [sizeLine_eq]; simp)
      walk_at "D54 up"
      refine End.mk' rfl ⟨⟨_, rfl, ?_, _, _, _, Heap.get?_push_size _ rfl⟩, fun b o e => Heap.get?_push_of_some _ (hE b o e)⟩
      rw [← hCC'] at hC8
      exact hC8
    · skip
      intro D3 h' tk ys hD3 hD3e hlD hPr hns hk'
      rw [List.filter_eq_self.mpr (fun _ _ => rfl)] at hPr
      have hkL : ∀ b o, h5.get? b = some o → b ≠ L → h'.get? b = some o := fun b o e hb => hk' b o hb (fun hm => absurd (Heap.lt_size e) (by rw [List.mem_singleton.mp hm]; exact Nat.lt_irrefl _)) (E5 b o e)
      have F6 : Fr h₀ L h' _ := ⟨hns, fun b o e => hkL b o (F5.keep b o e) (Nat.ne_of_lt (Nat.lt_of_lt_of_le (Heap.lt_size e) F5.above)), F5.above⟩
      have hD0 := none_up F5.keep (none_up E5 hD3)
      have hDL : D3 ≠ L := fun e => by obtain ⟨o, _, _, ho, _⟩ := F5.ns; rw [← e, none_up E5 hD3] at ho; cases ho
      refine hideG fun R9 hR9 => ?_
      obtain ⟨xs, rfl, hxl, hxa, hxp⟩ := prs_of hPr
      refine hR9 ?_
      clear hR9 R9
      refine hideG fun R9 hR9 => ?_
      obtain ⟨po, hpo, hpf⟩ := prs_objs hxp
      refine hR9 ?_
      clear hR9 R9
      have hxn : ∀ x ∈ xs, h5.get? x = none := fun x hx => Heap.get?_none_of_le (Nat.le_trans (Nat.le_trans (Nat.le_succ _) (Nat.le_add_right _ 2)) (hxa x hx))
      have N6 : News h₀ L h' [(L + 1, o1), (L + 2, o2), (L + 3, o3), (30, tabObj #[])] := fun p hp => by
        have q := N5 p (.tail _ (.tail _ (List.mem_append_left ds hp)))
        exact ⟨hkL _ _ q.1 q.2.1, q.2⟩
      have N7 : News h₀ L h' ((D3, W.listOf (List.toArray (xs.map Value.ref)) (xs.map Value.ref).length) :: (ac, W.listOf (List.toArray (refs ds)) c5) :: (aw, W.listOf (List.toArray ws) cw) :: (ds ++ po)) := fun p hp => by
        rcases List.mem_cons.mp hp with rfl | hp
        · exact ⟨hlD, hDL, hD0⟩
        rw [← List.cons_append, ← List.cons_append] at hp
        rcases List.mem_append.mp hp with hp | hp
        · have q := N5 p (by
            rcases List.mem_cons.mp hp with rfl | hp
            · exact .head _
            · rcases List.mem_cons.mp hp with rfl | hp
              · exact .tail _ (.head _)
              · exact .tail _ (.tail _ (.tail _ (.tail _ (.tail _ (.tail _ hp))))))
          exact ⟨hkL _ _ q.1 q.2.1, q.2⟩
        · have q := hpo p hp
          have q0 := hxn _ q.1
          refine ⟨q.2.1, fun e => ?_, none_up F5.keep q0⟩
          refine hideG fun R9 hR9 => ?_
          obtain ⟨o, _, _, ho, _⟩ := F5.ns
          refine hR9 ?_
          clear hR9 R9
          rw [← e, q0] at ho; cases ho
      walk_at "D54 up"
      refine End.mk' rfl (hEnd _ fun _ kEnd => kEnd _ xs _ D3 ((D3, W.listOf (List.toArray (xs.map Value.ref)) (xs.map Value.ref).length) :: (ac, W.listOf (List.toArray (refs ds)) c5) :: (aw, W.listOf (List.toArray ws) cw) :: (ds ++ po)) F6 (fun p hp => ?_) hw5 hc5 rfl (.tail _ (.tail _ (.head _))) (.tail _ (.head _)) (.head _) (fun p hp => .tail _ (.tail _ (.tail _ (List.mem_append_left _ hp)))) (paired_mono (fun i x ⟨t, u, k, e⟩ => ⟨t, u, k, .tail _ (.tail _ (.tail _ (List.mem_append_right _ e)))⟩) hpf) (fun p hp => ?_))
      · simp only [List.mem_cons] at hp
        rcases hp with hp | hp | hp | hp | hp
        · exact N6 p (by simp [hp])
        · exact N6 p (by simp [hp])
        · exact N6 p (by simp [hp])
        · exact N6 p (by simp [hp])
        · exact N7 p (by simpa using hp)
      · have q := (N7 p hp).1
        have hdt : (∃ its c, p.2.data = .seq its c) ∨ ∃ es ep, p.2.data = .dict es ep := by
          rcases List.mem_cons.mp hp with rfl | hp
          · exact .inl ⟨_, _, rfl⟩
          rcases List.mem_cons.mp hp with rfl | hp
          · exact .inl ⟨_, _, rfl⟩
          rcases List.mem_cons.mp hp with rfl | hp
          · exact .inl ⟨_, _, rfl⟩
          rcases List.mem_append.mp hp with hp | hp
          · refine hideG fun R9 hR9 => ?_
            obtain ⟨_, _, q'⟩ := paired_mem hP p hp
            refine hR9 ?_
            clear hR9 R9
            exact .inr (dc_data q')
          · exact .inl (hpo p hp).2.2
        refine ⟨ne_obj q (N6 _ (.head _)).1 fun z => ?_, ne_obj q (N6 _ (.tail _ (.head _))).1 fun z => ?_, ne_obj q (N6 _ (.tail _ (.tail _ (.head _)))).1 fun z => ?_, ne_obj q (N6 _ (.tail _ (.tail _ (.tail _ (.head _))))).1 fun z => ?_⟩
        · rw [e1] at z; rcases hdt with ⟨_, _, q'⟩ | ⟨_, _, q'⟩ <;> (rw [q'] at z; cases z)
        · rw [e2] at z; rcases hdt with ⟨_, _, q'⟩ | ⟨_, _, q'⟩ <;> (rw [q'] at z; cases z)
        · rw [e3] at z; rcases hdt with ⟨_, _, q'⟩ | ⟨_, _, q'⟩ <;> (rw [q'] at z; cases z)
        · rcases hdt with ⟨_, _, q'⟩ | ⟨_, _, q'⟩ <;> (rw [q'] at z; cases z)
  clear F5 N5 hw5 hc5
  intro h6 tk6 xq23
  refine xq23 _ fun m6 xs ck aco fz0 F6 N6 hw6 hc6 hk6 ma mc mk md mp sep0 => ?_
  clear xq23
  try dsimp only
  have hwl := paired_len hPw
  refine cutH (fun h' => ∀ R9 : Prop, (∀ m' ps, (Fr h₀ L h' m') → (h'.get? 30 = some (tabObj ps)) → R9) → R9) (fun PEnd hEnd => ?_) ?_
  · skip
    clear HQ
    refine wpAny_For (cut (fun v h' => Ex4 fun r t1 t2 t3 => And4 (v = .ref r) (IsRange h' r 0 9 1 t1 t2 t3) (Fr h₀ L h' m6) (News h₀ L h' ((L + 1, o1) :: (L + 2, o2) :: (L + 3, o3) :: (30, tabObj #[]) :: fz0))) ?_ ?_)
    · skip
      walk_at "D54 go"
      rename_i hR F2 N2 _
      walk_at "D54 up"
      exact End.mk' rfl ⟨_, _, _, _, rfl, hR, F2, N2⟩
    clear F6 N6
    rintro v h7 tk7 xq24
    refine hideG fun R9 hR9 => ?_
    obtain ⟨r7, t7, u7, v7, rfl, hR7, F7, N7⟩ := xq24
    refine hR9 ?_
    clear hR9 R9
    dsimp only
    refine hideG fun R9 hR9 => ?_
    obtain ⟨I, hI⟩ : ∃ I, I = h7.objs.size := ⟨_, rfl⟩
    refine hR9 ?_
    clear hR9 R9
    have lowI : ∀ b o, h7.get? b = some o → b ≠ I := fun b o e => by rw [hI]; exact Nat.ne_of_lt (Heap.lt_size e)
    have hLI : @LT.lt Nat _ (L + 3) I := by rw [hI]; exact Heap.lt_size (N7 _ (.tail _ (.tail _ (.head _)))).1
    have h0I : h₀.get? I = none := by
      cases e : h₀.get? I with
      | none => rfl
      | some o => exact absurd rfl (lowI I o (F7.keep _ _ e))
    refine for_rngN (n := 9) rfl hR7 rfl (by decide) (fun i h => Ex7 fun m o2 o3 v2 v3 ps fz => And10 (Fr h₀ L h m) (News h₀ L h ((L + 1, o1) :: (L + 2, o2) :: (L + 3, o3) :: (30, tabObj ps) :: fz)) (o2.data = .cell v2) (o3.data = .cell v3) (m "words" = some (.ref aw)) (m "children" = some (.ref ac)) (m "costs" = some (.ref aco)) ((∀ p ∈ fz0, p ∈ fz)) ((∀ p ∈ fz, p.1 ≠ L + 1 ∧ p.1 ≠ L + 2 ∧ p.1 ≠ L + 3 ∧ p.1 ≠ 30 ∧ p.1 ≠ I)) (GrT h₀ ps fz)) ?_ ?_ ?_ ?_ ?_
    · skip
      exact ⟨m6, o2, o3, _, _, #[], fz0, F7, N7, e2, e3, hw6, hc6, hk6, fun _ q => q, fun p hp => ⟨(sep0 p hp).1, (sep0 p hp).2.1, (sep0 p hp).2.2.1, (sep0 p hp).2.2.2, lowI _ _ (N7 p (.tail _ (.tail _ (.tail _ (.tail _ hp))))).1⟩, .inl rfl⟩
    · skip
      rintro i h h' xq25 hkp
      refine hideG fun R9 hR9 => ?_
      obtain ⟨m, o2, o3, v2, v3, ps, fz, F, N, d2, d3, hw, hc, hk, hsub, sep, tab⟩ := xq25
      refine hR9 ?_
      clear hR9 R9
      have hkI : ∀ b o, b ≠ I → h.get? b = some o → h'.get? b = some o := fun b o hb e => hkp b o (by rw [hI] at hb; exact hb) e
      refine ⟨m, o2, o3, v2, v3, ps, fz, ⟨F.ns.at' fun o e => hkI _ o (Nat.ne_of_lt (Nat.lt_of_le_of_lt (Nat.le_add_right L 3) hLI)) e, fun b o e => hkI b o (lowI b o (F7.keep b o e)) (F.keep b o e), F.above⟩, fun p hp => ⟨hkI _ _ ?_ (N p hp).1, (N p hp).2⟩, d2, d3, hw, hc, hk, hsub, sep, tab⟩
      simp only [List.mem_cons] at hp
      rcases hp with rfl | rfl | rfl | rfl | hp
      · walk_at "D54 ne"
      · walk_at "D54 ne"
      · walk_at "D54 ne"
      · walk_at "D54 ne"
      · exact (sep p hp).2.2.2.2
    · rintro i tv h tk it hi hic hIt xq26
      refine hideG fun R9 hR9 => ?_
      obtain ⟨m, o2, o3, v2, v3, ps, fz, F, N, d2, d3, hw, hc, hk, hsub, sep, tab⟩ := xq26
      refine hR9 ?_
      clear hR9 R9
      dsimp only at hIt ⊢
      rw [← hI] at hIt ⊢
      clear F7 N7 hR7 e2 e3
      have NI : News h₀ L h ((I, it) :: (L + 1, o1) :: (L + 2, o2) :: (L + 3, o3) :: (30, tabObj ps) :: fz) := fun p hp => by
        rcases List.mem_cons.mp hp with rfl | hp
        · exact ⟨hIt, Nat.ne_of_gt (Nat.lt_of_le_of_lt (Nat.le_add_right L 3) hLI), h0I⟩
        · exact N p hp
      refine cut (fun _ h' => Ex1 fun o2' => And3 (Fr h₀ L h' m) (News h₀ L h' ((I, it) :: (L + 1, o1) :: (L + 2, o2') :: (L + 3, o3) :: (30, tabObj ps) :: fz)) (o2'.data = .cell (some (.int (i : Nat) tv)))) ?_ ?_
      · skip
        exact st_cell F NI (fun o' => Upd.tail (by walk_at "D54 ne") (Upd.tail (by walk_at "D54 ne") (Upd.head (List.forall_mem_cons.mpr ⟨by walk_at "D54 ne", List.forall_mem_cons.mpr ⟨by walk_at "D54 ne", fun p hp => (sep p hp).2.1⟩⟩)))) d2 rfl rfl rfl fun h' o' F' N' d' => End.mk' rfl ⟨o', F', N', d'⟩
      clear F N NI d2 hIt o2
      rintro _ h8 tk8 xq27
      refine hideG fun R9 hR9 => ?_
      obtain ⟨o2, F8, N8, d2⟩ := xq27
      refine hR9 ?_
      clear hR9 R9
      dsimp only
      refine cutH (fun h' => ∀ R9 : Prop, (∀ m' af ag cf cg t0, (Fr h₀ L h' m') → (News h₀ L h' ((ag, W.listOf (List.toArray [.int ((0 : Nat) : Int) t0]) cg) :: (af, W.listOf (List.toArray []) cf) :: (I, it) :: (L + 1, o1) :: (L + 2, o2) :: (L + 3, o3) :: (30, tabObj ps) :: fz)) → (m' "words" = some (.ref aw)) → (m' "children" = some (.ref ac)) → (m' "costs" = some (.ref aco)) → (m' "found" = some (.ref af)) → (m' "todo" = some (.ref ag)) → (@LT.lt Nat _ I af) → (@LT.lt Nat _ af ag) → ((∀ p ∈ fz, p.1 ≠ af ∧ p.1 ≠ ag)) → R9) → R9) (fun PEnd hEnd => ?_) ?_
      · skip
        walk_at "D54 go"
        rename_i a1 _ l1 a2 _ l2 _ _ _ _ _ _ F2 N2
        walk_at "D54 up"
        exact End.mk' rfl (hEnd _ fun _ kEnd => kEnd _ _ _ _ _ _ F2 (fun p hp => N2 p (.tail _ hp)) hw hc hk rfl rfl l1.1 l2.1 (fun p hp => ⟨Nat.ne_of_lt (allLt_mem _ l1.2.2.2.2.2 p hp), Nat.ne_of_lt (allLt_mem _ l2.2.2.2.2.2.2 p hp)⟩))
      clear F8 N8 hw hc hk
      intro h9 tk9 xq28
      refine xq28 _ fun m9 af ag cf cg t0 F9 N9 hw9 hc9 hk9 hf9 hg9 hIf hfg sepf => ?_
      clear xq28
      try dsimp only
      refine hideG fun R9 hR9 => ?_
      obtain ⟨ff, hff⟩ : ∃ ff : Nat → Int × List Nat, ff = fun i => (((dist wan (Wf i) : Nat) : Int), Wf i) := ⟨_, rfl⟩
      refine hR9 ?_
      clear hR9 R9
      rw [← hff] at mp
      refine cutH (fun h' => ∀ R9 : Prop, (∀ m' o3' v3 fz' fxs Fl cf' cg', (Fr h₀ L h' m') → (News h₀ L h' ((ag, W.listOf (List.toArray []) cg') :: (af, W.listOf (List.toArray (fxs.map Value.ref)) cf') :: (I, it) :: (L + 1, o1) :: (L + 2, o2) :: (L + 3, o3') :: (30, tabObj ps) :: fz')) → (o3'.data = .cell v3) → (m' "costs" = some (.ref aco)) → (m' "words" = some (.ref aw)) → (m' "children" = some (.ref ac)) → (m' "found" = some (.ref af)) → ((∀ p ∈ fz, p ∈ fz')) → ((∀ p ∈ fz', p.1 ≠ L + 1 ∧ p.1 ≠ L + 2 ∧ p.1 ≠ L + 3 ∧ p.1 ≠ 30 ∧ p.1 ≠ I ∧ p.1 ≠ af ∧ p.1 ≠ ag)) → (Paired (PrF fz' ff) Fl fxs) → (Srch Wf wan i par C.length [] Fl) → (Fl.length ≤ C.length) → R9) → R9) (fun PEnd hEnd => ?_) ?_
      · skip
        refine wpAny_While (codeAny_whileLoop (fun q s' => Ex12 fun (h' : Heap) (tk : Nat) (m : PySem.Str → Option Value) (o3 : Obj) (v3 : Option Value) (fz' : List (Addr × Obj)) (fxs : List Addr) (Fl : List Nat) (todo : List Nat) (tvs : List Value) (cf : Nat) (cg : Nat) => And16 (s' = ⟨h', s.gens, s.drawn, tk, s.os⟩) (Fr h₀ L h' m) (News h₀ L h' ((ag, W.listOf (List.toArray tvs) cg) :: (af, W.listOf (List.toArray (fxs.map Value.ref)) cf) :: (I, it) :: (L + 1, o1) :: (L + 2, o2) :: (L + 3, o3) :: (30, tabObj ps) :: fz')) (o3.data = .cell v3) (m "costs" = some (.ref aco)) (m "words" = some (.ref aw)) (m "children" = some (.ref ac)) (m "found" = some (.ref af)) (m "todo" = some (.ref ag)) ((∀ p ∈ fz, p ∈ fz')) ((∀ p ∈ fz', p.1 ≠ L + 1 ∧ p.1 ≠ L + 2 ∧ p.1 ≠ L + 3 ∧ p.1 ≠ 30 ∧ p.1 ≠ I ∧ p.1 ≠ af ∧ p.1 ≠ ag)) (Paired (PrF fz' ff) Fl fxs) (IntsAre tvs (castI todo)) (Srch Wf wan i par C.length todo Fl) (Fl.length + meas par C.length todo ≤ C.length) (q = meas par C.length todo)) ?_ (meas par C.length [0]) ?_)
        · rintro q s' xq29
          refine hideG fun R9 hR9 => ?_
          obtain ⟨h10, tk10, m10, o3, v3, fz', fxs, Fl, todo, tvs, cf, cg, rfl, F10, N10, d3, hk10, hw10, hc10, hf10, hg10, hsub', sep', hPf, hIt, hS, hms, rfl⟩ := xq29
          refine hR9 ?_
          clear hR9 R9
          clear F9 N9
          have htl := meas_len (par := par) hS.lt
          have hvl := ints_len hIt
          have hcl : (castI todo).length = todo.length := List.length_map ..
          have hCl : C.length ≤ 63 := by (exact om192 hC hwl hnl)
          refine cut (fun b h' => And3 (b = decide (0 < todo.length)) (Fr h₀ L h' m10) (News h₀ L h' ((ag, W.listOf (List.toArray tvs) cg) :: (af, W.listOf (List.toArray (fxs.map Value.ref)) cf) :: (I, it) :: (L + 1, o1) :: (L + 2, o2) :: (L + 3, o3) :: (30, tabObj ps) :: fz'))) ?_ ?_
          · skip
            walk_at "D54 go"
            rename_i F2 N2 _
            walk_at "D54 up"
            exact End.mk' rfl ⟨not_nil todo, F2, fun p hp => N2 p (.tail _ hp)⟩
          clear F10 N10
          rintro b h10 tk10 xq30
          refine hideG fun R9 hR9 => ?_
          obtain ⟨rfl, F10, N10⟩ := xq30
          refine hR9 ?_
          clear hR9 R9
          by_cases hlt : 0 < todo.length
          · rw [decide_eq_true hlt, if_pos rfl]
            obtain ⟨rest, t, rfl⟩ : ∃ rest t, todo = rest ++ [t] := by
              rcases List.eq_nil_or_concat todo with e | ⟨r, x, e⟩
              · rw [e] at hlt; exact absurd hlt (Nat.lt_irrefl _)
              · exact ⟨r, x, by rw [e, List.concat_eq_append]⟩
            refine hideG fun R9 hR9 => ?_
            obtain ⟨vr, tt, rfl, hIr⟩ : ∃ vr tt, tvs = vr ++ [.int (t : Nat) tt] ∧ IntsAre vr (castI rest) := ints_last hIt
            refine hR9 ?_
            clear hR9 R9
            dsimp only
            -- pop
            refine cutH (fun h' => ∀ R9 : Prop, (∀ m' cg', (Fr h₀ L h' m') → (News h₀ L h' ((ag, W.listOf (List.toArray vr) cg') :: (af, W.listOf (List.toArray (fxs.map Value.ref)) cf) :: (I, it) :: (L + 1, o1) :: (L + 2, o2) :: (L + 3, o3) :: (30, tabObj ps) :: fz')) → (m' "costs" = some (.ref aco)) → (m' "words" = some (.ref aw)) → (m' "children" = some (.ref ac)) → (m' "found" = some (.ref af)) → (m' "todo" = some (.ref ag)) → (m' "knot" = some (.int (t : Nat) tt)) → R9) → R9) (fun PEnd hEnd => ?_) ?_
            · skip
              have hvr : vr.length ≤ 1000 := by rw [List.length_append] at hvl; simp only [List.length_append, List.length_cons, List.length_nil] at *; (exact om193 hvl hcl htl hnl hwl hC hms)
              walk_at "D54 go"
              refine Copied.pop_at (y := .int (t : Nat) tt) (N10 _ (.head _)).1 (by simp) (fun h' hs ho => ?_) (by rw [List.size_toArray, List.length_append, sizeLine_eq]; simp only [List.length_cons, List.length_nil]; (exact om200 hvr))
              rw [pop_last] at ho
              have F11 := F10.change hs (N10 _ (.head _)).2.1 (N10 _ (.head _)).2.2
              have N11 := news_set (pre := []) N10 (fun _ q => nomatch q) (List.forall_mem_cons.mpr ⟨by walk_at "D54 ne", List.forall_mem_cons.mpr ⟨by walk_at "D54 ne", List.forall_mem_cons.mpr ⟨by walk_at "D54 ne", List.forall_mem_cons.mpr ⟨by walk_at "D54 ne", List.forall_mem_cons.mpr ⟨by walk_at "D54 ne", List.forall_mem_cons.mpr ⟨by walk_at "D54 ne", fun p hp => (sep' p hp).2.2.2.2.2.2⟩⟩⟩⟩⟩⟩) hs ho
              rw [List.nil_append] at N11
              clear F10 N10
              walk_at "D54 go"
              rename_i F12 N12
              walk_at "D54 up"
              exact End.mk' rfl (hEnd _ fun _ kEnd => kEnd _ _ F12 N12 hk10 hw10 hc10 hf10 hg10 rfl)
            clear F10 N10 hk10 hw10 hc10 hf10 hg10
            intro h11 tk11 xq31
            refine xq31 _ fun m11 cg11 F11 N11 hk11 hw11 hc11 hf11 hg11 hn11 => ?_
            clear xq31
            try dsimp only
            have htC : t < C.length := hS.lt t (by simp)
            refine hideG fun R9 hR9 => ?_
            obtain ⟨wt, hwt⟩ : ∃ x, Ws[t]? = some x := ⟨_, List.getElem?_eq_getElem (by (exact om201 hC htC))⟩
            refine hR9 ?_
            clear hR9 R9
            refine hideG fun R9 hR9 => ?_
            obtain ⟨wv, hwv, twn, rfl⟩ := paired_getl hPw t wt hwt
            refine hR9 ?_
            clear hR9 R9
            refine hideG fun R9 hR9 => ?_
            obtain ⟨hl4, hsg⟩ := hok wt (List.mem_of_getElem? hwt)
            refine hR9 ?_
            clear hR9 R9
            have hWt : Wf t = wt := hWf t wt hwt
            have maN : (aw, W.listOf (List.toArray ws) cw) ∈ fz' := hsub' _ (hsub _ ma)
            have mcN : (ac, W.listOf (List.toArray (refs ds)) c5) ∈ fz' := hsub' _ (hsub _ mc)
            -- distance
            refine cutH (fun h' => ∀ R9 : Prop, (∀ o3' td, (Fr h₀ L h' m11) → (News h₀ L h' ((ag, W.listOf (List.toArray vr) cg11) :: (af, W.listOf (List.toArray (fxs.map Value.ref)) cf) :: (I, it) :: (L + 1, o1) :: (L + 2, o2) :: (L + 3, o3') :: (30, tabObj ps) :: fz')) → (o3'.data = .cell (some (.int ((dist wan wt : Nat) : Int) td))) → R9) → R9) (fun PEnd hEnd => ?_) ?_
            · skip
              walk_at "D54 go"
              unfold Halt
              refine item_litK ⟨_, (N11 _ (.tail _ (.tail _ (.tail _ (.tail _ (.tail _ (.tail _ (.tail _ maN)))))))).1, rfl, _, rfl⟩ (Int.natCast_nonneg _) (by (exact om202 htC hC hwl hnl)) (by simpa using hwv) ?_
              walk_at "D54 go"
              unfold Halt
              refine lev_call (W0.keeps F11.keep) rfl (by dsimp only; (exact om162 hd' hd)) (by dsimp only; (exact om163 hu' hu)) hW4 hl4 hW0 hsg fun h' tk t' hE => ?_
              have F12 := F11.keeps hE
              have N12 := news_ext N11 hE
              clear F11 N11
              exact st_nm F12 N12 (fun o' => Upd.tail (by walk_at "D54 ne") (Upd.tail (by walk_at "D54 ne") (Upd.tail (by walk_at "D54 ne") (Upd.tail (by walk_at "D54 ne") (Upd.tail (by walk_at "D54 ne") (Upd.head (List.forall_mem_cons.mpr ⟨by walk_at "D54 ne", fun p hp => (sep' p hp).2.2.1⟩))))))) d3 rfl rfl rfl fun h' o' F' N' d' => by
                walk_at "D54 up"
                exact End.mk' rfl (hEnd _ fun _ kEnd => kEnd o' _ F' N' d')
            clear F11 N11 d3 o3
            intro h12 tk12 xq32
            refine xq32 _ fun o3 td F12 N12 d3 => ?_
            clear xq32
            try dsimp only
            -- isinstance
            refine cutH (fun h' => ∀ R9 : Prop, ((Fr h₀ L h' m11) → (News h₀ L h' ((ag, W.listOf (List.toArray vr) cg11) :: (af, W.listOf (List.toArray (fxs.map Value.ref)) cf) :: (I, it) :: (L + 1, o1) :: (L + 2, o2) :: (L + 3, o3) :: (30, tabObj ps) :: fz')) → R9) → R9) (fun PEnd hEnd => ?_) ?_
            · skip
              walk_at "D54 go"
              walk_at "D54 up"
              exact End.mk' rfl (hEnd _ fun _ kEnd => kEnd F12 N12)
            clear F12 N12
            intro h13 tk13 xq33
            refine xq33 _ fun F13 N13 => ?_
            clear xq33
            try dsimp only
            -- found
            refine cutH (fun h' => ∀ R9 : Prop, (∀ fz'' fxs' cf', (Fr h₀ L h' m11) → (News h₀ L h' ((ag, W.listOf (List.toArray vr) cg11) :: (af, W.listOf (List.toArray (fxs'.map Value.ref)) cf') :: (I, it) :: (L + 1, o1) :: (L + 2, o2) :: (L + 3, o3) :: (30, tabObj ps) :: fz'')) → ((∀ p ∈ fz', p ∈ fz'')) → ((∀ p ∈ fz'', p.1 ≠ L + 1 ∧ p.1 ≠ L + 2 ∧ p.1 ≠ L + 3 ∧ p.1 ≠ 30 ∧ p.1 ≠ I ∧ p.1 ≠ af ∧ p.1 ≠ ag)) → (Paired (PrF fz'' ff) (if dist wan (Wf t) ≤ i then Fl ++ [t] else Fl) fxs') → R9) → R9) (fun PEnd hEnd => ?_) ?_
            · skip
              have hfl := paired_len hPf
              walk_at "D54 go"
              · rename_i hle
                have hle' : dist wan (Wf t) ≤ i := by rw [hWt]; (exact om209 hle)
                unfold Halt
                refine item_litK ⟨_, (N13 _ (.tail _ (.tail _ (.tail _ (.tail _ (.tail _ (.tail _ (.tail _ maN)))))))).1, rfl, _, rfl⟩ (Int.natCast_nonneg _) (by (exact om202 htC hC hwl hnl)) (by simpa using hwv) ?_
                walk_at "D54 go"
                rename_i lp hp' Fp Np l1
                unfold Halt
                refine app_news Fp Np (fun o' => Upd.tail (by walk_at "D54 ne") (Upd.tail (by walk_at "D54 ne") (Upd.head (List.forall_mem_cons.mpr ⟨by walk_at "D54 ne", List.forall_mem_cons.mpr ⟨by walk_at "D54 ne", List.forall_mem_cons.mpr ⟨by walk_at "D54 ne", List.forall_mem_cons.mpr ⟨by walk_at "D54 ne", List.forall_mem_cons.mpr ⟨by walk_at "D54 ne", fun p hp => (sep' p hp).2.2.2.2.2.1⟩⟩⟩⟩⟩)))) (by rw [List.length_map]; (exact om216 hfl hnl hwl hC hms)) fun h14 F14 N14 => ?_
                clear Fp Np
                walk_at "D54 go"
                have hall := allLt_mem _ l1.2.2.2.2.2.2.2
                walk_at "D54 up"
                refine End.mk' rfl (hEnd _ fun _ kEnd => kEnd ((lp, prL (dist wan wt : Nat) td wt twn 0) :: fz') (fxs ++ [lp]) (cf + 1) F14 ?_ (fun p hp => .tail _ hp) ?_ ?_)
                · intro p hp
                  rw [List.map_append] at hp
                  simp only [List.mem_cons] at hp
                  rcases hp with hp | hp | hp | hp | hp | hp | hp | hp | hp
                  · exact N14 p (by simp [hp])
                  · exact N14 p (by rw [hp]; exact .tail _ (.tail _ (.head _)))
                  · exact N14 p (by simp [hp])
                  · exact N14 p (by simp [hp])
                  · exact N14 p (by simp [hp])
                  · exact N14 p (by simp [hp])
                  · exact N14 p (by simp [hp])
                  · exact N14 p (by rw [hp]; exact .head _)
                  · exact N14 p (by simp [hp])
                · intro p hp
                  rcases List.mem_cons.mp hp with rfl | hp
                  · exact ⟨by walk_at "D54 ne", by walk_at "D54 ne", by walk_at "D54 ne", by walk_at "D54 ne", by walk_at "D54 ne", by walk_at "D54 ne", by walk_at "D54 ne"⟩
                  · exact sep' p hp
                · rw [if_pos hle']
                  refine paired_append (paired_mono (fun i x ⟨t, u, k, e⟩ => ⟨t, u, k, .tail _ e⟩) hPf) (.cons ⟨td, twn, 0, ?_⟩ .nil)
                  rw [hff]; dsimp only; rw [hWt]; exact .head _
              · rename_i hle
                have hle' : ¬ dist wan (Wf t) ≤ i := by rw [hWt]; (exact om223 hle)
                walk_at "D54 up"
                exact End.mk' rfl (hEnd _ fun _ kEnd => kEnd fz' fxs cf F13 N13 (fun _ q => q) sep' (by rw [if_neg hle']; exact hPf))
            clear F13 N13 hPf sep'
            intro h14 tk14 xq34
            refine xq34 _ fun fz14 fxs14 cf14 F14 N14 hsub14 sep14 hPf14 => ?_
            clear xq34
            try dsimp only
            refine hideG fun R9 hR9 => ?_
            obtain ⟨E14, hE14⟩ : ∃ E, C[t]? = some E := ⟨_, List.getElem?_eq_getElem htC⟩
            refine hR9 ?_
            clear hR9 R9
            refine hideG fun R9 hR9 => ?_
            obtain ⟨hS2, hms2⟩ := srch_step hTr hS hE14
            refine hR9 ?_
            clear hR9 R9
            -- extend
            refine cutH (fun h' => ∀ R9 : Prop, (∀ tvs' cg', (Fr h₀ L h' m11) → (News h₀ L h' ((ag, W.listOf (List.toArray tvs') cg') :: (af, W.listOf (List.toArray (fxs14.map Value.ref)) cf14) :: (I, it) :: (L + 1, o1) :: (L + 2, o2) :: (L + 3, o3) :: (30, tabObj ps) :: fz14)) → (IntsAre tvs' (castI (rest ++ next E14 (dist wan (Wf t)) i))) → R9) → R9) (fun PEnd hEnd => ?_) ?_
            · skip
              refine hideG fun R9 hR9 => ?_
              obtain ⟨⟨dk, ok⟩, hdk, kvs, hokd, hkv, lok⟩ := paired_getl hP t E14 hE14
              refine hR9 ?_
              clear hR9 R9
              have hdm : (dk, ok) ∈ fz14 := hsub14 _ (hsub' _ (hsub _ (md _ (List.mem_of_getElem? hdk))))
              have mcN' := hsub14 _ mcN
              have hrf : (refs ds)[((t : Nat) : Int).toNat]? = some (.ref dk) := by simp [refs, hdk]
              have hEl := tree_len hTr hE14
              have hkl := paired_len hkv
              have hvr : vr.length ≤ 1000 := by have := ints_len hIr; simp only [castI, List.length_map, List.length_append, List.length_cons, List.length_nil] at this htl; (exact om224 this htl hnl hwl hC hms)
              have hdkN := (N14 _ (.tail _ (.tail _ (.tail _ (.tail _ (.tail _ (.tail _ (.tail _ hdm)))))))).1
              have hD : h14.DictOf (intKind prog w) dk kvs := Heap.dictOf_iff.mpr ⟨ok, hdkN, hokd⟩
              refine hideG fun R9 hR9 => ?_
              obtain ⟨ep, hat⟩ := hD.dictAt
              refine hR9 ?_
              clear hR9 R9
              walk_at "D54 go"
              unfold Halt
              refine cg_eval (cl := [(PySem.Str.ofString "radius", L + 2), (PySem.Str.ofString "distance", L + 3)]) (fun j => decide ((((E14.getD j (0, 0)).1 : Int) - (dist wan wt : Int)).natAbs ≤ i)) kvs.length (fun j y _ => ∃ t, y = .int (((E14.getD j (0, 0)).2 : Nat) : Int) t) rfl (by decide) rfl (by decide) ?_
              refine cut (fun v h' => Ex1 fun vw => And3 (v = .ref vw) (h'.IsItemsView vw dk) (Ext h14 h')) ?_ ?_
              · skip
                walk_at "D54 go"
                unfold Halt
                refine item_litK ⟨_, (N14 _ (.tail _ (.tail _ (.tail _ (.tail _ (.tail _ (.tail _ (.tail _ mcN')))))))).1, rfl, _, rfl⟩ (Int.natCast_nonneg _) (by (exact om202 htC hC hwl hnl)) hrf ?_
                refine it_method hdkN hokd ?_
                walk_at "D54 go"
                unfold Halt
                exact call_meetsIn PySem.F.slot_dict_items hD.typeIs PySem.F.entry_dict_items (PySem.F.args_dict_items_1 _) (meets_dict_items (intKind prog w) dk lok) ⟨⟨kvs, hD⟩, by
                  walk_at "D54 up"
                  exact End.mk' rfl ⟨_, rfl, ⟨_, Heap.get?_push_size _ rfl, rfl, rfl⟩, fun b o e => Heap.get?_push_of_some _ e⟩⟩
              rintro v h15 tk15 xq35
              refine hideG fun R9 hR9 => ?_
              obtain ⟨vw, rfl, hvw, hE15⟩ := xq35
              refine hR9 ?_
              clear hR9 R9
              dsimp only
              have hat15 : h15.DictAt (intKind prog w) dk kvs ep := hat.at' fun o e => hE15 _ _ e
              have hdlt : dk < h15.objs.size := hat15.lt_size
              refine wpAny_pyIter_items hvw hat15 ?_
              have keep : ∀ h' : Heap, (∀ b o, b ∉ [h15.objs.size] → (h15.push { cls := .type "dict_itemiterator", data := .fields #[.none, .bool false, .ref dk, .int 0 0, .int kvs.length 0, .int ep 0, .none, .none] }).get? b = some o → h'.get? b = some o) → Ext h14 h' := fun h' hk b o e => hk b o (fun hm => absurd (Heap.lt_size (hE15 b o e)) (by rw [List.mem_singleton.mp hm]; exact Nat.lt_irrefl _)) (Heap.get?_push_of_some _ (hE15 b o e))
              refine ⟨h15.objs.size, [h15.objs.size], rfl, ⟨_, _, _, _, fun j m => ∃ e t t', E14[j]? = some e ∧ m "step" = some (.int ((e.1 : Nat) : Int) t) ∧ m "child" = some (.int ((e.2 : Nat) : Int) t'), kti_itemsTurns (knd := intKind prog w) rfl h15.objs.size dk (Nat.ne_of_lt hdlt) kvs ep, fun s Q E st q => let ⟨⟨ok, ov, he⟩, _⟩ := st; kcp_self he q, by (exact om225 hkl hEl hC hwl hnl), fun _ _ _ _ _ g => g, ⟨⟨.none, .none, Heap.get?_push_size _ rfl⟩, hat15.push _⟩, ?_, ?_, ?_, ?_⟩, ?_⟩
              · skip
                intro b hb
                show b < (h15.push _).objs.size
                rw [Heap.size_push]
                rcases List.mem_cons.mp hb with rfl | hb
                · exact Nat.lt_succ_self _
                · rw [List.mem_singleton.mp hb]; exact Nat.lt_succ_of_lt hdlt
              · skip
                rintro CC j v s₃ m₃ Q' E' hj xq36 hn3 hq
                refine hideG fun R9 hR9 => ?_
                obtain ⟨T', key, k, x, rfl, hkx, hky, hT⟩ := xq36
                refine hR9 ?_
                clear hR9 R9
                refine hideG fun R9 hR9 => ?_
                obtain ⟨e, he, h1, t', h2⟩ := paired_get hkv j (k, x) hkx
                refine hR9 ?_
                clear hR9 R9
                refine hideG fun R9 hR9 => ?_
                obtain ⟨tk', rfl⟩ := Value.isInt_shape hky
                refine hR9 ?_
                clear hR9 R9
                dsimp only at h1 h2
                subst h1 h2
                exact cg_pair rfl rfl rfl rfl (by decide) hT hn3 fun h' tk m' hn' hm' hk' => hq h' tk m' hn' ⟨e, _, _, he, hm'⟩ hk'
              · skip
                rintro CC j xq37 m₃ hCC hj hn3 xq38 hk3
                refine hideG fun R9 hR9 => ?_
                obtain ⟨h7, g7, dr7, tk7, os7⟩ := xq37
                obtain ⟨e, t1, t2, he, hm1, hm2⟩ := xq38
                refine hR9 ?_
                clear hR9 R9
                have hk7 := keep h7 hk3
                have F7 := F14.keeps hk7
                have N7 := news_ext N14 hk7
                have hc3 : h7.IsCell (L + 3) (some (.int ((dist wan wt : Nat) : Int) td)) := ⟨o3, (N7 _ (.tail _ (.tail _ (.tail _ (.tail _ (.tail _ (.head _))))))).1, d3⟩
                have hc2 : h7.IsCell (L + 2) (some (.int ((i : Nat) : Int) tv)) := ⟨o2, (N7 _ (.tail _ (.tail _ (.tail _ (.tail _ (.head _)))))).1, d2⟩
                have hej : E14.getD j (0, 0) = e := by simp [List.getD, he]
                refine wpAny_tests_one ?_
                rw [hej]
                refine cut (fun ok h' => And (ok = decide ((((e.1 : Nat) : Int) - (dist wan wt : Int)).natAbs ≤ i)) (Ext h7 h')) ?_ (fun v h' tk q => ⟨q.1, h', tk, rfl, q.2⟩)
                clear F14 N14
                have W7 := W0.keeps F7.keep
                walk1
                walk1
                refine ld_builtin (by kernel_rfl) (by kernel_rfl) rfl rfl W7.t.g W7.t.b (mg_none_of W7.k W7.t.g (by kernel_rfl)) ((W7.t.builtins _ (by decide +kernel)).trans boot_abs) ?_
                walk_at "D54 go"
                walk_at "D54 up"
                exact End.mk' rfl ⟨decide_eq_decide.mpr abs_le, Ext.refl _⟩
              · skip
                rintro CC j xq39 m₃ hCC hj _ hn3 xq40 hk3
                refine hideG fun R9 hR9 => ?_
                obtain ⟨h7, g7, dr7, tk7, os7⟩ := xq39
                obtain ⟨e, t1, t2, he, hm1, hm2⟩ := xq40
                refine hR9 ?_
                clear hR9 R9
                have hej : E14.getD j (0, 0) = e := by simp [List.getD, he]
                rw [hej]
                refine wpAny_Name (wpAny_loadName_local rfl rfl hn3 hm2 ?_) (by decide)
                exact ⟨⟨_, rfl⟩, h7, tk7, rfl, fun _ _ e => e⟩
              · skip
                intro D3 h' tk ys hD3 hD3e hlD hPr hk'
                have hk14 := keep h' hk'
                rw [← hkl] at hPr
                have hIy := next_ints hPr
                have hyl := ints_len hIy
                have hnl' := next_len E14 (dist wan wt) i
                have F15 := F14.keeps hk14
                have N15 := news_ext N14 hk14
                clear F14 N14
                walk_at "D54 go"
                unfold Halt
                refine extend_in (own := []) (its2 := ys.toArray) F15 N15 (fun _ q => nomatch q) (List.forall_mem_cons.mpr ⟨by walk_at "D54 ne", List.forall_mem_cons.mpr ⟨by walk_at "D54 ne", List.forall_mem_cons.mpr ⟨by walk_at "D54 ne", List.forall_mem_cons.mpr ⟨by walk_at "D54 ne", List.forall_mem_cons.mpr ⟨by walk_at "D54 ne", List.forall_mem_cons.mpr ⟨by walk_at "D54 ne", fun p hp => (sep14 p hp).2.2.2.2.2.2⟩⟩⟩⟩⟩⟩) hlD (fun h'' n' F16 N16 => ?_) (by rw [List.size_toArray, sizeLine_eq]; simp only [castI, List.length_map] at hyl; (exact om226 hvr hyl hnl' hEl hC hwl hnl))
                walk_at "D54 up"
                refine End.mk' rfl (hEnd _ fun _ kEnd => kEnd (vr ++ ys) n' F16 (by simpa using N16) ?_)
                rw [hWt]
                unfold castI
                rw [List.map_append]
                exact ints_app hIr hIy
            intro h15 tk15 xq41
            refine xq41 _ fun tvs15 cg15 F15 N15 hI15 => ?_
            clear xq41
            have hlen15 : (if dist wan (Wf t) ≤ i then Fl ++ [t] else Fl).length + meas par C.length (rest ++ next E14 (dist wan (Wf t)) i) ≤ C.length := by
              split
              · rw [List.length_append]; simp only [List.length_cons, List.length_nil]; (exact om227 hms hms2)
              · (exact om228 hms hms2)
            exact wpAny_execs_nil ⟨_, hms2, h15, tk15, m11, o3, _, fz14, fxs14, _, _, tvs15, cf14, cg15, rfl, F15, N15, d3, hk11, hw11, hc11, hf11, hg11, fun p hp => hsub14 p (hsub' p hp), sep14, hPf14, hI15, hS2, hlen15, rfl⟩
          · rw [decide_eq_false hlt, if_neg Bool.false_ne_true]
            have e0 : todo = [] := List.eq_nil_of_length_eq_zero (by (exact om229 hlt))
            subst e0
            cases hIt
            exact wpAny_execs_nil (End.mk' rfl (hEnd _ fun _ kEnd => kEnd m10 o3 v3 fz' fxs Fl cf cg F10 N10 d3 hk10 hw10 hc10 hf10 hsub' sep' hPf hS (by (exact om230 hms))))
        · exact ⟨h9, tk9, m9, o3, v3, fz, [], [], [0], _, cf, cg, rfl, F9, N9, d3, hk9, hw9, hc9, hf9, hg9, fun _ q => q, fun p hp => ⟨(sep p hp).1, (sep p hp).2.1, (sep p hp).2.2.1, (sep p hp).2.2.2.1, (sep p hp).2.2.2.2, (sepf p hp).1, (sepf p hp).2⟩, .nil, .cons _ _ .nil, srch_start hTr (by (exact om231 hC hwl hpos)), (by have := meas_one par C.length 0; simpa using this), rfl⟩
      clear F9 N9 hf9 hg9 hk9 hw9 hc9 d3 o3 v3
      intro h10 tk10 xq42
      refine xq42 _ fun m10 o3 v3 fz1 fxs Fl cf1 cg1 F10 N10 d3 hk10 hw10 hc10 hf10 hsub1 sep1 hPf hS hFl => ?_
      clear xq42
      try dsimp only
      refine cutH (fun h' => ∀ R9 : Prop, (∀ ps' fz', (Fr h₀ L h' m10) → (News h₀ L h' ((I, it) :: (L + 1, o1) :: (L + 2, o2) :: (L + 3, o3) :: (30, tabObj ps') :: fz')) → ((∀ p ∈ fz1, p ∈ fz')) → ((∀ p ∈ fz', p.1 ≠ L + 1 ∧ p.1 ≠ L + 2 ∧ p.1 ≠ L + 3 ∧ p.1 ≠ 30 ∧ p.1 ≠ I)) → (GrT h₀ ps' fz') → R9) → R9) (fun PEnd hEnd => ?_) ?_
      · skip
        have hmk : Mk := trivial
        walk_at "D54 go"
        unfold Halt
        have W10 := W0.keeps F10.keep
        refine cmp_call W10.k W10.t (BM.keeps F10.keep) ((tab.mono hsub1).tab F10.keep (N10 _ (.tail _ (.tail _ (.tail _ (.tail _ (.tail _ (.tail _ (.head _)))))))).1 fun p hp => (N10 p (.tail _ (.tail _ (.tail _ (.tail _ (.tail _ (.tail _ (.tail _ hp)))))))).1) rfl (by dsimp only; (exact om232 hd' hd)) (by dsimp only; (exact om233 hu' hu)) fun a h11 tk11 hk11 hGr hKO => ?_
        have F11 : Fr h₀ L h11 m10 := ⟨F10.ns.at' fun o e => hk11 _ o (Nat.ne_of_gt hL30) e, fun b o e => hk11 b o (fun q => by rw [q, h30] at e; cases e) (F10.keep b o e), F10.above⟩
        refine hideG fun R9 hR9 => ?_
        obtain ⟨ps', gz, h30', hgz, hgr⟩ := gr_pin hGr
        refine hR9 ?_
        clear hR9 R9
        refine hideG fun R9 hR9 => ?_
        obtain ⟨fz2, hfz2⟩ : ∃ fz2, fz2 = (gz.filter fun p => (h₀.get? p.1).isNone) ++ fz1 := ⟨_, rfl⟩
        refine hR9 ?_
        clear hR9 R9
        have hsub2 : ∀ p ∈ fz1, p ∈ fz2 := fun p hp => by rw [hfz2]; exact List.mem_append_right _ hp
        have N11 : News h₀ L h11 ((ag, W.listOf (List.toArray []) cg1) :: (af, W.listOf (List.toArray (fxs.map Value.ref)) cf1) :: (I, it) :: (L + 1, o1) :: (L + 2, o2) :: (L + 3, o3) :: (30, tabObj ps') :: fz2) := fun p hp => by
          simp only [List.mem_cons] at hp
          rcases hp with hp | hp | hp | hp | hp | hp | hp | hp
          · have q := N10 p (by rw [hp]; exact .head _)
            exact ⟨hk11 _ _ (by rw [hp]; walk_at "D54 ne") q.1, q.2⟩
          · have q := N10 p (by rw [hp]; exact .tail _ (.head _))
            exact ⟨hk11 _ _ (by rw [hp]; walk_at "D54 ne") q.1, q.2⟩
          · have q := N10 p (by rw [hp]; exact .tail _ (.tail _ (.head _)))
            exact ⟨hk11 _ _ (by rw [hp]; walk_at "D54 ne") q.1, q.2⟩
          · have q := N10 p (by rw [hp]; exact .tail _ (.tail _ (.tail _ (.head _))))
            exact ⟨hk11 _ _ (by rw [hp]; walk_at "D54 ne") q.1, q.2⟩
          · have q := N10 p (by rw [hp]; exact .tail _ (.tail _ (.tail _ (.tail _ (.head _)))))
            exact ⟨hk11 _ _ (by rw [hp]; walk_at "D54 ne") q.1, q.2⟩
          · have q := N10 p (by rw [hp]; exact .tail _ (.tail _ (.tail _ (.tail _ (.tail _ (.head _))))))
            exact ⟨hk11 _ _ (by rw [hp]; walk_at "D54 ne") q.1, q.2⟩
          · rw [hp]; exact ⟨h30', Nat.ne_of_lt hL30, h30⟩
          · rw [hfz2] at hp
            rcases List.mem_append.mp hp with hp | hp
            · refine hideG fun R9 hR9 => ?_
              obtain ⟨hp1, hp2⟩ := List.mem_filter.mp hp
              refine hR9 ?_
              clear hR9 R9
              refine hideG fun R9 hR9 => ?_
              obtain ⟨q1, q2, ⟨fs, q3⟩, q4⟩ := hgz p hp1
              refine hR9 ?_
              clear hR9 R9
              refine ⟨q1, fun e => ?_, by simpa using hp2⟩
              refine hideG fun R9 hR9 => ?_
              obtain ⟨o, es, ep, ho, hd, _⟩ := F11.ns
              refine hR9 ?_
              clear hR9 R9
              rw [e, ho] at q1
              cases q1
              rw [q3] at hd; cases hd
            · have q := N10 p (.tail _ (.tail _ (.tail _ (.tail _ (.tail _ (.tail _ (.tail _ hp)))))))
              exact ⟨hk11 _ _ (sep1 p hp).2.2.2.1 q.1, q.2⟩
        have sep2 : ∀ p ∈ fz2, p.1 ≠ L + 1 ∧ p.1 ≠ L + 2 ∧ p.1 ≠ L + 3 ∧ p.1 ≠ 30 ∧ p.1 ≠ I := fun p hp => by
          rw [hfz2] at hp
          rcases List.mem_append.mp hp with hp | hp
          · refine hideG fun R9 hR9 => ?_
            obtain ⟨hp1, hp2⟩ := List.mem_filter.mp hp
            refine hR9 ?_
            clear hR9 R9
            refine hideG fun R9 hR9 => ?_
            obtain ⟨q1, q2, ⟨fs, q3⟩, q4⟩ := hgz p hp1
            refine hR9 ?_
            clear hR9 R9
            refine ⟨ne_obj q1 (N11 _ (.tail _ (.tail _ (.tail _ (.head _))))).1 fun z => ?_, ne_obj q1 (N11 _ (.tail _ (.tail _ (.tail _ (.tail _ (.head _)))))).1 fun z => ?_, ne_obj q1 (N11 _ (.tail _ (.tail _ (.tail _ (.tail _ (.tail _ (.head _))))))).1 fun z => ?_, q2, fun z => ?_⟩
            · rw [q3, e1] at z; cases z
            · rw [q3, d2] at z; cases z
            · rw [q3, d3] at z; cases z
            · have q := (N11 _ (.tail _ (.tail _ (.head _)))).1
              rw [show (I, it).1 = p.1 from z.symm, q1] at q
              cases q
              exact q4 hic
          · exact ⟨(sep1 p hp).1, (sep1 p hp).2.1, (sep1 p hp).2.2.1, (sep1 p hp).2.2.2.1, (sep1 p hp).2.2.2.2.1⟩
        have tab2 : GrT h₀ ps' fz2 := .inr ⟨gz, fun p hp => by
          cases e : h₀.get? p.1 with
          | none => exact .inl (by rw [hfz2]; exact List.mem_append_left _ (List.mem_filter.mpr ⟨hp, by rw [e]; rfl⟩))
          | some o => exact .inr (by have := F11.keep _ _ e; rw [(hgz p hp).1] at this; rw [this]), hgr⟩
        have hfl := paired_len hPf
        have hWsm : ∀ k, k < Ws.length → Small (ff k) := fun k hk => by
          refine hideG fun R9 hR9 => ?_
          obtain ⟨x, hx⟩ : ∃ x, Ws[k]? = some x := ⟨_, List.getElem?_eq_getElem hk⟩
          refine hR9 ?_
          clear hR9 R9
          refine hideG fun R9 hR9 => ?_
          obtain ⟨hx4, hxs⟩ := hok x (List.mem_of_getElem? hx)
          refine hR9 ?_
          clear hR9 R9
          rw [hff]
          dsimp only
          rw [hWf k x hx]
          exact ⟨Int.natCast_nonneg _, hx4, fun c hc => sg_ascii (hxs c hc)⟩
        have hSm : ∀ p ∈ Fl.map ff, Small p := fun p hp => by
          refine hideG fun R9 hR9 => ?_
          obtain ⟨k, hk, rfl⟩ := List.mem_map.mp hp
          refine hR9 ?_
          clear hR9 R9
          exact hWsm k (hC ▸ (hS.ok k hk).1)
        have hPr1 : Prs h11 fxs (Fl.map ff) := prs_map (paired_mono (fun i x ⟨t, u, k, e⟩ => ⟨t, u, k, (N11 _ (.tail _ (.tail _ (.tail _ (.tail _ (.tail _ (.tail _ (.tail _ (hsub2 _ e)))))))) ).1⟩) hPf)
        clear F10 N10
        walk_at "D54 go"
        unfold Halt
        refine sorted_key (W0.keeps F11.keep) rfl (by dsimp only; (exact om240 hd' hd)) (by dsimp only; (exact om241 hu' hu)) hKO ⟨_, (N11 _ (.tail _ (.head _))).1, rfl, _, rfl⟩ hPr1 hSm (by (exact om242 hfl hFl hC hwl hnl)) fun D1 h12 tk12 hsr1 => ?_
        refine hideG fun R9 hR9 => ?_
        obtain ⟨E12, nD1, ys1, qs1, c1, hD1, hq1, hp1, hs1⟩ := hsr1
        refine hR9 ?_
        clear hR9 R9
        dsimp only at E12 nD1
        have F12 := F11.keeps E12
        have N12 := news_ext N11 E12
        clear F11 N11 hPr1 hKO
        walk_at "D54 go"
        unfold Halt
        have mk2 : (aco, W.listOf (List.toArray (xs.map Value.ref)) ck) ∈ fz2 := hsub2 _ (hsub1 _ (hsub _ mk))
        have hacN := (N12 _ (.tail _ (.tail _ (.tail _ (.tail _ (.tail _ (.tail _ (.tail _ mk2)))))))).1
        have hxl := paired_len mp
        rw [List.length_range] at hxl
        have gz2 : ∀ p ∈ fz0, p ∈ fz2 := fun p hp => hsub2 p (hsub1 p (hsub p hp))
        refine cg_eval (cl := [(PySem.Str.ofString "radius", L + 2)]) (fun j => decide (dist wan (Wf j) ≤ i)) ws.length (fun j y _ => y = .ref (xs.getD j 0)) rfl (by decide) rfl (by decide) ?_
        refine ldLoc F12 hk10 ?_
        refine wpAny_pyIter_list ⟨_, hacN, rfl, _, rfl⟩ ?_
        have hlt : aco < h12.objs.size := Heap.lt_size hacN
        have hsz : (h12.push { cls := .type "list_iterator", data := .fields #[.ref aco, .int 0 0] }).objs.size = h12.objs.size + 1 := Heap.size_push ..
        have WL := Walks.list (prog := prog) (w := w) (A := ⟨none, d, fr, gd, u⟩) rfl h12.objs.size aco (Nat.ne_of_lt hlt) (List.toArray (xs.map Value.ref))
        have hn12 : (List.toArray (xs.map Value.ref)).size = ws.length := by rw [hxl]; simp
        rw [hn12] at WL
        have E5 : Ext h12 (h12.push { cls := .type "list_iterator", data := .fields #[.ref aco, .int 0 0] }) := fun b o e => Heap.get?_push_of_some _ e
        have hst0 : (h12.push { cls := .type "list_iterator", data := .fields #[.ref aco, .int 0 0] }).IsListIter h12.objs.size aco 0 ∧ (h12.push { cls := .type "list_iterator", data := .fields #[.ref aco, .int 0 0] }).IsList aco (List.toArray (xs.map Value.ref)) := ⟨⟨_, Heap.get?_push_size _ rfl, rfl, rfl⟩, ⟨_, E5 _ _ hacN, rfl, _, rfl⟩⟩
        have keep : ∀ h' : Heap, (∀ b o, b ∉ [h12.objs.size] → (h12.push { cls := .type "list_iterator", data := .fields #[.ref aco, .int 0 0] }).get? b = some o → h'.get? b = some o) → Ext h12 h' := fun h' hk b o e => hk b o (fun hm => absurd (Heap.lt_size e) (by rw [List.mem_singleton.mp hm]; exact Nat.lt_irrefl _)) (E5 b o e)
        refine ⟨h12.objs.size, [h12.objs.size], rfl, ⟨_, _, _, _, fun j m => m "one" = some (.ref (xs.getD j 0)), KTurns.ofWalks WL (fun _ _ _ _ _ _ q => wpAny_pure q), fun s Q E st q => WL.self 0 s Q E st q, by (exact om174 hnl), fun _ _ _ _ _ g => g, hst0, ?_, ?_, ?_, ?_⟩, ?_⟩
        · skip
          intro b hb
          show b < (h12.push _).objs.size
          rw [hsz]
          rcases List.mem_cons.mp hb with rfl | hb
          · exact Nat.lt_succ_self _
          · rw [List.mem_singleton.mp hb]; exact Nat.lt_succ_of_lt hlt
        · skip
          rintro CC j v s₃ m₃ Q' E' hj hP hn3 hq
          have hv : v = .ref (xs.getD j 0) := by
            have hj' : j < xs.length := by (exact om201 hxl hj)
            have : (xs.map Value.ref)[j]? = some v := by simpa using hP
            rw [List.getElem?_map, List.getElem?_eq_getElem hj'] at this
            simp [List.getD, hj'] at this ⊢
            exact this.symm
          subst hv
          exact cg_name rfl rfl hn3 fun h' tk m' hn' hm' hk' => hq h' tk m' hn' hm' hk'
        · skip
          rintro CC j xq43 m₃ hCC hj hn3 hm1 hk3
          refine hideG fun R9 hR9 => ?_
          obtain ⟨h7, g7, dr7, tk7, os7⟩ := xq43
          refine hR9 ?_
          clear hR9 R9
          have hk7 := keep h7 hk3
          have F7 := F12.keeps hk7
          have N7 := news_ext N12 hk7
          have hc2 : h7.IsCell (L + 2) (some (.int ((i : Nat) : Int) tv)) := ⟨o2, (N7 _ (.tail _ (.tail _ (.tail _ (.tail _ (.head _)))))).1, d2⟩
          refine hideG fun R9 hR9 => ?_
          obtain ⟨x, hx, t', u', k', hxm⟩ := paired_getl mp j j (List.getElem?_range hj)
          refine hR9 ?_
          clear hR9 R9
          have hxj : xs.getD j 0 = x := by simp [List.getD, hx]
          rw [hxj] at hm1
          have hxo := (N7 _ (.tail _ (.tail _ (.tail _ (.tail _ (.tail _ (.tail _ (.tail _ (gz2 _ hxm))))))))).1
          rw [hff] at hxo
          refine wpAny_tests_one ?_
          refine cut (fun ok h' => And (ok = decide (dist wan (Wf j) ≤ i)) (Ext h7 h')) ?_ (fun v h' tk q => ⟨q.1, h', tk, rfl, q.2⟩)
          clear F12 N12
          walk_at "D54 go"
          unfold Halt
          refine item_litK (vs := [.int ((dist wan (Wf j) : Nat) : Int) t', .str (tx (Wf j)) u']) ⟨_, hxo, rfl, _, rfl⟩ (by decide) (by decide) rfl ?_
          walk_at "D54 go"
          walk_at "D54 up"
          exact End.mk' rfl ⟨decide_eq_decide.mpr (by (exact om243)), Ext.refl _⟩
        · skip
          rintro CC j xq44 m₃ hCC hj _ hn3 hm1 hk3
          refine hideG fun R9 hR9 => ?_
          obtain ⟨h7, g7, dr7, tk7, os7⟩ := xq44
          refine hR9 ?_
          clear hR9 R9
          refine wpAny_Name (wpAny_loadName_local rfl rfl hn3 hm1 ?_) (by decide)
          exact ⟨rfl, h7, tk7, rfl, fun _ _ e => e⟩
        · skip
          intro D2 h13 tk13 ys2 hD2 hD2e hlD2 hPr2 hk13
          have E13 := keep h13 hk13
          have hy2 := ys_of hPr2
          have F13 := F12.keeps E13
          have N13 := news_ext N12 E13
          refine hideG fun R9 hR9 => ?_
          obtain ⟨is, his⟩ : ∃ is, is = (List.range ws.length).filter fun j => decide (dist wan (Wf j) ≤ i) := ⟨_, rfl⟩
          refine hR9 ?_
          clear hR9 R9
          rw [← his] at hy2
          have hisl : is.length ≤ ws.length := by rw [his]; exact Nat.le_trans (List.length_filter_le ..) (by simp)
          have hism : ∀ j ∈ is, j < ws.length := fun j hj => by rw [his] at hj; exact List.mem_range.mp (List.mem_filter.mp hj).1
          have hPr3 : Prs h13 (is.map fun j => xs.getD j 0) (is.map ff) := prs_map (paired_self fun j hj => by
            refine hideG fun R9 hR9 => ?_
            obtain ⟨x, hx, t', u', k', hxm⟩ := paired_getl mp j j (List.getElem?_range (hism j hj))
            refine hR9 ?_
            clear hR9 R9
            have hxj : xs.getD j 0 = x := by simp [List.getD, hx]
            rw [hxj]
            exact ⟨t', u', k', (N13 _ (.tail _ (.tail _ (.tail _ (.tail _ (.tail _ (.tail _ (.tail _ (gz2 _ hxm)))))))) ).1⟩)
          have hSm3 : ∀ p ∈ is.map ff, Small p := fun p hp => by
            refine hideG fun R9 hR9 => ?_
            obtain ⟨k, hk, rfl⟩ := List.mem_map.mp hp
            refine hR9 ?_
            clear hR9 R9
            exact hWsm k (by rw [hwl]; exact hism k hk)
          subst hy2
          clear F12 N12
          walk_at "D54 go"
          unfold Halt
          refine sorted_plain (by dsimp only; (exact om241 hu' hu)) ⟨_, hlD2, rfl, _, rfl⟩ hPr3 hSm3 (by rw [List.length_map]; (exact om244 hisl hnl)) fun D3 h14 tk14 hsr3 => ?_
          refine hideG fun R9 hR9 => ?_
          obtain ⟨E14, nD3, ys3, qs3, c3, hD3, hq3, hp3, hs3⟩ := hsr3
          refine hR9 ?_
          clear hR9 R9
          dsimp only at E14 nD3
          have F14 := F13.keeps E14
          have N14 := news_ext N13 E14
          have hFp : Fl.Perm is := by rw [his, ← hwl, ← hC]; exact srch_end hS
          have hqq : qs1 = qs3 := sorted_eq (hp1.trans ((hFp.map ff).trans hp3.symm)) (fun p hp => hSm p (hp1.mem_iff.mp hp)) hs1 hs3
          subst hqq
          clear F13 N13
          walk_at "D54 go"
          unfold Halt
          show wpAny _ _ (richCompare .NotEq (.ref D1) (.ref D3)) _ _ _
          refine ne_false (by dsimp only; show _ < (9900 : Nat); (exact om245 hu' hu)) (E14 _ _ (E13 _ _ hD1)) hD3 ((hq1.keeps E13).keeps E14) hq3 (by dsimp only; (exact om163 hu' hu)) ?_
          walk_at "D54 go"
          walk_at "D54 up"
          exact End.mk' rfl (hEnd _ fun _ kEnd => kEnd ps' fz2 F14 (fun p hp => N14 p (.tail _ (.tail _ hp))) hsub2 sep2 tab2)
      intro h11 tk11 xq45
      refine xq45 _ fun ps' fz' F11 N11 hsub2 sep2 tab2 => ?_
      clear xq45
      exact wpAny_execs_nil ⟨h11, tk11, rfl, ⟨m10, o2, o3, _, v3, ps', fz', F11, fun p hp => N11 p (.tail _ hp), d2, d3, hw10, hc10, hk10, fun p hp => hsub2 p (hsub1 p (hsub p hp)), sep2, tab2⟩, (N11 _ (.head _)).1⟩
    · skip
      rintro h tk xq46
      refine hideG fun R9 hR9 => ?_
      obtain ⟨m, o2, o3, v2, v3, ps, fz, F, N, d2, d3, hw, hc, hk, hsub, sep, tab⟩ := xq46
      refine hR9 ?_
      clear hR9 R9
      walk_at "D54 up"
      exact End.mk' rfl (hEnd _ fun _ kEnd => kEnd m ps F ((N _ (.tail _ (.tail _ (.tail _ (.head _))))).1))
    · intro I v; rfl
  intro h7 tk7 xq47
  refine xq47 _ fun m7 ps F7 h30' => ?_
  clear xq47
  have N7 : News h₀ L h7 [] := News.nil
  dsimp only
  walk_at "D54 go"
  exact HQ _ _ F7.keep ⟨ps, h30'⟩
end D54
end
open PySem PySem.W PySem.W.X PyProof.Rows PySem.Calls
set_option maxRecDepth 100000
namespace D54
theorem sub_names : ((looseW D54.view [] ++ (recsOf D54.view).map (·.name) ++ (litsOf D54.view).map (·.1) ++ (clssOf D54.view (looseW D54.view [])).map (·.name)).all fun y => startupNames.contains y || ((recsOf prog).map (·.name)).contains y || ((litsOf prog).map (·.1)).contains y || ((clssOf prog []).map (·.name)).contains y) = true := by decide +kernel
theorem free_of {mg : PySem.Str → Option Value} (F : ∀ x, x ∉ startupNames → x ∉ looseW D54.view [] → x ∉ (recsOf D54.view).map (·.name) → x ∉ (litsOf D54.view).map (·.1) → x ∉ (clssOf D54.view (looseW D54.view [])).map (·.name) → mg x = none) :
    ∀ x, x ∉ startupNames → x ∉ ([] : List PySem.Str) → x ∉ (recsOf prog).map (·.name) → x ∉ (litsOf prog).map (·.1) → x ∉ (clssOf prog []).map (·.name) → mg x = none := by
  intro x h1 _ h2 h3 h4
  have key : x ∉ looseW D54.view [] ++ (recsOf D54.view).map (·.name) ++ (litsOf D54.view).map (·.1) ++ (clssOf D54.view (looseW D54.view [])).map (·.name) := fun hx => by
    have q := List.all_eq_true.mp sub_names x hx
    simp only [Bool.or_eq_true, List.contains_iff_mem] at q
    rcases q with ((q | q) | q) | q
    · exact h1 q
    · exact h2 q
    · exact h3 q
    · exact h4 q
  simp only [List.mem_append, not_or] at key
  exact F x h1 key.1.1.1 key.1.1.2 key.1.2 key.2
theorem ghost_read {mean : ExcName → Option Value} {mg mb : PySem.Str → Option Value} {h : Heap} {tabs : List (Addr × Addr)} (hT : TabsAt tabs h) (T : Top D54.view (looseW D54.view []) mean mg mb h) : TopRead prog [] mg mb (ghostOf h tabs) :=
  ⟨ghost_ns hT T.g, ghost_ns hT T.b, (let ⟨mc, a, r⟩ := T.nolimit; ⟨mc, ghost_ns hT a, r⟩), T.builtins, free_of T.free⟩
theorem ghost_bm {mean : ExcName → Option Value} {mg mb : PySem.Str → Option Value} {h : Heap} {tabs : List (Addr × Addr)} (hT : TabsAt tabs h) (T : Top D54.view (looseW D54.view []) mean mg mb h) : BMn (ghostOf h tabs) mg := by
  obtain ⟨bm, ob, a1, a2, a3, a4, a5, a6⟩ := T.bmain
  refine ⟨bm, ob, a1, a2, fun e => ?_, ghost_get hT a3 (fun q => by rw [q] at a4; cases a4), a4, a5, a6⟩
  obtain ⟨o, es, ep, ho, hd, _⟩ := T.g
  rw [e, ho] at a3
  cases a3
  rw [a6] at hd; cases hd
theorem good_true {c : ClaimW} {cl : PySem.Str → Option Addr} {mean : ExcName → Option Value} {args : List WData} {s₁ : Shared} {h' : Heap} {tk : Nat} (hr : ∀ cls, c.raises args cls = false) (hp : c.post args (.bool true) args = true) (hT : TabsAt [(34, 30)] s₁.heap) (hg : s₁.gens = #[])
    (hk : Ext (ghostOf s₁.heap [(34, 30)]) h') (hps : ∃ ps, h'.get? 30 = some (tabObj ps)) : GoodWG c cl mean args s₁ (.ok (.ret (.bool true))) ⟨h', s₁.gens, s₁.drawn, tk, s₁.os⟩ := by
  obtain ⟨hT1, hT2⟩ := hT (34, 30) (.head _)
  dsimp only at hT1 hT2
  have keep : ∀ b o, b ≠ 30 → s₁.heap.get? b = some o → h'.get? b = some o := fun b o hb e => hk b o (ghost_ne e (by simpa using hb))
  obtain ⟨ps, hP⟩ := hps
  refine ⟨.inl ⟨.bool true, .bool true, [], rfl, hr, .bool true, hp, fun _ => ⟨List.nodup_nil, fun _ q => nomatch q⟩⟩, ⟨fun b o e => ?_, fun b o e => ?_⟩, rfl, .of_eq hg⟩
  · by_cases hb : b = 30
    · subst hb
      have e' := hT2.symm.trans e
      cases e'
      exact .inr (.inl ⟨(hT1.tab hT2).isCodeTable, rfl, #[], ps, rfl, by rw [Array.empty_append]; exact hP⟩)
    · exact .inl (keep b o hb e)
  · by_cases hb : b = 30
    · subst hb; exact ⟨_, hP⟩
    · exact ⟨o, keep b o hb e⟩
end D54
set_option maxHeartbeats 4000000 in
theorem PySem.Challenge.cw_dn0054_01_holds : PySem.Challenge.rw_dn0054_01.Holds := by
  refine D54.hd ?_
  k_fill
  intro w s₀ s₁ mg mb G Y fa o pm cd doc dV kV ho hd hcd hD hmg hg args vals as hpre hlay hrd hwl hlo
  have KX := km_in_of Y
  have hT8 := km_tabs_of Y
  refine Ground.open G ?_
  intro T B D TE TW
  have efa : fa = 64 := by
    have e := mg_of KX T.g (n := PySem.Str.ofString "law") (v := .ref 64) (by kernel_rfl)
    have e' := e.symm.trans hmg
    cases e'; rfl
  subst efa
  have hT9 : TabsAt [(34, 30)] s₁.heap := List.forall_mem_cons.mpr ⟨⟨codeHd_of_K (c := 34) (P := 30) KX (by kernel_rfl), hT8 30 (by k_mem)⟩, fun _ h => nomatch h⟩
  clear ho hd hcd hD hmg Y G B TE TW
  wrow_args hpre hlay hrd hwl hlo
  rename_i ns _ _ _ _ _ _ _ l vs _ hL _ _ _ hI _ hlen _
  have hn : ns.length ≤ 63 := by omega
  exact D54.law_call (h₀ := ghostOf s₁.heap [(34, 30)]) ⟨ghost_K hT9 KX (by kernel_rfl), D54.ghost_read hT9 T⟩ (D54.ghost_bm hT9 T) (fun b o e => of_hideAll _ e) (Nat.le_of_eq (hideAll_size _ _)) (hideAll_none _ (.head _)) (hT8 30 (.head _)) rfl (by decide) (by decide)
    (ghost_list hT9 hL) hI hn fun h' tk k ps => D54.good_true (fun _ => rfl) (by first | with_unfolding_all rfl | kernel_rfl) hT9 hg k ps
