import PyProof.Rows.All
import Wide.All
import OpenK.AllK
import Wide.FinOn
import PySem.Challenge.RW_jy0002_01
set_option Elab.async false
set_option maxRecDepth 100000
set_option compiler.extract_closed false
section
open PySem PySem.W PyProof.Rows
set_option compiler.extract_closed false
set_option linter.unusedVariables false
set_option maxHeartbeats 8000000
namespace Mine
def tops : List Stmt := PySem.Challenge.pw_jy0002_01.main.body
def top0 : Stmt := tops.getD 0 (.Pass ⟨0, 0, 0, 0⟩)
def top1 : Stmt := tops.getD 1 (.Pass ⟨0, 0, 0, 0⟩)
def top2 : Stmt := tops.getD 2 (.Pass ⟨0, 0, 0, 0⟩)
def top3 : Stmt := tops.getD 3 (.Pass ⟨0, 0, 0, 0⟩)
def top4 : Stmt := tops.getD 4 (.Pass ⟨0, 0, 0, 0⟩)
def top5 : Stmt := tops.getD 5 (.Pass ⟨0, 0, 0, 0⟩)
def top6 : Stmt := tops.getD 6 (.Pass ⟨0, 0, 0, 0⟩)
def top7 : Stmt := tops.getD 7 (.Pass ⟨0, 0, 0, 0⟩)
def top8 : Stmt := tops.getD 8 (.Pass ⟨0, 0, 0, 0⟩)
def top9 : Stmt := tops.getD 9 (.Pass ⟨0, 0, 0, 0⟩)
def top10 : Stmt := tops.getD 10 (.Pass ⟨0, 0, 0, 0⟩)
def top11 : Stmt := tops.getD 11 (.Pass ⟨0, 0, 0, 0⟩)
def top12 : Stmt := tops.getD 12 (.Pass ⟨0, 0, 0, 0⟩)
def top13 : Stmt := tops.getD 13 (.Pass ⟨0, 0, 0, 0⟩)
def top14 : Stmt := tops.getD 14 (.Pass ⟨0, 0, 0, 0⟩)
def top15 : Stmt := tops.getD 15 (.Pass ⟨0, 0, 0, 0⟩)
def top16 : Stmt := tops.getD 16 (.Pass ⟨0, 0, 0, 0⟩)
def rw1 : OpenLaw := { PySem.Challenge.rw_jy0002_01 with prog := { PySem.Challenge.pw_jy0002_01 with main := { PySem.Challenge.pw_jy0002_01.main with body := [top0, top1, top2, top3, top4, top5, top6, top7, top8, top9, top10, top11, top12, top13, top14, top15, top16] } } }
theorem rw1_eq : rw1 = PySem.Challenge.rw_jy0002_01 := rfl
section
local macro_rules | `(tactic| o_head $_) => `(tactic| exact False.elim (by assumption))
theorem kgrab (_h : False) : OpenRow.Holds (OpenLaw.row PySem.Challenge.rw_jy0002_01) := by k_head
end
noncomputable def kk2 (P : Params) : Obj := by
  refine (?g : ∀ o, List.lookup 2 (kgrab.heap_1 P) = some o → Obj) _ rfl
  exact fun o _ => o
noncomputable def kk3 (P : Params) : Obj := by
  refine (?g : ∀ o, List.lookup 3 (kgrab.heap_1 P) = some o → Obj) _ rfl
  exact fun o _ => o
noncomputable def kk15 (P : Params) : Obj := by
  refine (?g : ∀ o, List.lookup 15 (kgrab.heap_1 P) = some o → Obj) _ rfl
  exact fun o _ => o
noncomputable def kk17 (P : Params) : Obj := by
  refine (?g : ∀ o, List.lookup 17 (kgrab.heap_1 P) = some o → Obj) _ rfl
  exact fun o _ => o
noncomputable def kk18 (P : Params) : Obj := by
  refine (?g : ∀ o, List.lookup 18 (kgrab.heap_1 P) = some o → Obj) _ rfl
  exact fun o _ => o
noncomputable def kk20 (P : Params) : Obj := by
  refine (?g : ∀ o, List.lookup 20 (kgrab.heap_1 P) = some o → Obj) _ rfl
  exact fun o _ => o
noncomputable def kk21 (P : Params) : Obj := by
  refine (?g : ∀ o, List.lookup 21 (kgrab.heap_1 P) = some o → Obj) _ rfl
  exact fun o _ => o
noncomputable def kk22 (P : Params) : Obj := by
  refine (?g : ∀ o, List.lookup 22 (kgrab.heap_1 P) = some o → Obj) _ rfl
  exact fun o _ => o
noncomputable def kk29 (P : Params) : Obj := by
  refine (?g : ∀ o, List.lookup 29 (kgrab.heap_1 P) = some o → Obj) _ rfl
  exact fun o _ => o
noncomputable def kk30 (P : Params) : Obj := by
  refine (?g : ∀ o, List.lookup 30 (kgrab.heap_1 P) = some o → Obj) _ rfl
  exact fun o _ => o
noncomputable def kc0 (P : Params) : Frag := [(nat_lit 2, kk2 P), (nat_lit 3, kk3 P), (nat_lit 15, kk15 P), (nat_lit 17, kk17 P), (nat_lit 18, kk18 P), (nat_lit 20, kk20 P), (nat_lit 21, kk21 P), (nat_lit 22, kk22 P), (nat_lit 29, kk29 P), (nat_lit 30, kk30 P)]
noncomputable def kk31 (P : Params) : Obj := by
  refine (?g : ∀ o, List.lookup 31 (kgrab.heap_1 P) = some o → Obj) _ rfl
  exact fun o _ => o
noncomputable def kk32 (P : Params) : Obj := by
  refine (?g : ∀ o, List.lookup 32 (kgrab.heap_1 P) = some o → Obj) _ rfl
  exact fun o _ => o
noncomputable def kk35 (P : Params) : Obj := by
  refine (?g : ∀ o, List.lookup 35 (kgrab.heap_1 P) = some o → Obj) _ rfl
  exact fun o _ => o
noncomputable def kk42 (P : Params) : Obj := by
  refine (?g : ∀ o, List.lookup 42 (kgrab.heap_1 P) = some o → Obj) _ rfl
  exact fun o _ => o
noncomputable def kk43 (P : Params) : Obj := by
  refine (?g : ∀ o, List.lookup 43 (kgrab.heap_1 P) = some o → Obj) _ rfl
  exact fun o _ => o
noncomputable def kk44 (P : Params) : Obj := by
  refine (?g : ∀ o, List.lookup 44 (kgrab.heap_1 P) = some o → Obj) _ rfl
  exact fun o _ => o
noncomputable def kk45 (P : Params) : Obj := by
  refine (?g : ∀ o, List.lookup 45 (kgrab.heap_1 P) = some o → Obj) _ rfl
  exact fun o _ => o
noncomputable def kk55 (P : Params) : Obj := by
  refine (?g : ∀ o, List.lookup 55 (kgrab.heap_1 P) = some o → Obj) _ rfl
  exact fun o _ => o
noncomputable def kk56 (P : Params) : Obj := by
  refine (?g : ∀ o, List.lookup 56 (kgrab.heap_1 P) = some o → Obj) _ rfl
  exact fun o _ => o
noncomputable def kk58 (P : Params) : Obj := by
  refine (?g : ∀ o, List.lookup 58 (kgrab.heap_1 P) = some o → Obj) _ rfl
  exact fun o _ => o
noncomputable def kc1 (P : Params) : Frag := [(nat_lit 31, kk31 P), (nat_lit 32, kk32 P), (nat_lit 35, kk35 P), (nat_lit 42, kk42 P), (nat_lit 43, kk43 P), (nat_lit 44, kk44 P), (nat_lit 45, kk45 P), (nat_lit 55, kk55 P), (nat_lit 56, kk56 P), (nat_lit 58, kk58 P)]
noncomputable def kk59 (P : Params) : Obj := by
  refine (?g : ∀ o, List.lookup 59 (kgrab.heap_1 P) = some o → Obj) _ rfl
  exact fun o _ => o
noncomputable def kk61 (P : Params) : Obj := by
  refine (?g : ∀ o, List.lookup 61 (kgrab.heap_1 P) = some o → Obj) _ rfl
  exact fun o _ => o
noncomputable def kk62 (P : Params) : Obj := by
  refine (?g : ∀ o, List.lookup 62 (kgrab.heap_1 P) = some o → Obj) _ rfl
  exact fun o _ => o
noncomputable def kk63 (P : Params) : Obj := by
  refine (?g : ∀ o, List.lookup 63 (kgrab.heap_1 P) = some o → Obj) _ rfl
  exact fun o _ => o
noncomputable def kk65 (P : Params) : Obj := by
  refine (?g : ∀ o, List.lookup 65 (kgrab.heap_1 P) = some o → Obj) _ rfl
  exact fun o _ => o
noncomputable def kk66 (P : Params) : Obj := by
  refine (?g : ∀ o, List.lookup 66 (kgrab.heap_1 P) = some o → Obj) _ rfl
  exact fun o _ => o
noncomputable def kk68 (P : Params) : Obj := by
  refine (?g : ∀ o, List.lookup 68 (kgrab.heap_1 P) = some o → Obj) _ rfl
  exact fun o _ => o
noncomputable def kk69 (P : Params) : Obj := by
  refine (?g : ∀ o, List.lookup 69 (kgrab.heap_1 P) = some o → Obj) _ rfl
  exact fun o _ => o
noncomputable def kk70 (P : Params) : Obj := by
  refine (?g : ∀ o, List.lookup 70 (kgrab.heap_1 P) = some o → Obj) _ rfl
  exact fun o _ => o
noncomputable def kk71 (P : Params) : Obj := by
  refine (?g : ∀ o, List.lookup 71 (kgrab.heap_1 P) = some o → Obj) _ rfl
  exact fun o _ => o
noncomputable def kc2 (P : Params) : Frag := [(nat_lit 59, kk59 P), (nat_lit 61, kk61 P), (nat_lit 62, kk62 P), (nat_lit 63, kk63 P), (nat_lit 65, kk65 P), (nat_lit 66, kk66 P), (nat_lit 68, kk68 P), (nat_lit 69, kk69 P), (nat_lit 70, kk70 P), (nat_lit 71, kk71 P)]
noncomputable def kk73 (P : Params) : Obj := by
  refine (?g : ∀ o, List.lookup 73 (kgrab.heap_1 P) = some o → Obj) _ rfl
  exact fun o _ => o
noncomputable def kk74 (P : Params) : Obj := by
  refine (?g : ∀ o, List.lookup 74 (kgrab.heap_1 P) = some o → Obj) _ rfl
  exact fun o _ => o
noncomputable def kk76 (P : Params) : Obj := by
  refine (?g : ∀ o, List.lookup 76 (kgrab.heap_1 P) = some o → Obj) _ rfl
  exact fun o _ => o
noncomputable def kk77 (P : Params) : Obj := by
  refine (?g : ∀ o, List.lookup 77 (kgrab.heap_1 P) = some o → Obj) _ rfl
  exact fun o _ => o
noncomputable def kk78 (P : Params) : Obj := by
  refine (?g : ∀ o, List.lookup 78 (kgrab.heap_1 P) = some o → Obj) _ rfl
  exact fun o _ => o
noncomputable def kk79 (P : Params) : Obj := by
  refine (?g : ∀ o, List.lookup 79 (kgrab.heap_1 P) = some o → Obj) _ rfl
  exact fun o _ => o
noncomputable def kk80 (P : Params) : Obj := by
  refine (?g : ∀ o, List.lookup 80 (kgrab.heap_1 P) = some o → Obj) _ rfl
  exact fun o _ => o
noncomputable def kk81 (P : Params) : Obj := by
  refine (?g : ∀ o, List.lookup 81 (kgrab.heap_1 P) = some o → Obj) _ rfl
  exact fun o _ => o
noncomputable def kk82 (P : Params) : Obj := by
  refine (?g : ∀ o, List.lookup 82 (kgrab.heap_1 P) = some o → Obj) _ rfl
  exact fun o _ => o
noncomputable def kk84 (P : Params) : Obj := by
  refine (?g : ∀ o, List.lookup 84 (kgrab.heap_1 P) = some o → Obj) _ rfl
  exact fun o _ => o
noncomputable def kc3 (P : Params) : Frag := [(nat_lit 73, kk73 P), (nat_lit 74, kk74 P), (nat_lit 76, kk76 P), (nat_lit 77, kk77 P), (nat_lit 78, kk78 P), (nat_lit 79, kk79 P), (nat_lit 80, kk80 P), (nat_lit 81, kk81 P), (nat_lit 82, kk82 P), (nat_lit 84, kk84 P)]
noncomputable def kk85 (P : Params) : Obj := by
  refine (?g : ∀ o, List.lookup 85 (kgrab.heap_1 P) = some o → Obj) _ rfl
  exact fun o _ => o
noncomputable def kk87 (P : Params) : Obj := by
  refine (?g : ∀ o, List.lookup 87 (kgrab.heap_1 P) = some o → Obj) _ rfl
  exact fun o _ => o
noncomputable def kk88 (P : Params) : Obj := by
  refine (?g : ∀ o, List.lookup 88 (kgrab.heap_1 P) = some o → Obj) _ rfl
  exact fun o _ => o
noncomputable def kk89 (P : Params) : Obj := by
  refine (?g : ∀ o, List.lookup 89 (kgrab.heap_1 P) = some o → Obj) _ rfl
  exact fun o _ => o
noncomputable def kk90 (P : Params) : Obj := by
  refine (?g : ∀ o, List.lookup 90 (kgrab.heap_1 P) = some o → Obj) _ rfl
  exact fun o _ => o
noncomputable def kk91 (P : Params) : Obj := by
  refine (?g : ∀ o, List.lookup 91 (kgrab.heap_1 P) = some o → Obj) _ rfl
  exact fun o _ => o
noncomputable def kk92 (P : Params) : Obj := by
  refine (?g : ∀ o, List.lookup 92 (kgrab.heap_1 P) = some o → Obj) _ rfl
  exact fun o _ => o
noncomputable def kk94 (P : Params) : Obj := by
  refine (?g : ∀ o, List.lookup 94 (kgrab.heap_1 P) = some o → Obj) _ rfl
  exact fun o _ => o
noncomputable def kk95 (P : Params) : Obj := by
  refine (?g : ∀ o, List.lookup 95 (kgrab.heap_1 P) = some o → Obj) _ rfl
  exact fun o _ => o
noncomputable def kk97 (P : Params) : Obj := by
  refine (?g : ∀ o, List.lookup 97 (kgrab.heap_1 P) = some o → Obj) _ rfl
  exact fun o _ => o
noncomputable def kc4 (P : Params) : Frag := [(nat_lit 85, kk85 P), (nat_lit 87, kk87 P), (nat_lit 88, kk88 P), (nat_lit 89, kk89 P), (nat_lit 90, kk90 P), (nat_lit 91, kk91 P), (nat_lit 92, kk92 P), (nat_lit 94, kk94 P), (nat_lit 95, kk95 P), (nat_lit 97, kk97 P)]
noncomputable def kk98 (P : Params) : Obj := by
  refine (?g : ∀ o, List.lookup 98 (kgrab.heap_1 P) = some o → Obj) _ rfl
  exact fun o _ => o
noncomputable def kk99 (P : Params) : Obj := by
  refine (?g : ∀ o, List.lookup 99 (kgrab.heap_1 P) = some o → Obj) _ rfl
  exact fun o _ => o
noncomputable def kk100 (P : Params) : Obj := by
  refine (?g : ∀ o, List.lookup 100 (kgrab.heap_1 P) = some o → Obj) _ rfl
  exact fun o _ => o
noncomputable def kk101 (P : Params) : Obj := by
  refine (?g : ∀ o, List.lookup 101 (kgrab.heap_1 P) = some o → Obj) _ rfl
  exact fun o _ => o
noncomputable def kk102 (P : Params) : Obj := by
  refine (?g : ∀ o, List.lookup 102 (kgrab.heap_1 P) = some o → Obj) _ rfl
  exact fun o _ => o
noncomputable def kk103 (P : Params) : Obj := by
  refine (?g : ∀ o, List.lookup 103 (kgrab.heap_1 P) = some o → Obj) _ rfl
  exact fun o _ => o
noncomputable def kk104 (P : Params) : Obj := by
  refine (?g : ∀ o, List.lookup 104 (kgrab.heap_1 P) = some o → Obj) _ rfl
  exact fun o _ => o
noncomputable def kk105 (P : Params) : Obj := by
  refine (?g : ∀ o, List.lookup 105 (kgrab.heap_1 P) = some o → Obj) _ rfl
  exact fun o _ => o
noncomputable def kk106 (P : Params) : Obj := by
  refine (?g : ∀ o, List.lookup 106 (kgrab.heap_1 P) = some o → Obj) _ rfl
  exact fun o _ => o
noncomputable def kk109 (P : Params) : Obj := by
  refine (?g : ∀ o, List.lookup 109 (kgrab.heap_1 P) = some o → Obj) _ rfl
  exact fun o _ => o
noncomputable def kc5 (P : Params) : Frag := [(nat_lit 98, kk98 P), (nat_lit 99, kk99 P), (nat_lit 100, kk100 P), (nat_lit 101, kk101 P), (nat_lit 102, kk102 P), (nat_lit 103, kk103 P), (nat_lit 104, kk104 P), (nat_lit 105, kk105 P), (nat_lit 106, kk106 P), (nat_lit 109, kk109 P)]
noncomputable def kk110 (P : Params) : Obj := by
  refine (?g : ∀ o, List.lookup 110 (kgrab.heap_1 P) = some o → Obj) _ rfl
  exact fun o _ => o
noncomputable def kk111 (P : Params) : Obj := by
  refine (?g : ∀ o, List.lookup 111 (kgrab.heap_1 P) = some o → Obj) _ rfl
  exact fun o _ => o
noncomputable def kk113 (P : Params) : Obj := by
  refine (?g : ∀ o, List.lookup 113 (kgrab.heap_1 P) = some o → Obj) _ rfl
  exact fun o _ => o
noncomputable def kk114 (P : Params) : Obj := by
  refine (?g : ∀ o, List.lookup 114 (kgrab.heap_1 P) = some o → Obj) _ rfl
  exact fun o _ => o
noncomputable def kk116 (P : Params) : Obj := by
  refine (?g : ∀ o, List.lookup 116 (kgrab.heap_1 P) = some o → Obj) _ rfl
  exact fun o _ => o
noncomputable def kk117 (P : Params) : Obj := by
  refine (?g : ∀ o, List.lookup 117 (kgrab.heap_1 P) = some o → Obj) _ rfl
  exact fun o _ => o
noncomputable def kk118 (P : Params) : Obj := by
  refine (?g : ∀ o, List.lookup 118 (kgrab.heap_1 P) = some o → Obj) _ rfl
  exact fun o _ => o
noncomputable def kk120 (P : Params) : Obj := by
  refine (?g : ∀ o, List.lookup 120 (kgrab.heap_1 P) = some o → Obj) _ rfl
  exact fun o _ => o
noncomputable def kk121 (P : Params) : Obj := by
  refine (?g : ∀ o, List.lookup 121 (kgrab.heap_1 P) = some o → Obj) _ rfl
  exact fun o _ => o
noncomputable def kk123 (P : Params) : Obj := by
  refine (?g : ∀ o, List.lookup 123 (kgrab.heap_1 P) = some o → Obj) _ rfl
  exact fun o _ => o
noncomputable def kc6 (P : Params) : Frag := [(nat_lit 110, kk110 P), (nat_lit 111, kk111 P), (nat_lit 113, kk113 P), (nat_lit 114, kk114 P), (nat_lit 116, kk116 P), (nat_lit 117, kk117 P), (nat_lit 118, kk118 P), (nat_lit 120, kk120 P), (nat_lit 121, kk121 P), (nat_lit 123, kk123 P)]
noncomputable def kk124 (P : Params) : Obj := by
  refine (?g : ∀ o, List.lookup 124 (kgrab.heap_1 P) = some o → Obj) _ rfl
  exact fun o _ => o
noncomputable def kk125 (P : Params) : Obj := by
  refine (?g : ∀ o, List.lookup 125 (kgrab.heap_1 P) = some o → Obj) _ rfl
  exact fun o _ => o
noncomputable def kk128 (P : Params) : Obj := by
  refine (?g : ∀ o, List.lookup 128 (kgrab.heap_1 P) = some o → Obj) _ rfl
  exact fun o _ => o
noncomputable def kk129 (P : Params) : Obj := by
  refine (?g : ∀ o, List.lookup 129 (kgrab.heap_1 P) = some o → Obj) _ rfl
  exact fun o _ => o
noncomputable def kk130 (P : Params) : Obj := by
  refine (?g : ∀ o, List.lookup 130 (kgrab.heap_1 P) = some o → Obj) _ rfl
  exact fun o _ => o
noncomputable def kk132 (P : Params) : Obj := by
  refine (?g : ∀ o, List.lookup 132 (kgrab.heap_1 P) = some o → Obj) _ rfl
  exact fun o _ => o
noncomputable def kk133 (P : Params) : Obj := by
  refine (?g : ∀ o, List.lookup 133 (kgrab.heap_1 P) = some o → Obj) _ rfl
  exact fun o _ => o
noncomputable def kk135 (P : Params) : Obj := by
  refine (?g : ∀ o, List.lookup 135 (kgrab.heap_1 P) = some o → Obj) _ rfl
  exact fun o _ => o
noncomputable def kk136 (P : Params) : Obj := by
  refine (?g : ∀ o, List.lookup 136 (kgrab.heap_1 P) = some o → Obj) _ rfl
  exact fun o _ => o
noncomputable def kk137 (P : Params) : Obj := by
  refine (?g : ∀ o, List.lookup 137 (kgrab.heap_1 P) = some o → Obj) _ rfl
  exact fun o _ => o
noncomputable def kc7 (P : Params) : Frag := [(nat_lit 124, kk124 P), (nat_lit 125, kk125 P), (nat_lit 128, kk128 P), (nat_lit 129, kk129 P), (nat_lit 130, kk130 P), (nat_lit 132, kk132 P), (nat_lit 133, kk133 P), (nat_lit 135, kk135 P), (nat_lit 136, kk136 P), (nat_lit 137, kk137 P)]
noncomputable def kk140 (P : Params) : Obj := by
  refine (?g : ∀ o, List.lookup 140 (kgrab.heap_1 P) = some o → Obj) _ rfl
  exact fun o _ => o
noncomputable def kk141 (P : Params) : Obj := by
  refine (?g : ∀ o, List.lookup 141 (kgrab.heap_1 P) = some o → Obj) _ rfl
  exact fun o _ => o
noncomputable def kk142 (P : Params) : Obj := by
  refine (?g : ∀ o, List.lookup 142 (kgrab.heap_1 P) = some o → Obj) _ rfl
  exact fun o _ => o
noncomputable def kk144 (P : Params) : Obj := by
  refine (?g : ∀ o, List.lookup 144 (kgrab.heap_1 P) = some o → Obj) _ rfl
  exact fun o _ => o
noncomputable def kk145 (P : Params) : Obj := by
  refine (?g : ∀ o, List.lookup 145 (kgrab.heap_1 P) = some o → Obj) _ rfl
  exact fun o _ => o
noncomputable def kk147 (P : Params) : Obj := by
  refine (?g : ∀ o, List.lookup 147 (kgrab.heap_1 P) = some o → Obj) _ rfl
  exact fun o _ => o
noncomputable def kk148 (P : Params) : Obj := by
  refine (?g : ∀ o, List.lookup 148 (kgrab.heap_1 P) = some o → Obj) _ rfl
  exact fun o _ => o
noncomputable def kk149 (P : Params) : Obj := by
  refine (?g : ∀ o, List.lookup 149 (kgrab.heap_1 P) = some o → Obj) _ rfl
  exact fun o _ => o
noncomputable def kk152 (P : Params) : Obj := by
  refine (?g : ∀ o, List.lookup 152 (kgrab.heap_1 P) = some o → Obj) _ rfl
  exact fun o _ => o
noncomputable def kk153 (P : Params) : Obj := by
  refine (?g : ∀ o, List.lookup 153 (kgrab.heap_1 P) = some o → Obj) _ rfl
  exact fun o _ => o
noncomputable def kc8 (P : Params) : Frag := [(nat_lit 140, kk140 P), (nat_lit 141, kk141 P), (nat_lit 142, kk142 P), (nat_lit 144, kk144 P), (nat_lit 145, kk145 P), (nat_lit 147, kk147 P), (nat_lit 148, kk148 P), (nat_lit 149, kk149 P), (nat_lit 152, kk152 P), (nat_lit 153, kk153 P)]
noncomputable def kk154 (P : Params) : Obj := by
  refine (?g : ∀ o, List.lookup 154 (kgrab.heap_1 P) = some o → Obj) _ rfl
  exact fun o _ => o
noncomputable def kk156 (P : Params) : Obj := by
  refine (?g : ∀ o, List.lookup 156 (kgrab.heap_1 P) = some o → Obj) _ rfl
  exact fun o _ => o
noncomputable def kk157 (P : Params) : Obj := by
  refine (?g : ∀ o, List.lookup 157 (kgrab.heap_1 P) = some o → Obj) _ rfl
  exact fun o _ => o
noncomputable def kk159 (P : Params) : Obj := by
  refine (?g : ∀ o, List.lookup 159 (kgrab.heap_1 P) = some o → Obj) _ rfl
  exact fun o _ => o
noncomputable def kk160 (P : Params) : Obj := by
  refine (?g : ∀ o, List.lookup 160 (kgrab.heap_1 P) = some o → Obj) _ rfl
  exact fun o _ => o
noncomputable def kk161 (P : Params) : Obj := by
  refine (?g : ∀ o, List.lookup 161 (kgrab.heap_1 P) = some o → Obj) _ rfl
  exact fun o _ => o
noncomputable def kk163 (P : Params) : Obj := by
  refine (?g : ∀ o, List.lookup 163 (kgrab.heap_1 P) = some o → Obj) _ rfl
  exact fun o _ => o
noncomputable def kk164 (P : Params) : Obj := by
  refine (?g : ∀ o, List.lookup 164 (kgrab.heap_1 P) = some o → Obj) _ rfl
  exact fun o _ => o
noncomputable def kk166 (P : Params) : Obj := by
  refine (?g : ∀ o, List.lookup 166 (kgrab.heap_1 P) = some o → Obj) _ rfl
  exact fun o _ => o
noncomputable def kk167 (P : Params) : Obj := by
  refine (?g : ∀ o, List.lookup 167 (kgrab.heap_1 P) = some o → Obj) _ rfl
  exact fun o _ => o
noncomputable def kc9 (P : Params) : Frag := [(nat_lit 154, kk154 P), (nat_lit 156, kk156 P), (nat_lit 157, kk157 P), (nat_lit 159, kk159 P), (nat_lit 160, kk160 P), (nat_lit 161, kk161 P), (nat_lit 163, kk163 P), (nat_lit 164, kk164 P), (nat_lit 166, kk166 P), (nat_lit 167, kk167 P)]
noncomputable def KK : Params → Frag := fun P => kc0 P ++ (kc1 P ++ (kc2 P ++ (kc3 P ++ (kc4 P ++ (kc5 P ++ (kc6 P ++ (kc7 P ++ (kc8 P ++ (kc9 P)))))))))
theorem kk_eq : kgrab.heap_1 = KK := rfl
noncomputable def kAs : List Addr := [2, 3, 15, 17, 18, 20, 21, 22, 29, 30, 31, 32, 35, 42, 43, 44, 45, 55, 56, 58, 59, 61, 62, 63, 65, 66, 68, 69, 70, 71, 73, 74, 76, 77, 78, 79, 80, 81, 82, 84, 85, 87, 88, 89, 90, 91, 92, 94, 95, 97, 98, 99, 100, 101, 102, 103, 104, 105, 106, 109, 110, 111, 113, 114, 116, 117, 118, 120, 121, 123, 124, 125, 128, 129, 130, 132, 133, 135, 136, 137, 140, 141, 142, 144, 145, 147, 148, 149, 152, 153, 154, 156, 157, 159, 160, 161, 163, 164, 166, 167]
theorem k0_as : ∀ P, kAs = (kgrab.heap_1 P).map (·.1) := fun _ => by kernel_rfl
theorem kk_as : ∀ P, kAs = (KK P).map (·.1) := fun _ => by kernel_rfl
theorem walk_of {q : Program} {loose : List Str} {XP : (Str → Option Value) → Heap → Prop} {YP YP' : World → Heap → Prop} {r : RowW} {d : DefRec} {kwd : List (Str × Expr)} {c : Value → List Value → Sem Value} (h : ∀ w hp, YP w hp → YP' w hp) (W : WalkO q loose XP YP' r d kwd c) : WalkO q loose XP YP r d kwd c := by
  intro w s₀ s₁ mg mb G Y
  exact W w s₀ s₁ mg mb G (h _ _ Y)
theorem says_of {as as' ts : List Addr} {e : ∀ P, as = (KK P).map (·.1)} {e' : ∀ P, as' = (kgrab.heap_1 P).map (·.1)} (w : World) (h : Heap) (y : (kmHook KK as e ts).says w h) : (kmHook kgrab.heap_1 as' e' ts).says w h := ⟨(congrArg (fun K => InK K w h) kk_eq).mpr y.1, y.2⟩
section
local macro_rules | `(tactic| k_head) => `(tactic| o_head (kmHook KK kAs kk_as [72]))
open_top hd for rw1
end
end Mine
end
section
open PySem PySem.W PySem.Calls PyProof.Rows PySem.Spec
namespace Mine
abbrev gTop (dp un : Nat) (gd : Option (List Code)) (outer : List Env) : Around := { handled := none, depth := dp, frames := some outer, guards := gd, units := un }
theorem neN2 {a b : Nat} (h : @Ne Nat a b) : a ≠ b := h
theorem ne_up {a k : Nat} : a ≠ a + (k + 1) := by omega
theorem lim_ok {x a b c : Nat} (h : x + a < c) (hb : b ≤ a) : x + b < c := Nat.lt_of_le_of_lt (Nat.add_le_add_left hb x) h
def Led (g h : Heap) (news : List (Addr × Obj)) : Prop := ∀ p ∈ news, h.get? p.1 = some p.2 ∧ g.get? p.1 = none
theorem Led.nil {g h : Heap} : Led g h [] := fun _ hp => nomatch hp
theorem Led.one {g h : Heap} {a : Addr} {o : Obj} (h1 : h.get? a = some o) (h2 : g.get? a = none) : Led g h [(a, o)] := fun p hp => by
  rw [List.mem_singleton.mp hp]; exact ⟨h1, h2⟩
theorem enter {prog : Program} {w : World} {A₀ A : Around} {s : Shared} {base g : Heap} {outer : List Env} {news : List (Addr × Obj)} {K : Frag} {p : Program} {loose : List Str} {mean : ExcName → Option Value} {mg mb : Str → Option Value}
    {R : Result → Shared → Prop} {name qual : Str} {params : Arguments} {body : List Stmt} {scope : Scope} {dV kV doc pm cdv ct oc : Value} {an od : Option Addr} {osl : Array (Option Value)} {f : Addr} {args : Args} {binds : List (Str × Value)}
    (B : Below A₀ base outer g) (hA : A.frames = some outer) (hk : g.StaysIn s.heap) (hz : g.objs.size ≤ s.heap.objs.size) (N : Led g s.heap news) (X : K.In g) (T : Top p loose mean mg mb g)
    (ho : K.lookup f = some ⟨oc, od, .func (fnOf name qual params body scope dV kV doc pm an cdv ct), osl⟩) (hcd : codeIn K cdv qual = true) (hroom : A.depth < recursionLimit)
    (hbind : BindsTo s (fnOf name qual params body scope dV kV doc pm an cdv ct) args binds) (hloc : ∀ y ∈ binds, scope.names.lookup y.1 = some .local)
    (h : ∀ L' h₁, Fr g L' h₁ (fun y => binds.reverse.lookup y) → News g L' h₁ news → Below A base outer g → (∀ p ∈ news, p.1 < L') → @LE.le Nat _ s.heap.objs.size L' → @LT.lt Nat _ L' h₁.objs.size →
      wpAny (model prog w) (A.deeper (envOf qual scope L' f cdv)) (execs body (envOf qual scope L' f cdv))
        (fun fl s' => R (.ok (.ret (match fl with | .ret v => v | _ => .none))) s')
        (fun e s' => wpAny (model prog w) (A.deeper (envOf qual scope L' f cdv)) (leaving (envOf qual scope L' f cdv) e) (fun _ s'' => R (.error e) s'') (fun e' s'' => R (.error e') s'') s')
        { s with heap := h₁, toks := s.toks + binds.length })
    (hco : scope.isCoroutine = false := by rfl) (hgen : scope.isGenerator = false := by rfl) (hkf : scope.kind = .function := by rfl)
    (hcell : ∀ x ∈ scope.names, x.2 ≠ .cell := by decide) : codeAny (model prog w) A (.call (.ref f) args) R s := by
  refine codeAny_call_def (fd := fnOf name qual params body scope dV kV doc pm an cdv ct) (body := body) (binds := binds) hroom (hk _ _ (X _ _ ho)) rfl (T.nolimit.keeps hk) (codeRec_of (X.keeps hk) hcd) rfl hbind hcell hloc (fun h₁ hns hk₁ => ?_) hco hgen hkf
  exact h s.heap.objs.size h₁ ⟨hns, fun b o e => hk₁ b o (hk b o e), hz⟩
    (fun q hq => ⟨hk₁ _ _ (N q hq).1, Nat.ne_of_lt (Heap.lt_size (N q hq).1), (N q hq).2⟩) ⟨hA, B.stays, B.frames⟩ (fun q hq => Heap.lt_size (N q hq).1) (Nat.le_refl _) hns.lt
theorem share {A₀ : Around} {base h₀ h : Heap} {outer : List Env} {L a : Addr} {m : Str → Option Value} {cn : Str} {cs : Scope} {ccd : Value} {cl : List (Str × Addr)} {news : List (Addr × Obj)} {K : Frag} {p : Program} {loose : List Str} {mean : ExcName → Option Value} {mg mb : Str → Option Value}
    (ms : List Addr)
    (B : Below A₀ base outer h₀) (F : Fr h₀ L h m) (N : News h₀ L h news) (X : K.In h₀) (T : Top p loose mean mg mb h₀) (hck : cs.kind = .function)
    (hms : ∀ b ∈ ms, b ∈ news.map (·.1)) :
    Below (A₀.deeper (envX cn cs L a ccd cl)) base (envX cn cs L a ccd cl :: outer) (hideAll h ms) ∧ h₀.StaysIn (hideAll h ms) ∧ (hideAll h ms).StaysIn h ∧ (hideAll h ms).objs.size ≤ h.objs.size ∧ K.In (hideAll h ms) ∧ Top p loose mean mg mb (hideAll h ms) ∧
      (∀ h', (hideAll h ms).StaysIn h' → Fr h₀ L h' m) := by
  have nm : ∀ b o, h₀.get? b = some o → b ∉ ms := fun b o e q => by
    obtain ⟨p, hp, rfl⟩ := List.mem_map.mp (hms b q)
    rw [(N p hp).2.2] at e; cases e
  have st : h₀.StaysIn (hideAll h ms) := fun b o e => hideAll_get _ (F.keep b o e) (nm b o e)
  obtain ⟨oL, es, ep, hL, hLd, hLk, hLf⟩ := F.ns
  have nL : L ∉ ms := fun q => by
    obtain ⟨p, hp, e⟩ := List.mem_map.mp (hms L q)
    exact (N p hp).2.1 e
  have hLg := hideAll_get ms hL nL
  have hbL : base.get? L = none := by
    cases hq : base.get? L with
    | none => rfl
    | some o => exact absurd (Nat.lt_of_lt_of_le (Heap.lt_size (B.stays L o hq)) F.above) (Nat.lt_irrefl _)
  have FF : (hideAll h ms).FunFrames base (envX cn cs L a ccd cl :: outer) := by
    refine .cons (by show cs.kind ≠ .module; rw [hck]; decide) rfl (m := m) ⟨oL, es, ep, hLg, hLd, hLk, hLf⟩ hbL ?_
    exact B.frames.of_keeps fun b o e _ => ⟨o, st b o e, rfl⟩
  refine ⟨⟨Around.frames_deeper B.stack, fun b o e => st b o (B.stays b o e), FF⟩, st, fun b o e => of_hideAll _ e, Nat.le_of_eq (hideAll_size _ _), X.keeps st, T.keeps st, fun h' kh => ?_⟩
  exact ⟨⟨oL, es, ep, kh _ _ hLg, hLd, hLk, hLf⟩, fun b o e => kh b o (st b o e), F.above⟩
end Mine
namespace Mine
def Stop (P : Prop) : Prop := P
theorem Stop.out {P : Prop} (h : Stop P) : P := h
def withL : List (Str × Value) → (Str → Option Value) → Str → Option Value
  | [], m => m
  | (x, v) :: r, m => fun y => if y = x then some v else withL r m y
theorem withL_eq {m : Str → Option Value} : ∀ {kv : List (Str × Value)}, (∀ q ∈ kv, m q.1 = some q.2) → withL kv m = m
  | [], _ => rfl
  | (x, v) :: r, h => by
    funext y
    show (if y = x then some v else withL r m y) = m y
    rw [withL_eq (kv := r) fun q hq => h q (.tail _ hq)]
    by_cases e : y = x
    · rw [if_pos e, e]; exact (h (x, v) (.head _)).symm
    · rw [if_neg e]
theorem knows {h₀ h : Heap} {L : Addr} {m : Str → Option Value} (kv : List (Str × Value)) (F : Fr h₀ L h m) (e : ∀ q ∈ kv, m q.1 = some q.2) : Fr h₀ L h (withL kv m) := by
  rw [withL_eq e]; exact F
theorem al0 {α : Type} {P : α → Prop} : ∀ q ∈ ([] : List α), P q := fun _ h => nomatch h
theorem al1 {α : Type} {P : α → Prop} {a : α} {r : List α} (h : P a) (hr : ∀ q ∈ r, P q) : ∀ q ∈ a :: r, P q := List.forall_mem_cons.mpr ⟨h, hr⟩
end Mine
namespace Mine
theorem wEnd {h₀ : Heap} {L : Addr} {s : Shared} {J : Nat → (Str → Option Value) → List (Addr × Obj) → Prop} {Q : Flow → Shared → Prop} {n n' : Nat} {h' : Heap} {tk : Nat} {m₂ : Str → Option Value} {news₂ : List (Addr × Obj)}
    (F : Fr h₀ L h' m₂) (N : News h₀ L h' news₂) (hn : n' < n) (hJ : J n' m₂ news₂) : WhileStep2 h₀ L s J Q n .next { s with heap := h', toks := tk } := ⟨h', tk, m₂, news₂, n', rfl, F, N, hn, hJ⟩
end Mine
end
section
open PySem PySem.W PySem.Calls PyProof.Rows PySem.Spec PyProof.V
namespace Mine
def EndG (h₀ : Heap) (L : Addr) (I : Addr) (oI : Obj) (J : (Str → Option Value) → List (Addr × Obj) → Prop) (s₁ s₂ : Shared) : Prop :=
  ∃ h' tk m' news', s₂ = { s₁ with heap := h', toks := tk } ∧ Fr h₀ L h' m' ∧ News h₀ L h' news' ∧ (∀ p ∈ news', p.1 ≠ I) ∧ h'.get? I = some oI ∧ J m' news'
def PostG (h₀ : Heap) (L : Addr) (I : Addr) (oI : Obj) (J : (Str → Option Value) → List (Addr × Obj) → Prop) (s₁ : Shared) (Q : Flow → Shared → Prop) (f : Flow) (s₂ : Shared) : Prop :=
  match f with
  | .ret v => Q (.ret v) s₂
  | .brk => Q .next s₂
  | _ => EndG h₀ L I oI J s₁ s₂
theorem EndG.intro {h₀ : Heap} {L : Addr} {I : Addr} {oI : Obj} {J : (Str → Option Value) → List (Addr × Obj) → Prop} {s₁ : Shared} {h' : Heap} {tk : Nat} {m' : Str → Option Value} {news' : List (Addr × Obj)}
    (F : Fr h₀ L h' m') (N : News h₀ L h' ((I, oI) :: news')) (hn : ∀ p ∈ news', p.1 ≠ I) (hj : J m' news') : EndG h₀ L I oI J s₁ { s₁ with heap := h', toks := tk } :=
  ⟨h', tk, m', news', rfl, F, fun p hp => N p (.tail _ hp), hn, (N _ (.head _)).1, hj⟩
section
variable {prog : Program} {w : World} {A : Around} {E : Value → Shared → Prop} {s : Shared} {env : Env} {h₀ : Heap} {target : Expr} {body : List Stmt} {Q : Flow → Shared → Prop}
theorem loop_turns {I : Addr} {fp : List Addr} {n : Nat} {P Md : Nat → Value → Heap → Prop} {St : Nat → Heap → Prop} {m₀ : Str → Option Value} {news : List (Addr × Obj)} (J : Nat → (Str → Option Value) → List (Addr × Obj) → Prop)
    (W : KTurns prog w A target I fp [I] n P Md St) (hLf : env.locals ∉ fp) (hI0 : h₀.get? I = none) (hlive : ∀ i h, St i h → ∃ o, h.get? I = some o) (hfp : ∀ b ∈ fp, b = I ∨ ∃ o, h₀.get? b = some o)
    (hnw : ∀ p ∈ news, p.1 ≠ I) (hst : St 0 s.heap) (F : Fr h₀ env.locals s.heap m₀) (N : News h₀ env.locals s.heap news) (hj : J 0 m₀ news)
    (turn : ∀ i v m₁ news₁ h tk oI, i < n → P i v h → J i m₁ news₁ → (∀ p ∈ news₁, p.1 ≠ I) → Fr h₀ env.locals h m₁ → News h₀ env.locals h ((I, oI) :: news₁) →
      wpAny (model prog w) A (assign target env v) (fun _ s₃ => wpAny (model prog w) A (execs body env) (PostG h₀ env.locals I oI (J (i + 1)) { s with heap := h, toks := tk } Q) E s₃) E { s with heap := h, toks := tk })
    (done : ∀ m₁ news₁ h tk, J n m₁ news₁ → Fr h₀ env.locals h m₁ → News h₀ env.locals h news₁ → Q .next { s with heap := h, toks := tk }) :
    TurnsAt prog w A h₀ env target body Q E (.ref I) s := by
  have hIL : I ≠ env.locals := fun e => hLf (by
    have := W.sub I (.head _)
    rwa [e] at this)
  refine ⟨I, fp, [I], n, P, Md, St, m₀, news, J, rfl, W, hLf, fun b hb => by rw [List.mem_singleton.mp hb]; exact hI0, fun p hp hb => hnw p hp (List.mem_singleton.mp hb), hst, F, N, hj, ?_, fun h' tk m' news' F' N' _ hJ => done m' news' h' tk hJ F' N'⟩
  intro i v m₁ news₁ h₁ tk₁ own hi hP hJ hnw₁ hown hget hall hst₁ F₁ N₁
  obtain ⟨oI, hoI⟩ := hlive _ _ hst₁
  have N₂ : News h₀ env.locals h₁ ((I, oI) :: news₁) := fun p hp => by
    rcases List.mem_cons.mp hp with rfl | hp
    · exact ⟨hoI, hIL, hI0⟩
    · exact N₁ p (List.mem_append_right _ hp)
  refine wpAny_mono (turn i v m₁ news₁ h₁ tk₁ oI hi hP hJ (fun p hp e => hnw₁ p hp (List.mem_singleton.mpr e)) F₁ N₂) (fun _ s₃ h₃ => wpAny_mono h₃ (fun f s₄ h₄ => ?_) fun _ _ x => x) fun _ _ x => x
  have ownI : ∀ p ∈ own, p = (I, oI) := fun p hp => by
    have h1 := N₁ p (List.mem_append_left _ hp)
    rcases hfp _ (hown p hp) with e | ⟨o, e⟩
    · obtain ⟨b, o⟩ := p
      have e : b = I := e
      subst e
      have : some o = some oI := h1.1.symm.trans hoI
      rw [Option.some.inj this]
    · rw [h1.2.2] at e; cases e
  have fin : EndG h₀ env.locals I oI (J (i + 1)) { s with heap := h₁, toks := tk₁ } s₄ → LoopStepU h₀ env.locals [I] own (J (i + 1)) { s with heap := h₁, toks := tk₁ } .next s₄ := by
    rintro ⟨h', tk, m', news', rfl, F', N', hn, hg, hj'⟩
    refine ⟨rfl, h', tk, m', news', rfl, F', fun p hp => ?_, fun p hp hq => hn p hp (List.mem_singleton.mp hq), hj'⟩
    rcases List.mem_append.mp hp with hp | hp
    · rw [ownI p hp]; exact ⟨hg, hIL, hI0⟩
    · exact N' p hp
  cases f with
  | ret v => exact .ret h₄
  | brk => exact .brk h₄
  | next => exact .next (fin h₄)
  | cont => exact .cont (fin h₄)
theorem loop_list {l : Addr} {vs : List Value} {m₀ : Str → Option Value} {news : List (Addr × Obj)} (J : Nat → (Str → Option Value) → List (Addr × Obj) → Prop)
    (hh : A.handled = none) (hl : h₀.IsList l vs.toArray) (F : Fr h₀ env.locals s.heap m₀) (N : News h₀ env.locals s.heap news) (hj : J 0 m₀ news)
    (turn : ∀ i v m₁ news₁ h tk I oI, vs[i]? = some v → J i m₁ news₁ → (∀ p ∈ news₁, p.1 ≠ I) → Fr h₀ env.locals h m₁ → News h₀ env.locals h ((I, oI) :: news₁) →
      wpAny (model prog w) A (assign target env v) (fun _ s₃ => wpAny (model prog w) A (execs body env) (PostG h₀ env.locals I oI (J (i + 1)) { s with heap := h, toks := tk } Q) E s₃) E { s with heap := h, toks := tk })
    (done : ∀ m₁ news₁ h tk, J vs.length m₁ news₁ → Fr h₀ env.locals h m₁ → News h₀ env.locals h news₁ → Q .next { s with heap := h, toks := tk }) :
    wpAny (model prog w) A (pyIter (.ref l)) (fun it s₂ => TurnsAt prog w A h₀ env target body Q E it s₂) E s := by
  have hls : s.heap.IsList l vs.toArray := hl.at fun o e => F.keep l o e
  obtain ⟨ol, hol, _⟩ := id hl
  have hlt : l < h₀.objs.size := Heap.lt_size hol
  have hne : l ≠ s.heap.objs.size := Nat.ne_of_lt (Nat.lt_trans (Nat.lt_of_lt_of_le hlt F.above) F.ns.lt)
  refine wpAny_pyIter_list hls ?_
  have W := KTurns.ofWalks (target := target) (Walks.list (prog := prog) (w := w) hh s.heap.objs.size l hne vs.toArray) (fun i v s Q E st q => letGo_listiter st.1 q)
  rw [List.size_toArray] at W
  refine loop_turns (s := { s with heap := _ }) J W ?_ ?_ ?_ ?_ ?_ ?_ (F.push _) (fun p hp => ⟨Heap.get?_push_of_some _ (N p hp).1, (N p hp).2⟩) hj ?_ ?_
  · intro hm
    rcases List.mem_cons.mp hm with e | hm
    · exact absurd F.ns.lt (e ▸ Nat.lt_irrefl _)
    · exact absurd (Nat.lt_of_lt_of_le hlt F.above) ((List.mem_singleton.mp hm) ▸ Nat.lt_irrefl _)
  · exact next_is_new F
  · rintro i h ⟨⟨o, ho, _⟩, _⟩; exact ⟨o, ho⟩
  · intro b hb
    rcases List.mem_cons.mp hb with e | hb
    · exact .inl e
    · rw [List.mem_singleton.mp hb]; exact .inr ⟨_, hol⟩
  · intro p hp e; exact absurd (Heap.lt_size (N p hp).1) (e ▸ Nat.lt_irrefl _)
  · exact ⟨⟨_, Heap.get?_push_size _ rfl, rfl, rfl⟩, hls.at fun o e => Heap.get?_push_of_some _ e⟩
  · intro i v m₁ news₁ h tk oI hi hP hJ hn F₁ N₁
    exact turn i v m₁ news₁ h tk _ oI (by simpa using hP) hJ hn F₁ N₁
  · intro m₁ news₁ h tk hJ F₁ N₁; exact done m₁ news₁ h tk hJ F₁ N₁
theorem loop_range {x : Str} {px : Pos} {r : Addr} {b₀ : Int} {t₀ u₀ v₀ : Tok} {n : Nat} {m₀ : Str → Option Value} {news : List (Addr × Obj)} (J : Nat → (Str → Option Value) → List (Addr × Obj) → Prop)
    (hh : A.handled = none) (hr : IsRange s.heap r 0 b₀ 1 t₀ u₀ v₀) (hsmall : Builtin.Range.small 0 b₀ 1 = true) (hn : Builtin.Range.rangeSize 0 b₀ 1 = (n : Int)) (F : Fr h₀ env.locals s.heap m₀) (N : News h₀ env.locals s.heap news) (hj : J 0 m₀ news)
    (turn : ∀ i t m₁ news₁ h tk I oI, i < n → J i m₁ news₁ → (∀ p ∈ news₁, p.1 ≠ I) → Fr h₀ env.locals h m₁ → News h₀ env.locals h ((I, oI) :: news₁) →
      wpAny (model prog w) A (assign (.Name x px) env (.int i t)) (fun _ s₃ => wpAny (model prog w) A (execs body env) (PostG h₀ env.locals I oI (J (i + 1)) { s with heap := h, toks := tk } Q) E s₃) E { s with heap := h, toks := tk })
    (done : ∀ m₁ news₁ h tk, J n m₁ news₁ → Fr h₀ env.locals h m₁ → News h₀ env.locals h news₁ → Q .next { s with heap := h, toks := tk }) :
    wpAny (model prog w) A (pyIter (.ref r)) (fun it s₂ => TurnsAt prog w A h₀ env (.Name x px) body Q E it s₂) E s := by
  refine wpAny_pyIter_range hr hsmall ?_
  have W := KTurns.ofWalks (target := .Name x px) (Walks.range (prog := prog) (w := w) hh s.heap.objs.size 0 1 n).bound (fun i v s Q E st q => wpAny_pure q)
  refine loop_turns (s := { s with heap := _ }) J W ?_ ?_ ?_ ?_ ?_ ?_ (F.push _) (fun p hp => ⟨Heap.get?_push_of_some _ (N p hp).1, (N p hp).2⟩) hj ?_ ?_
  · intro hm
    exact absurd F.ns.lt ((List.mem_singleton.mp hm) ▸ Nat.lt_irrefl _)
  · exact next_is_new F
  · intro i h st; exact ⟨_, st⟩
  · intro b hb; exact .inl (List.mem_singleton.mp hb)
  · intro p hp e; exact absurd (Heap.lt_size (N p hp).1) (e ▸ Nat.lt_irrefl _)
  · show IsRangeIter _ _ _ _ _; rw [hn]; simpa using Heap.get?_push_size _ rfl
  · intro i v m₁ news₁ h tk oI hi hP hJ hnn F₁ N₁
    obtain ⟨_, t, rfl⟩ := hP
    simp only [Int.zero_add, Int.mul_one]
    exact turn i t m₁ news₁ h tk _ oI hi hJ hnn F₁ N₁
  · intro m₁ news₁ h tk hJ F₁ N₁; exact done m₁ news₁ h tk hJ F₁ N₁
end
end Mine
namespace Mine
theorem enterC {prog : Program} {w : World} {A₀ A : Around} {s : Shared} {base g : Heap} {outer : List Env} {news : List (Addr × Obj)} {K : Frag} {p : Program} {loose : List Str} {mean : ExcName → Option Value} {mg mb : Str → Option Value}
    {R : Result → Shared → Prop} {name qual : Str} {params : Arguments} {body : List Stmt} {scope : Scope} {dV kV doc pm cdv ct oc : Value} {an od : Option Addr} {osl : Array (Option Value)} {f : Addr} {args : Args} {binds : List (Str × Value)}
    (B : Below A₀ base outer g) (hA : A.frames = some outer) (hk : g.StaysIn s.heap) (hz : g.objs.size ≤ s.heap.objs.size) (N : Led g s.heap news) (X : K.In g) (T : Top p loose mean mg mb g)
    (ho : K.lookup f = some ⟨oc, od, .func (fnOf name qual params body scope dV kV doc pm an cdv ct), osl⟩) (hcd : codeIn K cdv qual = true) (hroom : A.depth < recursionLimit)
    (hbind : BindsTo s (fnOf name qual params body scope dV kV doc pm an cdv ct) args binds) (hkind : (binds.all fun y => scope.names.lookup y.1 == some .local || scope.names.lookup y.1 == some .cell) = true)
    (hnd : ((cellsFrom 0 scope.names []).map (·.1)).Nodup)
    (h : ∀ L' h₁ tk cells, Fr g L' h₁ (bindL (envOfC qual scope L' f cdv).kindOf binds fun _ => none) → News g L' h₁ (cells ++ news) →
      CellsAre (bindC (envOfC qual scope L' f cdv).kindOf binds fun _ => none) (cellsFrom (L' + 1) scope.names []) cells → Below A base outer g → (∀ p ∈ news, p.1 < L') → @LE.le Nat _ s.heap.objs.size L' →
      wpAny (model prog w) (A.deeper (envOfC qual scope L' f cdv)) (execs body (envOfC qual scope L' f cdv))
        (fun fl s' => R (.ok (.ret (match fl with | .ret v => v | _ => .none))) s')
        (fun e s' => wpAny (model prog w) (A.deeper (envOfC qual scope L' f cdv)) (leaving (envOfC qual scope L' f cdv) e) (fun _ s'' => R (.error e) s'') (fun e' s'' => R (.error e') s'') s')
        { s with heap := h₁, toks := tk })
    (hco : scope.isCoroutine = false := by rfl) (hgen : scope.isGenerator = false := by rfl) (hkf : scope.kind = .function := by rfl) : codeAny (model prog w) A (.call (.ref f) args) R s := by
  refine codeAny_call_function hroom (hk _ _ (X _ _ ho)) rfl hco hgen rfl (codeRec_of (X.keeps hk) hcd) (hbind _ _ _ _ ?_)
  refine wpAny_newFunctionEnv_cells hkf (kindsX hkind _) fun env' he s' x => ?_
  subst he
  refine ⟨(T.nolimit.keeps hk).keeps x.toInCall.keep, codeAny_func ?_⟩
  obtain ⟨h₁, tk, rfl, _⟩ := x.done
  have hk₁ := x.toInCall.keep
  obtain ⟨cells, NC, Y⟩ := Cl.news (h₀ := s.heap) (Nat.le_refl _) fun n c hm => ⟨x.cell n c (lookup_of_mem_nodup (cellsFrom_names scope.names 0 (s.heap.objs.size + 1) [] [] rfl ▸ hnd) hm), x.above n c hm⟩
  refine h s.heap.objs.size h₁ tk cells ⟨x.toInCall.ns, fun b o e => hk₁ b o (hk b o e), hz⟩ (fun q hq => ?_) Y ⟨hA, B.stays, B.frames⟩ (fun q hq => Heap.lt_size (N q hq).1) (Nat.le_refl _)
  rcases List.mem_append.mp hq with hq | hq
  · refine ⟨(NC q hq).1, (NC q hq).2.1, ?_⟩
    cases e : g.get? q.1 with
    | none => rfl
    | some o => have := hk _ _ e; rw [(NC q hq).2.2] at this; cases this
  · exact ⟨hk₁ _ _ (N q hq).1, Nat.ne_of_lt (Heap.lt_size (N q hq).1), (N q hq).2⟩
end Mine
namespace Mine
section
open PyProof.Rows
variable {prog : Program} {w : World} {A : Around} {h₀ : Heap} {L : Addr} {m : Str → Option Value} {env : Env} {elt : Expr} {x : Str} {scope : Scope} {cl : List (Str × Addr)} {s : Shared} {P : Nat → Value → Prop} {Fin : List Value → List (Addr × Obj) → Prop}
theorem rest_S (Inv : List Value → List (Addr × Obj) → Prop) {n : Nat}
    (turn : ∀ ys news v I oI C oC D m₂ h tk (E' : Value → Shared → Prop), ys.length < n → Inv ys news → LCg.NsObj oC m₂ → m₂ x = some v → Fr h₀ L h m → News h₀ L h ((I, oI) :: (C, oC) :: (D, LCg.lst ys) :: news) → LCg.Off3 I C D news → ((@Ne Nat I C) ∧ (@Ne Nat I D) ∧ (@Ne Nat C D)) →
      wpAny (model prog w) A (eval elt (compEnvC scope cl C env)) (LCg.CompEnd h₀ L m { s with heap := h, toks := tk } I oI C oC D (LCg.lst ys) (fun _ => True) (fun y news' => Inv (ys ++ [y]) news')) E' { s with heap := h, toks := tk })
    (fin : ∀ ys news, ys.length = n → Inv ys news → Fin ys news) :
    ∀ (k i : Nat) (ys : List Value) (news : List (Addr × Obj)), i + k = n → ys.length = i → Inv ys news → LCg.CompRest prog w A h₀ L m env elt x scope cl s (fun _ => True) P Fin k i ys news := by
  intro k
  induction k with
  | zero => intro i ys news hi hy hI; exact LCg.CompRest.zero (fin ys news (by omega) hI)
  | succ k ih =>
    intro i ys news hi hy hI
    refine LCg.CompRest.succ ?_
    intro v I oI C oC D m₂ h tk E' hv hC hx F N off ne
    refine wpAny_mono (turn ys news v I oI C oC D m₂ h tk E' (by omega) hI hC hx F N off ne) (fun y s₂ hq => ?_) fun _ _ e => e
    obtain ⟨h', tk', nw, e, F', N', off', hS, hI'⟩ := hq
    exact ⟨h', tk', nw, e, F', N', off', hS, ih (i + 1) (ys ++ [y]) nw (by omega) (by rw [List.length_append, List.length_singleton, hy]) hI'⟩
end
end Mine
end
section
open PySem PySem.W PySem.Calls PyProof.Rows PySem.Spec PyProof.V
namespace Mine
structure Leaf where
  kind : Int
  val : List Int
  gr : Int
inductive Vec where
  | leaf (l : Leaf)
  | ssl (client verify : Int) (below : List Leaf) (gr : Int)
def be (k : Nat) (x : Int) : List Int := (KTBy.little k x).reverse
theorem be_length (k : Nat) (x : Int) : (be k x).length = k := by rw [be, List.length_reverse, KTBy.little_length]
def encWith (kind : Int) (val : List Int) (gr : Int) : List Int := kind :: (be 2 ((val.length : Int) + gr) ++ val)
theorem encWith_length (kind : Int) (val : List Int) (gr : Int) : (encWith kind val gr).length = val.length + 3 := by
  simp only [encWith, List.length_cons, List.length_append, be_length]; omega
def Leaf.enc (l : Leaf) : List Int := encWith l.kind l.val l.gr
def encL (ls : List Leaf) : List Int := ls.flatMap Leaf.enc
def Vec.kind : Vec → Int
  | .leaf l => l.kind
  | .ssl _ _ _ _ => 32
def Vec.val : Vec → List Int
  | .leaf l => l.val
  | .ssl c v b _ => c :: (be 4 v ++ encL b)
def Vec.gr : Vec → Int
  | .leaf l => l.gr
  | .ssl _ _ _ g => g
def Vec.enc (x : Vec) : List Int := encWith x.kind x.val x.gr
def enc (xs : List Vec) : List Int := xs.flatMap Vec.enc
theorem enc_leaf (ls : List Leaf) : enc (ls.map Vec.leaf) = encL ls := by
  induction ls with
  | nil => rfl
  | cons l r ih => simp only [enc, encL, List.map_cons, List.flatMap_cons] at ih ⊢; rw [ih]; rfl
theorem enc_snoc (xs : List Vec) (x : Vec) : enc (xs ++ [x]) = enc xs ++ x.enc := by
  simp [enc]
def known : List (Int × Str) := [(1, Str.ofString "ALPN"), (2, Str.ofString "AUTHORITY"), (3, Str.ofString "CRC32C"), (4, Str.ofString "NOOP"), (5, Str.ofString "UNIQUE_ID"), (32, Str.ofString "SSL"), (33, Str.ofString "SSL_VERSION"), (34, Str.ofString "SSL_CN"), (35, Str.ofString "SSL_CIPHER"), (36, Str.ofString "SSL_SIG_ALG"), (37, Str.ofString "SSL_KEY_ALG"), (48, Str.ofString "NETNS")]
def unknown : List (Int × Str) := [(6, Str.ofString "x06"), (10, Str.ofString "x0A"), (15, Str.ofString "x0F"), (38, Str.ofString "x26"), (127, Str.ofString "x7F"), (224, Str.ofString "xE0"), (255, Str.ofString "xFF")]
def leafKinds : List Int := [1, 2, 3, 4, 5, 33, 34, 35, 36, 37, 48, 6, 10, 15, 38, 127, 224, 255]
structure Leaf.Ok (l : Leaf) : Prop where
  kind : l.kind ∈ leafKinds
  len : l.val.length ≤ 406
  g0 : 0 ≤ l.gr
  g1 : l.gr ≤ 700
def Tight (grs : List Int) : Prop := ∀ i, i + 1 < grs.length → grs[i]? = some 0
structure OkL (ls : List Leaf) : Prop where
  all : ∀ l ∈ ls, l.Ok
  few : ls.length ≤ 4
  tight : Tight (ls.map Leaf.gr)
def Vec.Ok : Vec → Prop
  | .leaf l => l.Ok
  | .ssl c v b g => 0 ≤ c ∧ c < 256 ∧ 0 ≤ v ∧ v < 4294967296 ∧ OkL b ∧ 0 ≤ g ∧ g ≤ 700
structure OkV (xs : List Vec) : Prop where
  all : ∀ x ∈ xs, x.Ok
  few : xs.length ≤ 4
  tight : Tight (xs.map Vec.gr)
theorem encL_le {ls : List Leaf} (h : ∀ l ∈ ls, l.Ok) : (encL ls).length ≤ 409 * ls.length := by
  induction ls with
  | nil => simp [encL]
  | cons l r ih =>
    have h1 := (h l (.head _)).len
    have h2 := ih fun x hx => h x (.tail _ hx)
    simp only [encL, List.flatMap_cons, List.length_append, List.length_cons] at h2 ⊢
    rw [Leaf.enc, encWith_length]
    omega
theorem Vec.Ok.len {x : Vec} (h : x.Ok) : x.val.length ≤ 1641 := by
  cases x with
  | leaf l => have h1 : l.Ok := h; have h2 := h1.len; show l.val.length ≤ 1641; omega
  | ssl c v b g =>
    obtain ⟨_, _, _, _, hb, _, _⟩ := h
    have h1 := encL_le hb.all
    have h2 := hb.few
    simp only [Vec.val, List.length_cons, List.length_append, be_length]
    omega
theorem Vec.Ok.gr0 {x : Vec} (h : x.Ok) : 0 ≤ x.gr := by
  cases x with
  | leaf l => have h1 : l.Ok := h; exact h1.g0
  | ssl c v b g => exact h.2.2.2.2.2.1
theorem Vec.Ok.gr1 {x : Vec} (h : x.Ok) : x.gr ≤ 700 := by
  cases x with
  | leaf l => have h1 : l.Ok := h; exact h1.g1
  | ssl c v b g => exact h.2.2.2.2.2.2
theorem enc_le {xs : List Vec} (h : ∀ x ∈ xs, x.Ok) : (enc xs).length ≤ 1644 * xs.length := by
  induction xs with
  | nil => simp [enc]
  | cons l r ih =>
    have h1 := (h l (.head _)).len
    have h2 := ih fun x hx => h x (.tail _ hx)
    simp only [enc, List.flatMap_cons, List.length_append, List.length_cons] at h2 ⊢
    rw [Vec.enc, encWith_length]
    omega
abbrev tupOf (vs : List Value) : Obj := { cls := .type "tuple", data := .seq vs.toArray }
def TupIn (T : List (Addr × Obj)) (v : Value) (kind : Int) (val : List Int) (hv : Value) (gr pl : Int) : Prop :=
  ∃ (a : Addr) (b : Array UInt8) (t1 t2 t3 : Tok), v = .ref a ∧ (a, tupOf [.int kind t1, .bytes b t2, hv, .bool (decide (0 < gr)), .int pl t3]) ∈ T ∧ KBw.bInts b = val
def LeafsIn (T : List (Addr × Obj)) : List Value → List Leaf → Int → Prop
  | [], [], _ => True
  | v :: vs, l :: ls, pl => TupIn T v l.kind l.val .none l.gr pl ∧ LeafsIn T vs ls (pl + l.enc.length)
  | _, _, _ => False
def HoldsIn (T : List (Addr × Obj)) : Value → Vec → Prop
  | hv, .leaf _ => hv = .none
  | hv, .ssl c v b _ => ∃ (a l : Addr) (t1 t2 : Tok) (vals : List Value) (n : Nat), hv = .ref a ∧ (a, tupOf [.int c t1, .int v t2, .ref l]) ∈ T ∧ (l, listOf vals.toArray n) ∈ T ∧ LeafsIn T vals b 0
def VecsIn (T : List (Addr × Obj)) : List Value → List Vec → Int → Prop
  | [], [], _ => True
  | v :: vs, x :: xs, pl => (∃ hv, TupIn T v x.kind x.val hv x.gr pl ∧ HoldsIn T hv x) ∧ VecsIn T vs xs (pl + x.enc.length)
  | _, _, _ => False
theorem TupIn.mono {T T' : List (Addr × Obj)} (h : ∀ p ∈ T, p ∈ T') {v hv : Value} {kind gr pl : Int} {val : List Int} : TupIn T v kind val hv gr pl → TupIn T' v kind val hv gr pl
  | ⟨a, b, t1, t2, t3, e, hm, hb⟩ => ⟨a, b, t1, t2, t3, e, h _ hm, hb⟩
theorem LeafsIn.mono {T T' : List (Addr × Obj)} (h : ∀ p ∈ T, p ∈ T') : ∀ {vs : List Value} {ls : List Leaf} {pl : Int}, LeafsIn T vs ls pl → LeafsIn T' vs ls pl
  | [], [], _, _ => trivial
  | _ :: _, _ :: _, _, ⟨a, b⟩ => ⟨a.mono h, LeafsIn.mono h b⟩
theorem HoldsIn.mono {T T' : List (Addr × Obj)} (h : ∀ p ∈ T, p ∈ T') : ∀ {hv : Value} {x : Vec}, HoldsIn T hv x → HoldsIn T' hv x
  | _, .leaf _, e => e
  | _, .ssl _ _ _ _, ⟨a, l, t1, t2, vals, n, e, h1, h2, h3⟩ => ⟨a, l, t1, t2, vals, n, e, h _ h1, h _ h2, h3.mono h⟩
theorem VecsIn.mono {T T' : List (Addr × Obj)} (h : ∀ p ∈ T, p ∈ T') : ∀ {vs : List Value} {xs : List Vec} {pl : Int}, VecsIn T vs xs pl → VecsIn T' vs xs pl
  | [], [], _, _ => trivial
  | _ :: _, _ :: _, _, ⟨⟨hv, a, c⟩, b⟩ => ⟨⟨hv, a.mono h, c.mono h⟩, VecsIn.mono h b⟩
theorem VecsIn.length {T : List (Addr × Obj)} : ∀ {vs : List Value} {xs : List Vec} {pl : Int}, VecsIn T vs xs pl → vs.length = xs.length
  | [], [], _, _ => rfl
  | _ :: _, _ :: _, _, ⟨_, b⟩ => by simp only [List.length_cons]; rw [VecsIn.length b]
theorem VecsIn.snoc {T : List (Addr × Obj)} : ∀ {vs : List Value} {xs : List Vec} {pl : Int}, VecsIn T vs xs pl → ∀ {v hv : Value} {x : Vec}, TupIn T v x.kind x.val hv x.gr (pl + (enc xs).length) → HoldsIn T hv x → VecsIn T (vs ++ [v]) (xs ++ [x]) pl
  | [], [], pl, _, v, hv, x, ht, hh => by
    simp only [List.nil_append]
    refine ⟨⟨hv, ?_, hh⟩, trivial⟩
    simpa [enc] using ht
  | u :: vs, y :: xs, pl, ⟨a, b⟩, v, hv, x, ht, hh => by
    refine ⟨a, VecsIn.snoc b (hv := hv) ?_ hh⟩
    have e : pl + ((enc (y :: xs)).length : Int) = pl + (y.enc.length : Int) + ((enc xs).length : Int) := by
      simp only [enc, List.flatMap_cons, List.length_append]; omega
    rw [← e]; exact ht
theorem leafs_of {T : List (Addr × Obj)} : ∀ {vs : List Value} {ls : List Leaf} {pl : Int}, VecsIn T vs (ls.map .leaf) pl → LeafsIn T vs ls pl
  | [], [], _, _ => trivial
  | _ :: _, _ :: _, _, ⟨⟨hv, a, c⟩, b⟩ => ⟨(show hv = Value.none from c) ▸ a, leafs_of b⟩
theorem vecs_of {T : List (Addr × Obj)} : ∀ {vs : List Value} {ls : List Leaf} {pl : Int}, LeafsIn T vs ls pl → VecsIn T vs (ls.map .leaf) pl
  | [], [], _, _ => trivial
  | _ :: _, _ :: _, _, ⟨a, b⟩ => ⟨⟨.none, a, rfl⟩, vecs_of b⟩
theorem Tight.snoc {gs : List Int} {g : Int} (h : ∀ a ∈ gs, a = 0) : Tight (gs ++ [g]) := by
  intro i hi
  rw [List.length_append, List.length_singleton] at hi
  have hi' : i < gs.length := by omega
  rw [List.getElem?_append_left hi', List.getElem?_eq_getElem hi', h _ (List.getElem_mem hi')]
theorem Tight.zero {gs : List Int} (h : ∀ a ∈ gs, a = 0) : Tight gs := by
  intro i hi
  have hi' : i < gs.length := by omega
  rw [List.getElem?_eq_getElem hi', h _ (List.getElem_mem hi')]
end Mine
end
section
open PySem PySem.W PySem.Calls PyProof.Rows PySem.Spec PyProof.V
namespace Mine
section
variable {prog : Program} {w : World} {A : Around} {E : Value → Shared → Prop} {s : Shared} {h₀ : Heap} {L D : Addr} {m : Str → Option Value} {news : List (Addr × Obj)} {vs : List Value} {ns ks ls : List Int} {b c : Array UInt8} {t u v : Tok} {n : Nat}
theorem r_bytes {Q : Value → Shared → Prop} (F : Fr h₀ L s.heap m) (N : News h₀ L s.heap news) (hm : (D, listOf vs.toArray n) ∈ news) (hi : IntsAre vs ns) (hr : ∀ z ∈ ns, 0 ≤ z ∧ z < 256) (hn : ns.length ≤ 16777216) (hh : A.handled = none)
    (h : ∀ h' (a : Array UInt8) t' k, Fr h₀ L h' m → News h₀ L h' news → KBw.bInts a = ns → Q (.bytes a t') { s with heap := h', toks := k }) : wpAny (model prog w) A (call (.type "bytes") [.ref D]) Q E s :=
  KBa.make_K F N hh ⟨_, (N _ hm).1, rfl, _, rfl⟩ hi hr hn fun h' t' k F' N' hin => h h' _ t' k F' N' (KBa.ints_make hin)
theorem r_add {Q : Value → Shared → Prop} (hb : KBw.bInts b = ks) (hc : KBw.bInts c = ls) (hsz : ks.length + ls.length ≤ 16777216) (h : ∀ (a : Array UInt8) t' k, KBw.bInts a = ks ++ ls → Q (.bytes a t') { s with toks := k }) :
    wpAny (model prog w) A (binaryOp .Add (.bytes b t) (.bytes c u)) Q E s := KBa.add_K hb hc hsz fun t' k e => h _ t' k e
theorem r_len {Q : Value → Shared → Prop} (hb : KBw.bInts b = ks) (hsz : ks.length ≤ 16777216) (h : Q (.int (ks.length : Nat) (s.toks + 1)) { s with toks := s.toks + 1 + 1 }) :
    wpAny (model prog w) A (call (.builtin "len") [.bytes b t]) Q E s := KBw.len_K hb (by omega) h
theorem r_tob {x B : Int} {k : Nat} {Q : Value → Shared → Prop} (hk : k ≤ 8) (hB : (256 : Int) ^ k = B) (h0 : 0 ≤ x) (h1 : x < B) (h : ∀ (a : Array UInt8) t' k', KBw.bInts a = be k x → Q (.bytes a t') { s with toks := k' }) :
    wpAny (model prog w) A (call (.builtin "int.to_bytes") [.int x t, .int (k : Int) u, .str (Str.ofString "big") v]) Q E s := KTBy.to_big hk hB h0 h1 fun a t' k' e _ => h a t' k' e
theorem bytes_toList (b : Array UInt8) (z : Int) (h : KBw.bInts b = [z]) : ∃ y, b = [y].toArray ∧ (y.toNat : Int) = z := by
  obtain ⟨l⟩ := b
  match l, h with
  | [y], h => exact ⟨y, rfl, by simpa [KBw.bInts] using h⟩
theorem r_mul {x z : Int} {Q : Value → Shared → Prop} (hb : KBw.bInts b = [z]) (hlo : 0 ≤ x) (hn : x ≤ 1048576) (h : ∀ (a : Array UInt8) t' k, KBw.bInts a = List.replicate x.toNat z → Q (.bytes a t') { s with toks := k }) :
    wpAny (model prog w) A (binaryOp .Mult (.bytes b t) (.int x u)) Q E s := by
  obtain ⟨y, rfl, hy⟩ := bytes_toList b z hb
  refine bytes_mul_any (by simp) (by omega) hn (by simp) fun t' k => h _ t' k ?_
  simp [KBw.bInts, hy]
theorem ints_one {z : Int} {t : Tok} : IntsAre [.int z t] [z] := .cons z t .nil
theorem one_in {z : Int} (h0 : 0 ≤ z) (h1 : z < 256) : ∀ x ∈ [z], 0 ≤ x ∧ x < 256 := fun x hx => by rw [List.mem_singleton.mp hx]; exact ⟨h0, h1⟩
end
end Mine
namespace Mine
theorem news_tail {h₀ h : Heap} {L : Addr} {q : Addr × Obj} {l : List (Addr × Obj)} (N : News h₀ L h (q :: l)) : News h₀ L h l := fun p hp => N p (.tail _ hp)
theorem r_item {prog : Program} {w : World} {A : Around} {E : Value → Shared → Prop} {s : Shared} {h₀ : Heap} {L a : Addr} {news : List (Addr × Obj)} {value slice : PySem.Expr} {vs : List Value} {k : Int} {u : Tok} {j : Nat} {x : Value} {Q : Value → Shared → Prop}
    (N : News h₀ L s.heap news) (hm : (a, tupOf vs) ∈ news) (hlo : -(2 ^ 63) ≤ k) (hhi : k < 2 ^ 63) (hj : seqIndex? k vs.length = some j) (hx : vs[j]? = some x) (h : Q x s)
    (hs : subscripted slice false (.ref a) (.int k u) = operate [.ref a, .int k u] (getItem (.ref a) (.int k u)) := by with_unfolding_all rfl) :
    wpAny (model prog w) A (subscriptTail value slice (.ref a) (.int k u)) Q E s :=
  item_tupleT (l := vs) ⟨_, (N _ hm).1, rfl, _, rfl⟩ hlo hhi hj hx h hs
theorem in_snoc {zs : List Int} {v : Int} (hz : ∀ z ∈ zs, 0 ≤ z ∧ z < 256) (h0 : 0 ≤ v) (h1 : v < 256) : ∀ z ∈ zs ++ [v], 0 ≤ z ∧ z < 256 := fun z hm => by
  rcases List.mem_append.mp hm with h | h
  · exact hz z h
  · rw [List.mem_singleton.mp h]; exact ⟨h0, h1⟩
end Mine
namespace Mine
theorem mem_hd {α : Type} {a : α} {l : List α} : a ∈ a :: l := .head _
theorem mem_tl {α : Type} {a b : α} {l : List α} (h : a ∈ l) : a ∈ b :: l := .tail _ h
theorem mem_r {α : Type} {a : α} {l l' : List α} (h : a ∈ l') : a ∈ l ++ l' := List.mem_append.mpr (.inr h)
theorem mem_l {α : Type} {a : α} {l l' : List α} (h : a ∈ l) : a ∈ l ++ l' := List.mem_append.mpr (.inl h)
end Mine
namespace Mine
theorem upd_of {D : Addr} {o o' : Obj} : ∀ {l : List (Addr × Obj)} {g : Obj → List (Addr × Obj)}, UpdF D o l g → Upd D o o' l (g o')
  | _, _, .head h => .head h
  | _, _, .tail h r => .tail h (upd_of r)
theorem r_append {prog : Program} {w : World} {A : Around} {E : Value → Shared → Prop} {s : Shared} {h₀ : Heap} {L D : Addr} {m : Str → Option Value} {news : List (Addr × Obj)} {g : Obj → List (Addr × Obj)} {vs : List Value} {n : Nat} {x : Value} {Q : Value → Shared → Prop}
    (F : Fr h₀ L s.heap m) (N : News h₀ L s.heap news) (U : UpdF D (listOf vs.toArray n) news g) (hz : vs.length ≤ 16777216)
    (h : ∀ h', Fr h₀ L h' m → News h₀ L h' (g (listOf (vs ++ [x]).toArray (n + 1))) → Q .none { s with heap := h' }) : wpAny (model prog w) A (call (.builtin "list.append") [.ref D, x]) Q E s := by
  refine append_K (hsz := by rw [List.size_toArray, sizeLine_eq]; exact hz) F N (upd_of U) fun h' F' N' => h h' F' ?_
  rw [List.push_toArray] at N'
  exact N'
end Mine
namespace Mine
theorem perm6 {α : Type} {a b c d e f : α} {l : List α} : ∀ q ∈ c :: d :: e :: f :: a :: l, q ∈ a :: b :: c :: d :: e :: f :: l := by
  intro q hq
  simp only [List.mem_cons] at hq ⊢
  rcases hq with h | h | h | h | h | h <;> simp [h]
theorem perm5 {α : Type} {a b c d e f : α} {l : List α} : ∀ q ∈ c :: d :: e :: f :: b :: l, q ∈ a :: b :: c :: d :: e :: f :: l := by
  intro q hq
  simp only [List.mem_cons] at hq ⊢
  rcases hq with h | h | h | h | h | h <;> simp [h]
theorem perm3 {α : Type} {a b c d : α} {l : List α} : ∀ q ∈ a :: b :: l, q ∈ a :: b :: c :: d :: l := by
  intro q hq
  simp only [List.mem_cons] at hq ⊢
  rcases hq with h | h | h <;> simp [h]
theorem news_sub {h₀ h : Heap} {L : Addr} {l l' : List (Addr × Obj)} (N : News h₀ L h l) (s : ∀ q ∈ l', q ∈ l) : News h₀ L h l' := fun q hq => N q (s q hq)
end Mine
namespace Mine
def Mid (g : Heap) (L : Addr) (s : Shared) (kv : List (Str × Value)) (news : List (Addr × Obj)) (s' : Shared) : Prop :=
  ∃ (h' : Heap) (tk' : Nat) (m' : Str → Option Value), s' = { s with heap := h', toks := tk' } ∧ Fr g L h' m' ∧ News g L h' news ∧ ∀ q ∈ kv, m' q.1 = some q.2
theorem Mid.intro {g h' : Heap} {L : Addr} {s : Shared} {kv : List (Str × Value)} {news news' : List (Addr × Obj)} {tk' : Nat} {m' : Str → Option Value} (F : Fr g L h' m') (N : News g L h' news') (hs : ∀ q ∈ news, q ∈ news') (hk : ∀ q ∈ kv, m' q.1 = some q.2) :
    Mid g L s kv news { s with heap := h', toks := tk' } := ⟨h', tk', m', rfl, F, news_sub N hs, hk⟩
theorem Mid.out {g : Heap} {L : Addr} {s s' : Shared} {kv : List (Str × Value)} {news : List (Addr × Obj)} (h : Mid g L s kv news s') : ∃ (h' : Heap) (tk' : Nat) (m' : Str → Option Value), s' = { s with heap := h', toks := tk' } ∧ Fr g L h' (withL kv m') ∧ News g L h' news :=
  let ⟨h', tk', m', e, F, N, k⟩ := h; ⟨h', tk', m', e, knows kv F k, N⟩
theorem sub0 {α : Type} {l : List α} : ∀ q ∈ ([] : List α), q ∈ l := fun _ h => nomatch h
theorem sub_same {α : Type} {l : List α} : ∀ q ∈ l, q ∈ l := fun _ h => h
theorem sub_t {α : Type} {a : α} {l l' : List α} (h : ∀ q ∈ l, q ∈ l') : ∀ q ∈ l, q ∈ a :: l' := fun q hq => .tail _ (h q hq)
end Mine
namespace Mine
def StrMid (x : Str) (g : Heap) (L : Addr) (s : Shared) (kv : List (Str × Value)) (news : List (Addr × Obj)) (v : Value) (s' : Shared) : Prop := (∃ t, v = .str x t) ∧ Mid g L s kv news s'
def IntMid (n : Int) (g : Heap) (L : Addr) (s : Shared) (kv : List (Str × Value)) (news : List (Addr × Obj)) (v : Value) (s' : Shared) : Prop := (∃ t, v = .int n t) ∧ Mid g L s kv news s'
theorem StrMid.mk {x y : Str} {g : Heap} {L : Addr} {s s' : Shared} {kv : List (Str × Value)} {news : List (Addr × Obj)} {t : Tok} (e : y = x) (h : Mid g L s kv news s') : StrMid x g L s kv news (.str y t) s' := ⟨⟨t, by rw [e]⟩, h⟩
theorem IntMid.mk {x y : Int} {g : Heap} {L : Addr} {s s' : Shared} {kv : List (Str × Value)} {news : List (Addr × Obj)} {t : Tok} (e : y = x) (h : Mid g L s kv news s') : IntMid x g L s kv news (.int y t) s' := ⟨⟨t, by rw [e]⟩, h⟩
theorem storeM {M : Model} {A : Around} {E : Value → Shared → Prop} {s : Shared} {h₀ : Heap} {L a : Addr} {m : Str → Option Value} {news : List (Addr × Obj)} {cn : Str} {cs : Scope} {ccd : Value} {cl : List (Str × Addr)} {x : Str} {v : Value} {Q : Unit → Shared → Prop} (F : Fr h₀ L s.heap m) (N : News h₀ L s.heap news)
    (h : ∀ h', let m' := fun y => if y = x then some v else m y; Fr h₀ L h' m' → News h₀ L h' news → Q () { s with heap := h', toks := s.toks + 1 })
    (hk : cs.kind = .function := by rfl) (hx : (envX cn cs L a ccd cl).kindOf x = some .local := by rfl) : wpAny M A (storeName (envX cn cs L a ccd cl) x v) Q E s := storeX_L F N h hk hx
end Mine
end
open PySem PySem.W PySem.Calls PyProof.Rows PySem.Spec
local macro_rules | `(tactic| k_room) => `(tactic| first | (k_dflt (exact Mine.lim_ok (by with_reducible assumption) (Nat.le_of_ble_eq_true rfl))) | ((simp only [depth_under_make, depth_under_kw, depth_in1, depth_deeper, depth_caller]); (try dsimp only [Mine.gTop] at *); omega))
local macro_rules | `(tactic| k_units) => `(tactic| first | (k_dflt (exact Mine.lim_ok (by with_reducible assumption) (Nat.le_of_ble_eq_true rfl))) | ((try dsimp only [Mine.gTop] at *); (have hcL9 := cLine_is); omega))
local macro_rules | `(tactic| walk_at $s:str) => `(tactic| k_extra $s)
local macro_rules | `(tactic| k_ne) => `(tactic| k_dflt (first | (with_reducible assumption) | (refine Mine.neN2 ?_; (try dsimp only); first | exact Mine.ne_up | exact Mine.ne_up.symm | ((repeat (cases ‹_ ∧ _›)); (first | with_reducible assumption | exact Ne.symm (by with_reducible assumption) | exact Nat.ne_of_lt (by with_reducible assumption) | exact Nat.ne_of_gt (by with_reducible assumption) | (refine Nat.ne_of_lt ?_; (repeat (first | with_reducible assumption | refine Nat.lt_succ_of_lt ?_)); done) | (refine Nat.ne_of_gt ?_; (repeat (first | with_reducible assumption | refine Nat.lt_succ_of_lt ?_)); done)))) | (refine neN ?_; (try dsimp only); omega)))
local macro_rules | `(tactic| k_memK) => `(tactic| first | with_reducible assumption | with_reducible exact Mine.mem_hd | (with_reducible refine Mine.mem_tl ?_; k_memK) | (with_reducible refine Mine.mem_r ?_; k_memK) | (with_reducible refine Mine.mem_l ?_; k_memK))
section
open PySem PySem.W PySem.Calls PyProof.Rows PySem.Spec PyProof.V
namespace Mine
inductive DV where
  | bytes (l : List Int)
  | int (i : Int)
  | bool (b : Bool)
def ValIs : Value → DV → Prop
  | v, .bytes l => ∃ b t, v = .bytes b t ∧ KBw.bInts b = l
  | v, .int i => ∃ t, v = .int i t
  | v, .bool b => v = .bool b
def LocIs (v : Value) (n : Int) : Prop := ∃ k t, v = .int k t ∧ (n = -1 ∨ k = n)
def PlIs (v : Value) (n : Int) : Prop := ∃ t, v = .int n t
section
variable {α : Type}
def put (D : List (Str × α)) (k : Str) (d : α) : List (Str × α) :=
  if D.any (fun p => p.1 = k) then D.map (fun p => if p.1 = k then (p.1, d) else p) else D ++ [(k, d)]
def Are (R : Value → α → Prop) : List (Str × Value) → List (Str × α) → Prop
  | [], [] => True
  | p :: r, q :: r' => p.1 = q.1 ∧ R p.2 q.2 ∧ Are R r r'
  | _, _ => False
theorem Are.any {R : Value → α → Prop} {k : Str} : ∀ {kvs : List (Str × Value)} {D : List (Str × α)}, Are R kvs D → (kvs.any fun p => p.1 = k) = (D.any fun p => p.1 = k)
  | [], [], _ => rfl
  | p :: r, q :: r', ⟨e, _, h⟩ => by simp only [List.any_cons]; rw [Are.any h, e]
theorem Are.keys {R : Value → α → Prop} : ∀ {kvs : List (Str × Value)} {D : List (Str × α)}, Are R kvs D → kvs.map (·.1) = D.map (·.1)
  | [], [], _ => rfl
  | p :: r, q :: r', ⟨e, _, h⟩ => by simp only [List.map_cons]; rw [Are.keys h, e]
theorem Are.length {R : Value → α → Prop} : ∀ {kvs : List (Str × Value)} {D : List (Str × α)}, Are R kvs D → kvs.length = D.length
  | [], [], _ => rfl
  | p :: r, q :: r', ⟨_, _, h⟩ => by simp only [List.length_cons]; rw [Are.length h]
theorem Are.snoc {R : Value → α → Prop} {k : Str} {v : Value} {d : α} (hv : R v d) : ∀ {kvs : List (Str × Value)} {D : List (Str × α)}, Are R kvs D → Are R (kvs ++ [(k, v)]) (D ++ [(k, d)])
  | [], [], _ => ⟨rfl, hv, trivial⟩
  | p :: r, q :: r', ⟨e, h1, h⟩ => ⟨e, h1, Are.snoc hv h⟩
theorem Are.over {R : Value → α → Prop} {k : Str} {v : Value} {d : α} (hv : R v d) : ∀ {kvs : List (Str × Value)} {D : List (Str × α)}, Are R kvs D → Are R (kvs.map fun p => if p.1 = k then (p.1, v) else p) (D.map fun p => if p.1 = k then (p.1, d) else p)
  | [], [], _ => trivial
  | p :: r, q :: r', ⟨e, h1, h⟩ => by
    simp only [List.map_cons]
    refine ⟨?_, ?_, Are.over hv h⟩
    · by_cases hk : q.1 = k
      · rw [if_pos (e.trans hk), if_pos hk]; exact e
      · rw [if_neg (fun z => hk (e.symm.trans z)), if_neg hk]; exact e
    · by_cases hk : q.1 = k
      · rw [if_pos (e.trans hk), if_pos hk]; exact hv
      · rw [if_neg (fun z => hk (e.symm.trans z)), if_neg hk]; exact h1
theorem Are.put {R : Value → α → Prop} {kvs : List (Str × Value)} {D : List (Str × α)} {k : Str} {v : Value} {d : α} (h : Are R kvs D) (hv : R v d) : Are R (stored kvs k v) (put D k d) := by
  unfold stored Mine.put
  rw [h.any]
  split
  · exact h.over hv
  · exact h.snoc hv
theorem put_length (D : List (Str × α)) (k : Str) (d : α) : (put D k d).length ≤ D.length + 1 := by
  unfold put
  split <;> simp
end
inductive Come where
  | whole
  | malformed
  | unknown
def Come.str : Come → Str
  | .whole => Str.ofString "whole"
  | .malformed => Str.ofString "malformed"
  | .unknown => Str.ofString "unknown"
def Come.isWhole : Come → Bool
  | .whole => true
  | _ => false
def isUn (kind : Int) : Bool := (unknown.lookup kind).isSome
def nameOf (kind : Int) : Str := match unknown.lookup kind with
  | some x => x
  | none => (known.lookup kind).getD Str.empty
abbrev FD := List (Str × DV)
abbrev PD := List (Str × Int)
def runL (strict : Bool) : List Leaf → FD → PD → Come × FD × PD
  | [], F, P => (.whole, F, P)
  | l :: r, F, P =>
    if 0 < l.gr then (.malformed, F, P)
    else if isUn l.kind && strict then (.unknown, F, P)
    else runL strict r (put F (nameOf l.kind) (.bytes l.val)) (put P (nameOf l.kind) (-1))
def run (strict outer : Bool) : List Vec → Int → FD → PD → Come × FD × PD
  | [], _, F, P => (.whole, F, P)
  | .leaf l :: r, pl, F, P =>
    if 0 < l.gr then (.malformed, F, P)
    else if isUn l.kind && strict then (.unknown, F, P)
    else run strict outer r (pl + l.enc.length) (put F (nameOf l.kind) (.bytes l.val)) (put P (nameOf l.kind) (if outer then pl else -1))
  | .ssl c v b g :: r, pl, F, P =>
    if 0 < g then (.malformed, F, P)
    else match runL strict b (put (put F (Str.ofString "SSL_CLIENT") (.int c)) (Str.ofString "SSL_VERIFY") (.int v)) (put P (Str.ofString "SSL") (if outer then pl else -1)) with
      | (.unknown, F', P') => (.unknown, F', P')
      | (.malformed, F', P') => (.malformed, put F' (Str.ofString "SSL") (.bool false), P')
      | (.whole, F', P') => run strict outer r (pl + (Vec.ssl c v b g).enc.length) (put F' (Str.ofString "SSL") (.bool true)) P'
theorem run_leafs (strict : Bool) : ∀ (ls : List Leaf) (pl : Int) (F : FD) (P : PD), run strict false (ls.map .leaf) pl F P = runL strict ls F P
  | [], _, _, _ => rfl
  | l :: r, pl, F, P => by
    simp only [List.map_cons, run, runL]
    rw [run_leafs strict r]
    rfl
theorem runL_len (strict : Bool) : ∀ (ls : List Leaf) (F : FD) (P : PD) (c : Come) (F' : FD) (P' : PD), runL strict ls F P = (c, F', P') → F'.length ≤ F.length + ls.length ∧ P'.length ≤ P.length + ls.length
  | [], F, P, c, F', P', e => by simp only [runL, Prod.mk.injEq] at e; obtain ⟨_, rfl, rfl⟩ := e; simp
  | l :: r, F, P, c, F', P', e => by
    simp only [runL] at e
    split at e
    · simp only [Prod.mk.injEq] at e; obtain ⟨_, rfl, rfl⟩ := e; simp
    · split at e
      · simp only [Prod.mk.injEq] at e; obtain ⟨_, rfl, rfl⟩ := e; simp
      · have h := runL_len strict r _ _ _ _ _ e
        have h1 := put_length F (nameOf l.kind) (DV.bytes l.val)
        have h2 := put_length P (nameOf l.kind) (-1)
        simp only [List.length_cons]
        omega
theorem VecsIn.at {T : List (Addr × Obj)} : ∀ {vs : List Value} {xs : List Vec} {pl : Int}, VecsIn T vs xs pl → ∀ (i : Nat) (v : Value), vs[i]? = some v → ∃ x hv, xs.drop i = x :: xs.drop (i + 1) ∧ x ∈ xs ∧ TupIn T v x.kind x.val hv x.gr (pl + (enc (xs.take i)).length) ∧ HoldsIn T hv x
  | [], [], _, _, i, v, e => by simp at e
  | u :: vs, y :: xs, pl, ⟨⟨hv, a, c⟩, b⟩, 0, v, e => by
    simp only [List.getElem?_cons_zero, Option.some.injEq] at e
    subst e
    exact ⟨y, hv, rfl, .head _, by simpa [enc] using a, c⟩
  | u :: vs, y :: xs, pl, ⟨_, b⟩, i + 1, v, e => by
    simp only [List.getElem?_cons_succ] at e
    obtain ⟨x, hv, h1, h2, h3, h4⟩ := VecsIn.at b i v e
    refine ⟨x, hv, by simpa using h1, .tail _ h2, ?_, h4⟩
    have e2 : pl + ((enc ((y :: xs).take (i + 1))).length : Int) = pl + (y.enc.length : Int) + ((enc (xs.take i)).length : Int) := by
      simp only [List.take_succ_cons, enc, List.flatMap_cons, List.length_append]; omega
    rw [e2]; exact h3
theorem enc_take_succ {xs : List Vec} {i : Nat} {x : Vec} {r : List Vec} (h : xs.drop i = x :: r) : ((enc (xs.take (i + 1))).length : Int) = (enc (xs.take i)).length + x.enc.length := by
  have h1 : xs[i]? = some x := by
    have := congrArg (fun l => l[0]?) h
    simpa using this
  rw [List.take_add_one, h1]
  simp [enc]
section
variable {prog : Program} {w : World}
def DObj {α : Type} (prog : Program) (w : World) (R : Value → α → Prop) (o : Obj) (D : List (Str × α)) : Prop := ∃ kvs : List (Str × Value), o.IsDictOf (strKind prog w) kvs ∧ Are R kvs D
theorem r_set {α : Type} {R : Value → α → Prop} {A : Around} {E : Value → Shared → Prop} {s : Shared} {h₀ : Heap} {L d : Addr} {m : Str → Option Value} {news : List (Addr × Obj)} {g : Obj → List (Addr × Obj)} {o : Obj} {D : List (Str × α)} {k : Str} {t : Tok} {v : Value} {dv : α} {Q : Unit → Shared → Prop}
    (F : Fr h₀ L s.heap m) (N : News h₀ L s.heap news) (U : UpdF d o news g) (ho : DObj prog w R o D) (hv : R v dv) (hsz : D.length ≤ 16777216)
    (h : ∀ h' o', Fr h₀ L h' m → News h₀ L h' (g o') → DObj prog w R o' (put D k dv) → Q () { s with heap := h', toks := s.toks + 1 }) : wpAny (model prog w) A (setItem (.ref d) (.str k t) v) Q E s := by
  obtain ⟨kvs, hd, ha⟩ := ho
  refine kda_set F N U hd (strKind_is _ _ _ _) (by rw [ha.length, sizeLine_eq]; exact hsz) fun h' o' F' N' hd' => h h' o' F' N' ⟨_, hd', ha.put hv⟩
end
end Mine
namespace Mine
theorem val_bytes {b : Array UInt8} {t : Tok} {l : List Int} (h : KBw.bInts b = l) : ValIs (.bytes b t) (.bytes l) := ⟨b, t, rfl, h⟩
theorem val_int {i : Int} {t : Tok} : ValIs (.int i t) (.int i) := ⟨t, rfl⟩
theorem val_bool {b : Bool} : ValIs (.bool b) (.bool b) := rfl
theorem pl_is {i : Int} {t : Tok} : PlIs (.int i t) i := ⟨t, rfl⟩
end Mine
namespace Mine
theorem bd7 {a b n j bd : Nat} (h : a + 7 * (n - j) ≤ bd) (hj : j < n) (hl : b ≤ a + 7) : b + 7 * (n - (j + 1)) ≤ bd := by omega
theorem bd5 {a b n j bd : Nat} (h : a + 5 * (n - j) ≤ bd) (hj : j < n) (hl : b ≤ a + 5) : b + 5 * (n - (j + 1)) ≤ bd := by omega
theorem chain7 {a b c d e f : Nat} (h1 : b ≤ e + 1) (h2 : e ≤ d + f) (h3 : f ≤ 4) (h4 : d ≤ c + 1) (h5 : c ≤ a + 1) : b ≤ a + 7 := by omega
theorem chain5 {a c e f : Nat} (h2 : e ≤ c + f) (h3 : f ≤ 4) (h5 : c ≤ a + 1) : e ≤ a + 5 := by omega
theorem one7 {a b : Nat} (h : b ≤ a + 1) : b ≤ a + 7 := by omega
theorem one5 {a b : Nat} (h : b ≤ a + 1) : b ≤ a + 5 := by omega
theorem down1 {n j : Nat} (h : j < n) : n - (j + 1) < n - j := by omega
theorem sz0 {a b c bd : Nat} (h : a + c * b ≤ bd) (hb : bd ≤ 1000) : a ≤ 16777216 := by omega
theorem sz1 {a b c d bd : Nat} (h : a + c * b ≤ bd) (hb : bd ≤ 1000) (h1 : d ≤ a + 1) : d ≤ 16777216 := by omega
theorem sz3 {a b c d e f g bd : Nat} (h : a + c * b ≤ bd) (hb : bd ≤ 1000) (h1 : d ≤ a + 1) (h2 : e ≤ d + 1) (h3 : f ≤ e + g) (h4 : g ≤ 4) : f ≤ 16777216 := by omega
theorem in7 {a b c d e bd : Nat} (h : a + c * b ≤ bd) (h1 : d ≤ a + 1) (h2 : e ≤ d + 1) (hb : bd ≤ 1000) {g : Nat} (h4 : g ≤ 4) : e + 7 * g ≤ bd + 100 := by omega
theorem in5 {a b c d bd : Nat} (h : a + c * b ≤ bd) (h1 : d ≤ a + 1) (hb : bd ≤ 1000) {g : Nat} (h4 : g ≤ 4) : d + 5 * g ≤ bd + 100 := by omega
end Mine
end
section
open PySem PySem.W PySem.Calls PyProof.Rows PySem.Spec
namespace Mine
theorem fill_ : (fun w => (PySem.Challenge.rw_jy0002_01, kgrab.heap_1 w)) = (fun w => (PySem.Challenge.rw_jy0002_01, kgrab.heap_1 w)) := by
  k_fill
  rfl
abbrev P0 : Program := PySem.Challenge.rw_jy0002_01.row.prog
def StObj (w : World) (r : Addr) (o : Obj) : Prop := ∃ (k : Int) (tk : Tok), o.IsDictOf (strKind P0 w) [(Str.ofString "rows", .ref r), (Str.ofString "at", .int k tk)]
def RowsAt (g : Heap) (r : Addr) : Prop := ∃ (vs : List Value) (ns : List Int), g.IsList r vs.toArray ∧ IntsAre vs ns ∧ ns.length = 64
theorem rules_D1 : True := by
  k_with_none
  trivial
set_option maxHeartbeats 8000000 in
theorem draw_call {w : World} {p : Program} {loose : List Str} {mean : ExcName → Option Value} {mg mb : Str → Option Value} {A₀ : Around} {base g : Heap} {outer : List Env} {dp un : Nat} {gd : Option (List Code)} {s : Shared}
    {d r : Addr} {o : Obj} {n : Int} {tn : Tok} {Q E : Value → Shared → Prop}
    (B : Below A₀ base outer g) (hk : g.StaysIn s.heap) (hz : g.objs.size ≤ s.heap.objs.size) (X : (kgrab.heap_1 w.params).In g) (T : Top p loose mean mg mb g)
    (hdp : dp + 1 < recursionLimit) (hun : un + 8 < cLine)
    (h1 : s.heap.get? d = some o) (h2 : g.get? d = none) (hd1 : (d == sysModules) = false) (ho : StObj w r o) (hr : RowsAt g r) (hn : 0 < n)
    (ret : ∀ v t h' tk' o', 0 ≤ v → v < n → g.StaysIn h' → h'.get? d = some o' → StObj w r o' → Q (.int v t) { s with heap := h', toks := tk' }) :
    wpAny (model P0 w) (gTop dp un gd outer) (call (.ref 136) [.ref d, .int n tn]) Q E s := by
  obtain ⟨k, tk, ho⟩ := ho
  obtain ⟨vs, ns, hl, hi, hlen⟩ := hr
  refine wpAny_call ?_
  refine enter B rfl hk hz (Led.one h1 h2) X T (by k_is) (by k_is) (by k_room) (BindsTo.of_eq rfl) (locs rfl) ?_
  intro L' h₁ F' N' B' l' hLs hLl
  (try dsimp only)
  try k_fold
  w_top on
  k_steps
  rename_i F' N' hd'
  try dsimp only
  exact ret _ _ _ _ _ (Int.fmod_nonneg_of_pos _ hn) (Int.fmod_lt_of_pos _ hn) F'.keep (N' _ (.head _)).1 ⟨_, _, hd'⟩
theorem draw_use {w : World} {p : Program} {loose : List Str} {mean : ExcName → Option Value} {mg mb : Str → Option Value} {A₀ : Around} {base h₀ : Heap} {outer : List Env} {dp un : Nat} {gd : Option (List Code)} {s : Shared}
    {L a : Addr} {m : Str → Option Value} {cn : Str} {cs : Scope} {ccd : Value} {cl : List (Str × Addr)} {news : List (Addr × Obj)} {gn : Obj → List (Addr × Obj)}
    {d r : Addr} {o : Obj} {n : Int} {tn : Tok} {Q E : Value → Shared → Prop}
    (B : Below A₀ base outer h₀) (F : Fr h₀ L s.heap m) (N : News h₀ L s.heap news) (X : (kgrab.heap_1 w.params).In h₀) (T : Top p loose mean mg mb h₀)
    (U : UpdF d o news gn) (ho : StObj w r o) (hr : RowsAt h₀ r) (hd1 : (d == sysModules) = false) (hck : cs.kind = .function)
    (hdp : dp + 1 < recursionLimit) (hun : un + 8 < cLine) (hn : 0 < n)
    (ret : ∀ v t h' tk' o', 0 ≤ v → v < n → Fr h₀ L h' m → News h₀ L h' (gn o') → StObj w r o' → Q (.int v t) { s with heap := h', toks := tk' }) :
    wpAny (model P0 w) (gTop dp un gd (envX cn cs L a ccd cl :: outer)) (call (.ref 136) [.ref d, .int n tn]) Q E s := by
  obtain ⟨pre, post, rfl, hg, a1, a2⟩ := U.split
  have hm : (d, o) ∈ pre ++ (d, o) :: post := List.mem_append_right _ (.head _)
  obtain ⟨B', st, ks, hz, X', T', back⟩ := share (cn := cn) (cs := cs) (a := a) (ccd := ccd) (cl := cl) [d] B F N X T hck (fun b hb => by
    rw [List.mem_singleton.mp hb]; exact List.mem_map_of_mem hm)
  have hdn : (hideAll s.heap [d]).get? d = none := hideAll_none _ (.head _)
  obtain ⟨vs, ns, hl, hi, hlen⟩ := hr
  refine draw_call B' ks hz X' T' hdp hun (N _ hm).1 hdn hd1 ho ⟨vs, ns, hl.at fun o e => st _ o e, hi, hlen⟩ hn fun v t h' tk' o' v0 v1 k' e' so => ?_
  refine ret v t h' tk' o' v0 v1 (back h' k') ?_ so
  rw [hg]
  intro q hq
  rcases List.mem_append.mp hq with hq | hq
  · have P := N q (List.mem_append_left _ hq)
    exact ⟨k' _ _ (hideAll_get _ P.1 fun h => a1 q hq (List.mem_singleton.mp h)), P.2⟩
  · rcases List.mem_cons.mp hq with rfl | hq
    · exact ⟨e', (N _ hm).2⟩
    · have P := N q (List.mem_append_right _ (.tail _ hq))
      exact ⟨k' _ _ (hideAll_get _ P.1 fun h => a2 q hq (List.mem_singleton.mp h)), P.2⟩
end Mine
end
section
open PySem PySem.W PySem.Calls PyProof.Rows PySem.Spec
namespace Mine
theorem fill_2 : (fun w => (PySem.Challenge.rw_jy0002_01, kgrab.heap_1 w)) = (fun w => (PySem.Challenge.rw_jy0002_01, kgrab.heap_1 w)) := by
  k_fill
  rfl
theorem ints_snoc : ∀ {ys : List Value} {zs : List Int}, IntsAre ys zs → ∀ (z : Int) (t : Tok), IntsAre (ys ++ [.int z t]) (zs ++ [z]) :=
  fun h z t => h.append (.cons z t .nil)
def StInv (D2 : Addr) (n : Nat) (m : Str → Option Value) (news : List (Addr × Obj)) : Prop :=
  ∃ (ys : List Value) (zs : List Int) (last : Int) (tl : Tok) (k : Nat), n = 64 - zs.length ∧ zs.length ≤ 64 ∧ IntsAre ys zs ∧ 0 ≤ last ∧ last < 1000000000000 ∧ m (Str.ofString "rows") = some (.ref D2) ∧ m (Str.ofString "last") = some (.int last tl) ∧ news = [(D2, listOf ys.toArray k)]
theorem StInv.intro {D2 : Addr} {n : Nat} {m : Str → Option Value} {news : List (Addr × Obj)} {ys : List Value} {zs : List Int} {last : Int} {tl : Tok} {k : Nat} (h1 : n = 64 - zs.length) (h2 : zs.length ≤ 64) (h3 : IntsAre ys zs) (h4 : 0 ≤ last) (h5 : last < 1000000000000)
    (h6 : m (Str.ofString "rows") = some (.ref D2)) (h7 : m (Str.ofString "last") = some (.int last tl)) (h8 : news = [(D2, listOf ys.toArray k)]) : StInv D2 n m news := ⟨ys, zs, last, tl, k, h1, h2, h3, h4, h5, h6, h7, h8⟩
theorem rules_D2 : True := by
  k_with_none
  k_with "execs cons" => (first | (k_here; k_gentoks) | ((with_reducible refine wpAny_execs_cons ?_); (try dsimp only); (try k_fold)))
  k_with "exec While Compare cons nil" => (k_here; refine Stop.out ?_)
  trivial
set_option maxHeartbeats 8000000 in
theorem state_call {w : World} {p : Program} {loose : List Str} {mean : ExcName → Option Value} {mg mb : Str → Option Value} {A₀ : Around} {base g : Heap} {outer : List Env} {dp un : Nat} {gd : Option (List Code)} {s : Shared}
    {l : Addr} {vs : List Value} {ns : List Int} {Q E : Value → Shared → Prop}
    (B : Below A₀ base outer g) (hk : g.StaysIn s.heap) (hz : g.objs.size ≤ s.heap.objs.size) (X : (kgrab.heap_1 w.params).In g) (T : Top p loose mean mg mb g)
    (hdp : dp + 1 < recursionLimit) (hun : un + 8 < cLine)
    (hl : g.IsList l vs.toArray) (hi : IntsAre vs ns) (hlen : ns.length ≤ 63)
    (ret : ∀ d r o h' tk' vs' ns', g.StaysIn h' → h'.get? d = some o → g.get? d = none → g.get? r = none → d ≠ r → StObj w r o → h'.IsList r vs'.toArray → IntsAre vs' ns' → ns'.length = 64 → (d == sysModules) = false → Q (.ref d) { s with heap := h', toks := tk' }) :
    wpAny (model P0 w) (gTop dp un gd outer) (call (.ref 129) [.ref l]) Q E s := by
  refine wpAny_call ?_
  refine enter B rfl hk hz Led.nil X T (by k_is) (by k_is) (by k_room) (BindsTo.of_eq rfl) (locs rfl) ?_
  intro L' h₁ F' N' B' l' hLs hLl
  (try dsimp only)
  try k_fold
  w_top on
  k_steps
  all_goals unfold Stop
  rename_i D' ws' h0 hI' hC' hL' l1 hk1 hk2 g1 hI8 hL8 D2 h2 tk2 o1 _ _ h3 tk3 t3 h4 F' N'
  refine While_inv2 (StInv D2) (n₀ := 64 - (List.map (fun k' : Int => k'.fmod 1000000) (List.take 24 ns)).length) F' (news := [(D2, LCg.lst ys)]) ?_ ?_ ?_
  · intro q hq; rw [List.mem_singleton.mp hq]; exact N' _ (.head _)
  · refine StInv.intro rfl ?_ hI8 ?_ ?_ rfl rfl rfl
    · simp; omega
    · have hs : ∀ l : List Int, 0 ≤ (l.map (fun k' : Int => k'.fmod 1000000)).sum := by
        intro l; induction l with
        | nil => simp
        | cons a r ih => have := Int.fmod_nonneg_of_pos a (b := 1000000) (by decide); simp only [List.map_cons, List.sum_cons]; omega
      have := hs (List.take 24 ns); omega
    · have hs : ∀ l : List Int, (l.map (fun k' : Int => k'.fmod 1000000)).sum ≤ 1000000 * l.length := by
        intro l; induction l with
        | nil => simp
        | cons a r ih => have := Int.fmod_lt_of_pos a (b := 1000000) (by decide); simp only [List.map_cons, List.sum_cons, List.length_cons]; omega
      have h1 := hs (List.take 24 ns)
      have h2 : (List.take 24 ns).length ≤ 24 := by simp; omega
      simp only [List.length_map]
      omega
  · rintro n m₁ news₁ h₁ tk₁ F₁ N₁ ⟨ys, zs, last, tl, k, hn, hz64, hI, hl0, hl1, hm1, hm2, rfl⟩
    clear F' N' hI8 hL8
    replace F₁ := knows [(Str.ofString "rows", .ref D2), (Str.ofString "last", .int last tl)] F₁ (al1 hm1 (al1 hm2 al0))
    simp only [withL] at F₁
    k_steps
    · rename Fr _ _ _ _ => F9
      rename News _ _ _ _ => N9
      rename ((zs.length : Int) < 64) => hlt
      try dsimp only
      simp only [List.push_toArray] at N9
      refine wEnd F9 N9 (n' := 64 - (zs ++ [(last * 4093 + 12345).fmod 1000003]).length) ?_ (StInv.intro rfl ?_ (ints_snoc hI _ _) (Int.fmod_nonneg_of_pos _ (by decide)) (Int.lt_trans (Int.fmod_lt_of_pos _ (by decide)) (by decide)) rfl rfl rfl)
      · rw [List.length_append, List.length_singleton]; omega
      · rw [List.length_append, List.length_singleton]; omega
    · rename Fr _ _ (Heap.mk _ _) _ => F0
      rename Fr _ _ _ _ => F9
      rename News _ _ _ _ => N9
      rename Obj.IsDictOf _ _ _ => D9
      rename (_ == sysModules) = false => lo9
      rename ¬ ((zs.length : Int) < 64) => hlt
      rename (@LT.lt Nat _ D2 _) => l9
      try dsimp only
      have n1 := N9 _ (.head _)
      have n2 := N9 _ (.tail _ (.head _))
      exact ret _ _ _ _ _ _ _ F9.keep n1.1 n1.2.2 n2.2.2 (Nat.ne_of_gt l9) ⟨_, _, D9⟩ ⟨_, n2.1, rfl, _, rfl⟩ hI (by omega) lo9
end Mine
end
section
open PySem PySem.W PySem.Calls PyProof.Rows PySem.Spec
namespace Mine
theorem fill_3 : (fun w => (PySem.Challenge.rw_jy0002_01, kgrab.heap_1 w)) = (fun w => (PySem.Challenge.rw_jy0002_01, kgrab.heap_1 w)) := by
  k_fill
  rfl
def ChunkSpec (w : World) (p : Program) (loose : List Str) (mean : ExcName → Option Value) (mg mb : Str → Option Value) (ka : Addr) (lim : Nat) (Sh : List Vec → Prop) : Prop :=
  ∀ (A₀ : Around) (base g : Heap) (outer : List Env) (dp un : Nat) (gd : Option (List Code)) (s : Shared) (d r : Addr) (o : Obj) (Q E : Value → Shared → Prop),
    Below A₀ base outer g → g.StaysIn s.heap → g.objs.size ≤ s.heap.objs.size → (kgrab.heap_1 w.params).In g → Top p loose mean mg mb g →
    dp + lim < recursionLimit → un + 8 * lim < cLine → s.heap.get? d = some o → g.get? d = none → (d == sysModules) = false → StObj w r o → RowsAt g r →
    (∀ (a : Addr) (tl : List (Addr × Obj)) (b : Array UInt8) (t : Tok) (l : Addr) (vals : List Value) (n : Nat) (xs : List Vec) (h' : Heap) (tk' : Nat) (o' : Obj),
      g.StaysIn h' → h'.get? d = some o' → StObj w r o' → (∀ q ∈ tl, h'.get? q.1 = some q.2 ∧ g.get? q.1 = none ∧ s.heap.objs.size ≤ q.1) → (a, tupOf [.bytes b t, .ref l]) ∈ tl → (l, listOf vals.toArray n) ∈ tl →
      VecsIn tl vals xs 0 → KBw.bInts b = enc xs → OkV xs → Sh xs → Q (.ref a) { s with heap := h', toks := tk' }) →
    wpAny (model P0 w) (gTop dp un gd outer) (call (.ref 141) [.ref d, .ref ka]) Q E s
theorem chunk_use {w : World} {p : Program} {loose : List Str} {mean : ExcName → Option Value} {mg mb : Str → Option Value} {A₀ : Around} {base h₀ : Heap} {outer : List Env} {dp un : Nat} {gd : Option (List Code)} {s : Shared}
    {L a₀ : Addr} {m : Str → Option Value} {cn : Str} {cs : Scope} {ccd : Value} {cl : List (Str × Addr)} {news : List (Addr × Obj)} {gn : Obj → List (Addr × Obj)} {ka : Addr} {lim : Nat} {Sh : List Vec → Prop}
    {d r : Addr} {o : Obj} {Q E : Value → Shared → Prop} (C : ChunkSpec w p loose mean mg mb ka lim Sh)
    (B : Below A₀ base outer h₀) (F : Fr h₀ L s.heap m) (N : News h₀ L s.heap news) (X : (kgrab.heap_1 w.params).In h₀) (T : Top p loose mean mg mb h₀)
    (U : UpdF d o news gn) (ho : StObj w r o) (hr : RowsAt h₀ r) (hd1 : (d == sysModules) = false) (hck : cs.kind = .function)
    (hdp : dp + lim < recursionLimit) (hun : un + 8 * lim < cLine)
    (ret : ∀ (a : Addr) (tl : List (Addr × Obj)) (b : Array UInt8) (t : Tok) (l : Addr) (vals : List Value) (n : Nat) (xs : List Vec) (h' : Heap) (tk' : Nat) (o' : Obj),
      Fr h₀ L h' m → News h₀ L h' (gn o' ++ tl) → (∀ q ∈ news, ∀ x ∈ tl, q.1 < x.1) → StObj w r o' → (a, tupOf [.bytes b t, .ref l]) ∈ tl → (l, listOf vals.toArray n) ∈ tl →
      VecsIn tl vals xs 0 → KBw.bInts b = enc xs → OkV xs → Sh xs → Q (.ref a) { s with heap := h', toks := tk' }) :
    wpAny (model P0 w) (gTop dp un gd (envX cn cs L a₀ ccd cl :: outer)) (call (.ref 141) [.ref d, .ref ka]) Q E s := by
  obtain ⟨pre, post, rfl, hg, a1, a2⟩ := U.split
  have hm : (d, o) ∈ pre ++ (d, o) :: post := List.mem_append_right _ (.head _)
  obtain ⟨B', st, ks, hz, X', T', back⟩ := share (cn := cn) (cs := cs) (a := a₀) (ccd := ccd) (cl := cl) [d] B F N X T hck (fun b hb => by
    rw [List.mem_singleton.mp hb]; exact List.mem_map_of_mem hm)
  have hdn : (hideAll s.heap [d]).get? d = none := hideAll_none _ (.head _)
  obtain ⟨vs, ns, hl, hi, hlen⟩ := hr
  refine C _ _ _ _ _ _ _ _ _ _ _ _ _ B' ks hz X' T' hdp hun (N _ hm).1 hdn hd1 ho ⟨vs, ns, hl.at fun o e => st _ o e, hi, hlen⟩ ?_
  intro a tl b t l vals n xs h' tk' o' k' e' so ht hta htl hv hb hx hs
  refine ret a tl b t l vals n xs h' tk' o' (back h' k') ?_ (fun q hq x hx => Nat.lt_of_lt_of_le (Heap.lt_size (N q hq).1) (ht x hx).2.2) so hta htl hv hb hx hs
  intro q hq
  rcases List.mem_append.mp hq with hq | hq
  · rw [hg] at hq
    rcases List.mem_append.mp hq with hq | hq
    · have P := N q (List.mem_append_left _ hq)
      exact ⟨k' _ _ (hideAll_get _ P.1 fun h => a1 q hq (List.mem_singleton.mp h)), P.2⟩
    · rcases List.mem_cons.mp hq with rfl | hq
      · exact ⟨e', (N _ hm).2⟩
      · have P := N q (List.mem_append_right _ (.tail _ hq))
        exact ⟨k' _ _ (hideAll_get _ P.1 fun h => a2 q hq (List.mem_singleton.mp h)), P.2⟩
  · obtain ⟨q1, q2, q3⟩ := ht q hq
    refine ⟨q1, fun e => ?_, ?_⟩
    · have := F.ns.lt; rw [← e] at this; exact absurd q3 (Nat.not_le.mpr this)
    · cases e : h₀.get? q.1 with
      | none => rfl
      | some o2 => rw [st _ _ e] at q2; cases q2
theorem above_ne {tl : List (Addr × Obj)} {b : Addr} (h : ∀ x ∈ tl, b < x.1) : ∀ x ∈ tl, x.1 ≠ b := fun x hx => Nat.ne_of_gt (h x hx)
theorem app_ne {tl tl' : List (Addr × Obj)} {b : Addr} (h : ∀ x ∈ tl, x.1 ≠ b) (h' : ∀ x ∈ tl', x.1 ≠ b) : ∀ x ∈ tl ++ tl', x.1 ≠ b := fun x hx => (List.mem_append.mp hx).elim (h x) (h' x)
theorem above_up {tl : List (Addr × Obj)} {b c : Addr} (h : ∀ x ∈ tl, b < x.1) (hc : @LT.lt Nat _ c b) : ∀ x ∈ tl, x.1 ≠ c := fun x hx => Nat.ne_of_gt (Nat.lt_trans hc (h x hx))
local macro_rules | `(tactic| k_all) => `(tactic| (tbn_letter; first | with_reducible assumption | with_reducible exact above_ne (by assumption) | with_reducible exact above_up (by assumption) (by assumption) | with_reducible exact app_ne (by k_all) (by k_all)))
theorem pick_mem {ks : List Int} {v : Int} (h0 : 0 ≤ v) (h1 : v < (ks.length : Int)) : ∃ kind, ks.getD v.toNat 0 = kind ∧ kind ∈ ks := by
  have : v.toNat < ks.length := by omega
  exact ⟨_, rfl, by rw [List.getD_eq_getElem?_getD, List.getElem?_eq_getElem this]; exact List.getElem_mem this⟩
def ChInv (w : World) (r : Addr) (ks : List Int) (ka V c d : Addr) (count : Int) (i : Nat) (m : Str → Option Value) (news : List (Addr × Obj)) : Prop :=
  ∃ (xs : List Vec) (vals : List Value) (n : Nat) (b : Array UInt8) (t tc : Tok) (tl : List (Addr × Obj)) (oc od : Obj),
    m (Str.ofString "octets") = some (.bytes b t) ∧ m (Str.ofString "vectors") = some (.ref V) ∧ m (Str.ofString "count") = some (.int count tc) ∧ m (Str.ofString "kinds") = some (.ref ka) ∧
    news = (V, listOf vals.toArray n) :: (c, oc) :: (d, od) :: tl ∧ oc.data = .cell (some (.ref d)) ∧ StObj w r od ∧ (∀ q ∈ tl, V < q.1) ∧ VecsIn tl vals xs 0 ∧ KBw.bInts b = enc xs ∧ xs.length = i ∧ (∀ x ∈ xs, x.Ok) ∧
    Tight (xs.map Vec.gr) ∧ ((i : Int) < count → ∀ a ∈ xs.map Vec.gr, a = 0) ∧ (32 ∉ ks → ∃ ls : List Leaf, xs = ls.map Vec.leaf)
def Mid1 (w : World) (r : Addr) (ks : List Int) (ka V c d L' I : Addr) (g : Heap) (oI oc : Obj) (count kind : Int) (i : Nat) (xs : List Vec) (vals : List Value) (n : Nat) (b : Array UInt8) (s : Shared) (s' : Shared) : Prop :=
  ∃ (h' : Heap) (tk' : Nat) (m' : Str → Option Value) (tl : List (Addr × Obj)) (od : Obj) (bv : Array UInt8) (hv : Value) (t1 t2 t3 t4 t5 : Tok),
    s' = { s with heap := h', toks := tk' } ∧ Fr g L' h' m' ∧ News g L' h' ((I, oI) :: (V, listOf vals.toArray n) :: (c, oc) :: (d, od) :: tl) ∧
    m' (Str.ofString "octets") = some (.bytes b t1) ∧ m' (Str.ofString "vectors") = some (.ref V) ∧ m' (Str.ofString "count") = some (.int count t2) ∧ m' (Str.ofString "kinds") = some (.ref ka) ∧
    m' (Str.ofString "k") = some (.int i t3) ∧ m' (Str.ofString "kind") = some (.int kind t4) ∧ m' (Str.ofString "value") = some (.bytes bv t5) ∧ m' (Str.ofString "holds") = some hv ∧
    StObj w r od ∧ (∀ q ∈ tl, V < q.1) ∧ (∀ q ∈ tl, q.1 ≠ I) ∧ VecsIn tl vals xs 0 ∧
    ∀ gr : Int, 0 ≤ gr → gr ≤ 700 → ∃ x : Vec, x.kind = kind ∧ x.val = KBw.bInts bv ∧ x.gr = gr ∧ x.Ok ∧ HoldsIn tl hv x ∧ (32 ∉ ks → ∃ l : Leaf, x = .leaf l)
theorem ch_end {w : World} {r : Addr} {ks : List Int} {ka V c d L' I D : Addr} {count kind gr : Int} {i : Nat} {g h' : Heap} {oI oc od : Obj} {q0 : Addr × Obj} {s : Shared} {Q : Flow → Shared → Prop} {xs : List Vec} {vals : List Value} {n tk' : Nat} {tl : List (Addr × Obj)} {a bv : Array UInt8} {val : List Int} {hv : Value} {ta tc t4 t5 tp : Tok} {m' : Str → Option Value}
    (F : Fr g L' h' m') (N : News g L' h' (q0 :: (D, tupOf [.int kind t4, .bytes bv t5, hv, .bool (decide (0 < gr)), .int ((enc xs).length : Nat) tp]) :: (I, oI) :: (V, listOf (vals ++ [Value.ref D]).toArray n) :: (c, oc) :: (d, od) :: tl))
    (e1 : m' (Str.ofString "octets") = some (.bytes a ta)) (e2 : m' (Str.ofString "vectors") = some (.ref V)) (e3 : m' (Str.ofString "count") = some (.int count tc)) (e4 : m' (Str.ofString "kinds") = some (.ref ka))
    (hb : KBw.bInts a = enc xs ++ [kind] ++ be 2 ((val.length : Int) + gr) ++ val) (hbv : KBw.bInts bv = val)
    (doc : oc.data = .cell (some (.ref d))) (so : StObj w r od) (hV : ∀ q ∈ tl, V < q.1) (hI : ∀ q ∈ tl, q.1 ≠ I) (n1 : @Ne Nat V I) (n2 : @Ne Nat c I) (n3 : @Ne Nat d I) (hD1 : @LT.lt Nat _ V D) (hD2 : @Ne Nat D I)
    (hvec : VecsIn tl vals xs 0) (hxi : xs.length = i) (hok : ∀ x ∈ xs, x.Ok) (hz0 : (i : Int) < count → ∀ a ∈ xs.map Vec.gr, a = 0) (hleaf : 32 ∉ ks → ∃ ls : List Leaf, xs = ls.map Vec.leaf)
    (hi : (i : Int) < count) (g0 : 0 ≤ gr) (g1 : gr ≤ 700) (hgr : gr = 0 ∨ (i : Int) + 1 = count)
    (hx : ∀ gr : Int, 0 ≤ gr → gr ≤ 700 → ∃ x : Vec, x.kind = kind ∧ x.val = val ∧ x.gr = gr ∧ x.Ok ∧ HoldsIn tl hv x ∧ (32 ∉ ks → ∃ l : Leaf, x = .leaf l)) :
    PostG g L' I oI (fun m news => ChInv w r ks ka V c d count (i + 1) m news) s Q .next { s with heap := h', toks := tk' } := by
  obtain ⟨x, xk, xv, xg, xo, xh, xl⟩ := hx gr g0 g1
  have up : ∀ q ∈ tl, q ∈ (D, tupOf [.int kind t4, .bytes bv t5, hv, .bool (decide (0 < gr)), .int ((enc xs).length : Nat) tp]) :: tl := fun q hq => .tail _ hq
  refine EndG.intro (news' := (V, listOf (vals ++ [Value.ref D]).toArray n) :: (c, oc) :: (d, od) :: (D, tupOf [.int kind t4, .bytes bv t5, hv, .bool (decide (0 < gr)), .int ((enc xs).length : Nat) tp]) :: tl) F ?_ ?_ ?_
  · exact news_sub (news_tail N) (fun q hq => by
      simp only [List.mem_cons] at hq ⊢
      rcases hq with h | h | h | h | h | h <;> simp [h])
  · exact al1 n1 (al1 n2 (al1 n3 (al1 hD2 hI)))
  · refine ⟨xs ++ [x], vals ++ [Value.ref D], n, a, ta, tc, _, oc, od, e1, e2, e3, e4, rfl, doc, so, al1 hD1 hV, ?_, ?_, ?_, ?_, ?_, ?_, ?_⟩
    · refine (hvec.mono up).snoc (hv := hv) ?_ (xh.mono up)
      rw [xk, xv, xg, Int.zero_add]
      exact ⟨D, bv, t4, t5, tp, rfl, .head _, hbv⟩
    · rw [hb, enc_snoc, Vec.enc, xk, xv, xg, encWith]
      simp
    · rw [List.length_append, List.length_singleton, hxi]
    · intro y hy
      rcases List.mem_append.mp hy with h | h
      · exact hok y h
      · rw [List.mem_singleton.mp h]; exact xo
    · rw [List.map_append]; exact Tight.snoc (hz0 hi)
    · intro hlt y hy
      rw [List.map_append] at hy
      rcases List.mem_append.mp hy with h | h
      · exact hz0 hi y h
      · have : y = gr := by rw [List.map_singleton, List.mem_singleton] at h; rw [h, xg]
        rcases hgr with e | e
        · omega
        · omega
    · intro hn
      obtain ⟨ls, rfl⟩ := hleaf hn
      obtain ⟨l, rfl⟩ := xl hn
      exact ⟨ls ++ [l], by simp⟩
theorem Mid1.intro {w : World} {r : Addr} {ks : List Int} {ka V c d L' I : Addr} {g : Heap} {oI oc : Obj} {count kind : Int} {i : Nat} {xs : List Vec} {vals : List Value} {n : Nat} {b : Array UInt8} {s : Shared}
    {h' : Heap} {tk' : Nat} {m' : Str → Option Value} {tl : List (Addr × Obj)} {od : Obj} {bv : Array UInt8} {hv : Value} {t1 t2 t3 t4 t5 : Tok}
    (F : Fr g L' h' m') (N : News g L' h' ((I, oI) :: (V, listOf vals.toArray n) :: (c, oc) :: (d, od) :: tl))
    (e1 : m' (Str.ofString "octets") = some (.bytes b t1)) (e2 : m' (Str.ofString "vectors") = some (.ref V)) (e3 : m' (Str.ofString "count") = some (.int count t2)) (e4 : m' (Str.ofString "kinds") = some (.ref ka))
    (e5 : m' (Str.ofString "k") = some (.int i t3)) (e6 : m' (Str.ofString "kind") = some (.int kind t4)) (e7 : m' (Str.ofString "value") = some (.bytes bv t5)) (e8 : m' (Str.ofString "holds") = some hv)
    (so : StObj w r od) (hV : ∀ q ∈ tl, V < q.1) (hI : ∀ q ∈ tl, q.1 ≠ I) (hvec : VecsIn tl vals xs 0)
    (hx : ∀ gr : Int, 0 ≤ gr → gr ≤ 700 → ∃ x : Vec, x.kind = kind ∧ x.val = KBw.bInts bv ∧ x.gr = gr ∧ x.Ok ∧ HoldsIn tl hv x ∧ (32 ∉ ks → ∃ l : Leaf, x = .leaf l)) :
    Mid1 w r ks ka V c d L' I g oI oc count kind i xs vals n b s { s with heap := h', toks := tk' } :=
  ⟨h', tk', m', tl, od, bv, hv, t1, t2, t3, t4, t5, rfl, F, N, e1, e2, e3, e4, e5, e6, e7, e8, so, hV, hI, hvec, hx⟩
def GrMid (w : World) (r : Addr) (count : Int) (i : Nat) (g : Heap) (L : Addr) (s : Shared) (kv : List (Str × Value)) (nw : Obj → List (Addr × Obj)) (fl : Flow) (s' : Shared) : Prop :=
  fl = .next ∧ ∃ (gr : Int) (tg : Tok) (od : Obj), 0 ≤ gr ∧ gr ≤ 700 ∧ (gr = 0 ∨ (i : Int) + 1 = count) ∧ StObj w r od ∧ Mid g L s ((Str.ofString "great", .int gr tg) :: kv) (nw od) s'
theorem GrMid.mk {w : World} {r : Addr} {count : Int} {i : Nat} {g : Heap} {L : Addr} {s s' : Shared} {kv : List (Str × Value)} {nw : Obj → List (Addr × Obj)} {gr : Int} {tg : Tok} {od : Obj} (h0 : 0 ≤ gr) (h1 : gr ≤ 700) (h2 : gr = 0 ∨ (i : Int) + 1 = count) (so : StObj w r od)
    (h : Mid g L s ((Str.ofString "great", .int gr tg) :: kv) (nw od) s') : GrMid w r count i g L s kv nw .next s' := ⟨rfl, gr, tg, od, h0, h1, h2, so, h⟩
theorem kind_bd {k : Int} (h : k = 32 ∨ k ∈ leafKinds) : 0 ≤ k ∧ k < 256 := by
  have e : ∀ x ∈ leafKinds, 0 ≤ x ∧ x < 256 := by decide
  rcases h with rfl | h
  · decide
  · exact e k h
theorem int_lt {i : Nat} {c : Int} (h : i < c.toNat) : (i : Int) < c := by omega
theorem lt5 {n i : Nat} {c : Int} (hn : n = i) (h : i < c.toNat) (hc : c < 5) : n ≤ 4 := by omega
theorem leaf_mk {ks : List Int} {kind : Int} {bv : Array UInt8} {val : List Int} {tl : List (Addr × Obj)} (hk : kind ∈ leafKinds) (hb : KBw.bInts bv = val) (hl : val.length ≤ 406) : ∀ gr : Int, 0 ≤ gr → gr ≤ 700 → ∃ x : Vec, x.kind = kind ∧ x.val = KBw.bInts bv ∧ x.gr = gr ∧ x.Ok ∧ HoldsIn tl .none x ∧ (32 ∉ ks → ∃ l : Leaf, x = .leaf l) :=
  fun gr g0 g1 => ⟨.leaf ⟨kind, KBw.bInts bv, gr⟩, rfl, rfl, rfl, ⟨hk, by show (KBw.bInts bv).length ≤ 406; rw [hb]; exact hl, g0, g1⟩, rfl, fun _ => ⟨_, rfl⟩⟩
theorem rules_C1 : True := by
  k_with_none
  k_with "storeName" => (k_here; k_dflt (refine' storeM ?q99F ?q99N ?_ ?q99a ?q99b; (case q99F => k_asm); (case q99N => k_asm); (case q99a => rfl); (case q99b => rfl); k_whole); intro h' m' F' N'; (try k_sweep))
  k_with "execs cons" => (first | (k_here; k_gentoks) | ((with_reducible refine wpAny_execs_cons ?_); (try dsimp only); (try k_fold)))
  k_with "exec For" => (k_here; refine Stop.out ?_)
  k_with "exec For Name Call cons nil" => (k_here; refine Stop.out ?_)
  k_with "call ref" => (k_here; (with_reducible show wpAny _ _ (call (Value.ref 136) [Value.ref _, Value.int _ _]) _ _ _); k_dflt (refine' draw_use ?q3k1 ?q3k2 ?q3k3 ?q3k4 ?q3k5 ?q3k6 ?q3k7 ?q3k8 ?q3k9 ?q3k10 ?q3k11 ?q3k12 ?q3k13 ?_; (case q3k1 => k_asm); (case q3k2 => k_asm); (case q3k3 => k_asm); (case q3k4 => k_asm); (case q3k5 => k_asm); (case q3k6 => k_updF); (case q3k7 => k_asm); (case q3k8 => k_asm); (case q3k9 => k_asm); (case q3k10 => exact rfl); (case q3k11 => first | with_reducible assumption | ((try dsimp only [gTop] at *); omega)); (case q3k12 => first | with_reducible assumption | ((try dsimp only [gTop] at *); (have hcL9 := cLine_is); omega)); (case q3k13 => omega)); intro _ _ _ _ _ _ _ F' N' _; (try dsimp only at N'); (try dsimp only))
  k_with "CompSrc" => (k_here; refine Stop.out ?_)
  k_with "exec If" => (k_here; refine Stop.out ?_)
  k_with "call ref" => (k_here; (with_reducible show wpAny _ _ (call (Value.ref 141) [Value.ref _, Value.ref _]) _ _ _); refine Stop.out ?_)
  k_with "pyIter ref" => (k_here; refine Stop.out ?_)
  k_with "call type:bytes" => (k_here; (with_reducible show wpAny _ _ (call (Value.type "bytes") [Value.ref _]) _ _ _); k_dflt (refine' r_bytes ?q8F ?q8N ?q8m ?q8i ?q8r ?q8n rfl ?_; (case q8F => k_asm); (case q8N => k_asm); (case q8m => k_mem); (case q8i => first | exact ints_one | assumption); (case q8r => first | exact one_in (by omega) (by omega) | assumption); (case q8n => first | exact Nat.le_of_ble_eq_true rfl | omega)); intro h' a' t' k' F' N' hb'; (try dsimp only))
  k_with "subscriptTail Name Constant ref int" => (k_here; k_dflt (refine' r_item ?q9N ?q9m ?q9a ?q9b ?q9c ?q9d ?_ ?q9e; (case q9N => k_asm); (case q9m => k_memK); (case q9a => decide); (case q9b => decide); (case q9c => rfl); (case q9d => rfl); (case q9e => with_unfolding_all rfl)))
  k_with "call builtin:list.append" => (k_here; k_dflt (refine' r_append ?q10F ?q10N ?q10U ?q10z ?_; (case q10F => k_asm); (case q10N => k_asm); (case q10U => k_updF); (case q10z => omega)); intro h' F' N'; (try dsimp only at N'); (try dsimp only))
  k_with "newTuple" => (k_here; k_dflt (refine' kup_newTuple ?q11F ?q11N ?_ ?q11z; (case q11F => k_asm); (case q11N => k_asm); (case q11z => kmk_size)); intro D' h' F' N' l1; (try k_lt l1); (try k_sweep))
  k_with "binaryOp Add bytes bytes" => (k_here; k_dflt (refine' r_add ?q12b ?q12c ?q12z ?_; (case q12b => assumption); (case q12c => assumption); (case q12z => ((try simp only [List.length_append, List.length_cons, List.length_nil, be_length, List.length_replicate]); omega))); intro a' t' k' hb'; (try dsimp only))
  k_with "binaryOp Mult bytes int" => (k_here; k_dflt (refine' r_mul ?q13b ?q13x ?q13y ?_; (case q13b => assumption); (case q13x => omega); (case q13y => omega)); intro a' t' k' hb'; (try dsimp only))
  k_with "call builtin:len" => (k_here; (with_reducible show wpAny _ _ (call (Value.builtin "len") [Value.bytes _ _]) _ _ _); k_dflt (refine' r_len ?q14b ?q14z ?_; (case q14b => assumption); (case q14z => ((try simp only [List.length_append, List.length_cons, List.length_nil, be_length, List.length_replicate]); omega))); (try dsimp only))
  k_with "call builtin:int.to_bytes" => (k_here; (first | (with_unfolding_all refine r_tob (k := 4) (B := 4294967296) (by decide) (by decide) (by omega) (by omega) ?_) | (with_unfolding_all refine r_tob (k := 2) (B := 65536) (by decide) (by decide) (by omega) (by omega) ?_)); intro a' t' k' hb'; (try dsimp only))
  trivial
set_option maxHeartbeats 8000000 in
theorem chunk_step {w : World} {p : Program} {loose : List Str} {mean : ExcName → Option Value} {mg mb : Str → Option Value} {ka : Addr} {kvs : List Value} {ks : List Int} {lim : Nat}
    (hkk : ∀ g : Heap, (kgrab.heap_1 w.params).In g → g.IsList ka kvs.toArray) (hki : IntsAre kvs ks) (hk0 : 0 < ks.length) (hk1 : ks.length ≤ 100) (hks : ∀ k ∈ ks, k = 32 ∨ k ∈ leafKinds)
    (H : 32 ∈ ks → ChunkSpec w p loose mean mg mb 110 lim (fun xs => ∃ ls : List Leaf, xs = ls.map Vec.leaf)) :
    ChunkSpec w p loose mean mg mb ka (lim + 2) (fun xs => 32 ∉ ks → ∃ ls : List Leaf, xs = ls.map Vec.leaf) := by
  intro A₀ base g outer dp un gd s d r o Q E B hk hz X T hdp hun h1 h2 hd1 ho hr ret
  have hkl := hkk g X
  clear hkk
  have hD2 : dp + 1 + 1 < recursionLimit := by omega
  have hU3 : un + 3 + 8 < cLine := by omega
  refine wpAny_call ?_
  refine enterC B rfl hk hz (Led.one h1 h2) X T (by k_is) (by k_is) (by k_room) (BindsTo.of_eq rfl) rfl (by decide +kernel) ?_
  intro L' h₁ tk₁ cells' F' N' Y' B' l' hLs
  (try k_lt l'); k_cells Y'; (try simp only [List.cons_append, List.nil_append] at N'); (try dsimp only)
  try k_fold
  w_top on
  k_steps
  unfold Stop
  rename_i oc doc _ _ h3 m3 _ _ _ V h4 lV h5 m5 _ _ _ count tc h6 tk6 od lc hc so
  replace doc : oc.data = .cell (some (.ref d)) := doc
  refine For_turns F' ?_
  k_steps
  unfold Stop
  try clear F' N'
  rename IsRange _ _ _ _ _ _ _ _ => hR
  rename Fr _ _ _ _ => F'
  rename News _ _ _ _ => N'
  try dsimp only at F' N' hR ⊢
  refine loop_range (n := count.toNat) (fun i m news => ChInv w r ks ka V (L' + 1) d count i m news) rfl hR (small_one (by decide) (by decide) (by omega) (by omega)) (by rw [rangeSize_nat, Int.sub_zero]) F' N' ?_ ?_ ?_
  · exact ⟨[], [], 0, #[], _, tc, [], oc, od, rfl, rfl, rfl, rfl, rfl, doc, so, (fun _ h => nomatch h), trivial, rfl, rfl, (fun _ h => nomatch h), Tight.zero (fun _ h => nomatch h), (fun _ _ h => nomatch h), fun _ => ⟨[], rfl⟩⟩
  · try clear F' N' so doc hR
    rintro i t m₁ news₁ h tk I oI hi ⟨xs, vals, n, b, tb, tc, tl, oc, od, e1, e2, e3, e4, rfl, doc, so, hV, hvec, hb, hxi, hok, htg, hz0, hleaf⟩ hne F₁ N₁
    have F₂ := knows [(Str.ofString "octets", .bytes b tb), (Str.ofString "vectors", .ref V), (Str.ofString "count", .int count tc), (Str.ofString "kinds", .ref ka)] F₁ (al1 e1 (al1 e2 (al1 e3 (al1 e4 al0))))
    clear F₁
    simp only [withL] at F₂
    rw [List.forall_mem_cons, List.forall_mem_cons, List.forall_mem_cons] at hne
    obtain ⟨n1, n2, n3, n4⟩ := hne
    dsimp only at n1 n2 n3
    replace n1 := neN n1; replace n2 := neN n2; replace n3 := neN n3
    obtain ⟨lc1, lc2⟩ := lV
    k_steps
    unfold Stop
    rename (_ < (ks.length : Int)) => ixh
    obtain ⟨kind, ek, hkm⟩ := pick_mem (by assumption) ixh
    rename Fr _ _ _ _ => Fz
    rename News _ _ _ _ => Nz
    dsimp +zetaDelta only at Fz
    rw [ek] at Fz
    clear ek ixh so e1 e2 e3 e4 hkl
    refine wpAny_mono (Q := fun f s' => f = .next ∧ Mid1 w r ks ka V (L' + 1) d L' I g oI oc count kind i xs vals n b s s') ?_ ?_ (fun _ _ x => x)
    · refine wpAny_If ?_
      k_steps
      · unfold Stop
        rename kind = 32 => hk32
        refine chunk_use (H (hk32 ▸ hkm)) B' (by k_asm) (by k_asm) X T (by k_updF) (by k_asm) hr hd1 rfl (by (try dsimp only [gTop] at *); omega) (by (try dsimp only [gTop] at *); omega) ?_
        intro a2 tl2 b2 t2 l2 vals2 n2 xs2 h' tk' o' F' N' hnew so' hta htl hv2 hb2 hx2 hs2
        obtain ⟨ls, rfl⟩ := hs2
        simp only [List.forall_mem_cons] at hnew
        obtain ⟨q1, q2, q3, q4, q5⟩ := hnew
        dsimp only at N' ⊢
        simp only [List.cons_append] at N'
        have hlen2 : (enc (List.map Vec.leaf ls)).length ≤ 6576 := by
          have h1 := enc_le hx2.all
          have h2 := hx2.few
          omega
        k_steps
        rename Fr _ _ _ _ => F'
        rename News _ _ _ _ => N'
        try dsimp only
        have hbelow : enc (List.map Vec.leaf ls) = encL ls := enc_leaf ls
        refine Mid1.intro F' (tl := (_, _) :: (tl ++ tl2)) (news_sub N' perm6) rfl rfl rfl rfl rfl rfl rfl rfl (by assumption) ?_ ?_ (hvec.mono fun q hq => .tail _ (List.mem_append_left _ hq)) ?_
        · refine al1 (by refine ltN ?_; dsimp only; omega) ?_
          intro q hq
          rcases List.mem_append.mp hq with h | h
          · exact hV q h
          · exact q2 q h
        · refine al1 (by refine neN ?_; dsimp only; omega) ?_
          intro q hq
          rcases List.mem_append.mp hq with h | h
          · exact n4 q h
          · exact Nat.ne_of_gt (q1 q h)
        · intro gr g0 g1
          refine ⟨.ssl _ _ ls gr, hk32.symm, ?_, rfl, ⟨by assumption, by assumption, by omega, by omega, ?_, g0, g1⟩, ⟨_, l2, _, _, vals2, n2, rfl, .head _, .tail _ (List.mem_append_right _ htl), (leafs_of hv2).mono fun q hq => .tail _ (List.mem_append_right _ hq)⟩, fun hn => absurd (hk32 ▸ hkm) hn⟩
          · rename KBw.bInts _ = _ ++ _ ++ _ => hbb
            rw [hbb, hbelow]
            simp [Vec.val]
          · refine ⟨fun l hl => hx2.all (.leaf l) (List.mem_map_of_mem hl), by have := hx2.few; rwa [List.length_map] at this, ?_⟩
            have h9 := hx2.tight
            rw [List.map_map] at h9
            exact h9
      · unfold Stop
        rename IsRange _ _ _ _ _ _ _ _ => hR
        rename Fr _ _ _ _ => F'
        rename News _ _ _ _ => N'
        dsimp only at hR F' N'
        refine LCg.CompSrc.range rfl F' N' hR (small_one (by decide) (by decide) (by omega) (by omega)) (by rw [rangeSize_nat, Int.sub_zero]) (by rw [sizeLine_eq]; omega) ?_
        intro g'
        refine rest_S (fun ys news => ∃ (zs : List Int) (od' : Obj), news = (I, oI) :: (V, listOf vals.toArray n) :: (L' + 1, oc) :: (d, od') :: tl ∧ IntsAre ys zs ∧ (∀ z ∈ zs, 0 ≤ z ∧ z < 256) ∧ StObj w r od') ?_ ?_ _ 0 [] _ (Nat.zero_add _) rfl ⟨[], _, rfl, .nil, (fun _ h => nomatch h), by assumption⟩
        · try clear F' N' hR
          rintro ys news v I2 oI2 C oC D m₂ h2 tk2 E2 hlt ⟨zs, od2, rfl, hI, hz, so2⟩ hC hx F2 N2 off ne
          simp only [LCg.Off3] at off
          k_steps
          rename Fr _ _ _ _ => F'
          rename News _ _ _ _ => N'
          exact LCg.CompEnd.intro F' N' ((I, oI) :: (V, listOf vals.toArray n) :: (L' + 1, oc) :: (d, _) :: tl) (fun p hp => hp) off trivial ⟨zs ++ [_], _, rfl, hI.append (.cons _ _ .nil), in_snoc hz (by assumption) (by assumption), by assumption⟩
        · try clear F' N' hR
          rintro ys news hn ⟨zs, od2, rfl, hI, hz, so2⟩
          intro D h9 tk9 F9 N9 off9
          have hzl : zs.length ≤ 6 := by
            have h1 := hI.length
            omega
          simp only [LCg.Off1] at off9
          k_steps
          unfold Stop
          have hlk : kind ∈ leafKinds := (hks kind hkm).resolve_left (by assumption)
          refine wpAny_If ?_
          k_steps
          · rename Fr _ _ _ _ => F'
            rename News _ _ _ _ => N'
            try dsimp only
            refine Mid1.intro F' (news_tail (news_tail N')) rfl rfl rfl rfl rfl rfl rfl rfl (by assumption) hV n4 hvec (leaf_mk hlk (by assumption) ?_)
            simp only [List.length_append, List.length_replicate]
            omega
          · rename Fr _ _ _ _ => F'
            rename News _ _ _ _ => N'
            try dsimp only
            refine Mid1.intro F' (news_tail N') rfl rfl rfl rfl rfl rfl rfl rfl (by assumption) hV n4 hvec (leaf_mk hlk (by assumption) ?_)
            omega
    · rintro f s' ⟨rfl, h', tk', m', tl', od', bv, hv, t1, t2, t3, t4, t5, rfl, F', N', e1, e2, e3, e4, e5, e6, e7, e8, so', hV', hI', hvec', hx⟩
      clear Fz Nz hV n4 hvec
      have F₂ := knows [(Str.ofString "value", .bytes bv t5), (Str.ofString "holds", hv), (Str.ofString "kind", .int kind t4), (Str.ofString "k", .int i t3), (Str.ofString "octets", .bytes b t1), (Str.ofString "vectors", .ref V), (Str.ofString "count", .int count t2), (Str.ofString "kinds", .ref ka)] F' (al1 e7 (al1 e8 (al1 e6 (al1 e5 (al1 e1 (al1 e2 (al1 e3 (al1 e4 al0))))))))
      clear F'
      simp only [withL] at F₂
      generalize hbv : KBw.bInts bv = val at hx
      have hvl : val.length ≤ 1641 := by
        obtain ⟨x, _, xv, _, xo, _⟩ := hx 0 (by decide) (by decide)
        rw [← xv]; exact xo.len
      have hic : (i : Int) < count := int_lt hi
      have hx4 : xs.length ≤ 4 := lt5 hxi hi hc
      have hlx : (enc xs).length ≤ 6576 := by
        exact Nat.le_trans (enc_le hok) (Nat.mul_le_mul_left 1644 hx4)
      have hkb := kind_bd (hks kind hkm)
      obtain ⟨hkb0, hkb1⟩ := hkb
      have hvl4 : vals.length ≤ 4 := by
        exact hvec'.length ▸ hx4
      try dsimp only
      k_steps
      unfold Stop
      rename Fr _ _ _ _ => F5
      rename News _ _ _ _ => N5
      refine wpAny_mono (Q := GrMid w r count i g L' s [(Str.ofString "value", .bytes bv t5), (Str.ofString "holds", hv), (Str.ofString "kind", .int kind t4), (Str.ofString "k", .int i t3), (Str.ofString "octets", .bytes b t1), (Str.ofString "vectors", .ref V), (Str.ofString "count", .int count t2), (Str.ofString "kinds", .ref ka)] (fun od => (I, oI) :: (V, listOf vals.toArray n) :: (L' + 1, oc) :: (d, od) :: tl')) ?_ ?_ (fun _ _ x => x)
      · refine wpAny_If ?_
        k_steps
        all_goals (rename Fr _ _ _ _ => F'; rename News _ _ _ _ => N'; try dsimp only)
        · exact GrMid.mk (by omega) (by omega) (.inr (by omega)) (by assumption) (Mid.intro F' N' sub_same (al1 rfl (al1 rfl (al1 rfl (al1 rfl (al1 rfl (al1 rfl (al1 rfl (al1 rfl (al1 rfl al0))))))))))
        · exact GrMid.mk (gr := 0) (Int.le_refl 0) (by decide) (.inl rfl) (by assumption) (Mid.intro F' N' sub_same (al1 rfl (al1 rfl (al1 rfl (al1 rfl (al1 rfl (al1 rfl (al1 rfl (al1 rfl (al1 rfl al0))))))))))
        · exact GrMid.mk (gr := 0) (Int.le_refl 0) (by decide) (.inl rfl) (by assumption) (Mid.intro F' N' sub_same (al1 rfl (al1 rfl (al1 rfl (al1 rfl (al1 rfl (al1 rfl (al1 rfl (al1 rfl (al1 rfl al0))))))))))
      · rintro fl s' ⟨rfl, gr, tg, od5, g0, g1, hgr, so5, hm⟩
        clear F5 N5 so'
        obtain ⟨h5, tk5, m5, rfl, F', N'⟩ := hm.out
        simp only [withL] at F'
        try dsimp only
        k_steps
        rename Fr _ _ _ _ => F'
        rename News _ _ _ _ => N'
        try dsimp only
        exact ch_end (gr := gr) F' N' rfl rfl rfl rfl (by assumption) hbv doc (by assumption) hV' hI' n1 n2 n3 (by (repeat (cases ‹_ ∧ _›)); first | with_reducible assumption | omega) (by k_ne) hvec' hxi hok hz0 hleaf hic g0 g1 hgr hx
  · rintro m₁ news₁ h tk ⟨xs, vals, n, b, tb, tc, tl, oc, od, e1, e2, e3, e4, rfl, doc, so, hV, hvec, hb, hxi, hok, htg, hz0, hleaf⟩ F₁ N₁
    have F₂ := knows [(Str.ofString "octets", .bytes b tb), (Str.ofString "vectors", .ref V), (Str.ofString "count", .int count tc), (Str.ofString "kinds", .ref ka)] F₁ (al1 e1 (al1 e2 (al1 e3 (al1 e4 al0))))
    clear F₁
    simp only [withL] at F₂
    try dsimp only
    k_steps
    rename Fr _ _ _ _ => F'
    rename News _ _ _ _ => N'
    try dsimp only
    obtain ⟨lc1, lc2⟩ := lV
    refine ret _ ((_, tupOf [.bytes b tb, .ref V]) :: (V, listOf vals.toArray n) :: tl) b tb V vals n xs _ _ od F'.keep (N' _ (.tail _ (.tail _ (.tail _ (.head _))))).1 so ?_ (.head _) (.tail _ (.head _)) (hvec.mono fun q hq => .tail _ (.tail _ hq)) hb ⟨hok, by omega, htg⟩ hleaf
    intro q hq
    have hq1 := N' q (perm3 q hq)
    refine ⟨hq1.1, hq1.2.2, ?_⟩
    rcases List.mem_cons.mp hq with rfl | hq
    · dsimp only; omega
    · rcases List.mem_cons.mp hq with rfl | hq
      · dsimp only; omega
      · have := ltN (hV q hq); omega
end Mine
end
section
open PySem PySem.W PySem.Calls PyProof.Rows PySem.Spec
namespace Mine
theorem fill_4 : (fun w => (PySem.Challenge.rw_jy0002_01, kgrab.heap_1 w)) = (fun w => (PySem.Challenge.rw_jy0002_01, kgrab.heap_1 w)) := by
  k_fill
  rfl
theorem ChunkSpec.mono {w : World} {p : Program} {loose : List Str} {mean : ExcName → Option Value} {mg mb : Str → Option Value} {ka : Addr} {lim : Nat} {Sh Sh' : List Vec → Prop} (C : ChunkSpec w p loose mean mg mb ka lim Sh) (h : ∀ xs, Sh xs → Sh' xs) : ChunkSpec w p loose mean mg mb ka lim Sh' := by
  intro A₀ base g outer dp un gd s d r o Q E a1 a2 a3 a4 a5 a6 a7 a8 a9 b1 b2 b3 ret
  exact C A₀ base g outer dp un gd s d r o Q E a1 a2 a3 a4 a5 a6 a7 a8 a9 b1 b2 b3 fun a tl b t l vals n xs h' tk' o' c1 c2 c3 c4 c5 c6 c7 c8 c9 d1 => ret a tl b t l vals n xs h' tk' o' c1 c2 c3 c4 c5 c6 c7 c8 c9 (h _ d1)
theorem inner_list (w : World) : ∃ kvs : List Value, (∀ g : Heap, (kgrab.heap_1 w.params).In g → g.IsList 110 kvs.toArray) ∧ IntsAre kvs [33, 34, 35, 38, 36, 37, 1, 48, 6, 15] := by
  have h : ∀ g : Heap, (kgrab.heap_1 w.params).In g → _ := fun g X => X 110 _ (by k_is)
  exact ⟨_, fun g X => ⟨_, h g X, rfl, _, rfl⟩, by repeat constructor⟩
theorem outer_list (w : World) : ∃ kvs : List Value, (∀ g : Heap, (kgrab.heap_1 w.params).In g → g.IsList 109 kvs.toArray) ∧ IntsAre kvs [1, 32, 2, 127, 3, 32, 4, 5, 48, 224, 33, 35, 10, 255] := by
  have h : ∀ g : Heap, (kgrab.heap_1 w.params).In g → _ := fun g X => X 109 _ (by k_is)
  exact ⟨_, fun g X => ⟨_, h g X, rfl, _, rfl⟩, by repeat constructor⟩
theorem chunk_inner {w : World} {p : Program} {loose : List Str} {mean : ExcName → Option Value} {mg mb : Str → Option Value} : ChunkSpec w p loose mean mg mb 110 2 (fun xs => ∃ ls : List Leaf, xs = ls.map Vec.leaf) := by
  obtain ⟨kvs, h1, h2⟩ := inner_list w
  exact (chunk_step (lim := 0) h1 h2 (by decide) (by decide) (by decide) (fun h => absurd h (by decide))).mono fun xs h => h (by decide)
theorem chunk_outer {w : World} {p : Program} {loose : List Str} {mean : ExcName → Option Value} {mg mb : Str → Option Value} : ChunkSpec w p loose mean mg mb 109 4 (fun _ => True) := by
  obtain ⟨kvs, h1, h2⟩ := outer_list w
  exact (chunk_step (lim := 2) h1 h2 (by decide) (by decide) (by decide) (fun _ => chunk_inner)).mono fun xs _ => trivial
end Mine
end
section
open PySem PySem.W PySem.Calls PyProof.Rows PySem.Spec
namespace Mine
theorem fill_5 : (fun w => (PySem.Challenge.rw_jy0002_01, kgrab.heap_1 w)) = (fun w => (PySem.Challenge.rw_jy0002_01, kgrab.heap_1 w)) := by
  k_fill
  rfl
def TabIs : List (Int × Value) → List (Int × Str) → Prop
  | [], [] => True
  | (k, v) :: r, (k', x) :: r' => k = k' ∧ (∃ t, v = .str x t) ∧ TabIs r r'
  | _, _ => False
def TabObj (w : World) (o : Obj) (tab : List (Int × Str)) : Prop := ∃ kvs : List (Int × Value), o.IsDictOf (intKind P0 w) kvs ∧ TabIs kvs tab
theorem rules_N1 : True := by
  k_with_none
  k_with "execs cons" => (first | (k_here; k_gentoks) | ((with_reducible refine wpAny_execs_cons ?_); (try dsimp only); (try k_fold)))
  trivial
set_option maxHeartbeats 8000000 in
theorem names_call {w : World} {p : Program} {loose : List Str} {mean : ExcName → Option Value} {mg mb : Str → Option Value} {A₀ : Around} {base g : Heap} {outer : List Env} {dp un : Nat} {gd : Option (List Code)} {s : Shared}
    {Q E : Value → Shared → Prop}
    (B : Below A₀ base outer g) (hk : g.StaysIn s.heap) (hz : g.objs.size ≤ s.heap.objs.size) (X : (kgrab.heap_1 w.params).In g) (T : Top p loose mean mg mb g)
    (hdp : dp + 1 < recursionLimit)
    (ret : ∀ D o h' tk', g.StaysIn h' → h'.get? D = some o → g.get? D = none → @LE.le Nat _ s.heap.objs.size D → (D == sysModules) = false → TabObj w o known → Q (.ref D) { s with heap := h', toks := tk' }) :
    wpAny (model P0 w) (gTop dp un gd outer) (call (.ref 117) []) Q E s := by
  refine wpAny_call ?_
  refine enter B rfl hk hz Led.nil X T (by k_is) (by k_is) (by k_room) (BindsTo.of_eq rfl) (locs rfl) ?_
  intro L' h₁ F' N' B' l' hLs hLl
  (try dsimp only)
  try k_fold
  w_top on
  k_steps
  rename Obj.IsDictOf _ _ _ => hd'
  rename News _ _ _ _ => N'
  rename Fr _ _ _ _ => F'
  try dsimp only
  rename (_ == sysModules) = false => lo'
  refine ret _ _ _ _ F'.keep (N' _ (.head _)).1 (N' _ (.head _)).2.2 (by omega) lo' ⟨_, hd', ?_⟩
  simp [intKeyPairs, known, TabIs]
set_option maxHeartbeats 8000000 in
theorem unknown_call {w : World} {p : Program} {loose : List Str} {mean : ExcName → Option Value} {mg mb : Str → Option Value} {A₀ : Around} {base g : Heap} {outer : List Env} {dp un : Nat} {gd : Option (List Code)} {s : Shared}
    {Q E : Value → Shared → Prop}
    (B : Below A₀ base outer g) (hk : g.StaysIn s.heap) (hz : g.objs.size ≤ s.heap.objs.size) (X : (kgrab.heap_1 w.params).In g) (T : Top p loose mean mg mb g)
    (hdp : dp + 1 < recursionLimit)
    (ret : ∀ D o h' tk', g.StaysIn h' → h'.get? D = some o → g.get? D = none → @LE.le Nat _ s.heap.objs.size D → (D == sysModules) = false → TabObj w o unknown → Q (.ref D) { s with heap := h', toks := tk' }) :
    wpAny (model P0 w) (gTop dp un gd outer) (call (.ref 124) []) Q E s := by
  refine wpAny_call ?_
  refine enter B rfl hk hz Led.nil X T (by k_is) (by k_is) (by k_room) (BindsTo.of_eq rfl) (locs rfl) ?_
  intro L' h₁ F' N' B' l' hLs hLl
  (try dsimp only)
  try k_fold
  w_top on
  k_steps
  rename Obj.IsDictOf _ _ _ => hd'
  rename News _ _ _ _ => N'
  rename Fr _ _ _ _ => F'
  try dsimp only
  rename (_ == sysModules) = false => lo'
  refine ret _ _ _ _ F'.keep (N' _ (.head _)).1 (N' _ (.head _)).2.2 (by omega) lo' ⟨_, hd', ?_⟩
  simp [intKeyPairs, unknown, TabIs]
theorem tab_use {w : World} {p : Program} {loose : List Str} {mean : ExcName → Option Value} {mg mb : Str → Option Value} {fa : Addr} {tab : List (Int × Str)}
    (C : ∀ {A₀ : Around} {base g : Heap} {outer : List Env} {dp un : Nat} {gd : Option (List Code)} {s : Shared} {Q E : Value → Shared → Prop},
      Below A₀ base outer g → g.StaysIn s.heap → g.objs.size ≤ s.heap.objs.size → (kgrab.heap_1 w.params).In g → Top p loose mean mg mb g → dp + 1 < recursionLimit →
      (∀ D o h' tk', g.StaysIn h' → h'.get? D = some o → g.get? D = none → @LE.le Nat _ s.heap.objs.size D → (D == sysModules) = false → TabObj w o tab → Q (.ref D) { s with heap := h', toks := tk' }) →
      wpAny (model P0 w) (gTop dp un gd outer) (call (.ref fa) []) Q E s)
    {A₀ : Around} {base h₀ : Heap} {outer : List Env} {dp un : Nat} {gd : Option (List Code)} {s : Shared} {L a : Addr} {m : Str → Option Value} {cn : Str} {cs : Scope} {ccd : Value} {cl : List (Str × Addr)} {news : List (Addr × Obj)} {Q E : Value → Shared → Prop}
    (B : Below A₀ base outer h₀) (F : Fr h₀ L s.heap m) (N : News h₀ L s.heap news) (X : (kgrab.heap_1 w.params).In h₀) (T : Top p loose mean mg mb h₀) (hck : cs.kind = .function) (hdp : dp + 1 < recursionLimit)
    (ret : ∀ D o h' tk', Fr h₀ L h' m → News h₀ L h' ((D, o) :: news) → (∀ q ∈ news, q.1 < D) → (D == sysModules) = false → TabObj w o tab → Q (.ref D) { s with heap := h', toks := tk' }) :
    wpAny (model P0 w) (gTop dp un gd (envX cn cs L a ccd cl :: outer)) (call (.ref fa) []) Q E s := by
  obtain ⟨B', st, ks, hz, X', T', back⟩ := share (cn := cn) (cs := cs) (a := a) (ccd := ccd) (cl := cl) [] B F N X T hck (fun b hb => nomatch hb)
  refine C B' ks hz X' T' hdp fun D o h' tk' k' e1 e2 e3 lo to => ?_
  refine ret D o h' tk' (back h' k') ?_ (fun q hq => Nat.lt_of_lt_of_le (Heap.lt_size (N q hq).1) e3) lo to
  intro q hq
  rcases List.mem_cons.mp hq with rfl | hq
  · refine ⟨e1, fun e => ?_, ?_⟩
    · have := F.ns.lt; dsimp only at e; rw [← e] at this; exact absurd e3 (Nat.not_le.mpr this)
    · cases e : h₀.get? D with
      | none => rfl
      | some o2 => have := st _ _ e; rw [e2] at this; cases this
  · have P := N q hq
    exact ⟨k' _ _ (hideAll_get _ P.1 (fun h => nomatch h)), P.2⟩
theorem TabIs.at : ∀ {kvs : List (Int × Value)} {tab : List (Int × Str)}, TabIs kvs tab → ∀ k : Int, (∃ x t, tab.lookup k = some x ∧ valueAt kvs k = some (.str x t)) ∨ (tab.lookup k = none ∧ valueAt kvs k = none)
  | [], [], _, k => .inr ⟨rfl, rfl⟩
  | (k', v) :: r, (k'', x) :: r', ⟨e, ⟨t, ht⟩, h⟩, k => by
    subst e; subst ht
    by_cases hk : k = k'
    · subst hk; exact .inl ⟨x, t, by simp, by simp [valueAt]⟩
    · rcases TabIs.at h k with ⟨y, t', a, b⟩ | ⟨a, b⟩
      · refine .inl ⟨y, t', ?_, ?_⟩
        · rw [List.lookup_cons, show (k == k') = false from beq_false_of_ne hk]; exact a
        · simp only [valueAt, List.find?_cons] at b ⊢
          have : decide (k' = k) = false := decide_eq_false (Ne.symm hk)
          rw [this]; exact b
      · refine .inr ⟨?_, ?_⟩
        · rw [List.lookup_cons, show (k == k') = false from beq_false_of_ne hk]; exact a
        · simp only [valueAt, List.find?_cons] at b ⊢
          have : decide (k' = k) = false := decide_eq_false (Ne.symm hk)
          rw [this]; exact b
end Mine
namespace Mine
end Mine
end
section
open PySem PySem.W PySem.Calls PyProof.Rows PySem.Spec
namespace Mine
section
variable {w : World} {A : Around} {E : Value → Shared → Prop} {s : Shared} {h₀ : Heap} {L D : Addr} {m : Str → Option Value} {news : List (Addr × Obj)} {o : Obj} {k : Int} {t : Tok}
theorem r_unIn {Q : Value → Shared → Prop} (N : News h₀ L s.heap news) (hm : (D, o) ∈ news) (to : TabObj w o unknown) (lo : (D == sysModules) = false) (h : Q (.bool (isUn k)) { s with toks := s.toks + 1 }) :
    wpAny (model P0 w) A (compareOp .In (.int k t) (.ref D)) Q E s := by
  obtain ⟨kvs, hd, ht⟩ := to
  refine kda_in (knd := intKind P0 w) N hm hd lo (intKind_is _ _ _ _) (isUn k) ?_ h
  rcases ht.at k with ⟨x, t', a, b⟩ | ⟨a, b⟩ <;> simp [isUn, a, b]
theorem r_unItem {value slice : PySem.Expr} {Q : Value → Shared → Prop} (N : News h₀ L s.heap news) (hm : (D, o) ∈ news) (to : TabObj w o unknown) (hu : isUn k = true) (h : ∀ t', Q (.str (nameOf k) t') { s with toks := s.toks + 1 })
    (hs : subscripted slice false (.ref D) (.int k t) = operate [.ref D, .int k t] (getItem (.ref D) (.int k t)) := by with_unfolding_all rfl) (hg : ∀ r, letTemporaryGo value (.ref D) r = pure () := by intro _; with_unfolding_all rfl) :
    wpAny (model P0 w) A (subscriptTail value slice (.ref D) (.int k t)) Q E s := by
  obtain ⟨kvs, hd, ht⟩ := to
  rcases ht.at k with ⟨x, t', a, b⟩ | ⟨a, b⟩
  · refine kda_item (knd := intKind P0 w) N hm hd (intKind_is _ _ _ _) b ?_ hs hg
    have := h t'
    simp only [nameOf, a] at this
    exact this
  · simp [isUn, a] at hu
theorem r_knItem {value slice : PySem.Expr} {Q : Value → Shared → Prop} (N : News h₀ L s.heap news) (hm : (D, o) ∈ news) (to : TabObj w o known) (hu : isUn k = false) (hk : ∃ x, known.lookup k = some x) (h : ∀ t', Q (.str (nameOf k) t') { s with toks := s.toks + 1 })
    (hs : subscripted slice false (.ref D) (.int k t) = operate [.ref D, .int k t] (getItem (.ref D) (.int k t)) := by with_unfolding_all rfl) (hg : ∀ r, letTemporaryGo value (.ref D) r = pure () := by intro _; with_unfolding_all rfl) :
    wpAny (model P0 w) A (subscriptTail value slice (.ref D) (.int k t)) Q E s := by
  obtain ⟨kvs, hd, ht⟩ := to
  obtain ⟨y, hy⟩ := hk
  rcases ht.at k with ⟨x, t', a, b⟩ | ⟨a, b⟩
  · refine kda_item (knd := intKind P0 w) N hm hd (intKind_is _ _ _ _) b ?_ hs hg
    have := h t'
    have hn : unknown.lookup k = none := by
      unfold isUn at hu
      cases e : unknown.lookup k with
      | none => rfl
      | some z => rw [e] at hu; simp at hu
    simp only [nameOf, a, hn, Option.getD_some] at this
    exact this
  · rw [a] at hy; cases hy
end
theorem leaf_known {k : Int} (h : k ∈ leafKinds) (hu : isUn k = false) : ∃ x, known.lookup k = some x := by
  simp only [leafKinds, List.mem_cons, List.not_mem_nil, or_false] at h
  rcases h with rfl | rfl | rfl | rfl | rfl | rfl | rfl | rfl | rfl | rfl | rfl | rfl | rfl | rfl | rfl | rfl | rfl | rfl <;> first | exact ⟨_, rfl⟩ | (exact absurd hu (by decide))
theorem ssl_known : ∃ x, known.lookup 32 = some x := ⟨_, rfl⟩
theorem ssl_notUn : isUn 32 = false := by decide
theorem ssl_name : nameOf 32 = Str.ofString "SSL" := by decide
end Mine
namespace Mine
theorem r_itemG {prog : Program} {w : World} {A : Around} {E : Value → Shared → Prop} {s : Shared} {g : Heap} {L a : Addr} {m : Str → Option Value} {value slice : PySem.Expr} {vs : List Value} {k : Int} {u : Tok} {j : Nat} {x : Value} {Q : Value → Shared → Prop}
    (F : Fr g L s.heap m) (hT : IsTup g a vs.toArray) (hlo : -(2 ^ 63) ≤ k) (hhi : k < 2 ^ 63) (hj : seqIndex? k vs.length = some j) (hx : vs[j]? = some x) (h : Q x s)
    (hs : subscripted slice false (.ref a) (.int k u) = operate [.ref a, .int k u] (getItem (.ref a) (.int k u)) := by with_unfolding_all rfl) :
    wpAny (model prog w) A (subscriptTail value slice (.ref a) (.int k u)) Q E s := by
  obtain ⟨o, ho, hc, hd⟩ := hT
  exact item_tupleT (l := vs) ⟨o, F.keep _ _ ho, hc, hd⟩ hlo hhi hj hx h hs
end Mine
end
section
open PySem PySem.W PySem.Calls PyProof.Rows PySem.Spec
namespace Mine
theorem fill_6 : (fun w => (PySem.Challenge.rw_jy0002_01, kgrab.heap_1 w)) = (fun w => (PySem.Challenge.rw_jy0002_01, kgrab.heap_1 w)) := by
  k_fill
  rfl
def TellSpec (w : World) (p : Program) (loose : List Str) (mean : ExcName → Option Value) (mg mb : Str → Option Value) (bd lim : Nat) (outer : Bool) (Sh : List Vec → Prop) : Prop :=
  ∀ (A₀ : Around) (base g : Heap) (out : List Env) (dp un : Nat) (gd : Option (List Code)) (s : Shared) (tl : List (Addr × Obj)) (l f pa : Addr) (vals : List Value) (n : Nat) (xs : List Vec) (strict : Bool) (of op : Obj) (F : FD) (P : PD) (Q E : Value → Shared → Prop),
    Below A₀ base out g → g.StaysIn s.heap → g.objs.size ≤ s.heap.objs.size → (kgrab.heap_1 w.params).In g → Top p loose mean mg mb g →
    dp + lim < recursionLimit → un + 8 * lim < cLine → (∀ q ∈ tl, g.get? q.1 = some q.2) → (l, listOf vals.toArray n) ∈ tl → VecsIn tl vals xs 0 → OkV xs → Sh xs →
    s.heap.get? f = some of → g.get? f = none → (f == sysModules) = false → s.heap.get? pa = some op → g.get? pa = none → (pa == sysModules) = false → @Ne Nat f pa →
    DObj P0 w ValIs of F → DObj P0 w PlIs op P → F.length + 7 * xs.length ≤ bd → P.length + 5 * xs.length ≤ bd →
    (∀ (h' : Heap) (tk' : Nat) (of' op' : Obj) (t : Tok) (c : Come) (F' : FD) (P' : PD), run strict outer xs 0 F P = (c, F', P') → g.StaysIn h' → h'.get? f = some of' → h'.get? pa = some op' → DObj P0 w ValIs of' F' → DObj P0 w PlIs op' P' → Q (.str c.str t) { s with heap := h', toks := tk' }) →
    wpAny (model P0 w) (gTop dp un gd out) (call (.ref 148) [.ref l, .bool strict, .ref f, .ref pa, .bool outer]) Q E s
def TInv (w : World) (bd : Nat) (strict outer : Bool) (xs : List Vec) (f pa : Addr) (F₀ : FD) (P₀ : PD) (i : Nat) (m : Str → Option Value) (news : List (Addr × Obj)) : Prop :=
  ∃ (F : FD) (P : PD) (of op : Obj), m (Str.ofString "strict") = some (.bool strict) ∧ m (Str.ofString "fields") = some (.ref f) ∧ m (Str.ofString "places") = some (.ref pa) ∧ m (Str.ofString "outer") = some (.bool outer) ∧
    news = [(f, of), (pa, op)] ∧ DObj P0 w ValIs of F ∧ DObj P0 w PlIs op P ∧ F.length + 7 * (xs.length - i) ≤ bd ∧ P.length + 5 * (xs.length - i) ≤ bd ∧
    run strict outer xs 0 F₀ P₀ = run strict outer (xs.drop i) ((enc (xs.take i)).length : Nat) F P
theorem run_gr {strict outer : Bool} {x : Vec} {r : List Vec} {pl : Int} {F : FD} {P : PD} (h : 0 < x.gr) : run strict outer (x :: r) pl F P = (.malformed, F, P) := by
  cases x with
  | leaf l => rw [run, if_pos (show 0 < l.gr from h)]
  | ssl c v b g => rw [run, if_pos (show 0 < g from h)]
theorem run_un {strict outer : Bool} {l : Leaf} {r : List Vec} {pl : Int} {F : FD} {P : PD} (h : ¬ 0 < l.gr) (hu : (isUn l.kind && strict) = true) : run strict outer (.leaf l :: r) pl F P = (.unknown, F, P) := by
  rw [run, if_neg h, if_pos hu]
theorem run_on {strict outer : Bool} {l : Leaf} {r : List Vec} {pl : Int} {F : FD} {P : PD} (h : ¬ 0 < l.gr) (hu : (isUn l.kind && strict) = false) : run strict outer (.leaf l :: r) pl F P = run strict outer r (pl + l.enc.length) (put F (nameOf l.kind) (.bytes l.val)) (put P (nameOf l.kind) (if outer then pl else -1)) := by
  rw [run, if_neg h, if_neg (by rw [hu]; exact Bool.false_ne_true)]
theorem tell_use {w : World} {p : Program} {loose : List Str} {mean : ExcName → Option Value} {mg mb : Str → Option Value} {bd lim : Nat} {outer : Bool} {Sh : List Vec → Prop} (C : TellSpec w p loose mean mg mb bd lim outer Sh)
    {A₀ : Around} {base h₀ : Heap} {out : List Env} {dp un : Nat} {gd : Option (List Code)} {s : Shared} {L a : Addr} {m : Str → Option Value} {cn : Str} {cs : Scope} {ccd : Value} {cl : List (Str × Addr)} {news : List (Addr × Obj)}
    {tl : List (Addr × Obj)} {l f pa : Addr} {vals : List Value} {n : Nat} {xs : List Vec} {strict : Bool} {of op : Obj} {F : FD} {P : PD} {Q E : Value → Shared → Prop}
    (B : Below A₀ base out h₀) (FF : Fr h₀ L s.heap m) (N : News h₀ L s.heap ((f, of) :: (pa, op) :: news)) (X : (kgrab.heap_1 w.params).In h₀) (T : Top p loose mean mg mb h₀) (hck : cs.kind = .function)
    (hdp : dp + lim < recursionLimit) (hun : un + 8 * lim < cLine) (hT : ∀ q ∈ tl, h₀.get? q.1 = some q.2) (hl : (l, listOf vals.toArray n) ∈ tl) (hv : VecsIn tl vals xs 0) (hx : OkV xs) (hS : Sh xs)
    (hf3 : (f == sysModules) = false) (hp3 : (pa == sysModules) = false) (hfp : @Ne Nat f pa) (hne : ∀ q ∈ news, q.1 ≠ f ∧ q.1 ≠ pa)
    (hF : DObj P0 w ValIs of F) (hP : DObj P0 w PlIs op P) (hFl : F.length + 7 * xs.length ≤ bd) (hPl : P.length + 5 * xs.length ≤ bd)
    (ret : ∀ (h' : Heap) (tk' : Nat) (of' op' : Obj) (t : Tok) (c : Come) (F' : FD) (P' : PD), run strict outer xs 0 F P = (c, F', P') → Fr h₀ L h' m → News h₀ L h' ((f, of') :: (pa, op') :: news) → DObj P0 w ValIs of' F' → DObj P0 w PlIs op' P' → Q (.str c.str t) { s with heap := h', toks := tk' }) :
    wpAny (model P0 w) (gTop dp un gd (envX cn cs L a ccd cl :: out)) (call (.ref 148) [.ref l, .bool strict, .ref f, .ref pa, .bool outer]) Q E s := by
  obtain ⟨B', st, ks, hz, X', T', back⟩ := share (cn := cn) (cs := cs) (a := a) (ccd := ccd) (cl := cl) [f, pa] B FF N X T hck (fun b hb => by
    rcases List.mem_cons.mp hb with rfl | hb
    · exact .head _
    · rw [List.mem_singleton.mp hb]; exact .tail _ (.head _))
  have Nf := N _ (.head _)
  have Np := N _ (.tail _ (.head _))
  refine C _ _ _ _ _ _ _ _ tl l f pa vals n xs strict of op F P Q E B' ks hz X' T' hdp hun (fun q hq => st _ _ (hT q hq)) hl hv hx hS Nf.1 (hideAll_none _ (.head _)) hf3 Np.1 (hideAll_none _ (.tail _ (.head _))) hp3 hfp hF hP hFl hPl ?_
  intro h' tk' of' op' t c F' P' hr k' e1 e2 dF dP
  refine ret h' tk' of' op' t c F' P' hr (back h' k') ?_ dF dP
  intro q hq
  rcases List.mem_cons.mp hq with rfl | hq
  · exact ⟨e1, Nf.2⟩
  · rcases List.mem_cons.mp hq with rfl | hq
    · exact ⟨e2, Np.2⟩
    · have P := N q (.tail _ (.tail _ hq))
      refine ⟨k' _ _ (hideAll_get _ P.1 fun hm => ?_), P.2⟩
      rcases List.mem_cons.mp hm with e | hm
      · exact (hne q hq).1 e
      · exact (hne q hq).2 (List.mem_singleton.mp hm)
theorem okL_V {ls : List Leaf} (h : OkL ls) : OkV (ls.map Vec.leaf) := by
  refine ⟨fun x hx => ?_, by rw [List.length_map]; exact h.few, ?_⟩
  · obtain ⟨l, hl, rfl⟩ := List.mem_map.mp hx
    exact h.all l hl
  · have : (ls.map Vec.leaf).map Vec.gr = ls.map Leaf.gr := by rw [List.map_map]; rfl
    rw [this]; exact h.tight
theorem run_ssl {strict outer : Bool} {c ver : Int} {below : List Leaf} {gr : Int} {r : List Vec} {pl : Int} {F : FD} {P : PD} {cm : Come} {F' : FD} {P' : PD} (h : ¬ 0 < gr)
    (hr : run strict false (below.map Vec.leaf) 0 (put (put F (Str.ofString "SSL_CLIENT") (.int c)) (Str.ofString "SSL_VERIFY") (.int ver)) (put P (Str.ofString "SSL") (if outer then pl else -1)) = (cm, F', P')) :
    run strict outer (.ssl c ver below gr :: r) pl F P = match (cm, F', P') with
      | (.unknown, F', P') => (.unknown, F', P')
      | (.malformed, F', P') => (.malformed, put F' (Str.ofString "SSL") (.bool false), P')
      | (.whole, F', P') => run strict outer r (pl + (Vec.ssl c ver below gr).enc.length) (put F' (Str.ofString "SSL") (.bool true)) P' := by
  rw [run_leafs] at hr
  rw [run, if_neg h, hr]
  all_goals (cases cm <;> rfl)
theorem rot3 {α : Type} {a b c : α} {l : List α} : ∀ q ∈ b :: c :: [a], q ∈ a :: b :: c :: l := by
  intro q hq
  simp only [List.mem_cons, List.not_mem_nil, or_false] at hq ⊢
  rcases hq with h | h | h <;> simp [h]
theorem rot3b {α : Type} {a b c : α} : ∀ q ∈ a :: b :: [c], q ∈ b :: c :: [a] := by
  intro q hq
  simp only [List.mem_cons, List.not_mem_nil, or_false] at hq ⊢
  rcases hq with h | h | h <;> simp [h]
def NextMid (g : Heap) (L : Addr) (s : Shared) (kv : List (Str × Value)) (news : List (Addr × Obj)) (fl : Flow) (s' : Shared) : Prop := fl = .next ∧ Mid g L s kv news s'
theorem NextMid.mk {g : Heap} {L : Addr} {s s' : Shared} {kv : List (Str × Value)} {news : List (Addr × Obj)} (h : Mid g L s kv news s') : NextMid g L s kv news .next s' := ⟨rfl, h⟩
theorem rules_T3 : True := by
  k_with_none
  k_with "storeName" => (k_here; k_dflt (refine' storeM ?q99F ?q99N ?_ ?q99a ?q99b; (case q99F => k_asm); (case q99N => k_asm); (case q99a => rfl); (case q99b => rfl); k_whole); intro h' m' F' N'; (try k_sweep))
  k_with "execs cons" => (first | (k_here; k_gentoks) | ((with_reducible refine wpAny_execs_cons ?_); (try dsimp only); (try k_fold)))
  k_with "exec For" => (k_here; refine Stop.out ?_)
  k_with "exec For Tuple Name cons nil" => (k_here; refine Stop.out ?_)
  k_with "pyIter ref" => (k_here; refine Stop.out ?_)
  k_with "call ref" => (k_here; (with_reducible show wpAny _ _ (call (Value.ref 117) _) _ _ _); k_dflt (refine' tab_use names_call ?q4k1 ?q4k2 ?q4k3 ?q4k4 ?q4k5 rfl ?q4k6 ?_; (case q4k1 => k_asm); (case q4k2 => k_asm); (case q4k3 => k_asm); (case q4k4 => k_asm); (case q4k5 => k_asm); (case q4k6 => first | with_reducible assumption | ((try dsimp only [gTop] at *); omega))); intro D' o' h' tk' F' N' l1 lo' to'; (try k_lt l1); (try dsimp only))
  k_with "call ref" => (k_here; (with_reducible show wpAny _ _ (call (Value.ref 124) _) _ _ _); k_dflt (refine' tab_use unknown_call ?q5k1 ?q5k2 ?q5k3 ?q5k4 ?q5k5 rfl ?q5k6 ?_; (case q5k1 => k_asm); (case q5k2 => k_asm); (case q5k3 => k_asm); (case q5k4 => k_asm); (case q5k5 => k_asm); (case q5k6 => first | with_reducible assumption | ((try dsimp only [gTop] at *); omega))); intro D' o' h' tk' F' N' l1 lo' to'; (try k_lt l1); (try dsimp only))
  k_with "call ref" => (k_here; (with_reducible show wpAny _ _ (call (Value.ref 148) _) _ _ _); refine Stop.out ?_)
  k_with "compareOp In int ref" => (k_here; k_dflt (refine' r_unIn ?q7N ?q7m ?q7t ?q7l ?_; (case q7N => k_asm); (case q7m => k_memK); (case q7t => k_asm); (case q7l => k_asm)); (try dsimp only))
  k_with "subscriptTail" => (k_here; (with_reducible show wpAny _ _ (subscriptTail _ _ (Value.ref _) (Value.int _ _)) _ _ _); k_dflt (first
  | (refine' r_unItem ?q8N ?q8m ?q8t ?q8u ?_ ?q8a ?q8b; (case q8N => k_asm); (case q8m => k_memK); (case q8t => k_asm); (case q8u => k_asm); (case q8a => with_unfolding_all rfl); (case q8b => (intro _; with_unfolding_all rfl)))
  | (refine' r_knItem ?q8N ?q8m ?q8t ?q8u ?q8k ?_ ?q8a ?q8b; (case q8N => k_asm); (case q8m => k_memK); (case q8t => k_asm); (case q8u => k_asm); (case q8k => first | k_asm | exact leaf_known (by with_reducible assumption) (by with_reducible assumption)); (case q8a => with_unfolding_all rfl); (case q8b => (intro _; with_unfolding_all rfl)))); intro t'; (try dsimp only))
  k_with "subscriptTail Name Constant ref int" => (k_here; k_dflt (refine' r_itemG ?q9F ?q9T ?q9lo ?q9hi ?q9j ?q9x ?_ ?q9a; (case q9F => k_asm); (case q9T => k_asm); (case q9lo => decide); (case q9hi => decide); (case q9j => rfl); (case q9x => rfl); (case q9a => with_unfolding_all rfl)); (try dsimp only))
  k_with "setItem ref str" => (k_here; k_dflt (refine' r_set ?q10F ?q10N ?q10U ?q10o ?q10v ?q10z ?_; (case q10F => k_asm); (case q10N => k_asm); (case q10U => k_updF); (case q10o => k_asm); (case q10v => first | exact val_bytes (by assumption) | exact val_int | exact val_bool | exact pl_is); (case q10z => first | with_reducible assumption | omega)); intro h' o' F' N' do'; (try dsimp only at N'); (try dsimp only))
  k_with "exec If BoolOp" => (k_here; refine Stop.out ?_)
  k_with "eval IfExp" => (k_here; refine Stop.out ?_)
  trivial
set_option maxHeartbeats 8000000 in
theorem tell_step {w : World} {p : Program} {loose : List Str} {mean : ExcName → Option Value} {mg mb : Str → Option Value} {bd lim : Nat} {outer : Bool} {Sh : List Vec → Prop} (hbd : bd ≤ 1000)
    (H : TellSpec w p loose mean mg mb (bd + 100) lim false (fun xs => ∃ ls : List Leaf, xs = ls.map Vec.leaf) ∨ ∀ xs, Sh xs → ∃ ls : List Leaf, xs = ls.map Vec.leaf) :
    TellSpec w p loose mean mg mb bd (lim + 2) outer Sh := by
  intro A₀ base g out dp un gd s tl l f pa vals n xs strict of op F P Q E B hk hz X T hdp hun hT hl hv hx hSh hf1 hf2 hf3 hp1 hp2 hp3 hfp hF hP hFl hPl ret
  have hD2 : dp + 1 + 1 < recursionLimit := by omega
  refine wpAny_call ?_
  refine enter (news := [(f, of), (pa, op)]) B rfl hk hz (fun q hq => by
    rcases List.mem_cons.mp hq with rfl | hq
    · exact ⟨hf1, hf2⟩
    · rw [List.mem_singleton.mp hq]; exact ⟨hp1, hp2⟩) X T (by k_is) (by k_is) (by k_room) (BindsTo.of_eq rfl) (locs rfl) ?_
  intro L' h₁ F' N' B' l' hLs hLl
  (try k_lt l')
  (try dsimp only)
  try k_fold
  w_top on
  k_steps
  unfold Stop
  have hlist : g.IsList l vals.toArray := ⟨_, hT _ hl, rfl, _, rfl⟩
  rename Fr _ _ _ _ => F'
  rename News _ _ _ _ => N'
  refine For_turns F' ?_
  k_steps
  unfold Stop
  try dsimp only
  refine loop_list (TInv w bd strict outer xs f pa F P) rfl hlist F' N' ⟨F, P, of, op, rfl, rfl, rfl, rfl, rfl, hF, hP, by omega, by omega, rfl⟩ ?_ ?_
  · try clear F' N'
    rintro i v m₁ news₁ h tk I oI hvi ⟨F1, P1, of1, op1, e1, e2, e3, e4, rfl, hF1, hP1, hFl1, hPl1, hrun⟩ hne F₁ N₁
    have F₂ := knows [(Str.ofString "strict", .bool strict), (Str.ofString "fields", .ref f), (Str.ofString "places", .ref pa), (Str.ofString "outer", .bool outer)] F₁ (al1 e1 (al1 e2 (al1 e3 (al1 e4 al0))))
    clear F₁
    simp only [withL] at F₂
    rw [List.forall_mem_cons, List.forall_mem_cons] at hne
    obtain ⟨n1, n2, -⟩ := hne
    dsimp only at n1 n2
    replace n1 := neN n1; replace n2 := neN n2
    obtain ⟨x, hv', hdrop, hxm, ⟨a, b, t1, t2, t3, rfl, hta, hb⟩, hold⟩ := hv.at i v hvi
    have htup : IsTup g a (List.toArray [Value.int x.kind t1, .bytes b t2, hv', .bool (decide (0 < x.gr)), .int (0 + ((enc (xs.take i)).length : Nat)) t3]) := ⟨_, hT _ hta, rfl, _, rfl⟩
    have hix : i < xs.length := by
      have := congrArg List.length hdrop
      rw [List.length_drop, List.length_cons] at this
      omega
    have zF1 : F1.length ≤ 16777216 := sz0 hFl1 hbd
    have zP1 : P1.length ≤ 16777216 := sz0 hPl1 hbd
    cases x with
    | leaf lf =>
      obtain rfl : hv' = Value.none := hold
      clear hta
      dsimp only [Vec.kind, Vec.gr, Vec.val] at hb htup
      rw [Int.zero_add] at htup
      have hok := hx.all _ hxm
      have hkk : lf.kind ∈ leafKinds := hok.kind
      k_steps
      · rename decide (0 < lf.gr) = true => hg
        rename Fr _ _ _ _ => F'
        rename News _ _ _ _ => N'
        try dsimp only
        exact ret _ _ of1 op1 _ .malformed F1 P1 (by rw [hrun, hdrop]; exact run_gr (of_decide_eq_true hg)) F'.keep (N' _ (.tail _ (.head _))).1 (N' _ (.tail _ (.tail _ (.head _)))).1 hF1 hP1
      · unfold Stop
        rename decide (0 < lf.gr) = false => hg
        refine wpAny_mono (Q := fun fl s' => (fl = .next ∧ (isUn lf.kind && strict) = false ∧ Mid g L' s [(Str.ofString "place", Value.int ((enc (xs.take i)).length : Nat) t3), (Str.ofString "holds", .none), (Str.ofString "value", .bytes b t2), (Str.ofString "kind", .int lf.kind t1), (Str.ofString "strict", .bool strict), (Str.ofString "fields", .ref f), (Str.ofString "places", .ref pa), (Str.ofString "outer", .bool outer)] [(I, oI), (f, of1), (pa, op1)] s') ∨
          ((∃ t, fl = .ret (.str (Str.ofString "unknown") t)) ∧ (isUn lf.kind && strict) = true ∧ Mid g L' s [] [(I, oI), (f, of1), (pa, op1)] s')) ?_ ?_ (fun _ _ x => x)
        · refine wpAny_If ?_
          k_steps
          all_goals (rename Fr _ _ _ _ => F'; rename News _ _ _ _ => N'; try dsimp only)
          · rename strict = true => hs
            rename isUn lf.kind = true => hu
            exact .inr ⟨⟨_, rfl⟩, by rw [hu, hs]; rfl, Mid.intro F' N' (sub_t sub_same) al0⟩
          · rename strict = false => hs
            exact .inl ⟨rfl, by rw [hs, Bool.and_false], Mid.intro F' N' (sub_t sub_same) (al1 rfl (al1 rfl (al1 rfl (al1 rfl (al1 rfl (al1 rfl (al1 rfl (al1 rfl al0))))))))⟩
          · rename isUn lf.kind = false => hu
            exact .inl ⟨rfl, by rw [hu, Bool.false_and], Mid.intro F' N' (sub_t sub_same) (al1 rfl (al1 rfl (al1 rfl (al1 rfl (al1 rfl (al1 rfl (al1 rfl (al1 rfl al0))))))))⟩
        · rintro fl s' (⟨rfl, hns, hm⟩ | ⟨⟨t, rfl⟩, hu, hm⟩)
          · obtain ⟨h2, tk2, m2, rfl, F2, N2⟩ := hm.out
            simp only [withL] at F2
            try dsimp only
            k_steps
            unfold Stop
            refine wpAny_mono (Q := StrMid (nameOf lf.kind) g L' s [(Str.ofString "place", Value.int ((enc (xs.take i)).length : Nat) t3), (Str.ofString "holds", .none), (Str.ofString "value", .bytes b t2), (Str.ofString "kind", .int lf.kind t1), (Str.ofString "strict", .bool strict), (Str.ofString "fields", .ref f), (Str.ofString "places", .ref pa), (Str.ofString "outer", .bool outer)] [(I, oI), (f, of1), (pa, op1)]) ?_ ?_ (fun _ _ x => x)
            · refine wpAny_IfExp ?_
              k_steps
              all_goals (rename Fr _ _ _ _ => F'; rename News _ _ _ _ => N'; try dsimp only)
              all_goals refine StrMid.mk rfl (Mid.intro F' N' (sub_t (sub_t sub_same)) ?_)
              all_goals exact al1 rfl (al1 rfl (al1 rfl (al1 rfl (al1 rfl (al1 rfl (al1 rfl (al1 rfl (al0))))))))
            · rintro v s' ⟨⟨tn, rfl⟩, hm⟩
              obtain ⟨h2, tk2, m2, rfl, F2, N2⟩ := hm.out
              simp only [withL] at F2
              try dsimp only
              k_steps
              unfold Stop
              refine wpAny_mono (Q := IntMid (if outer then ((enc (xs.take i)).length : Nat) else -1) g L' s [(Str.ofString "name", .str (nameOf lf.kind) tn), (Str.ofString "holds", .none), (Str.ofString "value", .bytes b t2), (Str.ofString "strict", .bool strict), (Str.ofString "fields", .ref f), (Str.ofString "places", .ref pa), (Str.ofString "outer", .bool outer)] [(I, oI), (f, of1), (pa, op1)]) ?_ ?_ (fun _ _ x => x)
              · refine wpAny_IfExp ?_
                k_steps
                all_goals (rename Fr _ _ _ _ => F'; rename News _ _ _ _ => N'; rename outer = _ => ho; try dsimp only)
                all_goals exact IntMid.mk (by rw [ho]; rfl) (Mid.intro F' N' sub_same (al1 rfl (al1 rfl (al1 rfl (al1 rfl (al1 rfl (al1 rfl (al1 rfl al0))))))))
              · rintro v s' ⟨⟨tp, rfl⟩, hm⟩
                obtain ⟨h2, tk2, m2, rfl, F2, N2⟩ := hm.out
                simp only [withL] at F2
                try dsimp only
                k_steps
                rename Fr _ _ _ _ => F'
                rename News _ _ _ _ => N'
                rename DObj _ _ ValIs _ (put _ _ _) => dF
                rename DObj _ _ PlIs _ (put _ _ _) => dP
                try dsimp only
                have l1 := put_length F1 (nameOf lf.kind) (DV.bytes lf.val)
                have l2 := put_length P1 (nameOf lf.kind) (if outer then ((enc (xs.take i)).length : Int) else -1)
                refine EndG.intro F' N' (al1 n1 (al1 n2 al0)) ⟨_, _, _, _, rfl, rfl, rfl, rfl, rfl, dF, dP, bd7 hFl1 hix (one7 l1), bd5 hPl1 hix (one5 l2), ?_⟩
                rw [hrun, hdrop, run_on (of_decide_eq_false hg) hns, enc_take_succ hdrop]
                rfl
          · obtain ⟨h2, tk2, m2, rfl, F2, N2⟩ := hm.out
            try dsimp only
            exact ret _ _ of1 op1 _ .unknown F1 P1 (by rw [hrun, hdrop]; exact run_un (of_decide_eq_false hg) hu) F2.keep (N2 _ (.tail _ (.head _))).1 (N2 _ (.tail _ (.tail _ (.head _)))).1 hF1 hP1
    | ssl c ver below gr =>
      obtain ⟨a2, l2, u1, u2, vals2, nv2, rfl, ha2, hl2, hL2⟩ := hold
      have htup2 : IsTup g a2 (List.toArray [Value.int c u1, .int ver u2, .ref l2]) := ⟨_, hT _ ha2, rfl, _, rfl⟩
      clear hta
      dsimp only [Vec.kind, Vec.gr] at htup
      rw [Int.zero_add] at htup
      rcases H with H | H
      case inr =>
        obtain ⟨ls, rfl⟩ := H xs hSh
        obtain ⟨q, hq, e⟩ := List.mem_map.mp hxm
        cases e
      have hun : isUn 32 = false := ssl_notUn
      have lc := put_length F1 (Str.ofString "SSL_CLIENT") (DV.int c)
      have zc1 : (put F1 (Str.ofString "SSL_CLIENT") (DV.int c)).length ≤ 16777216 := sz1 hFl1 hbd lc
      have lv := put_length (put F1 (Str.ofString "SSL_CLIENT") (DV.int c)) (Str.ofString "SSL_VERIFY") (DV.int ver)
      have hkn := ssl_known
      k_steps
      · rename decide (0 < gr) = true => hg
        rename Fr _ _ _ _ => F'
        rename News _ _ _ _ => N'
        try dsimp only
        exact ret _ _ of1 op1 _ .malformed F1 P1 (by rw [hrun, hdrop]; exact run_gr (of_decide_eq_true hg)) F'.keep (N' _ (.tail _ (.head _))).1 (N' _ (.tail _ (.tail _ (.head _)))).1 hF1 hP1
      · unfold Stop
        rename decide (0 < gr) = false => hg
        refine wpAny_mono (Q := NextMid g L' s [(Str.ofString "place", Value.int ((enc (xs.take i)).length : Nat) t3), (Str.ofString "holds", .ref a2), (Str.ofString "kind", .int 32 t1), (Str.ofString "strict", .bool strict), (Str.ofString "fields", .ref f), (Str.ofString "places", .ref pa), (Str.ofString "outer", .bool outer)] [(I, oI), (f, of1), (pa, op1)]) ?_ ?_ (fun _ _ x => x)
        · refine wpAny_If ?_
          k_steps
          all_goals (rename Fr _ _ _ _ => F'; rename News _ _ _ _ => N'; try dsimp only)
          all_goals first
            | exact absurd (show isUn 32 = true by assumption) (by rw [hun]; exact Bool.false_ne_true)
            | exact NextMid.mk (Mid.intro F' N' (sub_t sub_same) (al1 rfl (al1 rfl (al1 rfl (al1 rfl (al1 rfl (al1 rfl (al1 rfl (al0)))))))))
        · rintro fl s' ⟨rfl, hm⟩
          obtain ⟨h2, tk2, m2, rfl, F2, N2⟩ := hm.out
          simp only [withL] at F2
          try dsimp only
          k_steps
          unfold Stop
          refine wpAny_mono (Q := StrMid (nameOf 32) g L' s [(Str.ofString "place", Value.int ((enc (xs.take i)).length : Nat) t3), (Str.ofString "holds", .ref a2), (Str.ofString "strict", .bool strict), (Str.ofString "fields", .ref f), (Str.ofString "places", .ref pa), (Str.ofString "outer", .bool outer)] [(I, oI), (f, of1), (pa, op1)]) ?_ ?_ (fun _ _ x => x)
          · refine wpAny_IfExp ?_
            k_steps
            all_goals (rename Fr _ _ _ _ => F'; rename News _ _ _ _ => N'; try dsimp only)
            all_goals first
              | exact absurd (show isUn 32 = true by assumption) (by rw [hun]; exact Bool.false_ne_true)
              | exact StrMid.mk rfl (Mid.intro F' N' (sub_t (sub_t sub_same)) (al1 rfl (al1 rfl (al1 rfl (al1 rfl (al1 rfl (al1 rfl (al0))))))))
          · rintro v s' ⟨⟨tn, rfl⟩, hm⟩
            obtain ⟨h2, tk2, m2, rfl, F2, N2⟩ := hm.out
            simp only [withL] at F2
            rw [ssl_name]
            try dsimp only
            k_steps
            unfold Stop
            refine wpAny_mono (Q := IntMid (if outer then ((enc (xs.take i)).length : Nat) else -1) g L' s [(Str.ofString "name", .str (Str.ofString "SSL") tn), (Str.ofString "holds", .ref a2), (Str.ofString "strict", .bool strict), (Str.ofString "fields", .ref f), (Str.ofString "places", .ref pa), (Str.ofString "outer", .bool outer)] [(I, oI), (f, of1), (pa, op1)]) ?_ ?_ (fun _ _ x => x)
            · refine wpAny_IfExp ?_
              k_steps
              all_goals (rename Fr _ _ _ _ => F'; rename News _ _ _ _ => N'; rename outer = _ => ho; try dsimp only)
              all_goals exact IntMid.mk (by rw [ho]; rfl) (Mid.intro F' N' sub_same (al1 rfl (al1 rfl (al1 rfl (al1 rfl (al1 rfl (al1 rfl (al0))))))))
            · rintro v s' ⟨⟨tp, rfl⟩, hm⟩
              obtain ⟨h2, tk2, m2, rfl, F2, N2⟩ := hm.out
              simp only [withL] at F2
              try dsimp only
              k_steps
              unfold Stop
              rename Fr _ _ _ _ => F'
              rename News _ _ _ _ => N'
              rename DObj _ _ ValIs _ (put _ _ _) => dF
              rename DObj _ _ PlIs _ (put _ _ _) => dP
              have lp := put_length P1 (Str.ofString "SSL") (if outer then ((enc (xs.take i)).length : Int) else -1)
              have okb := hx.all _ hxm
              have fewb : (below.map Vec.leaf).length ≤ 4 := by rw [List.length_map]; exact okb.2.2.2.2.1.few
              refine tell_use H B' F' (news := [(I, oI)]) (xs := below.map Vec.leaf) (news_sub N' rot3) X T rfl (by k_room) (by k_units) hT hl2 (vecs_of hL2) (okL_V okb.2.2.2.2.1) ⟨_, rfl⟩ hf3 hp3 hfp (al1 ⟨Ne.symm n1, Ne.symm n2⟩ al0) dF dP (in7 hFl1 lc lv hbd fewb) (in5 hPl1 lp hbd fewb) ?_
              intro h3 tk3 of3 op3 t3' cm F3 P3 hr3 Fr3 Nw3 dF3 dP3
              have e3' := run_ssl (r := xs.drop (i + 1)) (of_decide_eq_false hg) hr3
              rw [← hdrop] at e3'
              rw [run_leafs] at hr3
              have hl3 := runL_len _ _ _ _ _ _ _ hr3
              have fewc := okb.2.2.2.2.1.few
              have zF3 : F3.length ≤ 16777216 := sz3 hFl1 hbd lc lv hl3.1 fewc
              clear F' N' dF dP
              cases cm with
              | whole =>
                dsimp only [Come.str] at e3' ⊢
                k_steps
                rename Fr _ _ _ _ => F'
                rename News _ _ _ _ => N'
                rename DObj _ _ ValIs _ (put _ _ _) => dF
                try dsimp only
                have l1 := put_length F3 (Str.ofString "SSL") (DV.bool true)
                refine EndG.intro F' (news_sub N' rot3b) (al1 n1 (al1 n2 al0)) ⟨put F3 (Str.ofString "SSL") (DV.bool true), P3, _, _, rfl, rfl, rfl, rfl, rfl, dF, dP3, bd7 hFl1 hix (chain7 l1 hl3.1 fewc lv lc), bd5 hPl1 hix (chain5 hl3.2 fewc lp), ?_⟩
                rw [hrun, e3', enc_take_succ hdrop]
              | malformed =>
                dsimp only [Come.str] at e3' ⊢
                k_steps
                rename Fr _ _ _ _ => F'
                rename News _ _ _ _ => N'
                rename DObj _ _ ValIs _ (put _ _ _) => dF
                try dsimp only
                exact ret _ _ _ _ _ .malformed _ _ (hrun.trans e3') F'.keep (N' _ (.head _)).1 (N' _ (.tail _ (.head _))).1 dF dP3
              | unknown =>
                dsimp only [Come.str] at e3' ⊢
                k_steps
                rename Fr _ _ _ _ => F'
                rename News _ _ _ _ => N'
                try dsimp only
                exact ret _ _ _ _ _ .unknown _ _ (hrun.trans e3') F'.keep (N' _ (.head _)).1 (N' _ (.tail _ (.head _))).1 dF3 dP3
  · try clear F' N'
    rintro m₁ news₁ h tk ⟨F1, P1, of1, op1, e1, e2, e3, e4, rfl, hF1, hP1, hFl1, hPl1, hrun⟩ F₁ N₁
    k_steps
    rename Fr _ _ _ _ => F'
    rename News _ _ _ _ => N'
    try dsimp only
    refine ret _ _ of1 op1 _ .whole F1 P1 ?_ F'.keep (N' _ (.head _)).1 (N' _ (.tail _ (.head _))).1 hF1 hP1
    rw [hrun, hv.length, List.drop_length]
    rfl
theorem tell_inner {w : World} {p : Program} {loose : List Str} {mean : ExcName → Option Value} {mg mb : Str → Option Value} : TellSpec w p loose mean mg mb 1000 2 false (fun xs => ∃ ls : List Leaf, xs = ls.map Vec.leaf) :=
  tell_step (lim := 0) (Nat.le_refl _) (.inr fun _ h => h)
theorem tell_outer {w : World} {p : Program} {loose : List Str} {mean : ExcName → Option Value} {mg mb : Str → Option Value} : TellSpec w p loose mean mg mb 900 4 true (fun _ => True) :=
  tell_step (lim := 2) (by decide) (.inl tell_inner)
end Mine
end
section
open PySem PySem.W PySem.Calls PyProof.Rows PySem.Spec
namespace Mine
def Trc (h B : Heap) (e : Addr) (cls a0 : Value) (L : Addr) : Prop :=
  h.TracedAtW B e cls a0 .none ∨ h.TracedAtW B e cls a0 (rawInt L) ∨ ∃ oe vs, h.get? e = some oe ∧ oe.cls = cls ∧ oe.data = .fields vs ∧ vs[1]? = some .none ∧ vs[0]? = some a0
structure Way (B : Heap) (l : List Env) (e : Addr) (cls a0 : Value) (L : Addr) (h : Heap) : Prop where
  stays : B.StaysIn h
  new : B.get? e = none
  frames : h.FunFrames B l
  trc : Trc h B e cls a0 L
theorem Way.fly {B h : Heap} {l : List Env} {e L : Addr} {cls a0 : Value} (x : Heap.FlyingW B l e cls a0 h) : Way B l e cls a0 L h := ⟨x.1, x.2.1, x.2.2.1, .inl x.2.2.2.at⟩
theorem Way.held {B h : Heap} {l : List Env} {e L : Addr} {cls a0 : Value} (x : Heap.HeldW B l e cls a0 L h) : Way B l e cls a0 L h := ⟨x.1, x.2.1, x.2.2.1, .inr (.inl x.2.2.2)⟩
section
variable {M : Model} {A A' : Around} {E : Value → Shared → Prop} {s : Shared} {B : Heap} {env : Env} {outer : List Env} {L e : Addr} {cls a0 : Value}
theorem x_note {Q : Unit → Shared → Prop} (W : Way B (env :: outer) e cls a0 L s.heap) (hfr : A.frames = some (env :: outer)) (hf : env.frame = some L)
    (k : ∀ h', Heap.HeldW B (env :: outer) e cls a0 L h' → s.heap.UpToSlots h' → Q () { s with heap := h' }) : wpAny M A (noteFrame (.ref e) env) Q E s := by
  obtain ⟨st, hn, fr, ht | ht | ⟨oe, vs, he, hc, hd, h1, h0⟩⟩ := W
  · exact wpAny_noteFrame_onW hfr fr hf ht st hn fun h' ⟨k1, k2, k3, k4⟩ => k h' ⟨k1, hn, k2, k3⟩ k4
  · exact wpAny_noteFrame_againW hf ht (k s.heap ⟨st, hn, fr, ht⟩ (Heap.UpToSlots.refl _))
  · unfold noteFrame
    simp only [hf]
    refine wpAny_bind (wpAny_field he hd h1 ?_)
    rw [if_neg (by decide)]
    refine wpAny_entryW hfr fr hf he st hn hd (Array.getElem?_eq_some_iff.mp h1).1 h0 fun h' ⟨k1, k2, k3, k4⟩ => k h' ⟨k1, hn, k2, by rw [← hc]; exact k3⟩ k4
theorem x_leave {Q : Unit → Shared → Prop} (W : Way B (env :: outer) e cls a0 L s.heap) (hfr : A.frames = some (env :: outer)) (hf : env.frame = some L)
    (k : ∀ h', Heap.FlyingW B outer e cls a0 h' → s.heap.UpToSlots h' → Q () { s with heap := h' }) : wpAny M A (leaving env (.ref e)) Q E s := by
  unfold leaving
  refine wpAny_bind (x_note W hfr hf fun h' hh hs => ?_)
  refine wpAny_landsW hh fun h'' hfl hs' => ?_
  obtain ⟨k1, k2, ⟨_, _, k3⟩, k4⟩ := hfl
  exact k h'' ⟨k1, k2, k3, k4⟩ (hs.trans hs')
def XE (base g : Heap) (outer : List Env) (env : Env) (L : Addr) (s₀ : Shared) (X : Value → List (Addr × Obj) → Prop) (v : Value) (s' : Shared) : Prop :=
  ∃ e h' tk' cls a0 news B, v = .ref e ∧ s' = { s₀ with heap := h', toks := tk' } ∧ X cls news ∧ g.UpToSlots h' ∧ base.StaysIn B ∧ (∀ b o, g.get? b = some o → b ∉ outer.filterMap (·.frame) → B.get? b = some o) ∧
    (∀ q ∈ news, B.get? q.1 = some q.2 ∧ g.get? q.1 = none ∧ base.get? q.1 = none) ∧ Way B (env :: outer) e cls a0 L h'
variable {base g : Heap} {s₀ : Shared} {X : Value → List (Addr × Obj) → Prop}
theorem XE.at (hA : A.frames = some (env :: outer)) (hf : env.frame = some L) : PassesOwnAt M A A' env (XE base g outer env L s₀ X) := by
  rintro v s' ⟨e, h', tk', cls, a0, news, B, rfl, rfl, hX, hg, hB, hG, hn, W⟩
  refine x_note (s := { s₀ with heap := h', toks := tk' }) W hA hf fun h2 hh hs => ?_
  have hh' := hh
  obtain ⟨k1, k2, k3, oe, vs, T, oT, ts, he, hc, hd, h1, hnT, hTe, hT, hdT, h3⟩ := hh'
  unfold cameBackBy
  refine wpAny_bind (wpAny_field he hd h1 ?_)
  rw [if_neg (by simp)]
  rw [hf]
  have hsz3 : 3 < ts.size := (Array.getElem?_eq_some_iff.mp h3).1
  have other : ∀ b, b ≠ T → (h2.update T (Obj.mapFields (·.setIfInBounds 3 ((some L).elim Value.none fun f => rawInt f)))).get? b = h2.get? b := fun b hb => Heap.get?_update_other _ _ (Ne.symm hb)
  have noRecord : ∀ b o, h2.get? b = some o → (∀ vs, o.data ≠ .fields vs) → b ≠ T := fun b o hb hnf q => by
    rw [q, hT] at hb; injection hb with hb; subst hb; exact hnf ts hdT
  unfold setFlight
  refine wpAny_bind (wpAny_field he hd h1 ?_)
  rw [if_pos (show (Value.ref T != Value.none) = true from by simp)]
  refine wpAny_setField hT hdT hsz3 ⟨e, _, tk', cls, a0, news, B, rfl, rfl, hX, (hg.trans hs).trans fun b o hb hnf => ⟨o.slots, (other b (noRecord b o hb hnf)).trans hb⟩, hB, hG, hn,
    fun b o hbo => (other b fun q => by rw [q, hnT] at hbo; cases hbo).trans (k1 b o hbo), k2, k3.of_keeps fun b o hb hnf => ⟨o, (other b (noRecord b o hb hnf)).trans hb, rfl⟩, .inr (.inl ?_)⟩
  exact ⟨oe, vs, T, _, _, (other e (Ne.symm hTe)).trans he, hc, hd, h1, hnT, hTe, Heap.get?_update_self _ hT (Obj.isFreed_of_fields (Obj.data_mapFields hdT _)), Obj.data_mapFields hdT _, by simp [hsz3]⟩
theorem XE.own (hA : A.frames = some (env :: outer)) (hf : env.frame = some L) : PassesOwn M A env (XE base g outer env L s₀ X) := XE.at hA hf
theorem XE.leaves {R : Value → Shared → Prop} {v : Value} {s' : Shared} (h : XE base g outer env L s₀ X v s') (hA : A.frames = some (env :: outer)) (hf : env.frame = some L)
    (k : ∀ e h' tk' cls news, X cls news → RaisedSN base g outer e cls news h' → g.UpToSlots h' → R (.ref e) { s₀ with heap := h', toks := tk' }) :
    wpAny M A (leaving env v) (fun _ s'' => R v s'') E s' := by
  obtain ⟨e, h', tk', cls, a0, news, B, rfl, rfl, hX, hg, hB, hG, hn, W⟩ := h
  refine x_leave (s := { s₀ with heap := h', toks := tk' }) W hA hf fun h2 hfl hs => ?_
  exact k e h2 tk' cls news hX ⟨B, a0, hB, hG, hn, hfl⟩ (hg.trans hs)
end
section
variable {A₀ : Around} {base g G B h₅ : Heap} {outer : List Env} {env : Env} {L : Addr} {m : Str → Option Value}
theorem x_mem {b : Addr} (hf : env.frame = some L) (hm : b ∈ (env :: outer).filterMap (·.frame)) : b = L ∨ b ∈ outer.filterMap (·.frame) := by
  rw [List.filterMap_cons, hf] at hm
  exact List.mem_cons.mp hm
theorem x_out {b : Addr} (hf : env.frame = some L) (hm : b ∈ outer.filterMap (·.frame)) : b ∈ (env :: outer).filterMap (·.frame) := by
  rw [List.filterMap_cons, hf]
  exact .tail _ hm
theorem x_ground (hf : env.frame = some L) (K : Below A₀ base outer g) (F : Fr g L G m) (hBG : ∀ b o, G.get? b = some o → b ∉ (env :: outer).filterMap (·.frame) → B.get? b = some o) (hBh : B.StaysIn h₅) (hsm : G.UpToSlots h₅) :
    ∃ g', KtsTurn (outer.filterMap (·.frame)) g g' ∧ Fr g' L h₅ m ∧ Below A₀ base outer g' := by
  have nL : ∀ b o, g.get? b = some o → b ≠ L := fun b o e q => by rw [q, kts_self F] at e; cases e
  obtain ⟨T, S⟩ := kts_turn_at (h := h₅) (fs := outer.filterMap (·.frame)) (g := g)
    (fun b hb => by
      obtain ⟨_, o, ho, _⟩ := K.frames.mem hb
      exact ⟨o, ho⟩)
    (fun b o e nm => hBh b o (hBG b o (F.keep b o e) (fun hm => (x_mem hf hm).elim (nL b o e) nm)))
    (fun b o e hm => by
      obtain ⟨_, o', ho', hd⟩ := K.frames.mem hm
      rw [e] at ho'
      cases ho'
      exact hsm b o (F.keep b o e) hd)
  refine ⟨_, T, ⟨hsm.ns F.ns, S, by rw [T.size]; exact F.above⟩, ⟨K.stack, fun b o e => T.other b o (K.stays b o e) (fun hm => by
    rw [(K.frames.mem hm).1] at e
    cases e), K.frames.of_keeps fun b o e _ => ?_⟩⟩
  obtain ⟨sl, hs⟩ := T.up e
  exact ⟨_, hs, rfl⟩
end
def ExcAt (cls : Value) (oe oT : Obj) (T : Addr) : Prop := ∃ vs ts a0, oe.cls = cls ∧ oe.data = .fields vs ∧ vs[0]? = some a0 ∧ vs[1]? = some (.ref T) ∧ oT.data = .fields ts ∧ ts[3]? = some .none
section
variable {prog : Program} {w : World} {A A₀ : Around} {E : Value → Shared → Prop} {s : Shared} {base g g₀ G : Heap} {outer : List Env} {env : Env} {L e : Addr} {m : Str → Option Value} {cls : Value} {news kp : List (Addr × Obj)} {KF : Frag}
  {p : Program} {loose : List Str} {mean : ExcName → Option Value} {mg mb : Str → Option Value} {t : PySem.Expr} {b₀ : Stmt} {suite : List Stmt} {pos : Pos} {rest : List ExceptHandler} {C : Value} {Q : Flow → Shared → Prop}
theorem x_fresh {b : Addr} {o : Obj} {B h₅ : Heap} (hf : env.frame = some L) (K : Below A₀ base outer g) (F : Fr g L G m) (hBG : ∀ b o, G.get? b = some o → b ∉ (env :: outer).filterMap (·.frame) → B.get? b = some o) (hsm : G.UpToSlots h₅)
    (hb : B.get? b = none) (ho : h₅.get? b = some o) {vs : Array Value} (hd : o.data = .fields vs) : g.get? b = none := by
  cases q : g.get? b with
  | none => rfl
  | some o' =>
    by_cases hm : b ∈ outer.filterMap (·.frame)
    · obtain ⟨_, o'', ho'', hnf⟩ := K.frames.mem hm
      rw [q] at ho''
      cases ho''
      obtain ⟨sl, hs⟩ := hsm _ _ (F.keep _ _ q) hnf
      rw [ho] at hs
      cases hs
      exact absurd hd (hnf vs)
    · have := hBG b o' (F.keep b o' q) (fun hm' => (x_mem hf hm').elim (fun z => by rw [z, kts_self F] at q; cases q) hm)
      rw [hb] at this
      cases this
theorem x_hit (R : RaisedSN base G (env :: outer) e cls news s.heap) (hA : A.frames = some (env :: outer)) (hf : env.frame = some L) (F : Fr g L G m) (K : Below A₀ base outer g) (hsm : G.UpToSlots s.heap) (XB : KF.In base) (TB : Top p loose mean mg mb base)
    (T0 : KtsTurn (outer.filterMap (·.frame)) g₀ g) (D : KtsDicts (outer.filterMap (·.frame)) g) (Nk : News g L G kp)
    (hev : ∀ {A E Q} {g' : Heap} {s : Shared}, Fr g' L s.heap m → KF.In g' → TopRead p loose mg mb g' → Q C s → wpAny (model prog w) A (eval t env) Q E s)
    (hx : exmOne KF cls C = some true) (hE : PassesOwnAt (model prog w) (A.mark (some (.ref e))) A env E)
    (k : ∀ h' g' oe oT T, KtsTurn (outer.filterMap (·.frame)) g₀ g' → Fr g' L h' m → News g' L h' ((e, oe) :: (T, oT) :: (news ++ kp)) → ExcAt cls oe oT T → (∀ q ∈ news ++ kp, q.1 ≠ e ∧ q.1 ≠ T) → T ≠ e → Below A₀ base outer g' → KF.In g' → Top p loose mean mg mb g' → KtsDicts (outer.filterMap (·.frame)) g' →
      wpAny (model prog w) (A.mark (some (.ref e))) (execs (b₀ :: suite) env) Q E { s with heap := h' }) :
    wpAny (model prog w) A (noteFrame (.ref e) env) (fun _ s₂ => wpAny (model prog w) A (setFlight (.ref e) none) (fun _ s₃ =>
      wpAny (model prog w) A (handleBy (.ref e) env (.ExceptHandler (some t) none (b₀ :: suite) pos :: rest)) Q E s₃) E s₂) E s := by
  obtain ⟨B, a0, hB, hBG, hl, hfl⟩ := R
  have hL : B.get? L = none := by
    obtain ⟨_, ⟨L', _, hf', hn', _⟩, _⟩ := hfl.2.2.1
    rw [hf] at hf'
    obtain rfl : L = L' := Option.some.inj hf'
    exact hn'
  refine wpAny_looks_onW hA hf hfl fun h₄ hheld₄ hsm₄ => ?_
  refine wpAny_landsW hheld₄ fun h₅ hheld hsm₅' => ?_
  have hsm₅ := hsm.trans (hsm₄.trans hsm₅')
  obtain ⟨g₅, T₅, F₅, K₅⟩ := x_ground hf K F hBG hheld.1 hsm₅
  have X₅ : KF.In g₅ := XB.keeps K₅.stays
  have hty : Looks (model prog w) h₅ (typeOf (.ref e)) cls := by
    obtain ⟨ob, hob, hc⟩ := hheld.there
    subst hc
    exact (Looks.ld hob).andThen .now
  refine wpAny_handleBy_cons (codeAny_handlers_test (hev (s := { s with heap := h₅ }) F₅ X₅ (topRead_of (TB.keeps K₅.stays)) ?_)) (by intro q; cases q)
  refine (exm_one (X₅.keeps F₅.keep) hty hx) _ _ _ _ (fun _ _ e => e) (codeAny_handlers_suite ?_)
  refine lands_againW hheld fun h₆ hfl₆ hsm₆ => ?_
  have hsm6 := hsm₅.trans hsm₆
  obtain ⟨g₆, T₆, F₆, K₆⟩ := x_ground hf K F hBG hfl₆.1 hsm6
  have hfl6 := hfl₆
  obtain ⟨k1, k2, k3, oe, vs, T, oT, ts, he, hc, hd, h1, hnT, hTe, hT, hdT, h3⟩ := hfl6
  have neL : ∀ b, B.get? b = none → (∃ o vs, h₆.get? b = some o ∧ o.data = .fields vs) → b ≠ L := fun b _ ⟨o, vs, ho, hd⟩ q => by
    obtain ⟨oL, es, ep, hL6, hLd, _⟩ := F₆.ns
    rw [q, hL6] at ho
    cases ho
    rw [hLd] at hd; cases hd
  have hk6 : ∀ q ∈ news ++ kp, B.get? q.1 = some q.2 ∧ g₆.get? q.1 = none := fun q hq => by
    rcases List.mem_append.mp hq with hq | hq
    · exact ⟨(hl q hq).1, T₆.none_ _ (kts_none F.keep (hl q hq).2.1)⟩
    · have P := Nk q hq
      refine ⟨hBG _ _ P.1 fun hm => ?_, T₆.none_ _ P.2.2⟩
      rcases x_mem hf hm with z | z
      · exact P.2.1 z
      · obtain ⟨_, o, ho, _⟩ := K.frames.mem z
        rw [P.2.2] at ho; cases ho
  refine wpAny_passesOwnAt hE (k h₆ g₆ oe oT T (T0.trans T₆) F₆ (fun q hq => ?_) ⟨vs, ts, a0, hc.1, hd, hc.2, h1, hdT, h3⟩ (fun q hq => ⟨fun z => ?_, fun z => ?_⟩) hTe K₆ (XB.keeps K₆.stays) (TB.keeps K₆.stays) (D.turn T₆))
  · rcases List.mem_cons.mp hq with rfl | hq
    · exact ⟨he, neL _ k2 ⟨_, _, he, hd⟩, T₆.none_ _ (x_fresh hf K F hBG hsm6 k2 he hd)⟩
    · rcases List.mem_cons.mp hq with rfl | hq
      · exact ⟨hT, neL _ hnT ⟨_, _, hT, hdT⟩, T₆.none_ _ (x_fresh hf K F hBG hsm6 hnT hT hdT)⟩
      · have P := hk6 q hq
        exact ⟨k1 _ _ P.1, (fun z => by have := P.1; rw [z, hL] at this; cases this), P.2⟩
  · have := (hk6 q hq).1; rw [z, k2] at this; cases this
  · have := (hk6 q hq).1; rw [z, hnT] at this; cases this
theorem x_miss (R : RaisedSN base G (env :: outer) e cls news s.heap) (hA : A.frames = some (env :: outer)) (hf : env.frame = some L) (F : Fr g L G m) (K : Below A₀ base outer g) (hsm : G.UpToSlots s.heap) (XB : KF.In base) (TB : Top p loose mean mg mb base)
    (hev : ∀ {A E Q} {g' : Heap} {s : Shared}, Fr g' L s.heap m → KF.In g' → TopRead p loose mg mb g' → Q C s → wpAny (model prog w) A (eval t env) Q E s)
    (hx : exmOne KF cls C = some false)
    (k : ∀ h' a0 B, base.StaysIn B → (∀ b o, G.get? b = some o → b ∉ (env :: outer).filterMap (·.frame) → B.get? b = some o) → (∀ q ∈ news, B.get? q.1 = some q.2 ∧ G.get? q.1 = none ∧ base.get? q.1 = none) → Heap.HeldW B (env :: outer) e cls a0 L h' → G.UpToSlots h' → E (.ref e) { s with heap := h' }) :
    wpAny (model prog w) A (noteFrame (.ref e) env) (fun _ s₂ => wpAny (model prog w) A (setFlight (.ref e) none) (fun _ s₃ =>
      wpAny (model prog w) A (handleBy (.ref e) env [.ExceptHandler (some t) none suite pos]) Q E s₃) E s₂) E s := by
  obtain ⟨B, a0, hB, hBG, hl, hfl⟩ := R
  refine wpAny_looks_onW hA hf hfl fun h₄ hheld₄ hsm₄ => ?_
  refine wpAny_landsW hheld₄ fun h₅ hheld hsm₅' => ?_
  have hsm₅ := hsm.trans (hsm₄.trans hsm₅')
  obtain ⟨g₅, T₅, F₅, K₅⟩ := x_ground hf K F hBG hheld.1 hsm₅
  have X₅ : KF.In g₅ := XB.keeps K₅.stays
  have hty : Looks (model prog w) h₅ (typeOf (.ref e)) cls := by
    obtain ⟨ob, hob, hc⟩ := hheld.there
    subst hc
    exact (Looks.ld hob).andThen .now
  refine wpAny_handleBy_cons (codeAny_handlers_test (hev (s := { s with heap := h₅ }) F₅ X₅ (topRead_of (TB.keeps K₅.stays)) ?_)) (by intro q; cases q)
  refine (exm_one (X₅.keeps F₅.keep) hty hx) _ _ _ _ (fun _ _ e => e) ?_
  obtain ⟨_, _, _, oe, ws, T, oT, ts, he, hc, hd, h1, _⟩ := id hheld
  refine wpAny_handleBy_nil ?_
  unfold PySem.passOn
  refine wpAny_bind (wpAny_field he hd h1 ?_)
  rw [if_neg (show ¬ ((Value.ref T == Value.none) = true) from by simp)]
  rw [hf]
  first
    | exact wpAny_bind (wpAny_pure (wpAny_bind (setFlight_onW hheld fun h' hh hs => wpAny_throw (k h' a0 B hB hBG hl hh (hsm₅.trans hs)))))
    | exact wpAny_bind (setFlight_onW hheld fun h' hh hs => wpAny_throw (k h' a0 B hB hBG hl hh (hsm₅.trans hs)))
theorem x_again {s₀ : Shared} {X : Value → List (Addr × Obj) → Prop} {oe oT : Obj} {T : Addr} {news₂ : List (Addr × Obj)} {h : Heap} {tk : Nat} (hA : A.frames = some (env :: outer)) (hh : A.handled = some (.ref e)) (hf : env.frame = some L) (hk : env.scope.kind = .function) (K : Below A₀ base outer g) (T0 : KtsTurn (outer.filterMap (·.frame)) g₀ g)
    (F : Fr g L h m) (N : News g L h ((e, oe) :: (T, oT) :: news₂)) (hx : ExcAt cls oe oT T) (hne : ∀ q ∈ news, q.1 ≠ e ∧ q.1 ≠ T) (hTe : T ≠ e) (hsub : ∀ q ∈ news, q ∈ news₂) (hX : X cls news) :
    wpAny (model prog w) A (exec (.Raise none none pos) env) Q (XE base g₀ outer env L s₀ X) { s₀ with heap := h, toks := tk } := by
  obtain ⟨vs, ts, a0, hc, hd, h0, h1, hdT, h3⟩ := hx
  have Ne := N _ (.head _)
  have NT := N _ (.tail _ (.head _))
  have hrep : ∀ b, b ∈ e :: T :: (env :: outer).filterMap (·.frame) → base.get? b = none := fun b hb => by
    rcases List.mem_cons.mp hb with rfl | hb
    · exact fresh_of_stays K.stays Ne.2.2
    · rcases List.mem_cons.mp hb with rfl | hb
      · exact fresh_of_stays K.stays NT.2.2
      · rcases x_mem hf hb with rfl | hb
        · exact fresh_of_stays K.stays (kts_self F)
        · exact (K.frames.mem hb).1
  have hBg : ∀ b o, g.get? b = some o → b ∉ outer.filterMap (·.frame) → (hideAll h (e :: T :: (env :: outer).filterMap (·.frame))).get? b = some o := fun b o q nm => hideAll_get _ (F.keep b o q) fun hb => by
    rcases List.mem_cons.mp hb with rfl | hb
    · rw [Ne.2.2] at q; cases q
    · rcases List.mem_cons.mp hb with rfl | hb
      · rw [NT.2.2] at q; cases q
      · rcases x_mem hf hb with rfl | hb
        · rw [kts_self F] at q; cases q
        · exact nm hb
  have st : base.StaysIn (hideAll h (e :: T :: (env :: outer).filterMap (·.frame))) := fun b o q => hideAll_get _ (F.keep b o (K.stays b o q)) fun hb => by rw [hrep b hb] at q; cases q
  have hfl : Heap.FlyingW (hideAll h (e :: T :: (env :: outer).filterMap (·.frame))) (env :: outer) e cls a0 h := by
    refine ⟨fun b o q => of_hideAll _ q, hideAll_none _ (.head _), ?_, oe, vs, T, oT, ts, Ne.1, ⟨hc, h0⟩, hd, h1, hideAll_none _ (.tail _ (.head _)), hTe, NT.1, hdT, h3⟩
    have hff : h.FunFrames base (env :: outer) := Heap.FunFrames.cons (by rw [hk]; decide) hf F.ns (fresh_of_stays K.stays (kts_self F)) (K.frames.of_keeps fun b o q _ => ⟨o, F.keep b o q, rfl⟩)
    exact funFrames_hide hff fun env' he b hb => .tail _ (.tail _ (List.mem_filterMap.mpr ⟨env', he, hb⟩))
  have g0 : ∀ b, g.get? b = none → g₀.get? b = none := fun b e' => by
    cases q : g₀.get? b with
    | none => rfl
    | some o => obtain ⟨sl, hs⟩ := T0.up q; rw [e'] at hs; cases hs
  rw [arm_exec_Raise]
  simp only [evalOpt, Option.map]
  refine wpAny_bind (wpAny_standAt ?_)
  unfold raiseStmt
  refine wpAny_bind (wpAny_handled ?_)
  rw [hh]
  dsimp only
  refine wpAny_bind (wpAny_rule ?_)
  refine wpAny_bind (wpAny_field Ne.1 hd h1 ?_)
  rw [if_neg (show ¬ ((Value.ref T == Value.none) = true) from by simp)]
  rw [hf]
  have hgu : g₀.UpToSlots h := fun b o q _ => by
    obtain ⟨sl, hs⟩ := T0.up q
    exact ⟨sl, F.keep _ _ hs⟩
  refine wpAny_bind (setFlight_onW (s := { s₀ with heap := h, toks := tk }) hfl fun h' hh' hs => wpAny_throw ⟨e, h', tk, cls, a0, news, _, rfl, rfl, hX, hgu.trans hs, st, fun b o q nm => hBg b o (T0.other b o q nm) nm, fun q hq => ?_, Way.held hh'⟩)
  have P := N q (.tail _ (.tail _ (hsub q hq)))
  refine ⟨hideAll_get _ P.1 fun hb => ?_, g0 _ P.2.2, fresh_of_stays K.stays P.2.2⟩
  rcases List.mem_cons.mp hb with z | hb
  · exact (hne q hq).1 z
  · rcases List.mem_cons.mp hb with z | hb
    · exact (hne q hq).2 z
    · rcases x_mem hf hb with z | hb
      · exact P.2.1 z
      · obtain ⟨_, o, ho, _⟩ := K.frames.mem hb
        rw [P.2.2] at ho; cases ho
end
end Mine
end
section
open PySem PySem.W PySem.Calls PyProof.Rows PySem.Spec
namespace Mine
section
variable {A₀ : Around} {base g G G' h : Heap} {outer : List Env} {env : Env} {L e : Addr} {m : Str → Option Value} {news : List (Addr × Obj)} {cls : Value} {s₀ : Shared} {X : Value → List (Addr × Obj) → Prop} {vs : List Value}
theorem x_made {g₀ h' : Heap} {tk : Nat} {news₂ : List (Addr × Obj)} (hf : env.frame = some L) (hk : env.scope.kind = .function) (K : Below A₀ base outer g) (F : Fr g L h m) (N : News g L h news₂) (T0 : KtsTurn (outer.filterMap (·.frame)) g₀ g) (hsub : ∀ q ∈ news, q ∈ news₂)
    (hx : Heap.MadeExcOf h h' e cls vs) (hX : X cls news) : XE base g₀ outer env L s₀ X (.ref e) { s₀ with heap := h', toks := tk } := by
  have g0 : ∀ b, g.get? b = none → g₀.get? b = none := fun b e' => by
    cases q : g₀.get? b with
    | none => rfl
    | some o => obtain ⟨sl, hs⟩ := T0.up q; rw [e'] at hs; cases hs
  obtain ⟨t, he, htn, ht⟩ := hx.there
  have hnb : ∀ b, b ∈ (env :: outer).filterMap (·.frame) → base.get? b = none := fun b hb => by
    rcases x_mem hf hb with rfl | hb
    · exact fresh_of_stays K.stays (kts_self F)
    · exact (K.frames.mem hb).1
  refine ⟨e, h', tk, cls, .ref t, news, hideAll h ((env :: outer).filterMap (·.frame)), rfl, rfl, hX, ?_, ?_, ?_, ?_, ?_⟩
  · exact fun b o q _ => by
      obtain ⟨sl, hs⟩ := T0.up q
      exact ⟨sl, hx.keeps _ _ (F.keep _ _ hs)⟩
  · exact fun b o q => hideAll_get _ (F.keep b o (K.stays b o q)) fun hb => by rw [hnb b hb] at q; cases q
  · refine fun b o q nm => hideAll_get _ (F.keep b o (T0.other b o q nm)) fun hb => ?_
    rcases x_mem hf hb with rfl | hb
    · have := T0.other _ _ q nm; rw [kts_self F] at this; cases this
    · exact nm hb
  · intro q hq
    have P := N q (hsub q hq)
    refine ⟨hideAll_get _ P.1 fun hb => ?_, g0 _ P.2.2, fresh_of_stays K.stays P.2.2⟩
    rcases x_mem hf hb with z | hb
    · exact P.2.1 z
    · obtain ⟨_, o, ho, _⟩ := K.frames.mem hb
      rw [P.2.2] at ho; cases ho
  · have hff : h.FunFrames base (env :: outer) := Heap.FunFrames.cons (by rw [hk]; decide) hf F.ns (fresh_of_stays K.stays (kts_self F)) (K.frames.of_keeps fun b o q _ => ⟨o, F.keep b o q, rfl⟩)
    have hff2 := funFrames_hide (as := (env :: outer).filterMap (·.frame)) hff fun env' he' b hb => List.mem_filterMap.mpr ⟨env', he', hb⟩
    refine ⟨fun b o q => hx.keeps _ _ (of_hideAll _ q), ?_, hff2.of_keeps fun b o q _ => ⟨o, hx.keeps _ _ q, rfl⟩, .inr (.inr ⟨_, _, he, rfl, rfl, rfl, rfl⟩)⟩
    cases q : (hideAll h ((env :: outer).filterMap (·.frame))).get? e with
    | none => rfl
    | some o => have := of_hideAll _ q; rw [hx.new] at this; cases this
theorem x_back {h₅ : Heap} (hf : env.frame = some L) (K : Below A₀ base outer g) (F : Fr g L G m) (T : KtsTurn ((env :: outer).filterMap (·.frame)) G G') (k : G'.StaysIn h₅) :
    ∃ g', KtsTurn (outer.filterMap (·.frame)) g g' ∧ Fr g' L h₅ m ∧ Below A₀ base outer g' ∧ ∀ q ∈ news, G.get? q.1 = some q.2 ∧ q.1 ≠ L ∧ g.get? q.1 = none → h₅.get? q.1 = some q.2 ∧ q.1 ≠ L ∧ g'.get? q.1 = none := by
  obtain ⟨g', T', F', K'⟩ := x_ground hf K F (B := G') (h₅ := h₅) (fun b o e nm => T.other b o e nm) k (fun b o e _ => by
    obtain ⟨sl, hs⟩ := T.up e
    exact ⟨sl, k _ _ hs⟩)
  refine ⟨g', T', F', K', fun q _ ⟨h1, h2, h3⟩ => ⟨k _ _ (T.other _ _ h1 fun hm => ?_), h2, T'.none_ _ h3⟩⟩
  rcases x_mem hf hm with z | z
  · exact h2 z
  · obtain ⟨_, o, ho, _⟩ := K.frames.mem z
    rw [h3] at ho; cases ho
end
theorem enterN {prog : Program} {w : World} {A₀ A : Around} {s : Shared} {base g : Heap} {outer : List Env} {news : List (Addr × Obj)} {p : Program} {loose : List Str} {mean : ExcName → Option Value} {mg mb : Str → Option Value}
    {R : Result → Shared → Prop} {name qual : Str} {params : Arguments} {body : List Stmt} {scope : Scope} {cl : List (Str × Addr)} {dV kV doc pm cdv ct : Value} {an : Option Addr} {fo : Obj} {f : Addr} {args : Args} {binds : List (Str × Value)} (X : Value → List (Addr × Obj) → Prop)
    (B : Below A₀ base outer g) (hA : A.frames = some outer) (hk : g.StaysIn s.heap) (hz : g.objs.size ≤ s.heap.objs.size) (N : Led g s.heap news) (T : Top p loose mean mg mb g)
    (ho : g.get? f = some fo) (hd : fo.data = .func (fnX name qual params body scope cl dV kV doc pm an cdv ct)) (hcd : g.CodeRec cdv qual) (hroom : A.depth < recursionLimit)
    (hbind : BindsTo s (fnX name qual params body scope cl dV kV doc pm an cdv ct) args binds) (hloc : ∀ y ∈ binds, scope.names.lookup y.1 = some .local)
    (h : ∀ L' h₁, Fr g L' h₁ (fun y => binds.reverse.lookup y) → News g L' h₁ news → Below A base outer g → (∀ p ∈ news, p.1 < L') → @LE.le Nat _ s.heap.objs.size L' → @LT.lt Nat _ L' h₁.objs.size →
      wpAny (model prog w) (A.deeper (envX qual scope L' f cdv cl)) (execs body (envX qual scope L' f cdv cl))
        (fun fl s' => R (.ok (.ret (match fl with | .ret v => v | _ => .none))) s')
        (XE base g outer (envX qual scope L' f cdv cl) L' s X)
        { s with heap := h₁, toks := s.toks + binds.length })
    (hR : ∀ e h' tk' cls news, X cls news → RaisedSN base g outer e cls news h' → g.UpToSlots h' → R (.error (.ref e)) { s with heap := h', toks := tk' })
    (hcell : ∀ x ∈ scope.names, x.2 ≠ .cell) (hco : scope.isCoroutine = false := by rfl) (hgen : scope.isGenerator = false := by rfl) (hkf : scope.kind = .function := by rfl) : codeAny (model prog w) A (.call (.ref f) args) R s := by
  refine codeAny_call_def (fd := fnX name qual params body scope cl dV kV doc pm an cdv ct) (body := body) (binds := binds) hroom (hk _ _ ho) hd (T.nolimit.keeps hk) ?_ rfl hbind hcell hloc (fun h₁ hns hk₁ => ?_) hco hgen hkf
  · obtain ⟨c, oc, vs, t, e, hoc, r⟩ := hcd
    exact ⟨c, oc, vs, t, e, hk _ _ hoc, r⟩
  refine wpAny_mono (h s.heap.objs.size h₁ ⟨hns, fun b o e => hk₁ b o (hk b o e), hz⟩
    (fun q hq => ⟨hk₁ _ _ (N q hq).1, Nat.ne_of_lt (Heap.lt_size (N q hq).1), (N q hq).2⟩) ⟨hA, B.stays, B.frames⟩ (fun q hq => Heap.lt_size (N q hq).1) (Nat.le_refl _) hns.lt) (fun _ _ x => x) fun v s' hx => ?_
  exact hx.leaves (R := fun v s'' => R (.error v) s'') (Around.frames_deeper hA) rfl hR
theorem enterCX {prog : Program} {w : World} {A₀ A : Around} {s : Shared} {base g : Heap} {outer : List Env} {news : List (Addr × Obj)} {K : Frag} {p : Program} {loose : List Str} {mean : ExcName → Option Value} {mg mb : Str → Option Value}
    {R : Result → Shared → Prop} {name qual : Str} {params : Arguments} {body : List Stmt} {scope : Scope} {dV kV doc pm cdv ct oc : Value} {an od : Option Addr} {osl : Array (Option Value)} {f : Addr} {args : Args} {binds : List (Str × Value)} (XX : Value → List (Addr × Obj) → Prop)
    (B : Below A₀ base outer g) (hA : A.frames = some outer) (hk : g.StaysIn s.heap) (hz : g.objs.size ≤ s.heap.objs.size) (N : Led g s.heap news) (X : K.In g) (T : Top p loose mean mg mb g)
    (ho : K.lookup f = some ⟨oc, od, .func (fnOf name qual params body scope dV kV doc pm an cdv ct), osl⟩) (hcd : codeIn K cdv qual = true) (hroom : A.depth < recursionLimit)
    (hbind : BindsTo s (fnOf name qual params body scope dV kV doc pm an cdv ct) args binds) (hkind : (binds.all fun y => scope.names.lookup y.1 == some .local || scope.names.lookup y.1 == some .cell) = true)
    (hnd : ((cellsFrom 0 scope.names []).map (·.1)).Nodup)
    (h : ∀ L' h₁ tk cells, Fr g L' h₁ (bindL (envOfC qual scope L' f cdv).kindOf binds fun _ => none) → News g L' h₁ (cells ++ news) →
      CellsAre (bindC (envOfC qual scope L' f cdv).kindOf binds fun _ => none) (cellsFrom (L' + 1) scope.names []) cells → Below A base outer g → (∀ p ∈ news, p.1 < L') → @LE.le Nat _ s.heap.objs.size L' →
      wpAny (model prog w) (A.deeper (envOfC qual scope L' f cdv)) (execs body (envOfC qual scope L' f cdv))
        (fun fl s' => R (.ok (.ret (match fl with | .ret v => v | _ => .none))) s')
        (XE base g outer (envOfC qual scope L' f cdv) L' s XX)
        { s with heap := h₁, toks := tk })
    (hR : ∀ e h' tk' cls news, XX cls news → RaisedSN base g outer e cls news h' → g.UpToSlots h' → R (.error (.ref e)) { s with heap := h', toks := tk' })
    (hco : scope.isCoroutine = false := by rfl) (hgen : scope.isGenerator = false := by rfl) (hkf : scope.kind = .function := by rfl) : codeAny (model prog w) A (.call (.ref f) args) R s := by
  refine enterC B hA hk hz N X T ho hcd hroom hbind hkind hnd (fun L' h₁ tk cells F N Y B' hl hs => ?_) hco hgen hkf
  refine wpAny_mono (h L' h₁ tk cells F N Y B' hl hs) (fun _ _ x => x) fun v s' hx => ?_
  exact hx.leaves (R := fun v s'' => R (.error v) s'') (Around.frames_deeper hA) rfl hR
section
variable {M : Model} {A : Around} {E : Value → Shared → Prop} {s : Shared} {name qual : Str} {params : Arguments} {body : List Stmt} {scope : Scope} {env : Env} {pos : Pos} {firstLine : Nat}
theorem make_kw {fb : FuncBody} : makeFunction name qual params fb scope env [] [none] [] pos firstLine = makeFunction name qual params fb scope env [] [] [] pos firstLine := by
  rw [makeFunction_eq, makeFunction_eq]
  have : ((params.kwonlyargs.zip [(none : Option Value)]).filterMap fun (a, d) => d.map (a.arg, ·)) = [] := by
    cases params.kwonlyargs with
    | nil => rfl
    | cons a r => cases r <;> rfl
  simp only [this, List.zip_nil_right, List.filterMap_nil]
theorem nestDef_kw {Q : Flow → Shared → Prop} {env : Env} (hd0 : params.defaults = []) (hk0 : params.kw_defaults = [none]) (ha : annTrees params none env = [])
    (h : wpAny M A (makeFunction name (qualnameIn env name name) params (.stmts body) scope env [] [] [] pos pos.line) (fun v s' => wpAny M A (storeName env name v) (fun _ s'' => Q .next s'') E s') E s) :
    wpAny M A (exec (.FunctionDef name params body [] none [] scope none name pos) env) Q E s := by
  rw [exec_def]
  refine wpAny_bind (wpAny_standAt (wpAny_bind (wpAny_holding ?_)))
  rw [defaultsOf_eq, hd0, hk0, ha]
  refine wpAny_bind (wpAny_pure ?_)
  refine wpAny_bind (wpAny_holding ?_)
  show wpAny M A (evalAllOpt [none]) _ _ _
  unfold evalAllOpt
  refine wpAny_bind (wpAny_pure (wpAny_pure ?_))
  refine wpAny_holding (wpAny_bind (wpAny_pure ?_))
  rw [make_kw]
  exact wpAny_mono h (fun v s' h' => wpAny_bind (wpAny_standAt (wpAny_bind (wpAny_bindName (wpAny_mono h' (fun _ _ h'' => wpAny_pure h'') fun _ _ x => x))))) fun _ _ x => x
end
end Mine
end
section
open PySem PySem.W PySem.Calls PyProof.Rows PySem.Spec PyProof.V
namespace Mine
def Cut (ks : List Int) (lo hi : Option Int) (zs : List Int) : Prop := ∀ b, KBw.bInts b = ks → KBw.bInts (KBy.picked b lo hi) = zs
theorem Cut.two {ks zs : List Int} {lo hi : Int} (a c : Nat) (ha : lo = a) (hc : hi = c) (e : (ks.drop (min a ks.length)).take (min c ks.length - min a ks.length) = zs) : Cut ks (some lo) (some hi) zs := fun b hb => by
  subst ha hc
  rw [KBc.ints_picked hb]
  simp only [Option.elim, clipAt_nat]
  exact e
theorem Cut.one {ks zs : List Int} {lo : Int} (a : Nat) (ha : lo = a) (e : ks.drop a = zs) : Cut ks (some lo) none zs := fun b hb => by
  subst ha
  rw [KBc.ints_picked hb]
  simp only [Option.elim, clipAt_nat]
  rw [← e]
  rcases Nat.le_total a ks.length with h | h
  · rw [Nat.min_eq_left h, List.take_of_length_le (by rw [List.length_drop]; omega)]
  · rw [Nat.min_eq_right h, List.drop_of_length_le (Nat.le_refl _), List.drop_of_length_le h]; simp
theorem enc_split {xs : List Vec} {x : Vec} {j : Nat} (h : xs.drop j = x :: xs.drop (j + 1)) : enc xs = enc (xs.take j) ++ (x.enc ++ enc (xs.drop (j + 1))) := by
  conv => lhs; rw [← List.take_append_drop j xs, h]
  simp [enc]
theorem at_kind {xs : List Vec} {x : Vec} {j : Nat} (h : xs.drop j = x :: xs.drop (j + 1)) : (enc xs).getD (((enc (xs.take j)).length : Nat) : Int).toNat 0 = x.kind := by
  rw [enc_split h, Int.toNat_natCast]
  simp [Vec.enc, encWith]
theorem at_less {xs : List Vec} {x : Vec} {j : Nat} (h : xs.drop j = x :: xs.drop (j + 1)) : (enc (xs.take j)).length + 3 + x.val.length ≤ (enc xs).length := by
  rw [enc_split h]
  simp only [List.length_append, Vec.enc, encWith_length]
  omega
theorem at_len {xs : List Vec} {x : Vec} {j : Nat} (h : xs.drop j = x :: xs.drop (j + 1)) : Cut (enc xs) (some (((enc (xs.take j)).length : Nat) + 1)) (some (((enc (xs.take j)).length : Nat) + 3)) (be 2 ((x.val.length : Nat) + x.gr)) := by
  have hl := at_less h
  refine Cut.two ((enc (xs.take j)).length + 1) ((enc (xs.take j)).length + 3) (by omega) (by omega) ?_
  rw [Nat.min_eq_left (by omega), Nat.min_eq_left (by omega)]
  rw [enc_split h, List.drop_append]
  have hb := be_length 2 ((x.val.length : Nat) + x.gr)
  simp only [Vec.enc, encWith]
  rw [List.drop_of_length_le (by omega)]
  have : (enc (xs.take j)).length + 1 - (enc (xs.take j)).length = 1 := by omega
  rw [this]
  have h2 : (enc (xs.take j)).length + 3 - ((enc (xs.take j)).length + 1) = 2 := by omega
  rw [h2]
  simp only [List.nil_append, List.cons_append, List.drop_succ_cons, List.drop_zero, List.append_assoc]
  rw [List.take_append_of_le_length (by omega), List.take_of_length_le (by omega)]
theorem at_val {xs : List Vec} {x : Vec} {j : Nat} (h : xs.drop j = x :: xs.drop (j + 1)) (hg : 0 ≤ x.gr) (hR : x.gr = 0 ∨ xs.drop (j + 1) = []) :
    Cut (enc xs) (some (((enc (xs.take j)).length : Nat) + 3)) (some (((enc (xs.take j)).length : Nat) + 3 + ((x.val.length : Nat) + x.gr))) x.val := by
  have hl := at_less h
  refine Cut.two ((enc (xs.take j)).length + 3) ((enc (xs.take j)).length + 3 + (x.val.length + x.gr.toNat)) (by omega) (by omega) ?_
  rw [Nat.min_eq_left (a := (enc (xs.take j)).length + 3) (b := (enc xs).length) (by omega)]
  have hb := be_length 2 ((x.val.length : Nat) + x.gr)
  have hd : (enc xs).drop ((enc (xs.take j)).length + 3) = x.val ++ enc (xs.drop (j + 1)) := by
    rw [enc_split h, List.drop_append, List.drop_of_length_le (by omega)]
    have : (enc (xs.take j)).length + 3 - (enc (xs.take j)).length = 3 := by omega
    rw [this]
    simp only [Vec.enc, encWith, List.nil_append, List.cons_append, List.drop_succ_cons, List.append_assoc]
    rw [List.drop_append_of_le_length (by omega), List.drop_of_length_le (by omega)]
    rfl
  rw [hd]
  have hlen : (enc xs).length = (enc (xs.take j)).length + (x.val.length + 3 + (enc (xs.drop (j + 1))).length) := by
    rw [enc_split h]; simp only [List.length_append, Vec.enc, encWith_length]
  rcases hR with h0 | h0
  · rw [h0]
    have : min ((enc (xs.take j)).length + 3 + (x.val.length + (0 : Int).toNat)) (enc xs).length - ((enc (xs.take j)).length + 3) = x.val.length := by
      rw [Nat.min_eq_left (by rw [hlen]; simp; omega)]; simp
    rw [this, List.take_append_of_le_length (Nat.le_refl _), List.take_length]
  · rw [h0] at hlen ⊢
    simp only [enc, List.flatMap_nil, List.append_nil, List.length_nil, Nat.add_zero] at hlen ⊢
    rw [List.take_of_length_le]
    omega
theorem last_of {xs : List Vec} {x : Vec} {j : Nat} (h : xs.drop j = x :: xs.drop (j + 1)) (hx : OkV xs) : x.gr = 0 ∨ xs.drop (j + 1) = [] := by
  by_cases hl : j + 1 < xs.length
  · left
    have := hx.tight j (by rw [List.length_map]; exact hl)
    have hj : xs[j]? = some x := by
      have := congrArg (·[0]?) h
      simpa [List.getElem?_drop] using this
    rw [List.getElem?_map, hj] at this
    simpa using this
  · right
    exact List.drop_of_length_le (by omega)
theorem value_be2 {z : Int} (h0 : 0 ≤ z) (h1 : z < 65536) : KFB.value (be 2 z) = z := by
  simp only [be, KTBy.little, List.reverse_cons, List.reverse_nil, List.nil_append, List.cons_append, KFB.value, List.foldl_cons, List.foldl_nil]
  omega
theorem value_be4 {z : Int} (h0 : 0 ≤ z) (h1 : z < 4294967296) : KFB.value (be 4 z) = z := by
  simp only [be, KTBy.little, List.reverse_cons, List.reverse_nil, List.nil_append, List.cons_append, KFB.value, List.foldl_cons, List.foldl_nil]
  omega
theorem ssl_client {c v : Int} {r : List Int} : (c :: (be 4 v ++ r)).getD (0 : Int).toNat 0 = c := rfl
theorem ssl_verify {c v : Int} {r : List Int} : Cut (c :: (be 4 v ++ r)) (some 1) (some 5) (be 4 v) := by
  have hb := be_length 4 v
  refine Cut.two 1 5 rfl rfl ?_
  have hl : (c :: (be 4 v ++ r)).length = r.length + 5 := by simp only [List.length_cons, List.length_append, hb]; omega
  rw [hl, Nat.min_eq_left (by omega), Nat.min_eq_left (by omega)]
  simp only [List.drop_succ_cons, List.drop_zero]
  rw [List.take_append_of_le_length (by omega), List.take_of_length_le (by omega)]
theorem ssl_below {c v : Int} {r : List Int} : Cut (c :: (be 4 v ++ r)) (some 5) none r := by
  have hb := be_length 4 v
  refine Cut.one 5 rfl ?_
  simp only [List.drop_succ_cons]
  rw [List.drop_append_of_le_length (by omega), List.drop_of_length_le (by omega)]
  rfl
theorem drop_at {xs : List Vec} {j : Nat} (h : j < xs.length) : ∃ x, xs.drop j = x :: xs.drop (j + 1) ∧ x ∈ xs := ⟨xs[j], List.drop_eq_getElem_cons h, List.getElem_mem h⟩
theorem enc_full {xs : List Vec} {j : Nat} (h : (enc xs).length ≤ (enc (xs.take j)).length) (hj : j ≤ xs.length) : j = xs.length := by
  by_cases hl : j < xs.length
  · obtain ⟨x, hx, _⟩ := drop_at hl
    have := at_less hx
    omega
  · omega
section
variable {prog : Program} {w : World} {A : Around} {E : Value → Shared → Prop} {s : Shared} {value slice : PySem.Expr} {b : Array UInt8} {t : Tok} {h₀ : Heap} {L : Addr} {m : PySem.Str → Option Value} {news : List (Addr × Obj)} {l u : Value} {lo hi : Option Int} {Q : Value → Shared → Prop} {ks zs : List Int} {i z : Int}
theorem r_bitem {ui : Tok} (hk : KBw.bInts b = ks) (hfit : ks.length ≤ 100000) (h0 : 0 ≤ i) (h1 : i < (ks.length : Int)) (e : ks.getD i.toNat 0 = z) (h : ∀ t' k, Q (.int z t') { s with toks := k })
    (hs : subscripted slice false (.bytes b t) (.int i ui) = operate [.bytes b t, .int i ui] (getItem (.bytes b t) (.int i ui)) := by with_unfolding_all rfl)
    (ht : ∀ r, letTemporaryGo value (.bytes b t) r = pure () := by intro _; with_unfolding_all rfl) : wpAny (model prog w) A (subscriptTail value slice (.bytes b t) (.int i ui)) Q E s := by
  subst e
  exact KBw.item_K hk (by omega) h0 h1 (fun t' k _ _ => h t' k) hs ht
theorem r_bslice (hF : Fr h₀ L s.heap m) (hN : News h₀ L s.heap news) (hk : KBw.bInts b = ks) (hl : IsPart l lo) (hu : IsPart u hi) (hc : Cut ks lo hi zs) (hz : ks.length ≤ 100000)
    (h : ∀ h' (b' : Array UInt8) t' k, Fr h₀ L h' m → News h₀ L h' news → KBw.bInts b' = zs → Q (.bytes b' t') { s with heap := h', toks := k })
    (hs : subscripted slice false (.bytes b t) (.ref s.heap.objs.size) = operate [.ref s.heap.objs.size, .bytes b t] (getItem (.bytes b t) (.ref s.heap.objs.size)) := by with_unfolding_all rfl)
    (ht : ∀ r, letTemporaryGo value (.bytes b t) r = pure () := by intro _; with_unfolding_all rfl) :
    wpAny (model prog w) A (subscriptTail value slice (.bytes b t) (.ref s.heap.objs.size)) Q E { s with heap := s.heap.push { cls := .type "slice", data := .fields #[l, u, .none] } } :=
  KBc.slice_K hF hN hk hl hu (by omega) (fun h' t' k F N _ => h h' _ t' k F N (hc b hk)) hs ht
theorem r_from {x : Addr} {o : Tok} (N : News h₀ L s.heap news) (hm : (x, KFB.bound) ∈ news) (hb : KBw.bInts b = ks) (hl : ks.length ≤ 8) (e : KFB.value ks = z) (h : ∀ t' k, Q (.int z t') { s with toks := k }) :
    wpAny (model prog w) A (call (.ref x) [.bytes b t, .str (PySem.Str.ofString "big") o]) Q E s := by
  subst e
  exact KFB.call_big N hm hb hl h
end
end Mine
end
section
open PySem PySem.W PySem.Calls PyProof.Rows PySem.Spec PyProof.V
namespace Mine
def hexTab : List (Int × Str) := [(1, Str.ofString "01"), (2, Str.ofString "02"), (3, Str.ofString "03"), (4, Str.ofString "04"), (5, Str.ofString "05"), (6, Str.ofString "06"), (10, Str.ofString "0A"), (15, Str.ofString "0F"), (32, Str.ofString "20"), (33, Str.ofString "21"), (34, Str.ofString "22"), (35, Str.ofString "23"), (36, Str.ofString "24"), (37, Str.ofString "25"), (38, Str.ofString "26"), (48, Str.ofString "30"), (127, Str.ofString "7F"), (224, Str.ofString "E0"), (255, Str.ofString "FF")]
def hexOf (k : Int) : Str := (hexTab.lookup k).getD Str.empty
section
variable {prog : Program} {w : World} {A : Around} {E : Value → Shared → Prop} {s : Shared} {t : Tok} {Q : Value → Shared → Prop} {k : Int}
theorem fmt_kind (hk : k ∈ 32 :: leafKinds) (h : ∀ t' j, Q (.str (hexOf k) t') { s with toks := j }) : wpAny (model prog w) A (formatField (.int k t) (Str.ofString "02X")) Q E s := by
  simp only [leafKinds, List.mem_cons, List.not_mem_nil, or_false] at hk
  rcases hk with rfl | rfl | rfl | rfl | rfl | rfl | rfl | rfl | rfl | rfl | rfl | rfl | rfl | rfl | rfl | rfl | rfl | rfl | rfl
  all_goals
    (refine' KXf.field_int ?kxfs ?kxfa ?kxfb ?kxfc ?_; (case kxfs => kxf_eq); (case kxfa => decide +kernel); (case kxfb => decide +kernel); (case kxfc => k_dflt kxf_run_i))
  all_goals
    intro t' j
    first | exact h t' j | (have e := h t' j; exact e)
end
theorem hexOf_len (k : Int) : (hexOf k).length ≤ 2 := by
  unfold hexOf
  cases e : hexTab.lookup k with
  | none => exact (by decide : (Str.empty).length ≤ 2)
  | some x =>
    have : ∀ q ∈ hexTab, q.2.length ≤ 2 := by decide +kernel
    have hm : ∀ (l : List (Int × Str)), l.lookup k = some x → ∃ q ∈ l, q.2 = x := by
      intro l
      induction l with
      | nil => intro h; simp at h
      | cons p r ih =>
        intro h
        rw [List.lookup_cons] at h
        cases hb : k == p.1 with
        | true => rw [hb] at h; exact ⟨p, .head _, Option.some.inj h⟩
        | false => rw [hb] at h; obtain ⟨q, hq, e⟩ := ih h; exact ⟨q, .tail _ hq, e⟩
    obtain ⟨q, hq, rfl⟩ := hm hexTab e
    exact this q hq
theorem name_un {k : Int} (hk : k ∈ 32 :: leafKinds) (hu : isUn k = true) : Str.empty ++ Str.ofString "x" ++ hexOf k = nameOf k := by
  simp only [leafKinds, List.mem_cons, List.not_mem_nil, or_false] at hk
  rcases hk with rfl | rfl | rfl | rfl | rfl | rfl | rfl | rfl | rfl | rfl | rfl | rfl | rfl | rfl | rfl | rfl | rfl | rfl | rfl <;> first | (exact absurd hu (by decide)) | decide +kernel
theorem name_leaf {k : Int} (hk : k ∈ leafKinds) : nameOf k ≠ Str.ofString "SSL" := by
  simp only [leafKinds, List.mem_cons, List.not_mem_nil, or_false] at hk
  rcases hk with rfl | rfl | rfl | rfl | rfl | rfl | rfl | rfl | rfl | rfl | rfl | rfl | rfl | rfl | rfl | rfl | rfl | rfl <;> decide +kernel
theorem name_leafB {k : Int} (hk : k ∈ leafKinds) : (nameOf k == Str.ofString "SSL") = false := by
  simp only [leafKinds, List.mem_cons, List.not_mem_nil, or_false] at hk
  rcases hk with rfl | rfl | rfl | rfl | rfl | rfl | rfl | rfl | rfl | rfl | rfl | rfl | rfl | rfl | rfl | rfl | rfl | rfl <;> decide +kernel
end Mine
namespace Mine
theorem str_e : (Str.empty).length = 0 := rfl
theorem str_t : (Str.ofString "TLV 0x").length = 6 := by decide +kernel
theorem str_m : (Str.ofString " is malformed!").length = 14 := by decide +kernel
theorem str_x : (Str.ofString "x").length = 1 := by decide +kernel
theorem tlv1 : (Str.empty).length + (Str.ofString "TLV 0x").length ≤ 16777216 := by rw [str_e, str_t]; decide
theorem tlv2 (k : Int) : (Str.empty).length + (Str.ofString "TLV 0x").length + (hexOf k).length ≤ 16777216 := by have := hexOf_len k; rw [str_e, str_t]; omega
theorem tlv3 (k : Int) : (Str.empty).length + (Str.ofString "TLV 0x").length + (hexOf k).length + (Str.ofString " is malformed!").length ≤ 16777216 := by have := hexOf_len k; rw [str_e, str_t, str_m]; omega
theorem tx1 : (Str.empty).length + (Str.ofString "x").length ≤ 16777216 := by rw [str_e, str_x]; decide
theorem tx2 (k : Int) : (Str.empty).length + (Str.ofString "x").length + (hexOf k).length ≤ 16777216 := by have := hexOf_len k; rw [str_e, str_x]; omega
end Mine
end
section
open PySem PySem.W PySem.Calls PyProof.Rows PySem.Spec
namespace Mine
abbrev keyTail : List Value := [.type "KeyError", .type "LookupError", .type "Exception", .type "BaseException", .type "object"]
theorem key_slot : Slot "KeyError" "__init__" "KeyError.__init__" := .of (owner := "KeyError") (n := "__init__") (by rw [typeLookup_type, builtinLookup_eq_fast]; kernel_rfl) (by decide +kernel) (by decide +kernel) (by decide +kernel)
  (by first | exact .inl (by decide +kernel) | exact .inr (by decide +kernel)) (by rw [isSubtype_type]; kernel_rfl)
theorem key_entry : entryFor table "KeyError.__init__" = some Builtin.«BaseException.__init__» :=
  entryFor_alias (id' := "BaseException.__init__") (by rw [fastTable_eq_tree]; kernel_rfl) (by first | rfl | decide +kernel) (by decide +kernel) (by rw [fastTable_eq_tree]; kernel_rfl)
theorem key_split : splitId "KeyError.__init__" = some ("KeyError", "__init__") := by kernel_rfl
theorem key_kind : builtinKind "KeyError.__init__" = some .slot := by kernel_rfl
theorem key_row : Manifest.signature? "KeyError.__init__" = some ⟨.positional, "*", "KeyError", .self, [⟨"args", .varPos, false⟩]⟩ := by kernel_rfl
theorem key_mro : mroOf (.type "KeyError") = pure keyTail := by rw [mroOf_type]; kernel_rfl
theorem key_noAttr : keyTail.contains (.type "AttributeError") = false := by decide +kernel
theorem key_noName : keyTail.contains (.type "NameError") = false := by decide +kernel
theorem key_hasL : keyTail.contains (.type "LookupError") = true := by decide +kernel
theorem key_hasK : keyTail.contains (.type "KeyError") = true := by decide +kernel
theorem key_hasB : keyTail.contains (.type "BaseException") = true := by decide +kernel
section
variable {prog : Program} {w : World} {A : Around} {E : Value → Shared → Prop} {h : Heap} {g : Array GenState} {d : Drawn} {t : Nat} {os : OsState}
variable {nm q : Str} {C N : Addr} {bs bm : List Value} {hdct : Bool} {sn : List Str} {sub : List Value} {ab : Bool} {col : Option Bool} {dd : Option Addr} {k0 k1 k2 k3 k5 : Option Value}
theorem key_new {R : Result → Shared → Prop} (T : OwnTail h keyTail bm) {rest : List Value} (hC : h.get? C = some (excClassObj nm q C N bs bm hdct sn sub ab col dd k0 k1 k2 k3 k5 "LookupError.__new__"))
    (hq : R (.ok (.ret (.ref (h.objs.size + 1)))) ⟨(h.push { cls := .type "tuple", data := .seq rest.toArray }).push { cls := .ref C, data := .fields #[.ref h.objs.size, .none, .none, .none, .bool false, .none] }, g, d, t, os⟩) (hrest : rest.length ≤ sizeLine) :
    codeAny (model prog w) A (.builtin "LookupError.__new__" ⟨.ref C :: rest, []⟩) R ⟨h, g, d, t, os⟩ := by
  have FL := PySem.F.excBase_LookupError
  have hends := FL.ends
  have cL : (Value.ref C :: bm).contains (.type "LookupError") = true := by rw [List.contains_cons, T.hasType key_hasL, Bool.or_true]
  have cA : (Value.ref C :: bm).contains (.type "AttributeError") = false := by rw [List.contains_cons, T.hasType key_noAttr]; rfl
  have cN : (Value.ref C :: bm).contains (.type "NameError") = false := by rw [List.contains_cons, T.hasType key_noName]; rfl
  refine codeAny_builtinAt FL.entry ?_
  unfold Builtin.«BaseException.__new__»
  refine PySem.wpAt_bind ?_
  show PySem.wpAt _ _ _ (stack >>= _) _ _ _
  refine PySem.wpAt_bind (PySem.wpAt_stack fun p below => PySem.wpAt_of_wpAny ?_)
  wp_walk
  refine PySem.wpAt_of_wpAny ?_
  rw [FL.owner]
  repeat (first | with_reducible refine wpAny_madeHere_exc FL.canon hC ?_ | with_reducible refine wpAny_loadPart_at hC ?_ | (with_reducible refine wpAny_isSubtype_exc hC ?_; first | rw [cL] | rw [cA] | rw [cN]) | wp_step)
  show R _ _
  rw [Heap.size_push]
  exact hq
theorem key_checkInit (T : OwnTail h keyTail bm) {M : Model} {e : Addr} {oe : Obj} {rest : List Value} {Q : Unit → Shared → Prop}
    (hC : h.get? C = some (excClassObj nm q C N bs bm hdct sn sub ab col dd k0 k1 k2 k3 k5 "LookupError.__new__")) (he : h.get? e = some oe) (hcls : oe.cls = .ref C) (hq : Q () ⟨h, g, d, t, os⟩) :
    wpAny M A (checkBuiltinCall "KeyError.__init__" ⟨.ref e :: rest, []⟩) Q E ⟨h, g, d, t, os⟩ := by
  have cK : (Value.ref C :: bm).contains (.type "KeyError") = true := by rw [List.contains_cons, T.hasType key_hasK, Bool.or_true]
  have hshort : ("KeyError" != "*") = true := by decide
  simp only [checkBuiltinCall, key_kind, key_split, key_row]
  repeat (first | (with_reducible refine wpAny_loadPart_at he ?_; rw [hcls]) | with_reducible refine wpAny_loadPart_at hC ?_ | (with_reducible refine wpAny_isSubtype_exc hC ?_; rw [cK]) | wp_step)
  refine wpAny_onRaise ?_
  rw [show ∀ (a b : String) (n : Nat), Bind.check ⟨.positional, "*", "KeyError", .self, [⟨"args", .varPos, false⟩]⟩ a b n (List.map (fun x => x.fst) ({ pos := Value.ref e :: rest } : Args).kw) = pure () from
    fun a b n => check_star_args _ _ _ _ _ _]
  exact wpAny_pure hq
theorem key_type (T : OwnTail h keyTail bm) {mN : Str → Option Value} {rest : List Value} {Q : Fin → Shared → Prop}
    (hC : h.get? C = some (excClassObj nm q C N bs bm hdct sn sub ab col dd k0 k1 k2 k3 k5 "LookupError.__new__")) (hn : h.Ns N mN) (hni : mN "__init__" = none)
    (hq : ∀ h' e, Heap.MadeExcOf h h' e (.ref C) rest → Q (.done (.ret (.ref e))) ⟨h', g, d, t, os⟩) (hrest : rest.length ≤ sizeLine) :
    wpAny (model prog w) A (Builtin.«type.__call__» ⟨.ref C :: rest, []⟩) Q E ⟨h, g, d, t, os⟩ := by
  have FL := PySem.F.excBase_LookupError
  repeat (first | with_reducible refine wpAny_loadPart_at hC ?_ | with_reducible refine wpAny_madeBy_exc hC ?_ | wp_step)
  refine codeAny_call_builtin_code (Code.quiet_builtin _ FL.quiet) (wpAny_check_new_subU FL key_hasL T hC ?_)
  refine key_new T hC ?_ hrest
  show wpAny _ _ _ _ _ _
  have up : ∀ b o, h.get? b = some o → ((h.push { cls := .type "tuple", data := .seq rest.toArray }).push { cls := .ref C, data := .fields #[.ref h.objs.size, .none, .none, .none, .bool false, .none] }).get? b = some o := fun b o e => Heap.get?_push_of_some _ (Heap.get?_push_of_some _ e)
  have hC₁ := up _ _ hC
  have hn₁ := hn.keeps up
  have hget : ((h.push { cls := .type "tuple", data := .seq rest.toArray }).push
      { cls := .ref C, data := .fields #[.ref h.objs.size, .none, .none, .none, .bool false, .none] }).get? (h.objs.size + 1) = some
      { cls := .ref C, data := .fields #[.ref h.objs.size, .none, .none, .none, .bool false, .none] } := by heap_get
  have hcC : (Value.ref C :: bm).contains (.ref C) = true := by simp
  have T₁ := T.keeps up
  unfold isInstance
  repeat (first | with_reducible refine wpAny_loadPart_at hget ?_ | (with_reducible refine wpAny_isSubtype_exc hC₁ ?_; rw [hcC]) | wp_step)
  show wpAny _ _ (typeLookup (.ref C) _) _ _ _
  refine wpAny_typeLookup_tail hC₁ hn₁ T₁ key_mro key_slot.lookup ?_
  rw [hni]
  refine wpAny_holding (wpAny_bind (wpAny_of_eq (key_slot.bind _) ?_))
  refine wpAny_bind (wpAny_call (codeAny_call_builtin key_slot.plain key_entry (key_checkInit T₁ hC₁ hget rfl ?_)))
  wp_walk
  refine hq _ _ ⟨fun b o hb => ?_, Heap.get?_none_of_le (Nat.le_succ _), h.objs.size + 2, ?_, Heap.get?_none_of_le (by omega), ?_⟩
  · rw [Heap.get?_update_other _ _ (Nat.ne_of_gt (Nat.lt_succ_of_lt (Heap.lt_size hb)))]
    exact Heap.get?_push_of_some _ (up _ _ hb)
  · rw [Heap.get?_update_self _ (Heap.get?_push_of_some _ hget) rfl]
    simp only [Heap.size_push]
    rfl
  · rw [Heap.get?_update_other _ _ (show h.objs.size + 1 ≠ h.objs.size + 2 by omega)]
    exact Heap.get?_push_at (by simp only [Heap.size_push]) rfl
theorem key_call (T : OwnTail h keyTail bm) {mN : Str → Option Value} {rest : List Value} {Q : Value → Shared → Prop}
    (hC : h.get? C = some (excClassObj nm q C N bs bm hdct sn sub ab col dd k0 k1 k2 k3 k5 "LookupError.__new__")) (hn : h.Ns N mN) (hni : mN "__init__" = none)
    (hq : ∀ h' e, Heap.MadeExcOf h h' e (.ref C) rest → Q (.ref e) ⟨h', g, d, t, os⟩) (hrest : rest.length ≤ sizeLine) :
    wpAny (model prog w) A (call (.ref C) rest) Q E ⟨h, g, d, t, os⟩ := by
  have f1 := tc_lookup
  have f2 := tc_bind (.ref C)
  have hT : (⟨h, g, d, t, os⟩ : Shared).TypeIs (.ref C) "type" := ⟨_, hC, rfl⟩
  refine wpAny_call (codeAny_of_tree ?_)
  show wpAny _ _ (callAny (.ref C) _) _ _ _
  repeat (any_goals (first | assumption | with_reducible refine wpAny_loadPart_at hC ?_ | wp_step))
  refine ⟨rfl, ?_⟩
  exact codeAny_call_builtin_at (Code.quiet_builtin _ (by decide +kernel)) entry_typeCall (wpAny_check_type_call_sub hC (key_type T hC hn hni hq hrest))
end
section
variable {prog : Program} {w : World} {A : Around} {E : Value → Shared → Prop} {s : Shared} {L a C : Addr} {ccd : Value} {h₀ : Heap} {m mg mb : Str → Option Value} {cn x : Str} {cs : Scope} {cl : List (Str × Addr)} {B newId initId : String} {bm : List Value} {np cpos pos : Pos} {Q : Flow → Shared → Prop}
  {K : Frag} {p : Program} {loose : List Str}
theorem x_raise {e₀ : PySem.Expr} (F : Fr h₀ L s.heap m) (X : K.In h₀) (T : TopRead p loose mg mb h₀) (ex : nsIn K mainGlobals x = some (some (.ref C))) (q : excIn K C bm newId = true) (FB : ExcBaseFacts B newId initId bm) (hh : A.handled = none)
    (h : wpAny (model prog w) A (eval e₀ (envX cn cs L a ccd cl)) (fun v s₂ => Stop ((∀ b o, h₀.get? b = some o → s₂.heap.get? b = some o) ∧ ∀ h' e, Heap.MadeExcOf s₂.heap h' e (.ref C) [v] → E (.ref e) { s₂ with heap := h' })) E s)
    (he : starEach [e₀] (envX cn cs L a ccd cl) = [(false, eval e₀ (envX cn cs L a ccd cl))] := by rfl)
    (hk : cs.kind = .function := by rfl) (hx : (envX cn cs L a ccd cl).kindOf x = some .globalImplicit := by rfl) (hd : (x == ("__debug__" : Str)) = false := by decide) :
    wpAny (model prog w) A (exec (.Raise (some (.Call (.Name x np) [e₀] [] cpos)) none pos) (envX cn cs L a ccd cl)) Q E s := by
  obtain ⟨tl, N, nm, qn, bs, hdct, sn, sub, ab, col, dd, k0, k1, k2, k3, k5, mN, hC, hN, hni, TL⟩ := (own_of_in X T ex q).obj
  refine wpAny_Raise_call_subT (C := C) (nm := nm) (q := qn) (N := N) (bs := bs) (bm := tl) (hdct := hdct) (sn := sn) (sub := sub) (ab := ab) (col := col) (dd := dd) (k0 := k0) (k1 := k1) (k2 := k2) (k3 := k3) (k5 := k5)
    FB (mN := mN) (TL.hasType FB.hasBase) hh (by rw [he]; rfl) hni (nameX_K F X T ex ⟨rfl, ?_⟩ hk hx hd)
  rw [he]
  refine evalArgs_plain (spliced_cons (wpAny_mono h (fun v s₂ h₂ => spliced_nil ⟨rfl, by rw [sizeLine_eq]; exact (by decide : 1 ≤ 16777216), h₂.out.1 _ _ hC, hN.keeps h₂.out.1, TL.keeps h₂.out.1, h₂.out.2⟩) fun _ _ y => y))
theorem x_raiseKey {e₀ : PySem.Expr} (F : Fr h₀ L s.heap m) (X : K.In h₀) (T : TopRead p loose mg mb h₀) (ex : nsIn K mainGlobals x = some (some (.ref C))) (q : excIn K C keyTail "LookupError.__new__" = true) (hh : A.handled = none)
    (h : wpAny (model prog w) A (eval e₀ (envX cn cs L a ccd cl)) (fun v s₂ => Stop ((∀ b o, h₀.get? b = some o → s₂.heap.get? b = some o) ∧ ∀ h' e, Heap.MadeExcOf s₂.heap h' e (.ref C) [v] → E (.ref e) { s₂ with heap := h' })) E s)
    (he : starEach [e₀] (envX cn cs L a ccd cl) = [(false, eval e₀ (envX cn cs L a ccd cl))] := by rfl)
    (hk : cs.kind = .function := by rfl) (hx : (envX cn cs L a ccd cl).kindOf x = some .globalImplicit := by rfl) (hd : (x == ("__debug__" : Str)) = false := by decide) :
    wpAny (model prog w) A (exec (.Raise (some (.Call (.Name x np) [e₀] [] cpos)) none pos) (envX cn cs L a ccd cl)) Q E s := by
  obtain ⟨tl, N, nm, qn, bs, hdct, sn, sub, ab, col, dd, k0, k1, k2, k3, k5, mN, hC, hN, hni, TL⟩ := (own_of_in X T ex q).obj
  rw [arm_exec_Raise]
  simp only [evalOpt, Option.map]
  refine wpAny_bind (wpAny_standAt (wpAny_raiseStmt_made_sub (C := C) (nm := nm) (q := qn) (N := N) (bs := bs) (bm := tl) (hdct := hdct) (sn := sn) (sub := sub) (ab := ab) (col := col) (dd := dd) (k0 := k0) (k1 := k1) (k2 := k2) (k3 := k3) (k5 := k5) (newId := "LookupError.__new__") (TL.hasType key_hasB) hh ?_))
  refine wpAny_bind (wpAny_mono (wpAny_Call_ofName (nameX_K F X T ex ?_ hk hx hd)) (fun v s₃ h₃ => wpAny_bind (wpAny_standAt (wpAny_pure h₃))) fun _ _ x => x)
  unfold callWith
  rw [he]
  refine wpAny_bind (wpAny_holding (evalArgs_plain (spliced_cons (wpAny_mono h (fun v s₂ h₂ => spliced_nil (wpAny_bind (wpAny_standAt ?_))) fun _ _ y => y))))
  obtain ⟨hk2, h2⟩ := h₂.out
  obtain ⟨hp, g, d, tk, os⟩ := s₂
  refine wpAny_bind (wpAny_keeperOf_exc (hk2 _ _ hC) ?_)
  dsimp only
  refine wpAny_bind (key_call (TL.keeps hk2) (hk2 _ _ hC) (hN.keeps hk2) hni (fun h' e hm => wpAny_bind (wpAny_holding (wpAny_point (wpAny_pure ?_)))) (by rw [sizeLine_eq]; exact (by decide : 1 ≤ 16777216)))
  obtain ⟨t, ht, _, _⟩ := hm.there
  exact ⟨e, t, rfl, hm.keeps _ _ (hk2 _ _ hC), ht, h2 h' e hm⟩
end
end Mine
end
section
open PySem PySem.W PySem.Calls PyProof.Rows PySem.Spec
namespace Mine
theorem fill_8 : (fun w => (PySem.Challenge.rw_jy0002_01, kgrab.heap_1 w)) = (fun w => (PySem.Challenge.rw_jy0002_01, kgrab.heap_1 w)) := by
  k_fill
  rfl
def pickNest {K : Frag} {f : Addr} {oc : Value} {od an : Option Addr} {osl : Array (Option Value)} {name qual : Str} {params : Arguments} {s1 s2 : Stmt} {r : List Stmt} {nm : Str} {pa : Arguments} {bo : List Stmt} {de : List PySem.Expr} {re : Option PySem.Expr} {tp : List TypeParam} {sc scope : Scope} {ts : Option Scope} {bi : Str} {ps : Pos} {dV kV doc pm cdv ct : Value}
    (_ : K.lookup f = some ⟨oc, od, .func (fnOf name qual params (s1 :: s2 :: .FunctionDef nm pa bo de re tp sc ts bi ps :: r) scope dV kV doc pm an cdv ct), osl⟩) : Arguments × List Stmt × Scope := (pa, bo, sc)
noncomputable def parsAll (w : World) : Arguments × List Stmt × Scope := pickNest (K := kgrab.heap_1 w.params) (f := 77) (by k_is)
noncomputable def parsPa (w : World) : Arguments := (parsAll w).1
noncomputable def parsBo (w : World) : List Stmt := (parsAll w).2.1
noncomputable def parsSc (w : World) : Scope := (parsAll w).2.2
section
variable {M : Model} {A : Around} {E : Value → Shared → Prop} {s : Shared} {env : Env}
theorem x_callKw {pos p : Pos} {a : Addr} {e₁ e₂ : PySem.Expr} {nm : Str} {Q : Value → Shared → Prop}
    (h : wpAny M A (eval e₁ env) (fun v s₁ => wpAny M A (eval e₂ env) (fun k s₂ => FnAt a s₂.heap ∧ wpAny M A (call (.ref a) [v] [(nm, k)]) Q E s₂) E s₁) E s)
    (he : starEach [e₁] env = [(false, eval e₁ env)] := by rfl) :
    wpAny M A (callWith pos (.ref a) [] (backTo pos (starEach [e₁] env)) (backToKw pos (keywordEach [⟨some nm, e₂, p⟩] env))) Q E s := by
  unfold callWith
  refine wpAny_bind (wpAny_holding ?_)
  refine wpAny_mono (Q := fun (x : Args) s₁ => FnAt a s₁.heap ∧ wpAny M A (call (.ref a) ([] ++ x.pos) x.kw) Q E s₁) ?_ (fun x s₁ h₁ => wpAny_bind (wpAny_standAt ?_)) fun _ _ x => x
  · refine PyProof.Rows.evalArgs_kw2 rfl ?_ he
    rw [he]
    refine spliced_cons (wpAny_mono h (fun v s₁ h₁ => spliced_nil ?_) fun _ _ x => x)
    exact PyProof.Rows.kwAll_cons (wpAny_mono h₁ (fun k s₂ h₂ => PyProof.Rows.kwAll_nil h₂) fun _ _ x => x)
  · obtain ⟨⟨oc, od, fd, sl, ho⟩, hc⟩ := h₁
    have tail : ∀ {t : Sem Value}, wpAny M A t Q E s₁ → wpAny M A (t >>= fun r => holding [r] point >>= fun _ => pure r) Q E s₁ :=
      fun ht => wpAny_bind (wpAny_mono ht (fun r s₂ hr => wpAny_bind (wpAny_holding (wpAny_point (wpAny_pure hr)))) fun _ _ x => x)
    rw [he]
    refine wpAny_bind (m := keeperOf (.ref a)) ?_
    unfold keeperOf
    refine wpAny_bind (wpAny_load ho ?_)
    refine wpAny_pure ?_
    show wpAny M A (_ >>= _) Q E s₁
    refine tail ?_
    try dsimp only
    first
      | exact wpAny_keep hc
      | (unfold callMarked; exact wpAny_keep hc)
      | exact hc
end
structure ParsAt (w : World) (g : Heap) (f r pl : Addr) (part strict : Bool) : Prop where
  here : ∃ (qual : Str) (doc pm ctv : Value) (c' c1 c2 c3 c4 c5 c6 : Addr) (o1 o2 o3 o4 o5 o6 : Obj), g.get? f = some (fnMade (Str.ofString "_pars") qual (parsPa w) (parsBo w) (parsSc w) [(Str.ofString "tlv_loc", c6), (Str.ofString "strict", c3), (Str.ofString "rslt", c5), (Str.ofString "partial_ok", c2), (Str.ofString "cls", c1), (Str.ofString "_pars", c4)] doc pm c' ctv) ∧
    g.CodeRec (.ref c') qual ∧ (g.get? c1 = some o1 ∧ o1.data = .cell (some (.ref 104))) ∧ (g.get? c2 = some o2 ∧ o2.data = .cell (some (.bool part))) ∧ (g.get? c3 = some o3 ∧ o3.data = .cell (some (.bool strict))) ∧
    (g.get? c4 = some o4 ∧ o4.data = .cell (some (.ref f))) ∧ (g.get? c5 = some o5 ∧ o5.data = .cell (some (.ref r))) ∧ (g.get? c6 = some o6 ∧ o6.data = .cell (some (.ref pl)))
theorem ParsAt.keeps {w : World} {g g' : Heap} {f r pl : Addr} {part strict : Bool} (h : ParsAt w g f r pl part strict) (k : g.StaysIn g') : ParsAt w g' f r pl part strict := by
  obtain ⟨qual, doc, pm, ctv, c', c1, c2, c3, c4, c5, c6, o1, o2, o3, o4, o5, o6, h0, ⟨c, oc, vs, t, e, hoc, r⟩, h1, h2, h3, h4, h5, h6⟩ := h
  exact ⟨qual, doc, pm, ctv, c', c1, c2, c3, c4, c5, c6, o1, o2, o3, o4, o5, o6, k _ _ h0, ⟨c, oc, vs, t, e, k _ _ hoc, r⟩, ⟨k _ _ h1.1, h1.2⟩, ⟨k _ _ h2.1, h2.2⟩, ⟨k _ _ h3.1, h3.2⟩, ⟨k _ _ h4.1, h4.2⟩, ⟨k _ _ h5.1, h5.2⟩, ⟨k _ _ h6.1, h6.2⟩⟩
section
variable {M : Model} {A : Around} {E : Value → Shared → Prop} {s : Shared} {h₀ : Heap} {L a : Addr} {m : Str → Option Value} {cn : Str} {cs : Scope} {ccd : Value} {cl : List (Str × Addr)} {x : Str} {pos : Pos} {v : Value} {c : Addr} {o : Obj} {Q : Value → Shared → Prop}
theorem x_nameG (F : Fr h₀ L s.heap m) (hc : cl.lookup x = some c) (hg : h₀.get? c = some o) (hd : o.data = .cell (some v)) (h : Q v s)
    (hk : cs.kind = .function := by rfl) (hx : (envX cn cs L a ccd cl).kindOf x = some .free := by rfl) (hb : (x == ("__debug__" : Str)) = false := by decide) (hn : (x == ("__classdict__" : Str)) = false := by decide) :
    wpAny M A (eval (.Name x pos) (envX cn cs L a ccd cl)) Q E s := wpAny_Name (wpAny_loadName_free hk hx hc ⟨o, F.keep _ _ hg, hd⟩ h hn) hb
theorem x_loadL (F : Fr h₀ L s.heap m) (hv : m x = some v) (h : Q v s) (hk : cs.kind = .function := by rfl) (hx : (envX cn cs L a ccd cl).kindOf x = some .local := by rfl) :
    wpAny M A (loadName (envX cn cs L a ccd cl) x) Q E s := wpAny_loadName_local hk hx F.ns hv h
theorem fnAt_g {fd : FuncData} {oc : Value} {od : Option Addr} {sl : Array (Option Value)} {f : Addr} {h : Heap} (F : Fr h₀ L h m) (hg : h₀.get? f = some ⟨oc, od, .func fd, sl⟩) : FnAt f h := ⟨oc, od, fd, sl, F.keep _ _ hg⟩
end
def ParsX (w : World) (r pl : Addr) (strict outer : Bool) (xs : List Vec) (F : FD) (P : PD) (cls : Value) (news : List (Addr × Obj)) : Prop :=
  ∃ (or op : Obj) (c : Come) (F' : FD) (P' : PD), news = [(r, or), (pl, op)] ∧ run strict outer xs 0 F P = (c, F', P') ∧ (c = .malformed ∧ cls = .ref 31 ∨ c = .unknown ∧ cls = .ref 44) ∧ DObj P0 w ValIs or F' ∧ DObj P0 w LocIs op P'
def ParsSpec (w : World) (p : Program) (loose : List Str) (mean : ExcName → Option Value) (mg mb : Str → Option Value) (bd lim : Nat) (outer quiet : Bool) (Sh : List Vec → Prop) : Prop :=
  ∀ (A₀ : Around) (base g : Heap) (out : List Env) (dp un : Nat) (gd : Option (List Code)) (s : Shared) (f r pl : Addr) (part strict : Bool) (b : Array UInt8) (t tk : Tok) (k : Int) (xs : List Vec) (or op : Obj) (F : FD) (P : PD) (Q E : Value → Shared → Prop),
    Below A₀ base out g → (kgrab.heap_1 w.params).In base → Top p loose mean mg mb base → KtsDicts (out.filterMap (·.frame)) g → g.StaysIn s.heap → g.objs.size ≤ s.heap.objs.size →
    dp + lim < recursionLimit → un + 8 * lim < cLine → ParsAt w g f r pl part strict → KBw.bInts b = enc xs → OkV xs → Sh xs → 0 ≤ k → k ≤ 100000 → (outer = true → k = 0) →
    s.heap.get? r = some or → g.get? r = none → (r == sysModules) = false → s.heap.get? pl = some op → g.get? pl = none → (pl == sysModules) = false → @Ne Nat r pl →
    DObj P0 w ValIs or F → DObj P0 w LocIs op P → F.length + 7 * xs.length ≤ bd → P.length + 5 * xs.length ≤ bd →
    (∀ (g' h' : Heap) (tk' : Nat) (or' op' : Obj) (c : Come) (F' : FD) (P' : PD), run strict outer xs 0 F P = (c, F', P') → (c = .whole ∨ c = .malformed ∧ part = true ∧ quiet = false) → KtsTurn (out.filterMap (·.frame)) g g' → (quiet = true → g' = g) → g'.StaysIn h' →
      h'.get? r = some or' → h'.get? pl = some op' → DObj P0 w ValIs or' F' → DObj P0 w LocIs op' P' → Q .none { s with heap := h', toks := tk' }) →
    (∀ (e : Addr) (h' : Heap) (tk' : Nat) (cls : Value) (news : List (Addr × Obj)), ParsX w r pl strict outer xs F P cls news → RaisedSN base g out e cls news h' → g.UpToSlots h' → E (.ref e) { s with heap := h', toks := tk' }) →
    wpAny (model P0 w) (gTop dp un gd out) (call (.ref f) [.bytes b t] [(Str.ofString "offset", .int k tk)]) Q E s
theorem x_dicts {g h G : Heap} {L : Addr} {m : Str → Option Value} {env : Env} {outer : List Env} (hf : env.frame = some L) (D : KtsDicts (outer.filterMap (·.frame)) g) (F : Fr g L G m) : KtsDicts ((env :: outer).filterMap (·.frame)) G := fun b hb => by
  rcases x_mem hf hb with rfl | hb
  · obtain ⟨oL, es, ep, hL, hLd, _⟩ := F.ns
    exact ⟨oL, es, ep, hL, hLd⟩
  · obtain ⟨o, es, n, ho, hd⟩ := D b hb
    exact ⟨o, es, n, F.keep _ _ ho, hd⟩
theorem x_turnCell {g g' : Heap} {fs : List Addr} {c : Addr} {o : Obj} {v : Option Value} (T : KtsTurn fs g g') (D : KtsDicts fs g) (h : g.get? c = some o) (hd : o.data = .cell v) : g'.get? c = some o :=
  T.other c o h fun hm => by
    obtain ⟨o', es, n, ho', hd'⟩ := D c hm
    rw [h] at ho'
    cases ho'
    rw [hd] at hd'; cases hd'
theorem parsAt_code {w : World} : ∀ x ∈ (parsSc w).names, x.2 ≠ .cell := by
  unfold parsSc parsAll pickNest
  decide
theorem pars_use {w : World} {p : Program} {loose : List Str} {mean : ExcName → Option Value} {mg mb : Str → Option Value} {bd lim : Nat} {outer : Bool} {Sh : List Vec → Prop} (C : ParsSpec w p loose mean mg mb bd lim outer true Sh)
    {A₀ : Around} {base h₀ : Heap} {out : List Env} {dp un : Nat} {gd : Option (List Code)} {s : Shared} {L a : Addr} {m : Str → Option Value} {cn : Str} {cs : Scope} {ccd : Value} {cl : List (Str × Addr)} {news : List (Addr × Obj)}
    {f r pl : Addr} {part strict : Bool} {b : Array UInt8} {t tk : Tok} {k : Int} {xs : List Vec} {or op : Obj} {F : FD} {P : PD} {Q E : Value → Shared → Prop}
    (B : Below A₀ base out h₀) (XB : (kgrab.heap_1 w.params).In base) (TB : Top p loose mean mg mb base) (D : KtsDicts (out.filterMap (·.frame)) h₀) (FF : Fr h₀ L s.heap m) (N : News h₀ L s.heap ((r, or) :: (pl, op) :: news)) (hck : cs.kind = .function)
    (hdp : dp + lim < recursionLimit) (hun : un + 8 * lim < cLine) (hpa : ParsAt w h₀ f r pl part strict) (hb : KBw.bInts b = enc xs) (hx : OkV xs) (hS : Sh xs) (hk0 : 0 ≤ k) (hk1 : k ≤ 100000) (hko : outer = true → k = 0)
    (hr3 : (r == sysModules) = false) (hp3 : (pl == sysModules) = false) (hrp : @Ne Nat r pl) (hne : ∀ q ∈ news, q.1 ≠ r ∧ q.1 ≠ pl)
    (hF : DObj P0 w ValIs or F) (hP : DObj P0 w LocIs op P) (hFl : F.length + 7 * xs.length ≤ bd) (hPl : P.length + 5 * xs.length ≤ bd)
    (ret : ∀ (h' : Heap) (tk' : Nat) (or' op' : Obj) (c : Come) (F' : FD) (P' : PD), run strict outer xs 0 F P = (c, F', P') → c = .whole → Fr h₀ L h' m → News h₀ L h' ((r, or') :: (pl, op') :: news) → DObj P0 w ValIs or' F' → DObj P0 w LocIs op' P' → Q .none { s with heap := h', toks := tk' })
    (exc : ∀ (e : Addr) (h' : Heap) (tk' : Nat) (cls : Value) (or' op' : Obj) (c : Come) (F' : FD) (P' : PD) (G : Heap), Fr h₀ L G m → run strict outer xs 0 F P = (c, F', P') → (c = .malformed ∧ cls = .ref 31 ∨ c = .unknown ∧ cls = .ref 44) →
      RaisedSN base G (envX cn cs L a ccd cl :: out) e cls [(r, or'), (pl, op')] h' → G.UpToSlots h' → News h₀ L G news → DObj P0 w ValIs or' F' → DObj P0 w LocIs op' P' → E (.ref e) { s with heap := h', toks := tk' }) :
    wpAny (model P0 w) (gTop dp un gd (envX cn cs L a ccd cl :: out)) (call (.ref f) [.bytes b t] [(Str.ofString "offset", .int k tk)]) Q E s := by
  obtain ⟨B', st, ks, hz, X', T', back⟩ := share (cn := cn) (cs := cs) (a := a) (ccd := ccd) (cl := cl) [r, pl] B FF N (XB.keeps B.stays) (TB.keeps B.stays) hck (fun b hb => by
    rcases List.mem_cons.mp hb with rfl | hb
    · exact .head _
    · rw [List.mem_singleton.mp hb]; exact .tail _ (.head _))
  have Nr := N _ (.head _)
  have Np := N _ (.tail _ (.head _))
  have FG := back _ (fun _ _ e => e)
  have NG : News h₀ L (hideAll s.heap [r, pl]) news := fun q hq => by
    have P := N q (.tail _ (.tail _ hq))
    refine ⟨hideAll_get _ P.1 fun hm => ?_, P.2⟩
    rcases List.mem_cons.mp hm with e | hm
    · exact (hne q hq).1 e
    · exact (hne q hq).2 (List.mem_singleton.mp hm)
  refine C _ base _ _ _ _ _ _ f r pl part strict b t tk k xs or op F P Q E B' XB TB (x_dicts (h := s.heap) rfl D FG) ks hz hdp hun (hpa.keeps st) hb hx hS hk0 hk1 hko Nr.1 (hideAll_none _ (.head _)) hr3 Np.1 (hideAll_none _ (.tail _ (.head _))) hp3 hrp hF hP hFl hPl ?_ ?_
  · intro g' h' tk' or' op' c F' P' hr hc _ hq k' e1 e2 dF dP
    obtain rfl := hq rfl
    refine ret h' tk' or' op' c F' P' hr (hc.elim id fun h => by cases h.2.2) (back h' k') ?_ dF dP
    intro q hq
    rcases List.mem_cons.mp hq with rfl | hq
    · exact ⟨e1, Nr.2⟩
    · rcases List.mem_cons.mp hq with rfl | hq
      · exact ⟨e2, Np.2⟩
      · exact ⟨k' _ _ (NG q hq).1, (NG q hq).2⟩
  · rintro e h' tk' cls nw ⟨or', op', c, F', P', rfl, hr, hc, dF, dP⟩ hR hU
    exact exc e h' tk' cls or' op' c F' P' _ FG hr hc hR hU NG dF dP
theorem pars_out {w : World} {p : Program} {loose : List Str} {mean : ExcName → Option Value} {mg mb : Str → Option Value} {bd lim : Nat} {outer : Bool} {Sh : List Vec → Prop} (C : ParsSpec w p loose mean mg mb bd lim outer false Sh)
    {A₀ : Around} {base h₀ : Heap} {out : List Env} {dp un : Nat} {gd : Option (List Code)} {s : Shared} {L a : Addr} {m : Str → Option Value} {cn : Str} {cs : Scope} {ccd : Value} {cl : List (Str × Addr)} {news : List (Addr × Obj)}
    {f r pl : Addr} {part strict : Bool} {b : Array UInt8} {t tk : Tok} {k : Int} {xs : List Vec} {or op : Obj} {F : FD} {P : PD} {Q E : Value → Shared → Prop}
    (B : Below A₀ base out h₀) (XB : (kgrab.heap_1 w.params).In base) (TB : Top p loose mean mg mb base) (D : KtsDicts (out.filterMap (·.frame)) h₀) (FF : Fr h₀ L s.heap m) (N : News h₀ L s.heap ((r, or) :: (pl, op) :: news)) (hck : cs.kind = .function)
    (hdp : dp + lim < recursionLimit) (hun : un + 8 * lim < cLine) (hpa : ParsAt w (hideAll s.heap [r, pl]) f r pl part strict) (hb : KBw.bInts b = enc xs) (hx : OkV xs) (hS : Sh xs) (hk0 : 0 ≤ k) (hk1 : k ≤ 100000) (hko : outer = true → k = 0)
    (hr3 : (r == sysModules) = false) (hp3 : (pl == sysModules) = false) (hrp : @Ne Nat r pl) (hne : ∀ q ∈ news, q.1 ≠ r ∧ q.1 ≠ pl)
    (hF : DObj P0 w ValIs or F) (hP : DObj P0 w LocIs op P) (hFl : F.length + 7 * xs.length ≤ bd) (hPl : P.length + 5 * xs.length ≤ bd)
    (ret : ∀ (h₀' h' : Heap) (tk' : Nat) (or' op' : Obj) (c : Come) (F' : FD) (P' : PD), run strict outer xs 0 F P = (c, F', P') → (c = .whole ∨ c = .malformed ∧ part = true) → KtsTurn (out.filterMap (·.frame)) h₀ h₀' → Below A₀ base out h₀' → Fr h₀' L h' m → News h₀' L h' ((r, or') :: (pl, op') :: news) → DObj P0 w ValIs or' F' → DObj P0 w LocIs op' P' → Q .none { s with heap := h', toks := tk' })
    (exc : ∀ (e : Addr) (h' : Heap) (tk' : Nat) (cls : Value) (or' op' : Obj) (c : Come) (F' : FD) (P' : PD) (G : Heap), Fr h₀ L G m → run strict outer xs 0 F P = (c, F', P') → (c = .malformed ∧ cls = .ref 31 ∨ c = .unknown ∧ cls = .ref 44) →
      RaisedSN base G (envX cn cs L a ccd cl :: out) e cls [(r, or'), (pl, op')] h' → G.UpToSlots h' → News h₀ L G news → DObj P0 w ValIs or' F' → DObj P0 w LocIs op' P' → E (.ref e) { s with heap := h', toks := tk' }) :
    wpAny (model P0 w) (gTop dp un gd (envX cn cs L a ccd cl :: out)) (call (.ref f) [.bytes b t] [(Str.ofString "offset", .int k tk)]) Q E s := by
  obtain ⟨B', st, ks, hz, X', T', back⟩ := share (cn := cn) (cs := cs) (a := a) (ccd := ccd) (cl := cl) [r, pl] B FF N (XB.keeps B.stays) (TB.keeps B.stays) hck (fun b hb => by
    rcases List.mem_cons.mp hb with rfl | hb
    · exact .head _
    · rw [List.mem_singleton.mp hb]; exact .tail _ (.head _))
  have Nr := N _ (.head _)
  have Np := N _ (.tail _ (.head _))
  have FG := back _ (fun _ _ e => e)
  have NG : News h₀ L (hideAll s.heap [r, pl]) news := fun q hq => by
    have P := N q (.tail _ (.tail _ hq))
    refine ⟨hideAll_get _ P.1 fun hm => ?_, P.2⟩
    rcases List.mem_cons.mp hm with e | hm
    · exact (hne q hq).1 e
    · exact (hne q hq).2 (List.mem_singleton.mp hm)
  refine C _ base _ _ _ _ _ _ f r pl part strict b t tk k xs or op F P Q E B' XB TB (x_dicts (h := s.heap) rfl D FG) ks hz hdp hun hpa hb hx hS hk0 hk1 hko Nr.1 (hideAll_none _ (.head _)) hr3 Np.1 (hideAll_none _ (.tail _ (.head _))) hp3 hrp hF hP hFl hPl ?_ ?_
  · intro g' h' tk' or' op' c F' P' hr hc hT _ k' e1 e2 dF dP
    obtain ⟨h₀', T', Fb, Bb, back'⟩ := x_back (news := news) (env := envX cn cs L a ccd cl) rfl B FG hT k'
    refine ret h₀' h' tk' or' op' c F' P' hr (hc.imp id fun h => ⟨h.1, h.2.1⟩) T' Bb Fb ?_ dF dP
    intro q hq
    rcases List.mem_cons.mp hq with rfl | hq
    · exact ⟨e1, Nr.2.1, T'.none_ _ Nr.2.2⟩
    · rcases List.mem_cons.mp hq with rfl | hq
      · exact ⟨e2, Np.2.1, T'.none_ _ Np.2.2⟩
      · exact back' q hq (NG q hq)
  · rintro e h' tk' cls nw ⟨or', op', c, F', P', rfl, hr, hc, dF, dP⟩ hR hU
    exact exc e h' tk' cls or' op' c F' P' _ FG hr hc hR hU NG dF dP
end Mine
end
section
open PySem PySem.W PySem.Calls PyProof.Rows PySem.Spec
namespace Mine
theorem fill_10 : (fun w => (PySem.Challenge.rw_jy0002_01, kgrab.heap_1 w)) = (fun w => (PySem.Challenge.rw_jy0002_01, kgrab.heap_1 w)) := by
  k_fill
  rfl
def knownD : List (Int × PyData) := known.map fun p => (p.1, PyData.str p.2)
theorem keyed_55 {w : World} {g : Heap} (X : (kgrab.heap_1 w.params).In g) : KTD.Keyed g 55 knownD :=
  KTD.keyed_of_look (get := fun a => (kgrab.heap_1 w.params).lookup a) (fun a o e => X a o e) (by kernel_rfl)
section
variable {w : World} {A : Around} {E : Value → Shared → Prop} {s : Shared} {g : Heap} {L : Addr} {m : Str → Option Value} {k : Int} {t : Tok} {Q : Value → Shared → Prop}
theorem r_get55 (F : Fr g L s.heap m) (X : (kgrab.heap_1 w.params).In g) (hk : k ∈ 32 :: leafKinds) (hU : isUn k = true → Q .none { s with toks := s.toks + 1 }) (hN : ∀ t', isUn k = false → Q (.str (nameOf k) t') { s with toks := s.toks + 1 }) :
    wpAny (model P0 w) A (call (.builtin "dict.get") [.ref 55, .int k t]) Q E s := by
  refine KTD.get1_keyed (keyed_55 X) F.keep ?_
  simp only [leafKinds, List.mem_cons, List.not_mem_nil, or_false] at hk
  rcases hk with rfl | rfl | rfl | rfl | rfl | rfl | rfl | rfl | rfl | rfl | rfl | rfl | rfl | rfl | rfl | rfl | rfl | rfl | rfl
  all_goals first
    | exact hU (by decide)
    | exact fun t' => hN t' (by decide)
end
section
variable {w : World} {A : Around} {E : Value → Shared → Prop} {s : Shared} {g : Heap} {L : Addr} {m : Str → Option Value} {t : Tok} {Q : Value → Shared → Prop}
theorem r_get55s (F : Fr g L s.heap m) (X : (kgrab.heap_1 w.params).In g) (hN : ∀ t', Q (.str (Str.ofString "SSL") t') { s with toks := s.toks + 1 }) :
    wpAny (model P0 w) A (call (.builtin "dict.get") [.ref 55, .int 32 t]) Q E s := by
  refine r_get55 F X (.head _) (fun h => absurd h (by decide)) fun t' _ => ?_
  have e : nameOf 32 = Str.ofString "SSL" := by decide
  rw [e]
  exact hN t'
end
end Mine
end
section
open PySem PySem.W PySem.Calls PyProof.Rows PySem.Spec
namespace Mine
theorem fill_9 : (fun w => (PySem.Challenge.rw_jy0002_01, kgrab.heap_1 w)) = (fun w => (PySem.Challenge.rw_jy0002_01, kgrab.heap_1 w)) := by
  k_fill
  rfl
theorem loc_is {k i : Int} {t : Tok} {outer : Bool} (h : outer = true → k = 0) : LocIs (.int (k + i) t) (if outer then i else -1) := by
  refine ⟨k + i, t, rfl, ?_⟩
  cases outer with
  | true => right; rw [h rfl]; simp
  | false => exact .inl rfl
def PInv (w : World) (bd : Nat) (strict outer : Bool) (xs : List Vec) (r pl : Addr) (b : Array UInt8) (t : Tok) (k : Int) (tk : Tok) (F₀ : FD) (P₀ : PD) (n : Nat) (m : Str → Option Value) (news : List (Addr × Obj)) : Prop :=
  ∃ (j : Nat) (ti : Tok) (F : FD) (P : PD) (or op : Obj), n = xs.length - j ∧ j ≤ xs.length ∧ m (Str.ofString "chunk") = some (.bytes b t) ∧ m (Str.ofString "offset") = some (.int k tk) ∧ m (Str.ofString "i") = some (.int ((enc (xs.take j)).length : Nat) ti) ∧
    news = [(r, or), (pl, op)] ∧ DObj P0 w ValIs or F ∧ DObj P0 w LocIs op P ∧ F.length + 7 * (xs.length - j) ≤ bd ∧ P.length + 5 * (xs.length - j) ≤ bd ∧
    run strict outer xs 0 F₀ P₀ = run strict outer (xs.drop j) ((enc (xs.take j)).length : Nat) F P
theorem rules_T5 : True := by
  k_with_none
  k_with "storeName" => (k_here; k_dflt (refine' storeM ?q99F ?q99N ?_ ?q99a ?q99b; (case q99F => k_asm); (case q99N => k_asm); (case q99a => rfl); (case q99b => rfl); k_whole); intro h' m' F' N'; (try k_sweep))
  k_with "execs cons" => (first | (k_here; k_gentoks) | ((with_reducible refine wpAny_execs_cons ?_); (try dsimp only); (try k_fold)))
  k_with "exec While Compare cons nil" => (k_here; refine Stop.out ?_)
  k_with "exec While" => (k_here; refine Stop.out ?_)
  k_with "eval Name" => (k_here; k_dflt (refine' x_nameG ?q3F ?q3c ?q3g ?q3d ?_ ?q3k ?q3x; (case q3F => k_asm); (case q3c => rfl); (case q3g => with_reducible assumption); (case q3d => with_reducible assumption); (case q3k => rfl); (case q3x => rfl)))
  k_with "call builtin:len" => (k_here; (with_reducible show wpAny _ _ (call (Value.builtin "len") [Value.bytes _ _]) _ _ _); k_dflt (refine' r_len ?q4b ?q4z ?_; (case q4b => with_reducible assumption); (case q4z => first | with_reducible assumption | omega)))
  k_with "subscriptTail" => (k_here; (with_reducible show wpAny _ _ (subscriptTail _ _ (Value.bytes _ _) (Value.int _ _)) _ _ _); k_dflt (refine' r_bitem ?q5k ?q5f ?q5z ?q5l ?q5e ?_ ?q5a ?q5b; (case q5k => with_reducible assumption); (case q5e => with_reducible assumption); (case q5f => first | with_reducible assumption | omega); (case q5z => first | with_reducible assumption | omega); (case q5l => first | with_reducible assumption | omega); (case q5a => with_unfolding_all rfl); (case q5b => (intro _; with_unfolding_all rfl))); intro t' k'; (try dsimp only))
  k_with "subscriptTail" => (k_here; (with_reducible show wpAny _ _ (subscriptTail _ (PySem.Expr.Slice _ _ none _) (Value.bytes _ _) (Value.ref _)) _ _ _); (with_reducible rename Fr _ _ _ _ => F'); (with_reducible rename News _ _ _ _ => N'); k_dflt (refine' r_bslice (s := ⟨_, _, _, _, _⟩) F' N' ?q6k ?q6l ?q6u ?q6c ?q6z ?_ ?q6a ?q6b; (case q6k => with_reducible assumption); (case q6l => constructor); (case q6u => constructor); (case q6c => with_reducible assumption); (case q6z => first | with_reducible assumption | omega); (case q6a => with_unfolding_all rfl); (case q6b => (intro _; with_unfolding_all rfl))); intro h' b' t' k' F' N' hb'; (try dsimp only))
  k_with "call ref" => (k_here; (with_reducible show wpAny _ _ (call (Value.ref _) [Value.bytes _ _, Value.str _ _]) _ _ _); k_dflt (refine' r_from ?q7N ?q7m ?q7b ?q7l ?q7e ?_; (case q7N => k_asm); (case q7m => k_memK); (case q7b => with_reducible assumption); (case q7e => with_reducible assumption); (case q7l => first | with_reducible assumption | omega | (rw [be_length]; decide))); intro t' k'; (try dsimp only))
  k_with "exec Raise some none" => (k_here; k_dflt (first
  | (refine' x_raise ?q8F ?q8X ?q8T ?q8ex ?q8q PySem.F.excBase_RuntimeError ?q8hh ?_ ?q8he ?q8hk ?q8hx ?q8hd; (case q8F => k_asm); (case q8X => k_asm); (case q8T => k_asm); (case q8ex => k_is); (case q8q => k_exc); (case q8hh => rfl); (case q8he => rfl); (case q8hk => rfl); (case q8hx => rfl); (case q8hd => decide))
  | (refine' x_raiseKey ?q8F ?q8X ?q8T ?q8ex ?q8q ?q8hh ?_ ?q8he ?q8hk ?q8hx ?q8hd; (case q8F => k_asm); (case q8X => k_asm); (case q8T => k_asm); (case q8ex => k_is); (case q8q => k_exc); (case q8hh => rfl); (case q8he => rfl); (case q8hk => rfl); (case q8hx => rfl); (case q8hd => decide))))
  k_with "callWith ref" => (k_here; (with_reducible show wpAny _ _ (callWith _ (Value.ref _) [] (backTo _ _) (backToKw _ _)) _ _ _); k_dflt (refine' x_callKw ?_ ?q9he; (case q9he => rfl)))
  k_with "FnAt" => (k_dflt (exact fnAt_g (by k_asm) (by with_reducible assumption)))
  k_with "call ref" => (k_here; (with_reducible show wpAny _ _ (call (Value.ref _) [Value.bytes _ _] [_]) _ _ _); refine Stop.out ?_)
  k_with "exec Raise none none" => (k_here; refine Stop.out ?_)
  k_with "noteFrame ref" => (k_here; refine Stop.out ?_)
  k_with "call builtin:dict.get" => (k_here; (try dsimp only [List.cons_append, List.nil_append]); (with_reducible show wpAny _ _ (call _ [Value.ref 55, Value.int _ _]) _ _ _); k_dflt (refine' r_get55 ?q14F ?q14X ?q14k ?q14gU ?q14gN; (case q14F => k_asm); (case q14X => k_asm); (case q14k => with_reducible assumption)); (case' q14gU => (intro hu'; (try dsimp only))); (case' q14gN => (intro t' hu'; (try dsimp only))))
  k_with "call builtin:dict.get" => (k_here; (try dsimp only [List.cons_append, List.nil_append]); (with_reducible show wpAny _ _ (call _ [Value.ref 55, Value.int 32 _]) _ _ _); k_dflt (refine' r_get55s ?q15F ?q15X ?_; (case q15F => k_asm); (case q15X => k_asm)); intro t'; (try dsimp only))
  k_with "And" => ((with_reducible show PySem.Str.length (_ ++ _) ≤ sizeLine ∧ _); refine ⟨?q16slen, ?_⟩; k_dflt (case q16slen => (simp only [strLen_append]; rw [sizeLine_eq]; first | exact tlv1 | exact tlv2 _ | exact tlv3 _ | exact tx1 | exact tx2 _ | omega)))
  k_with "joinParts" => (k_here; (first | (with_reducible show wpAny _ _ (joinParts _ []) _ _ _) | (with_reducible show wpAny _ _ (joinParts _ (evalEach [] _)) _ _ _)); k_dflt (refine joinParts_nil ?_ ?q17slen); k_dflt (case q17slen => (simp only [strLen_append]; rw [sizeLine_eq]; first | exact tlv1 | exact tlv2 _ | exact tlv3 _ | exact tx1 | exact tx2 _ | omega)); (try rw [name_un (by with_reducible assumption) (by with_reducible assumption)]))
  k_with "formatField int" => (k_here; k_dflt (refine' fmt_kind ?q18k ?_; (case q18k => with_reducible assumption)); intro t' k'; (try dsimp only))
  k_with "setItem ref str" => (k_here; k_dflt (refine' r_set ?q19F ?q19N ?q19U ?q19o ?q19v ?q19z ?_; (case q19F => k_asm); (case q19N => k_asm); (case q19U => k_updF); (case q19o => k_asm); (case q19v => first | exact loc_is (by with_reducible assumption) | exact val_bytes (by assumption) | exact val_int | exact val_bool); (case q19z => first | with_reducible assumption | omega)); intro h' o' F' N' do'; (try dsimp only at N'); (try dsimp only))
  k_with "loadName" => (k_here; k_dflt (refine' x_loadL ?q20F ?q20v ?_ ?q20k ?q20x; (case q20F => k_asm); (case q20v => rfl); (case q20k => rfl); (case q20x => rfl)))
  trivial
set_option maxHeartbeats 8000000 in
theorem pars_step {w : World} {p : Program} {loose : List Str} {mean : ExcName → Option Value} {mg mb : Str → Option Value} {bd lim : Nat} {outer : Bool} {Sh : List Vec → Prop} (hbd : bd ≤ 1000)
    (H : ParsSpec w p loose mean mg mb (bd + 100) lim false true (fun xs => ∃ ls : List Leaf, xs = ls.map Vec.leaf) ∨ ∀ xs, Sh xs → ∃ ls : List Leaf, xs = ls.map Vec.leaf) (quiet : Bool) (hq : quiet = true → ∀ xs, Sh xs → ∃ ls : List Leaf, xs = ls.map Vec.leaf) :
    ParsSpec w p loose mean mg mb bd (lim + 2) outer quiet Sh := by
  intro A₀ base g out dp un gd s f r pl part strict b t tk0 k xs or op F P Q E B XB TB D hk hz hdp hun hpa hb hx hSh hk0 hk1 hko hr1 hr2 hr3 hp1 hp2 hp3 hrp hF hP hFl hPl ret exc
  have X := XB.keeps B.stays
  have T := TB.keeps B.stays
  obtain ⟨qual, doc, pm, ctv, c', c1, c2, c3, c4, c5, c6, o1, o2, o3, o4, o5, o6, h0, hcr, ⟨g1, q1⟩, ⟨g2, q2⟩, ⟨g3, q3⟩, ⟨g4, q4⟩, ⟨g5, q5⟩, ⟨g6, q6⟩⟩ := id hpa
  refine wpAny_call ?_
  refine enterN (news := [(r, or), (pl, op)]) (ParsX w r pl strict outer xs F P) B rfl hk hz (fun q hq => by
    rcases List.mem_cons.mp hq with rfl | hq
    · exact ⟨hr1, hr2⟩
    · rw [List.mem_singleton.mp hq]; exact ⟨hp1, hp2⟩) T h0 rfl hcr (by k_room) (BindsTo.of_eq rfl) (locs rfl) ?_ ?_ ?_ ?_ ?_ ?_
  · intro L' h₁ F' N' B' l' hLs hLl
    (try k_lt l')
    unfold parsBo parsSc parsAll pickNest
    (try dsimp only)
    try k_fold
    w_top on
    k_steps
    unfold Stop
    rename Fr _ _ _ _ => F'
    rename News _ _ _ _ => N'
    refine While_inv2 (PInv w bd strict outer xs r pl b t k tk0 F P) (n₀ := xs.length) F' (news := [(r, or), (pl, op)]) ?_ ?_ ?_ (XE.own rfl rfl)
    · refine news_sub N' sub_same
    · exact ⟨0, _, F, P, or, op, rfl, Nat.zero_le _, (by with_unfolding_all rfl), (by with_unfolding_all rfl), (by with_unfolding_all rfl), rfl, hF, hP, by omega, by omega, rfl⟩
    · try clear F' N'
      rintro n m₁ news₁ h tk' F₁ N₁ ⟨j, ti, F1, P1, or1, op1, rfl, hj, e1, e2, e3, rfl, hF1, hP1, hFl1, hPl1, hrun⟩
      have F₂ := knows [(Str.ofString "chunk", .bytes b t), (Str.ofString "offset", .int k tk0), (Str.ofString "i", .int ((enc (xs.take j)).length : Nat) ti)] F₁ (al1 e1 (al1 e2 (al1 e3 al0)))
      clear F₁
      simp only [withL] at F₂
      have hbig := enc_le hx.all
      have hfew := hx.few
      have hsz : (enc xs).length ≤ 100000 := by omega
      have hsz6 : (enc xs).length ≤ 16777216 := Nat.le_trans hsz (by decide)
      have zF1 : F1.length ≤ 16777216 := sz0 hFl1 hbd
      have zP1 : P1.length ≤ 16777216 := sz0 hPl1 hbd
      by_cases hjl : j < xs.length
      · obtain ⟨x, hdrop, hxm⟩ := drop_at hjl
        have hless := at_less hdrop
        have hlast := last_of hdrop hx
        have hok := hx.all _ hxm
        have hvl := hok.len
        have hg0 := hok.gr0
        have hg1 := hok.gr1
        have cKind := at_kind hdrop
        have cLen := at_len hdrop
        have cVal := at_val hdrop hg0 hlast
        have cNum := value_be2 (z := (x.val.length : Nat) + x.gr) (by omega) (by omega)
        have hlt : (((enc (xs.take j)).length : Nat) : Int) < ((enc xs).length : Nat) := by omega
        have hp0 : (0 : Int) ≤ ((enc (xs.take j)).length : Nat) := by omega
        cases x with
        | leaf lf =>
          dsimp only [Vec.kind, Vec.gr, Vec.val] at cKind cLen cVal cNum hg0 hg1 hvl hless hlast
          have hkl : lf.kind ∈ leafKinds := Leaf.Ok.kind hok
          have hkk : lf.kind ∈ 32 :: leafKinds := .tail _ hkl
          have hns := name_leafB hkl
          have hvl6 : lf.val.length ≤ 16777216 := Nat.le_trans hvl (by decide)
          have s0 : (Str.empty).length = 0 := rfl
          have s1 : (Str.ofString "TLV 0x").length = 6 := by decide +kernel
          have s2 : (Str.ofString " is malformed!").length = 14 := by decide +kernel
          have s3 : (Str.ofString "x").length = 1 := by decide +kernel
          have s4 := hexOf_len lf.kind
          k_steps
          all_goals (try unfold Stop)
          · rename Fr _ _ _ _ => F'
            rename News _ _ _ _ => N'
            refine ⟨F'.keep, fun h' e hx' => ?_⟩
            exact x_made (news := [(r, or1), (pl, op1)]) rfl rfl B' F' N' KtsTurn.refl (sub_t sub_same) hx' ⟨or1, op1, .malformed, F1, P1, rfl, by rw [hrun, hdrop]; exact run_gr (show 0 < (Vec.leaf lf).gr from (show 0 < lf.gr by omega)), .inl ⟨rfl, rfl⟩, hF1, hP1⟩
          · rename Fr _ _ _ _ => F'
            rename News _ _ _ _ => N'
            rename DObj _ _ ValIs _ (put _ _ _) => dF
            rename DObj _ _ LocIs _ (put _ _ _) => dP
            rename isUn lf.kind = _ => hu
            have hgr : lf.gr = 0 := by omega
            have en : (((enc (xs.take (j + 1))).length : Nat) : Int) = ((enc (xs.take j)).length : Nat) + (3 + ((lf.val.length : Nat) + lf.gr)) := by
              have h1 := enc_take_succ hdrop
              have h2 := encWith_length lf.kind lf.val lf.gr
              simp only [Vec.enc, Vec.kind, Vec.val, Vec.gr] at h1
              omega
            have l1 := put_length F1 (nameOf lf.kind) (DV.bytes lf.val)
            have l2 := put_length P1 (nameOf lf.kind) (if outer then ((enc (xs.take j)).length : Int) else -1)
            refine wEnd (n' := xs.length - (j + 1)) F' (news_sub N' (sub_t sub_same)) (down1 hjl) ⟨j + 1, _, put F1 (nameOf lf.kind) (DV.bytes lf.val), put P1 (nameOf lf.kind) (if outer then ((enc (xs.take j)).length : Int) else -1), _, _, rfl, hjl, rfl, rfl, (by rw [en]; rfl), rfl, dF, dP, bd7 hFl1 hjl (one7 l1), bd5 hPl1 hjl (one5 l2), ?_⟩
            rw [hrun, hdrop, run_on (by omega) (by rw [hu]; rfl), enc_take_succ hdrop]
            rfl
          · rename Fr _ _ _ _ => F'
            rename News _ _ _ _ => N'
            rename isUn lf.kind = true => hu
            rename strict = true => hst
            refine ⟨F'.keep, fun h' e hx' => ?_⟩
            have hgr : lf.gr = 0 := by omega
            exact x_made (news := [(r, or1), (pl, op1)]) rfl rfl B' F' N' KtsTurn.refl (sub_t sub_same) hx' ⟨or1, op1, .unknown, F1, P1, rfl, by rw [hrun, hdrop]; exact run_un (by omega) (by rw [hu, hst]; rfl), .inr ⟨rfl, rfl⟩, hF1, hP1⟩
          · rename Fr _ _ _ _ => F'
            rename News _ _ _ _ => N'
            rename DObj _ _ ValIs _ (put _ _ _) => dF
            rename DObj _ _ LocIs _ (put _ _ _) => dP
            rename isUn lf.kind = _ => hu
            have hgr : lf.gr = 0 := by omega
            have en : (((enc (xs.take (j + 1))).length : Nat) : Int) = ((enc (xs.take j)).length : Nat) + (3 + ((lf.val.length : Nat) + lf.gr)) := by
              have h1 := enc_take_succ hdrop
              have h2 := encWith_length lf.kind lf.val lf.gr
              simp only [Vec.enc, Vec.kind, Vec.val, Vec.gr] at h1
              omega
            have l1 := put_length F1 (nameOf lf.kind) (DV.bytes lf.val)
            have l2 := put_length P1 (nameOf lf.kind) (if outer then ((enc (xs.take j)).length : Int) else -1)
            refine wEnd (n' := xs.length - (j + 1)) F' (news_sub N' (sub_t sub_same)) (down1 hjl) ⟨j + 1, _, put F1 (nameOf lf.kind) (DV.bytes lf.val), put P1 (nameOf lf.kind) (if outer then ((enc (xs.take j)).length : Int) else -1), _, _, rfl, hjl, rfl, rfl, (by rw [en]; rfl), rfl, dF, dP, bd7 hFl1 hjl (one7 l1), bd5 hPl1 hjl (one5 l2), ?_⟩
            rw [hrun, hdrop, run_on (by omega) (by rename strict = false => hst; rw [hst, Bool.and_false]), enc_take_succ hdrop]
            rfl
        | ssl c ver below gr =>
          rcases H with H | H
          case inr =>
            obtain ⟨ls, rfl⟩ := H xs hSh
            obtain ⟨q, hq, e⟩ := List.mem_map.mp hxm
            cases e
          dsimp only [Vec.kind, Vec.gr, Vec.val] at cKind cLen cVal cNum hg0 hg1 hvl hless hlast
          obtain ⟨oc0, oc1, ov0, ov1, okb, -, -⟩ := id hok
          have hkk : (32 : Int) ∈ 32 :: leafKinds := .head _
          have s0 : (Str.empty).length = 0 := rfl
          have s1 : (Str.ofString "TLV 0x").length = 6 := by decide +kernel
          have s2 : (Str.ofString " is malformed!").length = 14 := by decide +kernel
          have s4 := hexOf_len 32
          have v0 : (0 : Int) < ((c :: (be 4 ver ++ encL below)).length : Nat) := by rw [List.length_cons]; omega
          have v1 : (c :: (be 4 ver ++ encL below)).length ≤ 100000 := Nat.le_trans hvl (by decide)
          have v16 : (c :: (be 4 ver ++ encL below)).length ≤ 16777216 := Nat.le_trans hvl (by decide)
          have v2 := ssl_client (c := c) (v := ver) (r := encL below)
          have v3 := ssl_verify (c := c) (v := ver) (r := encL below)
          have v4 := ssl_below (c := c) (v := ver) (r := encL below)
          have v5 := value_be4 ov0 ov1
          have lc := put_length F1 (Str.ofString "SSL_CLIENT") (DV.int c)
          have zc1 : (put F1 (Str.ofString "SSL_CLIENT") (DV.int c)).length ≤ 16777216 := sz1 hFl1 hbd lc
          have lv := put_length (put F1 (Str.ofString "SSL_CLIENT") (DV.int c)) (Str.ofString "SSL_VERIFY") (DV.int ver)
          have lp := put_length P1 (Str.ofString "SSL") (if outer then ((enc (xs.take j)).length : Int) else -1)
          k_steps
          all_goals (try unfold Stop)
          · rename Fr _ _ _ _ => F'
            rename News _ _ _ _ => N'
            refine ⟨F'.keep, fun h' e hx' => ?_⟩
            exact x_made (news := [(r, or1), (pl, op1)]) rfl rfl B' F' N' KtsTurn.refl (sub_t sub_same) hx' ⟨or1, op1, .malformed, F1, P1, rfl, by rw [hrun, hdrop]; exact run_gr (show 0 < (Vec.ssl c ver below gr).gr from (show 0 < gr by omega)), .inl ⟨rfl, rfl⟩, hF1, hP1⟩
          · rename Fr _ _ _ _ => F'
            rename News _ _ _ _ => N'
            rename DObj _ _ ValIs _ (put _ _ _) => dF
            rename DObj _ _ LocIs _ (put _ _ _) => dP
            have hgr : ¬ 0 < gr := by omega
            have fewb : (below.map Vec.leaf).length ≤ 4 := by rw [List.length_map]; exact okb.few
            refine pars_use H B' XB TB D F' (news := []) (xs := below.map Vec.leaf) (news_sub N' (sub_t (sub_t sub_same))) rfl (by k_room) (by k_units) hpa (by rw [enc_leaf]; assumption) (okL_V okb) ⟨_, rfl⟩ hp0 (by omega) (fun h => by cases h) hr3 hp3 hrp al0 dF dP (by omega) (by omega) ?_ ?_
            · intro h3 tk3 or3 op3 cm F3 P3 hrun3 hcm Fr3 Nw3 dF3 dP3
              subst hcm
              have e3' := run_ssl (r := xs.drop (j + 1)) hgr hrun3
              rw [← hdrop] at e3'
              rw [run_leafs] at hrun3
              have hl3 := runL_len _ _ _ _ _ _ _ hrun3
              have fewc := okb.few
              have zF3 : F3.length ≤ 16777216 := sz3 hFl1 hbd lc lv hl3.1 fewc
              have l1 := put_length F3 (Str.ofString "SSL") (DV.bool true)
              clear F' N' dF dP
              k_steps
              rename Fr _ _ _ _ => F'
              rename News _ _ _ _ => N'
              rename DObj _ _ ValIs _ (put _ _ _) => dF
              have en : (((enc (xs.take (j + 1))).length : Nat) : Int) = ((enc (xs.take j)).length : Nat) + (3 + (((c :: (be 4 ver ++ encL below)).length : Nat) + gr)) := by
                have h1 := enc_take_succ hdrop
                have h2 := encWith_length 32 (c :: (be 4 ver ++ encL below)) gr
                simp only [Vec.enc, Vec.kind, Vec.val, Vec.gr] at h1
                omega
              refine wEnd (n' := xs.length - (j + 1)) F' (news_sub N' sub_same) (down1 hjl) ⟨j + 1, _, put F3 (Str.ofString "SSL") (DV.bool true), P3, _, _, rfl, hjl, rfl, rfl, (by rw [en]; rfl), rfl, dF, dP3, bd7 hFl1 hjl (chain7 l1 hl3.1 fewc lv lc), bd5 hPl1 hjl (chain5 hl3.2 fewc lp), ?_⟩
              rw [hrun, e3', enc_take_succ hdrop]
            · intro e h4 tk4 cls or4 op4 cm F4 P4 G FG hrun4 hcc hR hU NG dF4 dP4
              have e4' := run_ssl (r := xs.drop (j + 1)) hgr hrun4
              rw [← hdrop] at e4'
              rw [run_leafs] at hrun4
              have hl4 := runL_len _ _ _ _ _ _ _ hrun4
              have fewc := okb.few
              clear F' N' dF dP
              rcases hcc with ⟨rfl, rfl⟩ | ⟨rfl, rfl⟩
              · refine x_hit (C := .ref 31) (kp := []) hR rfl rfl FG B' hU XB TB KtsTurn.refl D (fun q hq => nomatch hq) (fun F X T hq => nameX_K F X T (by k_is) hq) (by kts_exm) (XE.at rfl rfl) ?_
                intro h6 g6 oe oT T6 hT6 F6 N6 hx6 hne6 hTe6 K6 X6 T6' D6
                simp only [List.append_nil] at N6 hne6
                have y1 : @Ne Nat r e := (hne6 _ (.head _)).1
                have y2 : @Ne Nat r T6 := (hne6 _ (.head _)).2
                have y3 : @Ne Nat pl e := (hne6 _ (.tail _ (.head _))).1
                have y4 : @Ne Nat pl T6 := (hne6 _ (.tail _ (.head _))).2
                have y5 := Ne.symm y1
                have y6 := Ne.symm y2
                have z2 := x_turnCell hT6 D g2 q2
                have z5 := x_turnCell hT6 D g5 q5
                k_steps
                all_goals (try unfold Stop)
                all_goals (rename Fr _ _ _ _ => F'; rename News _ _ _ _ => N'; rename DObj _ _ ValIs _ (put _ _ _) => dF; rename part = _ => hpt)
                · have hqf : quiet = false := by
                    cases hqq : quiet with
                    | false => rfl
                    | true =>
                      obtain ⟨ls, rfl⟩ := hq hqq xs hSh
                      obtain ⟨q, hq', e'⟩ := List.mem_map.mp hxm
                      cases e'
                  exact ret g6 _ _ _ op4 .malformed _ P4 (hrun.trans e4') (.inr ⟨rfl, hpt, hqf⟩) hT6 (fun h => by rw [hqf] at h; cases h) F'.keep (N' _ (.tail _ (.tail _ (.head _)))).1 (N' _ (.tail _ (.tail _ (.tail _ (.head _))))).1 dF dP4
                · refine x_again (news := [(r, _), (pl, op4)]) rfl rfl rfl rfl K6 hT6 F' N' hx6 (al1 ⟨y1, y2⟩ (al1 ⟨y3, y4⟩ al0)) hTe6 sub_same ⟨_, op4, .malformed, _, P4, rfl, hrun.trans e4', .inl ⟨rfl, rfl⟩, dF, dP4⟩
              · refine x_miss (C := .ref 31) hR rfl rfl FG B' hU XB TB (fun F X T hq => nameX_K F X T (by k_is) hq) (by kts_exm) ?_
                intro h6 a0 Bx hB hBG hl hh hU6
                exact ⟨e, h6, tk4, .ref 44, a0, [(r, or4), (pl, op4)], Bx, rfl, rfl, ⟨or4, op4, .unknown, F4, P4, rfl, hrun.trans e4', .inr ⟨rfl, rfl⟩, dF4, dP4⟩, (Heap.UpToSlots.of_keeps FG.keep).trans hU6, hB,
                  (fun b o q nm => hBG b o (FG.keep b o q) fun hm => (x_mem rfl hm).elim (fun z => by rw [z, kts_self FG] at q; cases q) nm), (fun q hq => ⟨(hl q hq).1, kts_none FG.keep (hl q hq).2.1, (hl q hq).2.2⟩), Way.held hh⟩
      · have hjx : j = xs.length := by omega
        subst hjx
        rw [List.take_length] at *
        k_steps
        rename Fr _ _ _ _ => F'
        rename News _ _ _ _ => N'
        try dsimp only
        exact ret g _ _ or1 op1 .whole F1 P1 (by rw [hrun, List.drop_length]; rfl) (.inl rfl) KtsTurn.refl (fun _ => rfl) F'.keep (N' _ (.head _)).1 (N' _ (.tail _ (.head _))).1 hF1 hP1
  · intro e h' tk' cls news hX hR hU
    exact exc e h' tk' cls news hX hR hU
  · exact parsAt_code
  all_goals rfl
theorem pars_inner {w : World} {p : Program} {loose : List Str} {mean : ExcName → Option Value} {mg mb : Str → Option Value} : ParsSpec w p loose mean mg mb 1000 2 false true (fun xs => ∃ ls : List Leaf, xs = ls.map Vec.leaf) :=
  pars_step (lim := 0) (Nat.le_refl _) (.inr fun _ h => h) true fun _ _ h => h
theorem pars_outer {w : World} {p : Program} {loose : List Str} {mean : ExcName → Option Value} {mg mb : Str → Option Value} : ParsSpec w p loose mean mg mb 900 4 true false (fun _ => True) :=
  pars_step (lim := 2) (by decide) (.inl pars_inner) false fun h => by cases h
end Mine
end
section
open PySem PySem.W PySem.Calls PyProof.Rows PySem.Spec
namespace Mine
theorem fill_11 : (fun w => (PySem.Challenge.rw_jy0002_01, kgrab.heap_1 w)) = (fun w => (PySem.Challenge.rw_jy0002_01, kgrab.heap_1 w)) := by
  k_fill
  rfl
def parsQual : Str := (Str.ofString "ProxyTLV.parse" ++ ".<locals>.") ++ Str.ofString "_pars"
def tabFull (c' : Addr) : Obj := tabObj #[rawInt 24, rawInt 8, .ref c']
def TabLed (l : List (Addr × Obj)) : Prop := l = [(72, tabObj #[])] ∨ ∃ (c' : Addr) (oc : Obj) (vs : Array Value) (t : Tok), l = [(72, tabFull c'), (c', oc)] ∧ oc.data = .fields vs ∧ vs[1]? = some (.str parsQual t)
theorem qual_is {nm n b : Str} {sc : Scope} {L a : Addr} {cd : Value} (h : (envOfC nm sc L a cd).kindOf b = some .cell) : qualnameIn (envOfC nm sc L a cd) n b = (nm ++ ".<locals>.") ++ n := by
  unfold qualnameIn
  rw [h]
  rfl
theorem x_apart {h : Heap} {a b : Addr} {o o' : Obj} {es : Array DictEntry} {n : Nat} (ha : h.get? a = some o) (hb : h.get? b = some o') (hd : o'.data = .dict es n) (hn : o.data ≠ .dict es n) : a ≠ b := fun e => by
  rw [e, hb] at ha
  cases ha
  exact hn hd
theorem x_hidden {h : Heap} {a r pl : Addr} {o oR oP : Obj} {es es' : Array DictEntry} {n n' : Nat} (ha : h.get? a = some o) (hr : h.get? r = some oR) (hp : h.get? pl = some oP) (dr : oR.data = .dict es n) (dp : oP.data = .dict es' n') (hn : ∀ es n, o.data ≠ .dict es n) :
    (hideAll h [r, pl]).get? a = some o := hideAll_get _ ha fun hm => by
  rcases List.mem_cons.mp hm with e | hm
  · exact x_apart ha hr dr (hn _ _) e
  · exact x_apart ha hp dp (hn _ _) (List.mem_singleton.mp hm)
theorem mem_of_rest {α : Type} {a b p r c d e f g h i : α} {q : α} (hq : q ∈ [a, b, c, d, e, f, g, h, i]) : q ∈ [a, b, p, r, c, d, e, f, g, h, i] := by
  simp only [List.mem_cons, List.not_mem_nil, or_false] at hq ⊢
  rcases hq with h | h | h | h | h | h | h | h | h <;> simp [h]
theorem rest_data {f c' : Addr} {x1 x2 x3 x4 x5 x6 : Addr} {oc k6 k5 k4 u4 u5 u6 of : Obj} {fd : FuncData} {vs : Array Value} {v6 v5 v4 v3 v2 v1 : Option Value} {es : Array DictEntry} {n : Nat} (hf : of.data = .func fd := by rfl) (h0 : oc.data = .fields vs) (h6 : k6.data = .cell v6) (h5 : k5.data = .cell v5) (h4 : k4.data = .cell v4) (h3 : u4.data = .cell v3) (h2 : u5.data = .cell v2) (h1 : u6.data = .cell v1) {q : Addr × Obj}
    (hq : q ∈ [(f, of), (c', oc), (x6, k6), (x5, k5), (x4, k4), (x3, u4), (x2, u5), (x1, u6), (72, tabFull c')]) : q.2.data ≠ .dict es n := by
  simp only [List.mem_cons, List.not_mem_nil, or_false] at hq
  intro e
  rcases hq with rfl | rfl | rfl | rfl | rfl | rfl | rfl | rfl | rfl <;> dsimp only at e
  · rw [hf] at e; cases e
  · rw [h0] at e; cases e
  · rw [h6] at e; cases e
  · rw [h5] at e; cases e
  · rw [h4] at e; cases e
  · rw [h3] at e; cases e
  · rw [h2] at e; cases e
  · rw [h1] at e; cases e
  · cases e
theorem x_kept {A₀ : Around} {base g G B : Heap} {outer : List Env} {env : Env} {L : Addr} {kp news : List (Addr × Obj)} (hf : env.frame = some L) (K : Below A₀ base outer g) (hBG : ∀ b o, G.get? b = some o → b ∉ (env :: outer).filterMap (·.frame) → B.get? b = some o)
    (N : News g L G kp) (hs : ∀ q ∈ news, q ∈ kp) : ∀ q ∈ news, B.get? q.1 = some q.2 ∧ g.get? q.1 = none ∧ base.get? q.1 = none := fun q hq => by
  have P := N q (hs q hq)
  refine ⟨hBG _ _ P.1 fun hm => ?_, P.2.2, fresh_of_stays K.stays P.2.2⟩
  rcases x_mem hf hm with z | z
  · exact P.2.1 z
  · obtain ⟨_, o, ho, _⟩ := K.frames.mem z
    rw [P.2.2] at ho; cases ho
theorem led_of {g h : Heap} {L : Addr} {news l : List (Addr × Obj)} (N : News g L h news) (s : ∀ q ∈ l, q ∈ news) : Led g h l := fun q hq => ⟨(N q (s q hq)).1, (N q (s q hq)).2.2⟩
def DefPost (w : World) (g : Heap) (L' : Addr) (s : Shared) (b : Array UInt8) (t : Tok) (r pl : Addr) (oR oP k6 k5 u4 u5 u6 : Obj) (fl : Flow) (s' : Shared) : Prop :=
  ∃ (f c' : Addr) (oc : Obj) (vs : Array Value) (ct dc pm : Value) (h' : Heap) (tk' : Nat) (m' : Str → Option Value) (k4 : Obj) (ti : Tok), fl = .next ∧ s' = { s with heap := h', toks := tk' } ∧ Fr g L' h' m' ∧ m' (Str.ofString "data") = some (.bytes b t) ∧
    News g L' h' [(f, fnMade (Str.ofString "_pars") parsQual (parsPa w) (parsBo w) (parsSc w) [(Str.ofString "tlv_loc", L' + 1 + 1 + 1 + 1 + 1 + 1), (Str.ofString "strict", L' + 1 + 1 + 1), (Str.ofString "rslt", L' + 1 + 1 + 1 + 1 + 1), (Str.ofString "partial_ok", L' + 1 + 1), (Str.ofString "cls", L' + 1), (Str.ofString "_pars", L' + 1 + 1 + 1 + 1)] dc pm c' ct),
      (c', oc), (pl, oP), (r, oR), (L' + 1 + 1 + 1 + 1 + 1 + 1, k6), (L' + 1 + 1 + 1 + 1 + 1, k5), (L' + 1 + 1 + 1 + 1, k4), (L' + 1 + 1 + 1, u4), (L' + 1 + 1, u5), (L' + 1, u6), (72, tabFull c')] ∧
    k4.data = .cell (some (.ref f)) ∧ oc.data = .fields vs ∧ vs[1]? = some (.str parsQual ti)
def ParseArgs (b : Array UInt8) (t : Tok) (part strict : Bool) (args : Args) : Prop :=
  args = ⟨[.ref 104, .bytes b t, .bool part, .bool strict], []⟩ ∨ (args = ⟨[.ref 104, .bytes b t], []⟩ ∧ part = true ∧ strict = false) ∨ args = ⟨[.ref 104, .bytes b t], [(Str.ofString "partial_ok", .bool part), (Str.ofString "strict", .bool strict)]⟩
theorem rules_T6 : True := by
  k_with_none
  k_with "storeName" => (k_here; k_dflt (refine' storeM ?q99F ?q99N ?_ ?q99a ?q99b; (case q99F => k_asm); (case q99N => k_asm); (case q99a => rfl); (case q99b => rfl); k_whole); intro h' m' F' N'; (try k_sweep))
  k_with "execs cons" => (first | (k_here; k_gentoks) | ((with_reducible refine wpAny_execs_cons ?_); (try dsimp only); (try k_fold)))
  k_with "exec FunctionDef" => (k_here; refine Stop.out ?_)
  k_with "callWith ref" => (k_here; (with_reducible show wpAny _ _ (callWith _ (Value.ref _) [] (backTo _ _) (backToKw _ _)) _ _ _); k_dflt (refine' x_callKw ?_ ?q2he; (case q2he => rfl)))
  k_with "call ref" => (k_here; (with_reducible show wpAny _ _ (call (Value.ref _) [Value.bytes _ _] [_]) _ _ _); refine Stop.out ?_)
  trivial
set_option maxHeartbeats 8000000 in
theorem parse_call {w : World} {p : Program} {loose : List Str} {mean : ExcName → Option Value} {mg mb : Str → Option Value} {A₀ : Around} {base g : Heap} {out : List Env} {dp un : Nat} {gd : Option (List Code)} {s : Shared}
    {R : Result → Shared → Prop} {b : Array UInt8} {t : Tok} {part strict : Bool} {tl : List (Addr × Obj)} {args : Args} {xs : List Vec}
    (hargs : ParseArgs b t part strict args)
    (B : Below A₀ base out g) (XB : (kgrab.heap_1 w.params).In base) (TB : Top p loose mean mg mb base) (D : KtsDicts (out.filterMap (·.frame)) g) (hk : g.StaysIn s.heap) (hz : g.objs.size ≤ s.heap.objs.size) (hCd : CodeHd g 76 72) (htl : TabLed tl) (hled : Led g s.heap tl)
    (hdp : dp + 8 < recursionLimit) (hun : un + 80 < cLine) (hb : KBw.bInts b = enc xs) (hx : OkV xs)
    (ret : ∀ (g' h' : Heap) (tk' : Nat) (a r pl : Addr) (or op : Obj) (tl' : List (Addr × Obj)) (c : Come) (F : FD) (P : PD), run strict true xs 0 [] [] = (c, F, P) → (c = .whole ∨ c = .malformed ∧ part = true) → KtsTurn (out.filterMap (·.frame)) g g' → g'.StaysIn h' →
      Led g' h' ((a, tupOf [.ref r, .ref pl]) :: (r, or) :: (pl, op) :: tl') → TabLed tl' → DObj P0 w ValIs or F → DObj P0 w LocIs op P → (r == sysModules) = false → (pl == sysModules) = false → @Ne Nat r pl → R (.ok (.ret (.ref a))) { s with heap := h', toks := tk' })
    (exc : ∀ (e : Addr) (h' : Heap) (tk' : Nat) (cls : Value) (c : Come) (F : FD) (P : PD) (tl' : List (Addr × Obj)), run strict true xs 0 [] [] = (c, F, P) → (c = .malformed ∧ part = false ∧ cls = .ref 31 ∨ c = .unknown ∧ cls = .ref 44) → TabLed tl' → RaisedSN base g out e cls tl' h' → g.UpToSlots h' →
      R (.error (.ref e)) { s with heap := h', toks := tk' }) :
    codeAny (model P0 w) (gTop dp un gd out) (.call (.ref 77) args) R s := by
  have X := XB.keeps B.stays
  have T := TB.keeps B.stays
  obtain ⟨ps, a2, o2, hps, hled2⟩ : ∃ (ps : Array Value) (a2 : Addr) (o2 : Obj), ((ps = #[] ∧ a2 = 72 ∧ o2 = tabObj #[]) ∨ ∃ (vs : Array Value) (t : Tok), ps = #[rawInt 24, rawInt 8, .ref a2] ∧ o2.data = .fields vs ∧ vs[1]? = some (.str parsQual t)) ∧ Led g s.heap [(72, tabObj ps), (a2, o2)] := by
    rcases htl with rfl | ⟨c', oc, vs, t', rfl, hd, hv⟩
    · refine ⟨#[], 72, tabObj #[], .inl ⟨rfl, rfl, rfl⟩, fun q hq => ?_⟩
      rcases List.mem_cons.mp hq with rfl | hq
      · exact hled _ (.head _)
      · rw [List.mem_singleton.mp hq]; exact hled _ (.head _)
    · exact ⟨_, c', oc, .inr ⟨vs, t', rfl, hd, hv⟩, hled⟩
  refine enterCX (news := [(72, tabObj ps), (a2, o2)]) (binds := [(Str.ofString "cls", .ref 104), (Str.ofString "data", .bytes b t), (Str.ofString "partial_ok", .bool part), (Str.ofString "strict", .bool strict)])
    (fun cls news => ∃ (c : Come) (F : FD) (P : PD), TabLed news ∧ run strict true xs 0 [] [] = (c, F, P) ∧ (c = .malformed ∧ part = false ∧ cls = .ref 31 ∨ c = .unknown ∧ cls = .ref 44)) B rfl hk hz hled2 X T (by k_is) (by k_is) (by k_room)
    (by rcases hargs with rfl | ⟨rfl, rfl, rfl⟩ | rfl <;> exact binds_K (X.keeps hk) rfl (by k_is) rfl rfl rfl) rfl (by decide +kernel) ?_ ?_
  · intro L' h₁ tk cells F' N' hC B' l' hls
    (try k_lt l')
    k_cells hC
    (try simp only [List.cons_append, List.nil_append] at N')
    (try dsimp only)
    try k_fold
    w_top on
    k_steps
    unfold Stop
    rename_i u1 u2 u3 u4 u5 u6 e1 e2 e3 e4 e5 e6 _ _ r hh1 oR loR hsR v1 v2 v3 l1 hh2 k5 dk5 _ _ pl hh3 oP loP hsP v4 v5 v6 l2 hh4 k6 F' N' dk6
    replace e6 : u6.data = .cell (some (.ref 104)) := e6
    replace e5 : u5.data = .cell (some (.bool part)) := e5
    replace e4 : u4.data = .cell (some (.bool strict)) := e4
    refine wpAny_mono (Q := DefPost w g L' s b t r pl oR oP k6 k5 u4 u5 u6) ?_ ?_ (fun _ _ x => x)
    · refine nestDef_kw rfl rfl rfl ?_
      rw [qual_is rfl]
      rcases hps with ⟨rfl, rfl, rfl⟩ | ⟨vs, ti, rfl, hd, hv⟩
      · have N'' := news_sub (l' := [(pl, oP), (r, oR), (L' + 1 + 1 + 1 + 1 + 1 + 1, k6), (L' + 1 + 1 + 1 + 1 + 1, k5), (L' + 1 + 1 + 1 + 1, u3), (L' + 1 + 1 + 1, u4), (L' + 1 + 1, u5), (L' + 1, u6), (72, tabObj #[])]) N' (fun q hq => List.mem_append_left [(72, tabObj #[])] hq)
        clear N'
        k_dflt (refine' nest_K ?qF ?qN ?qT ?qC ?qd ?qU ?qt ?qn ?ql ?_; (case qF => exact F'); (case qN => exact N''); (case qT => k_asm); (case qd => exact rfl); (case qC => exact hCd); (case qU => k_updF); (case qt => kn_triples); (case qn => kn_among); (case ql => exact rfl))
        intro f' c' oc' vs' t' ct' dc' h' tk' F' N' d1' d2' l1 l2
        (try dsimp only at N')
        (try k_lt l1)
        (try k_lt2 l2)
        k_steps
        rename Fr _ _ _ _ => F'
        rename News _ _ _ _ => N'
        rename_i dk4
        exact ⟨f', c', oc', vs', ct', dc', _, _, _, _, _, _, rfl, rfl, F', rfl, N', dk4, d1', d2'⟩
      · k_dflt (refine' nestHit_K (c' := a2) ?qF ?qN ?qT ?qC ?qd ?qm ?qt ?qn ?ql ?_; (case qF => exact F'); (case qN => exact N'); (case qT => k_asm); (case qd => exact rfl); (case qC => exact hCd); (case qm => k_mem); (case qt => kn_triples); (case qn => kn_hit); (case ql => exact rfl))
        intro f' ct' dc' h' tk' F' N' l1
        (try dsimp only at N')
        (try k_lt l1)
        k_steps
        rename Fr _ _ _ _ => F'
        rename News _ _ _ _ => N'
        rename_i dk4
        exact ⟨f', a2, o2, vs, ct', dc', _, _, _, _, _, _, rfl, rfl, F', rfl, news_sub N' (al1 mem_hd (al1 (mem_tl (mem_tl (mem_tl (mem_tl (mem_tl (mem_tl (mem_tl (mem_tl (mem_tl (mem_tl mem_hd)))))))))) (al1 (mem_tl mem_hd) (al1 (mem_tl (mem_tl mem_hd)) (al1 (mem_tl (mem_tl (mem_tl mem_hd))) (al1 (mem_tl (mem_tl (mem_tl (mem_tl mem_hd)))) (al1 (mem_tl (mem_tl (mem_tl (mem_tl (mem_tl mem_hd))))) (al1 (mem_tl (mem_tl (mem_tl (mem_tl (mem_tl (mem_tl mem_hd)))))) (al1 (mem_tl (mem_tl (mem_tl (mem_tl (mem_tl (mem_tl (mem_tl mem_hd))))))) (al1 (mem_tl (mem_tl (mem_tl (mem_tl (mem_tl (mem_tl (mem_tl (mem_tl mem_hd)))))))) (al1 (mem_tl (mem_tl (mem_tl (mem_tl (mem_tl (mem_tl (mem_tl (mem_tl (mem_tl mem_hd))))))))) al0))))))))))), dk4, hd, hv⟩
    · rintro fl s' ⟨f, c', oc, vs, ct, dc, pm, h5, tk5, m5, k4, ti, rfl, rfl, F', hdata, N', dk4, hd5, hv5⟩
      have F2 := knows [(Str.ofString "data", .bytes b t)] F' (al1 hdata al0)
      clear F'
      simp only [withL] at F2
      try dsimp only
      k_steps
      all_goals (try unfold Stop)
      rename Fr _ _ _ _ => F'
      obtain ⟨esR, nR, -, dR, -⟩ := id hsR
      obtain ⟨esP, nP, -, dPd, -⟩ := id hsP
      have gr := (N' (r, oR) (mem_tl (mem_tl (mem_tl mem_hd)))).1
      have gp := (N' (pl, oP) (mem_tl (mem_tl mem_hd))).1
      have hpa : ParsAt w (hideAll h5 [r, pl]) f r pl part strict := by
        refine ⟨parsQual, dc, pm, ct, c', _, _, _, _, _, _, _, _, _, _, _, _, x_hidden (N' _ mem_hd).1 gr gp dR dPd (fun _ _ q => by cases q), ⟨c', oc, vs, ti, rfl, x_hidden (N' _ (mem_tl mem_hd)).1 gr gp dR dPd (fun _ _ q => by rw [hd5] at q; cases q), hd5, hv5⟩,
          ⟨x_hidden (N' (L' + 1, u6) (by k_mem)).1 gr gp dR dPd (fun _ _ q => by rw [e6] at q; cases q), e6⟩, ⟨x_hidden (N' (L' + 1 + 1, u5) (by k_mem)).1 gr gp dR dPd (fun _ _ q => by rw [e5] at q; cases q), e5⟩,
          ⟨x_hidden (N' (L' + 1 + 1 + 1, u4) (by k_mem)).1 gr gp dR dPd (fun _ _ q => by rw [e4] at q; cases q), e4⟩, ⟨x_hidden (N' (L' + 1 + 1 + 1 + 1, k4) (by k_mem)).1 gr gp dR dPd (fun _ _ q => by rw [dk4] at q; cases q), dk4⟩,
          ⟨x_hidden (N' (L' + 1 + 1 + 1 + 1 + 1, k5) (by k_mem)).1 gr gp dR dPd (fun _ _ q => by rw [dk5] at q; cases q), dk5⟩, ⟨x_hidden (N' (L' + 1 + 1 + 1 + 1 + 1 + 1, k6) (by k_mem)).1 gr gp dR dPd (fun _ _ q => by rw [dk6] at q; cases q), dk6⟩⟩
      have hrp : @Ne Nat r pl := by omega
      have ap : ∀ q ∈ [(f, fnMade (Str.ofString "_pars") parsQual (parsPa w) (parsBo w) (parsSc w) [(Str.ofString "tlv_loc", L' + 1 + 1 + 1 + 1 + 1 + 1), (Str.ofString "strict", L' + 1 + 1 + 1), (Str.ofString "rslt", L' + 1 + 1 + 1 + 1 + 1), (Str.ofString "partial_ok", L' + 1 + 1), (Str.ofString "cls", L' + 1), (Str.ofString "_pars", L' + 1 + 1 + 1 + 1)] dc pm c' ct),
          (c', oc), (L' + 1 + 1 + 1 + 1 + 1 + 1, k6), (L' + 1 + 1 + 1 + 1 + 1, k5), (L' + 1 + 1 + 1 + 1, k4), (L' + 1 + 1 + 1, u4), (L' + 1 + 1, u5), (L' + 1, u6), (72, tabFull c')], q.1 ≠ r ∧ q.1 ≠ pl := by
        refine fun q hq => ⟨x_apart (N' q (mem_of_rest hq)).1 gr dR (rest_data rfl hd5 dk6 dk5 dk4 e4 e5 e6 hq), x_apart (N' q (mem_of_rest hq)).1 gp dPd (rest_data rfl hd5 dk6 dk5 dk4 e4 e5 e6 hq)⟩
      refine pars_out pars_outer (F := []) (P := []) B' XB TB D F' (news := _) (news_sub N' (l' := (r, oR) :: (pl, oP) :: [(f, _), (c', oc), (L' + 1 + 1 + 1 + 1 + 1 + 1, k6), (L' + 1 + 1 + 1 + 1 + 1, k5), (L' + 1 + 1 + 1 + 1, k4), (L' + 1 + 1 + 1, u4), (L' + 1 + 1, u5), (L' + 1, u6), (72, tabFull c')]) (al1 (mem_tl (mem_tl (mem_tl mem_hd))) (al1 (mem_tl (mem_tl mem_hd)) fun q hq => mem_of_rest hq))) rfl (by k_room) (by k_units) hpa hb hx trivial (by decide) (by decide) (fun _ => rfl) loR loP hrp ap ⟨[], hsR, trivial⟩ ⟨[], hsP, trivial⟩ (by have := hx.few; simp only [List.length_nil]; omega) (by have := hx.few; simp only [List.length_nil]; omega) ?_ ?_
      · intro g6 h6 tk6 or6 op6 cm F6 P6 hrun6 hc6 hT6 B6 Fr6 N6 dF6 dP6
        clear F' N'
        k_steps
        all_goals (try unfold Stop)
        rename Fr _ _ _ _ => F'
        rename News _ _ _ _ => N'
        try dsimp only
        refine ret g6 _ _ _ r pl or6 op6 [(72, tabFull c'), (c', oc)] cm F6 P6 hrun6 hc6 hT6 F'.keep ?_ (.inr ⟨c', oc, vs, ti, rfl, hd5, hv5⟩) dF6 dP6 loR loP hrp
        exact led_of N' (al1 (by k_memK) (al1 (by k_memK) (al1 (by k_memK) (al1 (by k_memK) (al1 (by k_memK) al0)))))
      · intro e6 h6 tk6 cls or6 op6 cm F6 P6 G FG hrun6 hcc hR hU NG dF6 dP6
        clear F' N'
        rcases hcc with ⟨rfl, rfl⟩ | ⟨rfl, rfl⟩
        · refine x_hit (C := .ref 31) hR rfl rfl FG B' hU XB TB KtsTurn.refl D NG (fun F X T hq => nameX_K F X T (by k_is) hq) (by kts_exm) (XE.at rfl rfl) ?_
          intro h7 g7 oe oT T7 hT7 F7 N7 hx7 hne7 hTe7 K7 X7 T7' D7
          k_steps
          all_goals (try unfold Stop)
          all_goals (rename Fr _ _ _ _ => F'; rename News _ _ _ _ => N'; rename part = _ => hpt)
          · try dsimp only
            refine ret g7 _ _ _ r pl or6 op6 [(72, tabFull c'), (c', oc)] .malformed F6 P6 hrun6 (.inr ⟨rfl, hpt⟩) hT7 F'.keep ?_ (.inr ⟨c', oc, vs, ti, rfl, hd5, hv5⟩) dF6 dP6 loR loP hrp
            exact led_of N' (al1 (by k_memK) (al1 (by k_memK) (al1 (by k_memK) (al1 (by k_memK) (al1 (by k_memK) al0)))))
          · exact x_again (news := [(72, tabFull c'), (c', oc)]) rfl rfl rfl rfl K7 hT7 F' N' hx7 (al1 (hne7 _ (by k_memK)) (al1 (hne7 _ (by k_memK)) al0)) hTe7 (al1 (by k_memK) (al1 (by k_memK) al0)) ⟨.malformed, F6, P6, .inr ⟨c', oc, vs, ti, rfl, hd5, hv5⟩, hrun6, .inl ⟨rfl, hpt, rfl⟩⟩
        · refine x_miss (C := .ref 31) hR rfl rfl FG B' hU XB TB (fun F X T hq => nameX_K F X T (by k_is) hq) (by kts_exm) ?_
          intro h7 a0 Bx hB hBG hl hh hU7
          have hkp := x_kept (news := [(72, tabFull c'), (c', oc)]) rfl B' hBG NG (al1 (by k_memK) (al1 (by k_memK) al0))
          exact ⟨e6, h7, tk6, .ref 44, a0, [(72, tabFull c'), (c', oc)], Bx, rfl, rfl, ⟨.unknown, F6, P6, .inr ⟨c', oc, vs, ti, rfl, hd5, hv5⟩, hrun6, .inr ⟨rfl, rfl⟩⟩, (Heap.UpToSlots.of_keeps FG.keep).trans hU7, hB,
            (fun b o q nm => hBG b o (FG.keep b o q) fun hm => (x_mem rfl hm).elim (fun z => by rw [z, kts_self FG] at q; cases q) nm), hkp, Way.held hh⟩
  · rintro e h' tk' cls news ⟨c, F, P, h1, h2, h3⟩ hR hU
    exact exc e h' tk' cls c F P news h2 h3 h1 hR hU
end Mine
end
section
open PySem PySem.W PySem.Calls PyProof.Rows PySem.Spec PyProof.V
namespace Mine
section
variable {prog : Program} {w : World} {A : Around} {E : Value → Shared → Prop} {s : Shared} {env : Env} {h₀ : Heap} {target : PySem.Expr} {body : List Stmt} {Q : Flow → Shared → Prop} {K : Type} [DecidableEq K] {knd : KeyKind prog w K} {kvs : List (K × Value)}
theorem loop_keys {d : Addr} {od : Obj} {m₀ : Str → Option Value} {news : List (Addr × Obj)} (J : Nat → (Str → Option Value) → List (Addr × Obj) → Prop)
    (hh : A.handled = none) (hg : h₀.get? d = some od) (hd : od.IsDictOf knd kvs) (lo : (d == sysModules) = false) (F : Fr h₀ env.locals s.heap m₀) (N : News h₀ env.locals s.heap news) (hj : J 0 m₀ news)
    (turn : ∀ i k x v m₁ news₁ h tk I oI, kvs[i]? = some (k, x) → knd.is k v = true → J i m₁ news₁ → (∀ p ∈ news₁, p.1 ≠ I) → Fr h₀ env.locals h m₁ → News h₀ env.locals h ((I, oI) :: news₁) →
      wpAny (model prog w) A (assign target env v) (fun _ s₃ => wpAny (model prog w) A (execs body env) (PostG h₀ env.locals I oI (J (i + 1)) { s with heap := h, toks := tk } Q) E s₃) E { s with heap := h, toks := tk })
    (done : ∀ m₁ news₁ h tk, J kvs.length m₁ news₁ → Fr h₀ env.locals h m₁ → News h₀ env.locals h news₁ → Q .next { s with heap := h, toks := tk }) :
    wpAny (model prog w) A (pyIter (.ref d)) (fun it s₂ => TurnsAt prog w A h₀ env target body Q E it s₂) E s := by
  have hD : s.heap.DictOf knd d kvs := Heap.dictOf_iff.mpr ⟨od, F.keep _ _ hg, hd⟩
  obtain ⟨ep, hat⟩ := hD.dictAt
  have hlt : d < h₀.objs.size := Heap.lt_size hg
  have hne : d ≠ s.heap.objs.size := Nat.ne_of_lt hat.lt_size
  refine wpAny_pyIter_dict lo hat ?_
  refine loop_turns (s := { s with heap := _ }) J (KTurns.ofWalks (Walks.dictKeys (knd := knd) hh s.heap.objs.size d hne kvs ep) fun i v s Q E st q => letGo_keyiter st.1 q) ?_ ?_ ?_ ?_ ?_ ?_ (F.push _) (fun p hp => ⟨Heap.get?_push_of_some _ (N p hp).1, (N p hp).2⟩) hj ?_ ?_
  · intro hm
    rcases List.mem_cons.mp hm with e | hm
    · exact absurd F.ns.lt (e ▸ Nat.lt_irrefl _)
    · exact absurd (Nat.lt_of_lt_of_le hlt F.above) ((List.mem_singleton.mp hm) ▸ Nat.lt_irrefl _)
  · exact next_is_new F
  · rintro i h ⟨⟨o, g, c, _⟩, _⟩; exact ⟨o, g⟩
  · intro b hb
    rcases List.mem_cons.mp hb with e | hb
    · exact .inl e
    · rw [List.mem_singleton.mp hb]; exact .inr ⟨_, hg⟩
  · intro p hp e; exact absurd (Heap.lt_size (N p hp).1) (e ▸ Nat.lt_irrefl _)
  · exact ⟨⟨_, Heap.get?_push_size _ rfl, rfl, rfl⟩, hat.push _⟩
  · rintro i v m₁ news₁ h tk oI hi ⟨k, x, hx, hk⟩ hJ hnn F₁ N₁
    exact turn i k x v m₁ news₁ h tk _ oI hx hk hJ hnn F₁ N₁
  · intro m₁ news₁ h tk hJ F₁ N₁; exact done m₁ news₁ h tk hJ F₁ N₁
theorem loop_items {elts : List PySem.Expr} {kk : Nat} {pos : Pos} {d vw : Addr} {od : Obj} {m₀ : Str → Option Value} {news : List (Addr × Obj)} (J : Nat → (Str → Option Value) → List (Addr × Obj) → Prop)
    (hh : A.handled = none) (hv : ∃ ov, s.heap.get? vw = some ov ∧ ov.cls = .type "dict_items" ∧ ov.data = .fields #[.ref d]) (hg : h₀.get? d = some od) (hd : od.IsDictOf knd kvs) (F : Fr h₀ env.locals s.heap m₀) (N : News h₀ env.locals s.heap news) (hj : J 0 m₀ news)
    (turn : ∀ i T key k x m₁ news₁ h tk I oI, kvs[i]? = some (k, x) → knd.is k key = true → IsTup h T #[key, x] → J i m₁ news₁ → (∀ p ∈ news₁, p.1 ≠ I) → Fr h₀ env.locals h m₁ → News h₀ env.locals h ((I, oI) :: news₁) →
      wpAny (model prog w) A (assign (.Tuple elts kk pos) env (.ref T)) (fun _ s₃ => wpAny (model prog w) A (execs body env) (PostG h₀ env.locals I oI (J (i + 1)) { s with heap := h, toks := tk } Q) E s₃) E { s with heap := h, toks := tk })
    (done : ∀ m₁ news₁ h tk, J kvs.length m₁ news₁ → Fr h₀ env.locals h m₁ → News h₀ env.locals h news₁ → Q .next { s with heap := h, toks := tk }) :
    wpAny (model prog w) A (pyIter (.ref vw)) (fun it s₂ => TurnsAt prog w A h₀ env (.Tuple elts kk pos) body Q E it s₂) E s := by
  have hD : s.heap.DictOf knd d kvs := Heap.dictOf_iff.mpr ⟨od, F.keep _ _ hg, hd⟩
  obtain ⟨ep, hat⟩ := hD.dictAt
  have hlt : d < h₀.objs.size := Heap.lt_size hg
  have hne : d ≠ s.heap.objs.size := Nat.ne_of_lt hat.lt_size
  refine wpAny_pyIter_items hv hat ?_
  refine loop_turns (s := { s with heap := _ }) J (kti_itemsTurns (knd := knd) hh s.heap.objs.size d hne kvs ep) ?_ ?_ ?_ ?_ ?_ ?_ (F.push _) (fun p hp => ⟨Heap.get?_push_of_some _ (N p hp).1, (N p hp).2⟩) hj ?_ ?_
  · intro hm
    rcases List.mem_cons.mp hm with e | hm
    · exact absurd F.ns.lt (e ▸ Nat.lt_irrefl _)
    · exact absurd (Nat.lt_of_lt_of_le hlt F.above) ((List.mem_singleton.mp hm) ▸ Nat.lt_irrefl _)
  · exact next_is_new F
  · rintro i h ⟨⟨ok, ov, he⟩, _⟩; exact ⟨_, he⟩
  · intro b hb
    rcases List.mem_cons.mp hb with e | hb
    · exact .inl e
    · rw [List.mem_singleton.mp hb]; exact .inr ⟨_, hg⟩
  · intro p hp e; exact absurd (Heap.lt_size (N p hp).1) (e ▸ Nat.lt_irrefl _)
  · exact ⟨⟨.none, .none, Heap.get?_push_size _ rfl⟩, hat.push _⟩
  · rintro i v m₁ news₁ h tk oI hi ⟨T, key, k, x, rfl, hx, hk, hT⟩ hJ hnn F₁ N₁
    exact turn i T key k x m₁ news₁ h tk _ oI hx hk hT hJ hnn F₁ N₁
  · intro m₁ news₁ h tk hJ F₁ N₁; exact done m₁ news₁ h tk hJ F₁ N₁
end
end Mine
end
section
open PySem PySem.W PySem.Calls PyProof.Rows PySem.Spec PyProof.V
namespace Mine
theorem bools_true : ∀ {ys : List Value}, (∀ y ∈ ys, y = .bool true) → LSm.BoolsAre ys (ys.map fun _ => true)
  | [], _ => .nil
  | y :: r, h => by
    obtain rfl := h y (.head _)
    exact .cons true (bools_true fun z hz => h z (.tail _ hz))
theorem true_snoc {ys : List Value} {b : Bool} (h : ∀ y ∈ ys, y = .bool true) (e : b = true) : ∀ y ∈ ys ++ [.bool b], y = .bool true := fun y hy => by
  rcases List.mem_append.mp hy with hy | hy
  · exact h y hy
  · rw [List.mem_singleton.mp hy, e]
def leS (a b : List Nat) : Prop := ltCps b a = false
theorem leS_refl : ∀ a : List Nat, leS a a
  | [] => rfl
  | a :: r => by
    have h : ltCps r r = false := leS_refl r
    show ltCps (a :: r) (a :: r) = false
    simp [ltCps, h]
theorem leS_trans : ∀ {a b c : List Nat}, leS a b → leS b c → leS a c
  | [], b, c, _, _ => by cases c <;> rfl
  | a :: r, [], _, h, _ => by simp [leS, ltCps] at h
  | a :: r, b :: t, [], _, h => by simp [leS, ltCps] at h
  | a :: r, b :: t, c :: u, h1, h2 => by
    simp only [leS, ltCps, Bool.or_eq_false_iff, decide_eq_false_iff_not, Bool.and_eq_false_iff, beq_eq_false_iff_ne] at h1 h2 ⊢
    obtain ⟨h1, h1'⟩ := h1
    obtain ⟨h2, h2'⟩ := h2
    refine ⟨by omega, ?_⟩
    by_cases e1 : b = a
    · by_cases e2 : c = b
      · right
        exact leS_trans (h1'.resolve_left fun h => h e1) (h2'.resolve_left fun h => h e2)
      · left; omega
    · left; omega
theorem leS_anti : ∀ {a b : List Nat}, leS a b → leS b a → a = b
  | [], [], _, _ => rfl
  | [], b :: t, _, h => by simp [leS, ltCps] at h
  | a :: r, [], h, _ => by simp [leS, ltCps] at h
  | a :: r, b :: t, h1, h2 => by
    simp only [leS, ltCps, Bool.or_eq_false_iff, decide_eq_false_iff_not, Bool.and_eq_false_iff, beq_eq_false_iff_ne] at h1 h2
    obtain ⟨h1, h1'⟩ := h1
    obtain ⟨h2, h2'⟩ := h2
    obtain rfl : a = b := by omega
    rw [leS_anti (h1'.resolve_left fun h => h rfl) (h2'.resolve_left fun h => h rfl)]
theorem rising_all : ∀ {l : List Str} {p : Str}, risingS p l = true → ∀ x ∈ l, leS p.cps.toList x.cps.toList
  | [], _, _, x, hx => nomatch hx
  | y :: r, p, h, x, hx => by
    simp only [risingS, Bool.and_eq_true, Bool.not_eq_true'] at h
    rcases List.mem_cons.mp hx with rfl | hx
    · exact h.1
    · exact leS_trans (show leS p.cps.toList y.cps.toList from h.1) (rising_all h.2 x hx)
theorem rising_tail {p : Str} {l : List Str} (h : risingS p l = true) : sortedS l = true := by
  cases l with
  | nil => rfl
  | cons x r => simp only [risingS, Bool.and_eq_true] at h; exact h.2
theorem str_uniq : ∀ {a b : List Str}, a.Perm b → sortedS a = true → sortedS b = true → a = b
  | [], _, p, _, _ => p.nil_eq
  | x :: r, b, p, ha, hb => by
    cases b with
    | nil => exact absurd p.length_eq (by simp)
    | cons y t =>
      have hx : x ∈ y :: t := p.mem_iff.mp (.head _)
      have hy : y ∈ x :: r := p.mem_iff.mpr (.head _)
      have e : x = y := by
        rcases List.mem_cons.mp hx with h | h
        · exact h
        · rcases List.mem_cons.mp hy with h' | h'
          · exact h'.symm
          · have a1 := rising_all (show risingS x r = true from ha) y h'
            have a2 := rising_all (show risingS y t = true from hb) x h
            have := leS_anti a1 a2
            exact Str.ext' (Array.toList_inj.mp this)
      subst e
      rw [str_uniq (List.Perm.cons_inv p) (rising_tail (show risingS x r = true from ha)) (rising_tail (show risingS x t = true from hb))]
section
variable {α : Type} {R : Value → α → Prop}
theorem Are.get : ∀ {kvs : List (Str × Value)} {D : List (Str × α)}, Are R kvs D → ∀ {i : Nat} {k : Str} {d : α}, D[i]? = some (k, d) → ∃ v, kvs[i]? = some (k, v) ∧ R v d
  | [], [], _, i, k, d, h => by simp at h
  | p :: r, q :: r', ⟨e, h1, _⟩, 0, k, d, h => by
    simp only [List.getElem?_cons_zero, Option.some.injEq] at h
    subst h
    exact ⟨p.2, by rw [List.getElem?_cons_zero]; exact congrArg some (Prod.ext e rfl), h1⟩
  | p :: r, q :: r', ⟨_, _, h2⟩, i + 1, k, d, h => by
    simp only [List.getElem?_cons_succ] at h ⊢
    exact Are.get h2 h
theorem Are.got : ∀ {kvs : List (Str × Value)} {D : List (Str × α)}, Are R kvs D → ∀ {i : Nat} {k : Str} {v : Value}, kvs[i]? = some (k, v) → ∃ d, D[i]? = some (k, d) ∧ R v d
  | [], [], _, i, k, d, h => by simp at h
  | p :: r, q :: r', ⟨e, h1, _⟩, 0, k, d, h => by
    simp only [List.getElem?_cons_zero, Option.some.injEq] at h
    subst h
    exact ⟨q.2, by rw [List.getElem?_cons_zero]; exact congrArg some (Prod.ext e.symm rfl), h1⟩
  | p :: r, q :: r', ⟨_, _, h2⟩, i + 1, k, d, h => by
    simp only [List.getElem?_cons_succ] at h ⊢
    exact Are.got h2 h
end
section
variable {prog : Program} {w : World} {A : Around} {E : Value → Shared → Prop} {s : Shared} {h₀ : Heap} {L d : Addr} {m : Str → Option Value} {news : List (Addr × Obj)} {α : Type} {R : Value → α → Prop} {o : Obj} {D : List (Str × α)}
theorem DObj.nodup (ho : DObj prog w R o D) : (D.map (·.1)).Nodup := by
  obtain ⟨kvs, ⟨_, _, _, _, _, _, hn⟩, ha⟩ := ho
  rw [← ha.keys]; exact hn
theorem DObj.at (ho : DObj prog w R o D) {k : Str} {dv : α} (hm : (k, dv) ∈ D) : ∃ kvs v, o.IsDictOf (strKind prog w) kvs ∧ valueAt kvs k = some v ∧ R v dv := by
  obtain ⟨kvs, hd, ha⟩ := ho
  obtain ⟨i, hi, e⟩ := List.getElem_of_mem hm
  obtain ⟨v, hv, hr⟩ := ha.get (List.getElem?_eq_some_iff.mpr ⟨hi, e⟩)
  refine ⟨kvs, v, hd, ?_, hr⟩
  obtain ⟨_, _, _, _, _, _, hn⟩ := hd
  exact valueAt_of_get hn hv
theorem r_gitem {value slice : PySem.Expr} {k : Str} {t : Tok} {dv : α} {Q : Value → Shared → Prop} (F : Fr h₀ L s.heap m) (hg : h₀.get? d = some o) (ho : DObj prog w R o D) (hm : (k, dv) ∈ D) (h : ∀ v, R v dv → Q v { s with toks := s.toks + 1 })
    (hs : subscripted slice false (.ref d) (.str k t) = operate [.ref d, .str k t] (getItem (.ref d) (.str k t)) := by with_unfolding_all rfl) (hl : ∀ r, letTemporaryGo value (.ref d) r = pure () := by intro _; with_unfolding_all rfl) :
    wpAny (model prog w) A (subscriptTail value slice (.ref d) (.str k t)) Q E s := by
  obtain ⟨kvs, v, hd, hv, hr⟩ := ho.at hm
  have hD : s.heap.DictOf (strKind prog w) d kvs := Heap.dictOf_iff.mpr ⟨o, F.keep _ _ hg, hd⟩
  exact subscriptTail_builtin hD.typeIs slot_dict_getitem.lookup (wpAny_getItem_of (strKind_is _ _ _ _) hD.mapOf hv (h v hr)) hs hl
def bytesOf (l : List Int) : Array UInt8 := (l.map fun z => UInt8.ofNat z.toNat).toArray
theorem bytes_of {b : Array UInt8} {l : List Int} (h : KBw.bInts b = l) : b = bytesOf l := by
  subst h
  obtain ⟨ys⟩ := b
  simp [bytesOf, KBw.bInts, Function.comp_def]
theorem toBytes {v : Value} {l : List Int} (h : ValIs v (.bytes l)) : ∃ t, v = .bytes (bytesOf l) t := by
  obtain ⟨b, t, rfl, hb⟩ := h
  exact ⟨t, by rw [bytes_of hb]⟩
theorem toInt {v : Value} {l : Int} (h : ValIs v (.int l)) : ∃ t, v = .int l t := h
theorem toBool {v : Value} {l : Bool} (h : ValIs v (.bool l)) : v = .bool l := h
theorem toLoc {v : Value} {l : Int} (h : LocIs v l) : ∃ k t, v = .int k t ∧ (l = -1 ∨ k = l) := h
theorem toPl {v : Value} {l : Int} (h : PlIs v l) : ∃ t, v = .int l t := h
theorem strs_of {K : Type} : ∀ {vs : List Value} {kvs : List (Str × K)}, vs.length = kvs.length → (∀ (j : Nat) (v : Value), vs[j]? = some v → ∃ k x, kvs[j]? = some (k, x) ∧ ∃ t, v = .str k t) → StrsAre vs (kvs.map (·.1))
  | [], [], _, _ => .nil
  | [], _ :: _, h, _ => by simp at h
  | _ :: _, [], h, _ => by simp at h
  | v :: vs, q :: kvs, h, hv => by
    obtain ⟨k, x, e, t, rfl⟩ := hv 0 v rfl
    simp only [List.getElem?_cons_zero, Option.some.injEq] at e
    subst e
    exact .cons k t (strs_of (by simpa using h) fun j u hu => hv (j + 1) u hu)
theorem r_strsort {B : Addr} {vs : List Value} {n : Nat} {ss : List Str} {Q : Value → Shared → Prop} (F : Fr h₀ L s.heap m) (N : News h₀ L s.heap ((B, listOf vs.toArray n) :: news)) (hB : ∀ q ∈ news, q.1 < B) (hS : StrsAre vs ss) (h64 : vs.length < 64)
    (h : ∀ h' vs' ss' e, Fr h₀ L h' m → News h₀ L h' ((B, listOf vs'.toArray e) :: news) → StrsAre vs' ss' → ss'.Perm ss → sortedS ss' = true → Q .none { s with heap := h' }) :
    wpAny (model prog w) A (call (.builtin "list.sort") [.ref B]) Q E s := by
  have z := N _ (.head _)
  have ho : s.heap.get? B = some (seqObj "list" vs.toArray n) := z.1
  refine wpAny_call_entry PyProof.Rows.slot_list_sort ⟨_, z.1, rfl⟩ PyProof.Rows.entry_list_sort (list_sort_treeK strKind_oneLt ho hS.keysOf (fun v₁ v₂ rest e => keyKind_strs (by rw [← e]; exact hS)) h64 fun st' hp hs => ⟨.none, rfl, ?_⟩) (PyProof.Rows.args_list_sort _)
  obtain ⟨ss', h1, h2, h3⟩ := sorted_out_str hS hp hs
  obtain ⟨e, he⟩ := sortedHeap_at (out := (arrOf st').map (·.2)) ho
  have kp : ∀ b o, b ∉ [B] → s.heap.get? b = some o → (sortedHeap s.heap B vs ((arrOf st').map (·.2))).get? b = some o := fun b o hb e => by
    rw [sortedHeap_old (fun q => hb (by rw [q]; exact .head _)) (Heap.lt_size e)]; exact e
  refine h _ _ ss' e (LCg.fr_but F kp (Ne.symm z.2.1) z.2.2) (fun q hq => ?_) h1 h2 h3
  rcases List.mem_cons.mp hq with rfl | hq
  · exact ⟨by rw [he, Array.toArray_toList], z.2⟩
  · have P := N q (.tail _ hq)
    exact ⟨kp _ _ (fun hm => absurd (hB q hq) (by rw [List.mem_singleton.mp hm]; exact Nat.lt_irrefl _)) P.1, P.2⟩
theorem r_sorted {Q : Value → Shared → Prop} (hh : A.handled = none) (F : Fr h₀ L s.heap m) (N : News h₀ L s.heap news) (hg : h₀.get? d = some o) (ho : DObj prog w R o D) (lo : (d == sysModules) = false) (h63 : D.length < 64)
    (h : ∀ (B : Addr) h' tk vs ss e, Fr h₀ L h' m → News h₀ L h' ((B, listOf vs.toArray e) :: news) → (∀ q ∈ news, q.1 < B) → StrsAre vs ss → ss.Perm (D.map (·.1)) → sortedS ss = true → Q (.ref B) { s with heap := h', toks := tk }) :
    wpAny (model prog w) A (call (.builtin "sorted") [.ref d]) Q E s := by
  obtain ⟨kvs, hd, ha⟩ := ho
  have hD : s.heap.DictOf (strKind prog w) d kvs := Heap.dictOf_iff.mpr ⟨o, F.keep _ _ hg, hd⟩
  obtain ⟨ep, hat⟩ := hD.dictAt
  have hlen := ha.length
  refine kdu_sorted (kdl_dict (knd := strKind prog w) (kvs := kvs) (ep := ep) lo) hh F N hat (by rw [sizeLine_eq]; omega) fun B h' tk vs F' N' l1 hl hv => ?_
  have hS : StrsAre vs (kvs.map (·.1)) := strs_of hl fun j v hj => by
    obtain ⟨k, x, hx, hk⟩ := hv j v hj
    exact ⟨k, x, hx, Value.isStrOf_shape hk⟩
  refine r_strsort F' N' l1 hS (by omega) fun h2 vs' ss' e F2 N2 hS2 hp hs => ?_
  exact h B h2 tk vs' ss' e F2 N2 l1 hS2 (by rw [← ha.keys]; exact hp) hs
theorem canLayAll_strs : ∀ {ss : List Str}, (∀ x ∈ ss, PyData.strOk x = true) → PyData.canLayAll0 (ss.map PyData.str) = true
  | [], _ => rfl
  | x :: r, h => by simp [PyData.canLayAll0, PyData.canLay0, h x (.head _), canLayAll_strs fun y hy => h y (.tail _ hy)]
theorem depthAll_strs : ∀ ss : List Str, PyData.depthAll (ss.map PyData.str) = 0
  | [] => rfl
  | _ :: r => by simp [PyData.depthAll, PyData.depth, depthAll_strs r]
theorem shaped_strs {ss : List Str} (h : ∀ x ∈ ss, PyData.strOk x = true) : SeqAt.shaped (.list (ss.map PyData.str)) = true := by
  simp [SeqAt.shaped, PyData.canLay0, PyData.depth, canLayAll_strs h, depthAll_strs]
theorem sameAll_strs : ∀ ns ms : List Str, PySem.Spec.sameAll (ns.map PyData.str) (ms.map PyData.str) = decide (ns = ms)
  | [], [] => by simp [PySem.Spec.sameAll]
  | [], _ :: _ => by simp [PySem.Spec.sameAll]
  | _ :: _, [] => by simp [PySem.Spec.sameAll]
  | a :: r, b :: t => by
    simp only [List.map_cons, PySem.Spec.sameAll, PySem.Spec.same, sameAll_strs r t]
    by_cases h : a = b <;> by_cases h' : r = t <;> simp [h, h']
theorem carried_strs : ∀ {vs : List Value} {ss : List Str}, StrsAre vs ss → CarriedAll vs (ss.map PyData.str)
  | _, _, .nil => .nil
  | _, _, .cons _ t r => .cons (.str _ t) (carried_strs r)
theorem r_neS {a b : Addr} {xs ys : List Value} {ns ms : List Str} {i j : Nat} {Q : Value → Shared → Prop} (N : News h₀ L s.heap news) (ma : (a, listOf xs.toArray i) ∈ news) (mb : (b, listOf ys.toArray j) ∈ news) (hi : StrsAre xs ns) (hj : StrsAre ys ms) (hn : ∀ x ∈ ns, PyData.strOk x = true)
    (e : ns = ms) (hu : A.units + 64 < cLine) (h : Q (.bool false) s) : wpAny (model prog w) A (compareOp .NotEq (.ref a) (.ref b)) Q E s := by
  subst e
  have ha : s.heap.IsList a xs.toArray := ⟨_, (N _ ma).1, rfl, _, rfl⟩
  have hb : s.heap.IsList b ys.toArray := ⟨_, (N _ mb).1, rfl, _, rfl⟩
  refine ne_dataH_same (reads_newData ha (carried_strs hi)) (reads_newData hb (carried_strs hj)) (shaped_strs hn) (shaped_strs hn) hu (SeqAt.noMix_of_shape (.list .str) rfl _ _ (list_map_has fun _ => rfl) (list_map_has fun _ => rfl)) ?_
  have e2 : PySem.Spec.same (.list (ns.map PyData.str)) (.list (ns.map PyData.str)) = true := by
    simp only [PySem.Spec.same]; rw [sameAll_strs]; simp
  rw [e2]; exact h
end
theorem ok_of {α : Type} {D : List (Str × α)} {ss : List Str} (hp : ss.Perm (D.map (·.1))) (h : ∀ q ∈ D, PyData.strOk q.1 = true) : ∀ x ∈ ss, PyData.strOk x = true := fun x hx => by
  obtain ⟨q, hq, rfl⟩ := List.mem_map.mp (hp.mem_iff.mp hx)
  exact h q hq
theorem same_of {α : Type} {D D' : List (Str × α)} {a b : List Str} (hd : D.Perm D') (ha : a.Perm (D.map (·.1))) (hb : b.Perm (D'.map (·.1))) (sa : sortedS a = true) (sb : sortedS b = true) : a = b := str_uniq (ha.trans ((hd.map _).trans hb.symm)) sa sb
section
variable {prog : Program} {w : World} {A : Around} {E : Value → Shared → Prop} {s : Shared} {h₀ : Heap} {L : Addr} {m : Str → Option Value} {env : Env} {K : Type} [DecidableEq K] {knd : KeyKind prog w K}
theorem rest_P {P : Nat → Value → Prop} {Fin : List Value → List (Addr × Obj) → Prop} {elt : PySem.Expr} {x : Str} {scope : Scope} {cl : List (Str × Addr)} (Inv : List Value → List (Addr × Obj) → Prop) {n : Nat}
    (turn : ∀ ys news v I oI C oC D m₂ h tk (E' : Value → Shared → Prop), ys.length < n → P ys.length v → Inv ys news → LCg.NsObj oC m₂ → m₂ x = some v → Fr h₀ L h m → News h₀ L h ((I, oI) :: (C, oC) :: (D, LCg.lst ys) :: news) → LCg.Off3 I C D news → ((@Ne Nat I C) ∧ (@Ne Nat I D) ∧ (@Ne Nat C D)) →
      wpAny (model prog w) A (eval elt (compEnvC scope cl C env)) (LCg.CompEnd h₀ L m { s with heap := h, toks := tk } I oI C oC D (LCg.lst ys) (fun _ => True) (fun y news' => Inv (ys ++ [y]) news')) E' { s with heap := h, toks := tk })
    (fin : ∀ ys news, ys.length = n → Inv ys news → Fin ys news) :
    ∀ (k i : Nat) (ys : List Value) (news : List (Addr × Obj)), i + k = n → ys.length = i → Inv ys news → LCg.CompRest prog w A h₀ L m env elt x scope cl s (fun _ => True) P Fin k i ys news := by
  intro k
  induction k with
  | zero => intro i ys news hi hy hI; exact LCg.CompRest.zero (fin ys news (by omega) hI)
  | succ k ih =>
    intro i ys news hi hy hI
    refine LCg.CompRest.succ ?_
    intro v I oI C oC D m₂ h tk E' hv hC hx F N off ne
    refine wpAny_mono (turn ys news v I oI C oC D m₂ h tk E' (by omega) (by rw [hy]; exact hv) hI hC hx F N off ne) (fun y s₂ hq => ?_) fun _ _ e => e
    obtain ⟨h', tk', nw, e, F', N', off', hS, hI'⟩ := hq
    exact ⟨h', tk', nw, e, F', N', off', hS, ih (i + 1) (ys ++ [y]) nw (by omega) (by rw [List.length_append, List.length_singleton, hy]) hI'⟩
def KeySrc (knd : KeyKind prog w K) (A : Around) (h₀ : Heap) (L : Addr) (m : Str → Option Value) (env : Env) (elt : PySem.Expr) (x : Str) (scope : Scope) (cl : List (Str × Addr)) (Fin : Shared → List Value → List (Addr × Obj) → Prop) (xv : Value) (s₁ : Shared) : Prop :=
  ∃ (d : Addr) (od : Obj) (kvs : List (K × Value)) (news : List (Addr × Obj)), xv = .ref d ∧ A.handled = none ∧ Fr h₀ L s₁.heap m ∧ News h₀ L s₁.heap news ∧ h₀.get? d = some od ∧ od.IsDictOf knd kvs ∧ (d == sysModules) = false ∧ kvs.length ≤ sizeLine ∧
    ∀ s₂ : Shared, (∃ h, s₂ = { s₁ with heap := h }) → LCg.CompRest prog w A h₀ L m env elt x scope cl s₂ (fun _ => True) (fun i v => ∃ k y, kvs[i]? = some (k, y) ∧ knd.is k v = true) (Fin s₂) kvs.length 0 [] news
theorem comp_keys {elt iter : PySem.Expr} {x : Str} {px : Pos} {scope : Scope} {cl : List (Str × Addr)} {pos : Pos} {Q : Value → Shared → Prop} (_F₀ : Fr h₀ L s.heap m)
    (hclos : closureFor scope env = pure cl) (hcell : ∀ y ∈ scope.names, y.2 ≠ .cell) (hkind : scope.kind = .function)
    (hnames : ∀ y ∈ scope.names, y.2 = .local → scope.names.lookup y.1 = some .local) (hx : scope.names.lookup x = some .local)
    (h : wpAny (model prog w) A (eval iter env) (KeySrc knd A h₀ L m env elt x scope cl (fun s₂ => LCg.FinE h₀ L m s₂ Q)) E s)
    (hs : ∀ x, foldedSetIterable iter env x = pure x := by intro _; rfl) :
    wpAny (model prog w) A (eval (.ListComp elt [⟨.Name x px, iter, [], 0⟩] scope pos) env) Q E s := by
  rw [eval_ListComp]
  refine wpAny_comprehension_free (use := none) rfl hs hclos hkind hnames (wpAny_mono h (fun xv s₁ h₁ => ?_) fun _ _ e => e)
  obtain ⟨d, od, kvs, news, rfl, hh, F, N, hg, hd, lo, hsz, R⟩ := h₁
  obtain ⟨ep, hat₀⟩ := (Heap.dictOf_iff.mpr ⟨od, hg, hd⟩ : h₀.DictOf knd d kvs).dictAt
  have hat : s₁.heap.DictAt knd d kvs ep := hat₀.at' fun o e => F.keep d o e
  refine wpAny_pyIter_dict lo hat ?_
  have up : ∀ (oI : Obj) (b : Addr) (o : Obj), s₁.heap.get? b = some o → (s₁.heap.push oI).get? b = some o := fun _ b o e => Heap.get?_push_of_some _ e
  refine LCg.block_U (Walks.dictKeys (knd := knd) hh s₁.heap.objs.size d (Nat.ne_of_lt hat.lt_size) kvs ep) hsz (fun i h st => by obtain ⟨o, e, _⟩ := st.1; exact ⟨o, e⟩) ?_ hcell hkind hx ⟨⟨_, Heap.get?_push_size _ rfl, rfl, rfl⟩, hat.push _⟩ (fun b hb => ?_)
    (F.keeps (up _)) (N.grown (up _)) (Nat.ne_of_lt F.ns.lt) (next_is_new F) (fun p hp => Nat.ne_of_lt (Heap.lt_size (N p hp).1)) trivial (R _ ⟨_, rfl⟩) ?_
  · intro i h h' o nw st e e' k _ _
    exact ⟨by obtain ⟨o', q, r⟩ := st.1; rw [e] at q; cases q; exact ⟨o, e', r⟩, hat₀.at' fun o e => k d o e⟩
  · show b < (s₁.heap.push _).objs.size
    rw [Heap.size_push]
    rcases List.mem_cons.mp hb with rfl | hb
    · exact Nat.lt_succ_self _
    · rw [List.mem_singleton.mp hb]; exact Nat.lt_succ_of_lt hat.lt_size
  · intro D C h tk m' ys news' F' N' o1 hn hC₀ hD₀ hCL hDL hCD offC fin
    refine ⟨m', hn, fun h'' hs'' => fin D h'' tk (F'.change hs'' hCL hC₀) (fun p hp => ?_) o1⟩
    refine ⟨hs''.extBut _ _ ?_ (N' p hp).1, (N' p hp).2⟩
    rcases List.mem_cons.mp hp with rfl | hp
    · exact Ne.symm hCD
    · exact offC p hp
end
end Mine
end
section
open PySem PySem.W PySem.Calls PyProof.Rows PySem.Spec
namespace Mine
theorem fill_13 : (fun w => (PySem.Challenge.rw_jy0002_01, kgrab.heap_1 w)) = (fun w => (PySem.Challenge.rw_jy0002_01, kgrab.heap_1 w)) := by
  k_fill
  rfl
def CmpInv (nw : List (Addr × Obj)) (ys : List Value) (news : List (Addr × Obj)) : Prop := news = nw ∧ ∀ y ∈ ys, y = .bool true
theorem rules_S1 : True := by
  k_with_none
  k_with "storeName" => (k_here; k_dflt (refine' storeM ?q99F ?q99N ?_ ?q99a ?q99b; (case q99F => k_asm); (case q99N => k_asm); (case q99a => rfl); (case q99b => rfl); k_whole); intro h' m' F' N'; (try k_sweep))
  k_with "execs cons" => (first | (k_here; k_gentoks) | ((with_reducible refine wpAny_execs_cons ?_); (try dsimp only); (try k_fold)))
  k_with "subscriptTail Name Constant ref int" => (k_here; k_dflt (refine' r_itemG ?q1F ?q1T ?q1lo ?q1hi ?q1j ?q1x ?_ ?q1a; (case q1F => k_asm); (case q1T => k_asm); (case q1lo => decide); (case q1hi => decide); (case q1j => rfl); (case q1x => rfl); (case q1a => with_unfolding_all rfl)); (try dsimp only))
  k_with "call builtin:sorted" => (k_here; k_dflt (refine' r_sorted ?q2h ?q2F ?q2N ?q2g ?q2o ?q2l ?q2z ?_; (case q2h => rfl); (case q2F => k_asm); (case q2N => k_asm); (case q2g => with_reducible assumption); (case q2o => with_reducible assumption); (case q2l => with_reducible assumption); (case q2z => first | with_reducible assumption | omega)); intro B' h' tk' vs' ss' e' F' N' l1 hS' hp' hs'; (try k_lt l1); (try dsimp only))
  k_with "compareOp NotEq ref ref" => (k_here; (first
  | k_dflt (refine' r_neS ?q3N ?q3ma ?q3mb ?q3i ?q3j ?q3n ?q3e ?q3u ?_; (case q3N => k_asm); (case q3ma => k_memK); (case q3mb => k_memK); (case q3i => with_reducible assumption); (case q3j => with_reducible assumption); (case q3n => exact ok_of (by with_reducible assumption) (by with_reducible assumption)); (case q3e => first | exact same_of (by with_reducible assumption) (by with_reducible assumption) (by with_reducible assumption) (by with_reducible assumption) (by with_reducible assumption) | exact same_of (List.Perm.refl _) (by with_reducible assumption) (by with_reducible assumption) (by with_reducible assumption) (by with_reducible assumption)); (case q3u => first | (k_dflt (exact Mine.lim_ok (x := un) (b := 67) (by with_reducible assumption) (Nat.le_of_ble_eq_true rfl))) | ((try simp only [units_in1, units_deeper, Around.mark_units]); (try dsimp only [gTop]); (have hcL9 := cLine_is); omega)))
  | refine Stop.out ?_))
  k_with "exec For Name Name cons nil" => (k_here; refine Stop.out ?_)
  k_with "CompEnd" => (refine Stop.out ?_)
  k_with "pyIter ref" => (k_here; refine Stop.out ?_)
  k_with "eval ListComp" => (k_here; k_dflt (refine comp_keys (knd := PySem.strKind _ _) (by k_asm) (by with_unfolding_all rfl) (by decide) (by rfl) (by decide) (by rfl) ?_))
  k_with "subscriptTail" => (k_here; (with_reducible show wpAny _ _ (subscriptTail _ _ (Value.ref _) (Value.str _ _)) _ _ _); k_dflt (refine' r_gitem ?q7F ?q7g ?q7o ?q7m ?_ ?q7a ?q7b; (case q7F => k_asm); (case q7g => with_reducible assumption); (case q7o => with_reducible assumption); (case q7m => with_reducible assumption); (case q7a => with_unfolding_all rfl); (case q7b => (intro _; with_unfolding_all rfl))); intro v' hv'; (try dsimp only); (first
  | ((have hv3 := toBytes hv'); clear hv'; (obtain ⟨t', hv2⟩ := hv3); subst hv2)
  | ((have hv3 := toLoc hv'); clear hv'; (obtain ⟨k', t', hv2, hn'⟩ := hv3); subst hv2)
  | ((have hv3 := toInt hv'); clear hv'; (obtain ⟨t', hv2⟩ := hv3); subst hv2)
  | ((have hv3 := toPl hv'); clear hv'; (obtain ⟨t', hv2⟩ := hv3); subst hv2)
  | ((have hv2 := toBool hv'); clear hv'; subst hv2)))
  trivial
set_option maxHeartbeats 8000000 in
theorem same_call {w : World} {p : Program} {loose : List Str} {mean : ExcName → Option Value} {mg mb : Str → Option Value} {A₀ : Around} {base g : Heap} {outer : List Env} {dp un : Nat} {gd : Option (List Code)} {s : Shared}
    {Q E : Value → Shared → Prop} {a r pl f pa : Addr} {or op of oq : Obj} {F1 F2 : FD} {P : PD}
    (B : Below A₀ base outer g) (hk : g.StaysIn s.heap) (hz : g.objs.size ≤ s.heap.objs.size) (X : (kgrab.heap_1 w.params).In g) (T : Top p loose mean mg mb g)
    (hdp : dp + 2 < recursionLimit) (hun : un + 80 < cLine)
    (ha : IsTup g a (List.toArray [Value.ref r, .ref pl])) (hr : g.get? r = some or) (hpl : g.get? pl = some op) (hf : g.get? f = some of) (hpa : g.get? pa = some oq)
    (lr : (r == sysModules) = false) (lpl : (pl == sysModules) = false) (lf : (f == sysModules) = false) (lpa : (pa == sysModules) = false)
    (dr : DObj P0 w ValIs or F1) (dl : DObj P0 w LocIs op P) (df : DObj P0 w ValIs of F2) (dq : DObj P0 w PlIs oq P)
    (zF : F1.length < 64) (zF2 : F2.length < 64) (zP : P.length < 64) (hperm : F1.Perm F2) (hokF : ∀ q ∈ F1, PyData.strOk q.1 = true) (hokP : ∀ q ∈ P, PyData.strOk q.1 = true)
    (ret : ∀ h' tk', g.StaysIn h' → Q (.bool true) { s with heap := h', toks := tk' }) :
    wpAny (model P0 w) (gTop dp un gd outer) (call (.ref 153) [.ref a, .ref f, .ref pa]) Q E s := by
  refine wpAny_call ?_
  refine enterC (news := []) B rfl hk hz Led.nil X T (by k_is) (by k_is) (by k_room) (BindsTo.of_eq rfl) rfl (by decide +kernel) ?_
  intro L' h₁ tk₁ cells' F' N' Y' B' l' hLs
  k_cells Y'; (try simp only [List.cons_append, List.nil_append] at N'); (try dsimp only)
  rename_i oPl oFo dPl dFo
  replace dPl : oPl.data = .cell (some (.ref pa)) := dPl
  replace dFo : oFo.data = .cell (some (.ref a)) := dFo
  try k_fold
  w_top on
  k_steps
  unfold Stop
  rename Fr _ _ _ _ => F'
  rename News _ _ _ _ => N'
  have N2 := news_sub (l' := [(L' + 1 + 1, oPl), (L' + 1, oFo)]) N' (al1 (by k_memK) (al1 (by k_memK) al0))
  clear N'
  refine For_turns F' ?_
  k_steps
  unfold Stop
  obtain ⟨kvs, hdf, haf⟩ := id df
  refine loop_keys (fun i m news => m (Str.ofString "fields") = some (.ref f) ∧ news = [(L' + 1 + 1, oPl), (L' + 1, oFo)]) rfl hf hdf lf F' N2 ⟨rfl, rfl⟩ ?_ ?_
  · clear F' N2
    rintro i k x v m₁ news₁ h tk I oI hx hk ⟨e1, rfl⟩ hnI F₁ N₁
    obtain ⟨t, rfl⟩ := Value.isStrOf_shape hk
    obtain ⟨dv, hD, hR⟩ := haf.got hx
    have hm2 : (k, dv) ∈ F2 := List.mem_of_getElem? hD
    have hm1 : (k, dv) ∈ F1 := hperm.mem_iff.mpr hm2
    have F₂ := knows [(Str.ofString "fields", .ref f)] F₁ (al1 e1 al0)
    clear F₁ hR hx hD
    simp only [withL] at F₂
    cases dv with
    | bytes l =>
      k_steps
      · exfalso
        rename (_ != _) = true => hx
        simp at hx
      · rename Fr _ _ _ _ => F'
        rename News _ _ _ _ => N'
        exact EndG.intro F' N' hnI ⟨rfl, rfl⟩
    | int l =>
      k_steps
      · exact absurd rfl (by assumption)
      · rename Fr _ _ _ _ => F'
        rename News _ _ _ _ => N'
        exact EndG.intro F' N' hnI ⟨rfl, rfl⟩
    | bool l =>
      k_steps
      · exfalso
        rename (_ != _) = true => hx
        simp at hx
      · rename Fr _ _ _ _ => F'
        rename News _ _ _ _ => N'
        exact EndG.intro F' N' hnI ⟨rfl, rfl⟩
  · clear F' N2
    rintro m₁ news₁ h tk ⟨e1, rfl⟩ F₁ N₁
    have F₂ := knows [(Str.ofString "fields", .ref f)] F₁ (al1 e1 al0)
    clear F₁
    simp only [withL] at F₂
    try dsimp only
    k_steps
    rename Fr _ _ _ _ => F'
    rename News _ _ _ _ => N'
    obtain ⟨kvq, hdq, haq⟩ := id dq
    have hlq := haq.length
    refine ⟨pa, oq, kvq, _, rfl, rfl, F', N', hpa, hdq, lpa, by rw [sizeLine_eq]; omega, ?_⟩
    rintro s₂ ⟨hh, rfl⟩
    refine rest_P (CmpInv [(L' + 1 + 1, oPl), (L' + 1, oFo)]) ?_ ?_ _ 0 [] _ (Nat.zero_add _) rfl ⟨rfl, fun _ h => nomatch h⟩
    · clear F' N'
      rintro ys news v I2 oI2 C oC D m₂ h2 tk2 E2 hlt ⟨k, y, hx, hk⟩ ⟨rfl, hys⟩ hC hx2 F2' N2' off ne
      simp only [LCg.Off3] at off
      obtain ⟨t, rfl⟩ := Value.isStrOf_shape hk
      obtain ⟨dv, hD, hR⟩ := haq.got hx
      have hmP : (k, dv) ∈ P := List.mem_of_getElem? hD
      clear hx hD hR hk
      k_steps
      · rename Fr _ _ _ _ => F'
        rename News _ _ _ _ => N'
        rename dv = -1 => hd1
        exact LCg.CompEnd.intro F' N' [(L' + 1 + 1, oPl), (L' + 1, oFo)] (fun p hp => hp) off trivial ⟨rfl, true_snoc hys (by simp [hd1])⟩
      · rename Fr _ _ _ _ => F'
        rename News _ _ _ _ => N'
        rename dv ≠ -1 => hd1
        rename _ ∨ _ => hd2
        exact LCg.CompEnd.intro F' N' [(L' + 1 + 1, oPl), (L' + 1, oFo)] (fun p hp => hp) off trivial ⟨rfl, true_snoc hys (by simp [hd2.resolve_left hd1])⟩
    · clear F' N'
      rintro ys news hn ⟨rfl, hys⟩
      intro D h9 tk9 F9 N9 off9
      k_steps
      refine LSm.all_bools F9 N9 rfl (vs := ys) ⟨_, (N9 _ (.head _)).1, rfl, _, rfl⟩ (bools_true hys) ?_
      intro h' tk' F' N'
      rw [show (List.map (fun _ => true) ys).all id = true by simp]
      k_steps
      rename Fr _ _ _ _ => F'
      try dsimp only
      exact ret _ _ F'.keep
end Mine
end
section
open PySem PySem.W PySem.Calls PyProof.Rows PySem.Spec
namespace Mine
theorem led_news {h₀ h₀' g g' h' : Heap} {L : Addr} {m : Str → Option Value} {l : List (Addr × Obj)} {fs fs' : List Addr} (FG : Fr h₀ L g m) (T : KtsTurn fs g g') (T' : KtsTurn fs' h₀ h₀') (N : Led g' h' l) : News h₀' L h' l := fun q hq => by
  obtain ⟨h1, h2⟩ := N q hq
  refine ⟨h1, fun e => ?_, ?_⟩
  · obtain ⟨oL, _, _, hL, _⟩ := FG.ns
    obtain ⟨sl, hs⟩ := T.up hL
    rw [← e, h2] at hs; cases hs
  · refine T'.none_ _ ?_
    cases e : h₀.get? q.1 with
    | none => rfl
    | some o =>
      obtain ⟨sl, hs⟩ := T.up (FG.keep _ _ e)
      rw [h2] at hs; cases hs
theorem parse_use {w : World} {p : Program} {loose : List Str} {mean : ExcName → Option Value} {mg mb : Str → Option Value} {A₀ : Around} {base h₀ : Heap} {out : List Env} {dp un : Nat} {gd : Option (List Code)} {s : Shared} {L a₀ : Addr} {m : Str → Option Value} {cn : Str} {cs : Scope} {ccd : Value} {cl : List (Str × Addr)} {news tl : List (Addr × Obj)}
    {R : Result → Shared → Prop} {b : Array UInt8} {t : Tok} {part strict : Bool} {args : Args} {xs : List Vec}
    (hargs : ParseArgs b t part strict args)
    (B : Below A₀ base out h₀) (XB : (kgrab.heap_1 w.params).In base) (TB : Top p loose mean mg mb base) (D : KtsDicts (out.filterMap (·.frame)) h₀) (FF : Fr h₀ L s.heap m) (N : News h₀ L s.heap (tl ++ news)) (hck : cs.kind = .function)
    (hCd : CodeHd h₀ 76 72) (htl : TabLed tl) (hne : ∀ q ∈ news, q.1 ∉ tl.map (·.1))
    (hdp : dp + 8 < recursionLimit) (hun : un + 80 < cLine) (hb : KBw.bInts b = enc xs) (hx : OkV xs)
    (ret : ∀ (h₀' h' : Heap) (tk' : Nat) (a r pl : Addr) (or op : Obj) (tl' : List (Addr × Obj)) (c : Come) (F : FD) (P : PD), run strict true xs 0 [] [] = (c, F, P) → (c = .whole ∨ c = .malformed ∧ part = true) → KtsTurn (out.filterMap (·.frame)) h₀ h₀' → Below A₀ base out h₀' → Fr h₀' L h' m →
      News h₀' L h' ((a, tupOf [.ref r, .ref pl]) :: (r, or) :: (pl, op) :: tl') → News h₀' L h' news → TabLed tl' → DObj P0 w ValIs or F → DObj P0 w LocIs op P → (r == sysModules) = false → (pl == sysModules) = false → @Ne Nat r pl → R (.ok (.ret (.ref a))) { s with heap := h', toks := tk' })
    (exc : ∀ (e : Addr) (h' : Heap) (tk' : Nat) (cls : Value) (c : Come) (F : FD) (P : PD) (tl' : List (Addr × Obj)) (G : Heap), Fr h₀ L G m → run strict true xs 0 [] [] = (c, F, P) → (c = .malformed ∧ part = false ∧ cls = .ref 31 ∨ c = .unknown ∧ cls = .ref 44) → TabLed tl' →
      RaisedSN base G (envX cn cs L a₀ ccd cl :: out) e cls tl' h' → G.UpToSlots h' → News h₀ L G news → R (.error (.ref e)) { s with heap := h', toks := tk' }) :
    codeAny (model P0 w) (gTop dp un gd (envX cn cs L a₀ ccd cl :: out)) (.call (.ref 77) args) R s := by
  obtain ⟨B', st, ks, hz, X', T', back⟩ := share (cn := cn) (cs := cs) (a := a₀) (ccd := ccd) (cl := cl) (tl.map (·.1)) B FF N (XB.keeps B.stays) (TB.keeps B.stays) hck (fun b hb => by
    rw [List.map_append]; exact List.mem_append_left _ hb)
  have FG := back _ (fun _ _ e => e)
  have NG : News h₀ L (hideAll s.heap (tl.map (·.1))) news := fun q hq => by
    have P := N q (List.mem_append_right _ hq)
    exact ⟨hideAll_get _ P.1 (hne q hq), P.2⟩
  have hL : Led (hideAll s.heap (tl.map (·.1))) s.heap tl := fun q hq => ⟨(N q (List.mem_append_left _ hq)).1, hideAll_none _ (List.mem_map_of_mem hq)⟩
  refine parse_call hargs B' XB TB (x_dicts (h := s.heap) rfl D FG) ks hz (hCd.keeps st) htl hL hdp hun hb hx ?_ ?_
  · intro g' h' tk' a r pl or op tl' c F P hr hc hT k' hLd htl' dF dP lr lpl hrp
    obtain ⟨h₀', T', Fb, Bb, back'⟩ := x_back (news := news) (env := envX cn cs L a₀ ccd cl) rfl B FG hT k'
    exact ret h₀' h' tk' a r pl or op tl' c F P hr hc T' Bb Fb (led_news FG hT T' hLd) (fun q hq => back' q hq (NG q hq)) htl' dF dP lr lpl hrp
  · intro e h' tk' cls c F P tl' hr hcc htl' hR hU
    exact exc e h' tk' cls c F P tl' _ FG hr hcc htl' hR hU NG
end Mine
end
section
open PySem PySem.W PySem.Calls PyProof.Rows PySem.Spec PyProof.V
namespace Mine
theorem run_len (strict outer : Bool) : ∀ (xs : List Vec) (pl : Int) (F : FD) (P : PD) (c : Come) (F' : FD) (P' : PD), (∀ x ∈ xs, x.Ok) → run strict outer xs pl F P = (c, F', P') → F'.length ≤ F.length + 7 * xs.length ∧ P'.length ≤ P.length + 5 * xs.length
  | [], pl, F, P, c, F', P', _, e => by simp only [run, Prod.mk.injEq] at e; obtain ⟨_, rfl, rfl⟩ := e; simp
  | .leaf l :: r, pl, F, P, c, F', P', hx, e => by
    simp only [run] at e
    split at e
    · simp only [Prod.mk.injEq] at e; obtain ⟨_, rfl, rfl⟩ := e; simp only [List.length_cons]; omega
    · split at e
      · simp only [Prod.mk.injEq] at e; obtain ⟨_, rfl, rfl⟩ := e; simp only [List.length_cons]; omega
      · have h := run_len strict outer r _ _ _ _ _ _ (fun x h => hx x (.tail _ h)) e
        have h1 := put_length F (nameOf l.kind) (DV.bytes l.val)
        have h2 := put_length P (nameOf l.kind) (if outer then pl else -1)
        simp only [List.length_cons]
        omega
  | .ssl c v b g :: r, pl, F, P, cm, F', P', hx, e => by
    obtain ⟨_, _, _, _, hb, _, _⟩ : Vec.Ok (.ssl c v b g) := hx _ (.head _)
    have hfew := hb.few
    have h1 := put_length F (Str.ofString "SSL_CLIENT") (DV.int c)
    have h2 := put_length (put F (Str.ofString "SSL_CLIENT") (DV.int c)) (Str.ofString "SSL_VERIFY") (DV.int v)
    have h3 := put_length P (Str.ofString "SSL") (if outer then pl else -1)
    simp only [run] at e
    split at e
    · simp only [Prod.mk.injEq] at e; obtain ⟨_, rfl, rfl⟩ := e; simp only [List.length_cons]; omega
    · split at e
      · rename_i F1 P1 he
        have h4 := runL_len strict b _ _ _ _ _ he
        simp only [Prod.mk.injEq] at e; obtain ⟨_, rfl, rfl⟩ := e; simp only [List.length_cons]; omega
      · rename_i F1 P1 he
        have h4 := runL_len strict b _ _ _ _ _ he
        have h5 := put_length F1 (Str.ofString "SSL") (DV.bool false)
        simp only [Prod.mk.injEq] at e; obtain ⟨_, rfl, rfl⟩ := e; simp only [List.length_cons]; omega
      · rename_i F1 P1 he
        have h4 := runL_len strict b _ _ _ _ _ he
        have h5 := put_length F1 (Str.ofString "SSL") (DV.bool true)
        have h := run_len strict outer r _ _ _ _ _ _ (fun x h => hx x (.tail _ h)) e
        simp only [List.length_cons]
        omega
def KeysOk {α : Type} (D : List (Str × α)) : Prop := ∀ q ∈ D, PyData.strOk q.1 = true
theorem KeysOk.nil {α : Type} : KeysOk ([] : List (Str × α)) := fun _ h => nomatch h
theorem KeysOk.put {α : Type} {D : List (Str × α)} {k : Str} {d : α} (h : KeysOk D) (hk : PyData.strOk k = true) : KeysOk (put D k d) := by
  intro q hq
  unfold Mine.put at hq
  split at hq
  · obtain ⟨p, hp, rfl⟩ := List.mem_map.mp hq
    split
    · exact h p hp
    · exact h p hp
  · rcases List.mem_append.mp hq with hq | hq
    · exact h q hq
    · rw [List.mem_singleton.mp hq]; exact hk
theorem name_ok {k : Int} (hk : k ∈ leafKinds) : PyData.strOk (nameOf k) = true := by
  simp only [leafKinds, List.mem_cons, List.not_mem_nil, or_false] at hk
  rcases hk with rfl | rfl | rfl | rfl | rfl | rfl | rfl | rfl | rfl | rfl | rfl | rfl | rfl | rfl | rfl | rfl | rfl | rfl <;> decide +kernel
theorem ssl_ok1 : PyData.strOk (Str.ofString "SSL_CLIENT") = true := by decide +kernel
theorem ssl_ok2 : PyData.strOk (Str.ofString "SSL_VERIFY") = true := by decide +kernel
theorem ssl_ok3 : PyData.strOk (Str.ofString "SSL") = true := by decide +kernel
theorem runL_ok (strict : Bool) : ∀ (ls : List Leaf) (F : FD) (P : PD) (c : Come) (F' : FD) (P' : PD), (∀ l ∈ ls, l.Ok) → KeysOk F → KeysOk P → runL strict ls F P = (c, F', P') → KeysOk F' ∧ KeysOk P'
  | [], F, P, c, F', P', _, hF, hP, e => by simp only [runL, Prod.mk.injEq] at e; obtain ⟨_, rfl, rfl⟩ := e; exact ⟨hF, hP⟩
  | l :: r, F, P, c, F', P', hl, hF, hP, e => by
    simp only [runL] at e
    split at e
    · simp only [Prod.mk.injEq] at e; obtain ⟨_, rfl, rfl⟩ := e; exact ⟨hF, hP⟩
    · split at e
      · simp only [Prod.mk.injEq] at e; obtain ⟨_, rfl, rfl⟩ := e; exact ⟨hF, hP⟩
      · have hn := name_ok (hl l (.head _)).kind
        exact runL_ok strict r _ _ _ _ _ (fun x h => hl x (.tail _ h)) (hF.put hn) (hP.put hn) e
theorem run_ok (strict outer : Bool) : ∀ (xs : List Vec) (pl : Int) (F : FD) (P : PD) (c : Come) (F' : FD) (P' : PD), (∀ x ∈ xs, x.Ok) → KeysOk F → KeysOk P → run strict outer xs pl F P = (c, F', P') → KeysOk F' ∧ KeysOk P'
  | [], pl, F, P, c, F', P', _, hF, hP, e => by simp only [run, Prod.mk.injEq] at e; obtain ⟨_, rfl, rfl⟩ := e; exact ⟨hF, hP⟩
  | .leaf l :: r, pl, F, P, c, F', P', hx, hF, hP, e => by
    simp only [run] at e
    split at e
    · simp only [Prod.mk.injEq] at e; obtain ⟨_, rfl, rfl⟩ := e; exact ⟨hF, hP⟩
    · split at e
      · simp only [Prod.mk.injEq] at e; obtain ⟨_, rfl, rfl⟩ := e; exact ⟨hF, hP⟩
      · have hn := name_ok (Leaf.Ok.kind (hx (.leaf l) (.head _)))
        exact run_ok strict outer r _ _ _ _ _ _ (fun x h => hx x (.tail _ h)) (hF.put hn) (hP.put hn) e
  | .ssl c v b g :: r, pl, F, P, cm, F', P', hx, hF, hP, e => by
    obtain ⟨_, _, _, _, hb, _, _⟩ : Vec.Ok (.ssl c v b g) := hx _ (.head _)
    simp only [run] at e
    split at e
    · simp only [Prod.mk.injEq] at e; obtain ⟨_, rfl, rfl⟩ := e; exact ⟨hF, hP⟩
    · split at e
      · rename_i F1 P1 he
        have h4 := runL_ok strict b _ _ _ _ _ hb.all ((hF.put ssl_ok1).put ssl_ok2) (hP.put ssl_ok3) he
        simp only [Prod.mk.injEq] at e; obtain ⟨_, rfl, rfl⟩ := e; exact h4
      · rename_i F1 P1 he
        have h4 := runL_ok strict b _ _ _ _ _ hb.all ((hF.put ssl_ok1).put ssl_ok2) (hP.put ssl_ok3) he
        simp only [Prod.mk.injEq] at e; obtain ⟨_, rfl, rfl⟩ := e; exact ⟨h4.1.put ssl_ok3, h4.2⟩
      · rename_i F1 P1 he
        have h4 := runL_ok strict b _ _ _ _ _ hb.all ((hF.put ssl_ok1).put ssl_ok2) (hP.put ssl_ok3) he
        exact run_ok strict outer r _ _ _ _ _ _ (fun x h => hx x (.tail _ h)) (h4.1.put ssl_ok3) h4.2 e
end Mine
end
section
open PySem PySem.W PySem.Calls PyProof.Rows PySem.Spec
namespace Mine
theorem fill_14 : (fun w => (PySem.Challenge.rw_jy0002_01, kgrab.heap_1 w)) = (fun w => (PySem.Challenge.rw_jy0002_01, kgrab.heap_1 w)) := by
  k_fill
  rfl
theorem same_use {w : World} {p : Program} {loose : List Str} {mean : ExcName → Option Value} {mg mb : Str → Option Value} {A₀ : Around} {base h₀ : Heap} {outer : List Env} {dp un : Nat} {gd : Option (List Code)} {s : Shared} {L a₀ : Addr} {m : Str → Option Value} {cn : Str} {cs : Scope} {ccd : Value} {cl : List (Str × Addr)} {news : List (Addr × Obj)}
    {Q E : Value → Shared → Prop} {a r pl f pa : Addr} {or op of oq : Obj} {F1 F2 : FD} {P : PD}
    (B : Below A₀ base outer h₀) (F : Fr h₀ L s.heap m) (N : News h₀ L s.heap news) (X : (kgrab.heap_1 w.params).In h₀) (T : Top p loose mean mg mb h₀) (hck : cs.kind = .function)
    (hdp : dp + 2 < recursionLimit) (hun : un + 80 < cLine)
    (ha : (a, tupOf [.ref r, .ref pl]) ∈ news) (hr : (r, or) ∈ news) (hpl : (pl, op) ∈ news) (hf : (f, of) ∈ news) (hpa : (pa, oq) ∈ news)
    (lr : (r == sysModules) = false) (lpl : (pl == sysModules) = false) (lf : (f == sysModules) = false) (lpa : (pa == sysModules) = false)
    (dr : DObj P0 w ValIs or F1) (dl : DObj P0 w LocIs op P) (df : DObj P0 w ValIs of F2) (dq : DObj P0 w PlIs oq P)
    (zF : F1.length < 64) (zF2 : F2.length < 64) (zP : P.length < 64) (hperm : F1.Perm F2) (hokF : ∀ q ∈ F1, PyData.strOk q.1 = true) (hokP : ∀ q ∈ P, PyData.strOk q.1 = true)
    (ret : ∀ h' tk', Fr h₀ L h' m → News h₀ L h' news → Q (.bool true) { s with heap := h', toks := tk' }) :
    wpAny (model P0 w) (gTop dp un gd (envX cn cs L a₀ ccd cl :: outer)) (call (.ref 153) [.ref a, .ref f, .ref pa]) Q E s := by
  obtain ⟨B', st, ks, hz, X', T', back⟩ := share (cn := cn) (cs := cs) (a := a₀) (ccd := ccd) (cl := cl) [] B F N X T hck (fun b hb => nomatch hb)
  have hg : ∀ q ∈ news, (hideAll s.heap []).get? q.1 = some q.2 := fun q hq => hideAll_get _ (N q hq).1 (fun h => nomatch h)
  refine same_call B' ks hz X' T' hdp hun ⟨_, hg _ ha, rfl, _, rfl⟩ (hg _ hr) (hg _ hpl) (hg _ hf) (hg _ hpa) lr lpl lf lpa dr dl df dq zF zF2 zP hperm hokF hokP fun h' tk' k' => ?_
  exact ret h' tk' (back h' k') (fun q hq => ⟨k' _ _ (hg q hq), (N q hq).2⟩)
theorem rules_A1 : True := by
  k_with_none
  k_with "execs cons" => (first | (k_here; k_gentoks) | ((with_reducible refine wpAny_execs_cons ?_); (try dsimp only); (try k_fold)))
  k_with "call ref" => (k_here; (first | (with_reducible show wpAny _ _ (call (Value.ref 148) _) _ _ _) | (with_reducible show wpAny _ _ (call (Value.ref 153) _) _ _ _)); refine Stop.out ?_)
  k_with "call ref" => (k_here; (try dsimp only [List.cons_append, List.nil_append]); (with_reducible show wpAny _ _ (call (Value.ref _) (Value.bytes _ _ :: _)) _ _ _); refine Stop.out ?_)
  trivial
set_option maxHeartbeats 8000000 in
theorem ask_call {w : World} {p : Program} {loose : List Str} {mean : ExcName → Option Value} {mg mb : Str → Option Value} {A₀ : Around} {base g : Heap} {out : List Env} {dp un : Nat} {gd : Option (List Code)} {s : Shared}
    {Q E : Value → Shared → Prop} {b : Array UInt8} {t : Tok} {part strict told : Bool} {tl tlv : List (Addr × Obj)} {vl : Addr} {vals : List Value} {n : Nat} {xs : List Vec}
    (htold : told = true ∨ (told = false ∧ part = true ∧ strict = false))
    (B : Below A₀ base out g) (XB : (kgrab.heap_1 w.params).In base) (TB : Top p loose mean mg mb base) (D : KtsDicts (out.filterMap (·.frame)) g) (hk : g.StaysIn s.heap) (hz : g.objs.size ≤ s.heap.objs.size) (hCd : CodeHd g 76 72) (htl : TabLed tl) (hled : Led g s.heap tl)
    (hdp : dp + 12 < recursionLimit) (hun : un + 160 < cLine) (hb : KBw.bInts b = enc xs) (hx : OkV xs) (hvl : ∀ q ∈ tlv, g.get? q.1 = some q.2) (hvm : (vl, listOf vals.toArray n) ∈ tlv) (hvv : VecsIn tlv vals xs 0)
    (ret : ∀ (g' h' : Heap) (tk' : Nat) (tl' : List (Addr × Obj)), KtsTurn (out.filterMap (·.frame)) g g' → g'.StaysIn h' → Led g' h' tl' → TabLed tl' → Q (.bool true) { s with heap := h', toks := tk' }) :
    wpAny (model P0 w) (gTop dp un gd out) (call (.ref 160) [.bytes b t, .ref vl, .bool part, .bool strict, .bool told]) Q E s := by
  have X := XB.keeps B.stays
  have T := TB.keeps B.stays
  refine wpAny_call ?_
  refine enter B rfl hk hz hled X T (by k_is) (by k_is) (by k_room) (BindsTo.of_eq rfl) (locs rfl) ?_
  intro L' h₁ F' N' B' l' hLs hLl
  (try dsimp only)
  try k_fold
  w_top on
  k_steps
  unfold Stop
  rename_i fa hh1 oF l1 loF hsF v1 v2 v3 hh2 _ _ _ pa hh3 oP loP hsP v4 v5 v6 l2 hh4 F' N'
  obtain ⟨l3, -⟩ := l2
  have hfew := hx.few
  have nfp : @Ne Nat fa pa := Nat.ne_of_lt l3
  have ntl : ∀ q ∈ tl, q.1 ≠ fa ∧ q.1 ≠ pa := fun q hq => ⟨Nat.ne_of_lt (l1 q hq), Nat.ne_of_lt (Nat.lt_trans (l1 q hq) l3)⟩
  refine tell_use tell_outer (F := []) (P := []) B' F' (news_sub N' (al1 (mem_tl mem_hd) (al1 mem_hd fun q hq => mem_tl (mem_tl hq)))) X T rfl (by k_room) (by k_units) hvl hvm hvv hx trivial loF loP nfp ntl ⟨[], hsF, trivial⟩ ⟨[], hsP, trivial⟩ (by simp only [List.length_nil]; omega) (by simp only [List.length_nil]; omega) ?_
  clear F' N'
  intro h3 tk3 oF3 oP3 tc c F3 P3 hrun3 Fr3 N3 dF3 dP3
  have ntl2 : ∀ q ∈ [(fa, oF3), (pa, oP3)], q.1 ∉ tl.map (·.1) := al1 (fun hm => by
    obtain ⟨x, hx1, hx2⟩ := List.mem_map.mp hm
    exact (ntl x hx1).1 hx2) (al1 (fun hm => by
    obtain ⟨x, hx1, hx2⟩ := List.mem_map.mp hm
    exact (ntl x hx1).2 hx2) al0)
  rcases htold with rfl | ⟨rfl, rfl, rfl⟩
  · k_steps
    unfold Stop
    rename Fr _ _ _ _ => F'
    rename News _ _ _ _ => N'
    refine call_meth N' mem_hd ?_
    refine parse_use (tl := tl) (news := [(fa, oF3), (pa, oP3)]) (.inl rfl) B' XB TB D F' (news_sub N' (fun q hq => by
      rcases List.mem_append.mp hq with hq | hq
      · exact mem_tl (mem_tl (mem_tl hq))
      · exact (List.mem_cons.mp hq).elim (fun h => by rw [h]; exact mem_tl mem_hd) (fun h => by rw [List.mem_singleton.mp h]; exact mem_tl (mem_tl mem_hd)))) rfl hCd htl ntl2 (by k_room) (by k_units) hb hx ?_ ?_
    · clear F' N'
      intro g6 h6 tk6 a6 r6 pl6 or6 op6 tl6 c6 F6 P6 hrun6 hc6 hT6 B6 Fr6 N6 N6' htl6 dF6 dP6 lr6 lpl6 hrp6
      obtain ⟨rfl, rfl, rfl⟩ : c = c6 ∧ F3 = F6 ∧ P3 = P6 := by
        rw [hrun3] at hrun6
        simpa using hrun6
      try dsimp only
      have X6 : (kgrab.heap_1 w.params).In g6 := XB.keeps B6.stays
      have T6 := TB.keeps B6.stays
      have N7 : News g6 L' h6 ((a6, tupOf [.ref r6, .ref pl6]) :: (r6, or6) :: (pl6, op6) :: (fa, oF3) :: (pa, oP3) :: tl6) := by
        intro q hq
        simp only [List.mem_cons] at hq
        rcases hq with h | h | h | h | h | h
        · exact N6 q (by rw [h]; exact mem_hd)
        · exact N6 q (by rw [h]; exact mem_tl mem_hd)
        · exact N6 q (by rw [h]; exact mem_tl (mem_tl mem_hd))
        · exact N6' q (by rw [h]; exact mem_hd)
        · exact N6' q (by rw [h]; exact mem_tl mem_hd)
        · exact N6 q (mem_tl (mem_tl (mem_tl h)))
      clear N6 N6'
      obtain ⟨zF, zP⟩ := run_len strict true xs 0 [] [] c F3 P3 hx.all hrun3
      obtain ⟨kF, kP⟩ := run_ok strict true xs 0 [] [] c F3 P3 hx.all .nil .nil hrun3
      simp only [List.length_nil] at zF zP
      rcases hc6 with rfl | ⟨rfl, hp⟩
      all_goals
        dsimp only [Come.str] at Fr6
        k_steps
        rename Fr _ _ _ _ => F'
        rename News _ _ _ _ => N'
        refine same_use B6 F' N' X6 T6 rfl (by k_room) (by k_units) (by k_memK) (by k_memK) (by k_memK) (by k_memK) (by k_memK) lr6 lpl6 loF loP dF6 dP6 dF3 dP3 (by omega) (by omega) (by omega) (List.Perm.refl _) kF kP ?_
        clear F' N'
        intro h8 tk8 Fr8 N8
        k_steps
        rename Fr _ _ _ _ => F'
        rename News _ _ _ _ => N'
        try dsimp only
        exact ret g6 _ _ tl6 hT6 F'.keep (led_of N' fun q hq => mem_tl (mem_tl (mem_tl (mem_tl (mem_tl hq))))) htl6
    · clear F' N'
      intro e6 h6 tk6 cls c6 F6 P6 tl6 G FG hrun6 hcc htl6 hR hU NG
      obtain ⟨rfl, rfl, rfl⟩ : c = c6 ∧ F3 = F6 ∧ P3 = P6 := by
        rw [hrun3] at hrun6
        simpa using hrun6
      have hR' : RaisedSN base G (envOf _ _ L' 160 (.ref 159) :: out) e6 cls tl6 h6 := hR
      clear hR
      try dsimp only
      have T0 := KtsTurn.refl (fs := out.filterMap (·.frame)) (g := g)
      rcases hcc with ⟨rfl, hp, rfl⟩ | ⟨rfl, rfl⟩
      · subst hp
        k_steps
        rename Fr _ _ _ _ => F'
        rename News _ _ _ _ => N'
        rename KtsTurn _ _ _ => hT7
        try dsimp only
        exact ret _ _ _ tl6 hT7 F'.keep (led_of N' fun q hq => hq) htl6
      · k_steps
        rename Fr _ _ _ _ => F'
        rename News _ _ _ _ => N'
        rename KtsTurn _ _ _ => hT7
        try dsimp only
        have eu : (Come.unknown.str == Str.ofString "unknown") = true := by decide
        rw [eu]
        exact ret _ _ _ tl6 hT7 F'.keep (led_of N' fun q hq => hq) htl6
  · k_steps
    unfold Stop
    rename Fr _ _ _ _ => F'
    rename News _ _ _ _ => N'
    refine call_meth N' mem_hd ?_
    refine parse_use (tl := tl) (news := [(fa, oF3), (pa, oP3)]) (.inr (.inl ⟨rfl, rfl, rfl⟩)) B' XB TB D F' (news_sub N' (fun q hq => by
      rcases List.mem_append.mp hq with hq | hq
      · exact mem_tl (mem_tl (mem_tl hq))
      · exact (List.mem_cons.mp hq).elim (fun h => by rw [h]; exact mem_tl mem_hd) (fun h => by rw [List.mem_singleton.mp h]; exact mem_tl (mem_tl mem_hd)))) rfl hCd htl ntl2 (by k_room) (by k_units) hb hx ?_ ?_
    · clear F' N'
      intro g6 h6 tk6 a6 r6 pl6 or6 op6 tl6 c6 F6 P6 hrun6 hc6 hT6 B6 Fr6 N6 N6' htl6 dF6 dP6 lr6 lpl6 hrp6
      obtain ⟨rfl, rfl, rfl⟩ : c = c6 ∧ F3 = F6 ∧ P3 = P6 := by
        rw [hrun3] at hrun6
        simpa using hrun6
      try dsimp only
      have X6 : (kgrab.heap_1 w.params).In g6 := XB.keeps B6.stays
      have T6 := TB.keeps B6.stays
      have N7 : News g6 L' h6 ((a6, tupOf [.ref r6, .ref pl6]) :: (r6, or6) :: (pl6, op6) :: (fa, oF3) :: (pa, oP3) :: tl6) := by
        intro q hq
        simp only [List.mem_cons] at hq
        rcases hq with h | h | h | h | h | h
        · exact N6 q (by rw [h]; exact mem_hd)
        · exact N6 q (by rw [h]; exact mem_tl mem_hd)
        · exact N6 q (by rw [h]; exact mem_tl (mem_tl mem_hd))
        · exact N6' q (by rw [h]; exact mem_hd)
        · exact N6' q (by rw [h]; exact mem_tl mem_hd)
        · exact N6 q (mem_tl (mem_tl (mem_tl h)))
      clear N6 N6'
      obtain ⟨zF, zP⟩ := run_len false true xs 0 [] [] c F3 P3 hx.all hrun3
      obtain ⟨kF, kP⟩ := run_ok false true xs 0 [] [] c F3 P3 hx.all .nil .nil hrun3
      simp only [List.length_nil] at zF zP
      rcases hc6 with rfl | ⟨rfl, hp⟩
      all_goals
        dsimp only [Come.str] at Fr6
        k_steps
        rename Fr _ _ _ _ => F'
        rename News _ _ _ _ => N'
        refine same_use B6 F' N' X6 T6 rfl (by k_room) (by k_units) (by k_memK) (by k_memK) (by k_memK) (by k_memK) (by k_memK) lr6 lpl6 loF loP dF6 dP6 dF3 dP3 (by omega) (by omega) (by omega) (List.Perm.refl _) kF kP ?_
        clear F' N'
        intro h8 tk8 Fr8 N8
        k_steps
        rename Fr _ _ _ _ => F'
        rename News _ _ _ _ => N'
        try dsimp only
        exact ret g6 _ _ tl6 hT6 F'.keep (led_of N' fun q hq => mem_tl (mem_tl (mem_tl (mem_tl (mem_tl hq))))) htl6
    · clear F' N'
      intro e6 h6 tk6 cls c6 F6 P6 tl6 G FG hrun6 hcc htl6 hR hU NG
      obtain ⟨rfl, rfl, rfl⟩ : c = c6 ∧ F3 = F6 ∧ P3 = P6 := by
        rw [hrun3] at hrun6
        simpa using hrun6
      have hR' : RaisedSN base G (envOf _ _ L' 160 (.ref 159) :: out) e6 cls tl6 h6 := hR
      clear hR
      try dsimp only
      have T0 := KtsTurn.refl (fs := out.filterMap (·.frame)) (g := g)
      rcases hcc with ⟨rfl, hp, rfl⟩ | ⟨rfl, rfl⟩
      · cases hp
      · k_steps
        rename Fr _ _ _ _ => F'
        rename News _ _ _ _ => N'
        rename KtsTurn _ _ _ => hT7
        try dsimp only
        have eu : (Come.unknown.str == Str.ofString "unknown") = true := by decide
        rw [eu]
        exact ret _ _ _ tl6 hT7 F'.keep (led_of N' fun q hq => hq) htl6
end Mine
end
section
open PySem PySem.W PySem.Calls PyProof.Rows PySem.Spec PyProof.V
namespace Mine
section
variable {prog : Program} {w : World} {A : Around} {E : Value → Shared → Prop} {s : Shared} {env : Env} {h₀ : Heap} {target : PySem.Expr} {body : List Stmt} {Q : Flow → Shared → Prop}
theorem loop_turnsN {I d : Addr} {od : Obj} {n : Nat} {P Md : Nat → Value → Heap → Prop} {St : Nat → Heap → Prop} {m₀ : Str → Option Value} {news : List (Addr × Obj)} (J : Nat → (Str → Option Value) → List (Addr × Obj) → Prop)
    (W : KTurns prog w A target I [I, d] [I] n P Md St) (hLf : env.locals ∉ [I, d]) (hI0 : h₀.get? I = none) (hlive : ∀ i h, St i h → ∃ o, h.get? I = some o) (hkeep : ∀ i m news, J i m news → (d, od) ∈ news)
    (hnw : ∀ p ∈ news, p.1 ≠ I) (hst : St 0 s.heap) (F : Fr h₀ env.locals s.heap m₀) (N : News h₀ env.locals s.heap news) (hj : J 0 m₀ news)
    (turn : ∀ i v m₁ news₁ h tk oI, i < n → P i v h → J i m₁ news₁ → (∀ p ∈ news₁, p.1 ≠ I) → Fr h₀ env.locals h m₁ → News h₀ env.locals h ((I, oI) :: news₁) →
      wpAny (model prog w) A (assign target env v) (fun _ s₃ => wpAny (model prog w) A (execs body env) (PostG h₀ env.locals I oI (J (i + 1)) { s with heap := h, toks := tk } Q) E s₃) E { s with heap := h, toks := tk })
    (done : ∀ m₁ news₁ h tk, J n m₁ news₁ → Fr h₀ env.locals h m₁ → News h₀ env.locals h news₁ → Q .next { s with heap := h, toks := tk }) :
    TurnsAt prog w A h₀ env target body Q E (.ref I) s := by
  have hIL : I ≠ env.locals := fun e => hLf (by rw [← e]; exact .head _)
  refine ⟨I, [I, d], [I], n, P, Md, St, m₀, news, J, rfl, W, hLf, fun b hb => by rw [List.mem_singleton.mp hb]; exact hI0, fun p hp hb => hnw p hp (List.mem_singleton.mp hb), hst, F, N, hj, ?_, fun h' tk m' news' F' N' _ hJ => done m' news' h' tk hJ F' N'⟩
  intro i v m₁ news₁ h₁ tk₁ own hi hP hJ hnw₁ hown hget hall hst₁ F₁ N₁
  obtain ⟨oI, hoI⟩ := hlive _ _ hst₁
  have N₂ : News h₀ env.locals h₁ ((I, oI) :: news₁) := fun p hp => by
    rcases List.mem_cons.mp hp with rfl | hp
    · exact ⟨hoI, hIL, hI0⟩
    · exact N₁ p (List.mem_append_right _ hp)
  refine wpAny_mono (turn i v m₁ news₁ h₁ tk₁ oI hi hP hJ (fun p hp e => hnw₁ p hp (List.mem_singleton.mpr e)) F₁ N₂) (fun _ s₃ h₃ => wpAny_mono h₃ (fun f s₄ h₄ => ?_) fun _ _ x => x) fun _ _ x => x
  have ownI : ∀ p ∈ own, p = (I, oI) ∨ p = (d, od) := fun p hp => by
    have h1 := N₁ p (List.mem_append_left _ hp)
    obtain ⟨b, o⟩ := p
    rcases List.mem_cons.mp (hown _ hp) with e | e
    · have e : b = I := e
      subst e
      have : some o = some oI := h1.1.symm.trans hoI
      exact .inl (by rw [Option.some.inj this])
    · have e : b = d := List.mem_singleton.mp e
      subst e
      have h2 := (N₂ _ (.tail _ (hkeep _ _ _ hJ))).1
      have : some o = some od := h1.1.symm.trans h2
      exact .inr (by rw [Option.some.inj this])
  have fin : EndG h₀ env.locals I oI (J (i + 1)) { s with heap := h₁, toks := tk₁ } s₄ → LoopStepU h₀ env.locals [I] own (J (i + 1)) { s with heap := h₁, toks := tk₁ } .next s₄ := by
    rintro ⟨h', tk, m', news', rfl, F', N', hn, hg, hj'⟩
    refine ⟨rfl, h', tk, m', news', rfl, F', fun p hp => ?_, fun p hp hq => hn p hp (List.mem_singleton.mp hq), hj'⟩
    rcases List.mem_append.mp hp with hp | hp
    · rcases ownI p hp with e | e
      · rw [e]; exact ⟨hg, hIL, hI0⟩
      · rw [e]; exact N' _ (hkeep _ _ _ hj')
    · exact N' p hp
  cases f with
  | ret v => exact .ret h₄
  | brk => exact .brk h₄
  | next => exact .next (fin h₄)
  | cont => exact .cont (fin h₄)
theorem loop_listN {l : Addr} {vs : List Value} {nn : Nat} {m₀ : Str → Option Value} {news : List (Addr × Obj)} (J : Nat → (Str → Option Value) → List (Addr × Obj) → Prop) (hkeep : ∀ i m news, J i m news → (l, listOf vs.toArray nn) ∈ news)
    (hh : A.handled = none) (F : Fr h₀ env.locals s.heap m₀) (N : News h₀ env.locals s.heap news) (hj : J 0 m₀ news)
    (turn : ∀ i v m₁ news₁ h tk I oI, vs[i]? = some v → J i m₁ news₁ → (∀ p ∈ news₁, p.1 ≠ I) → Fr h₀ env.locals h m₁ → News h₀ env.locals h ((I, oI) :: news₁) →
      wpAny (model prog w) A (assign target env v) (fun _ s₃ => wpAny (model prog w) A (execs body env) (PostG h₀ env.locals I oI (J (i + 1)) { s with heap := h, toks := tk } Q) E s₃) E { s with heap := h, toks := tk })
    (done : ∀ m₁ news₁ h tk, J vs.length m₁ news₁ → Fr h₀ env.locals h m₁ → News h₀ env.locals h news₁ → Q .next { s with heap := h, toks := tk }) :
    wpAny (model prog w) A (pyIter (.ref l)) (fun it s₂ => TurnsAt prog w A h₀ env target body Q E it s₂) E s := by
  have hm := N _ (hkeep _ _ _ hj)
  have hls : s.heap.IsList l vs.toArray := ⟨_, hm.1, rfl, _, rfl⟩
  have hne : l ≠ s.heap.objs.size := Nat.ne_of_lt (Heap.lt_size hm.1)
  refine wpAny_pyIter_list hls ?_
  have W := KTurns.ofWalks (target := target) (Walks.list (prog := prog) (w := w) hh s.heap.objs.size l hne vs.toArray) (fun i v s Q E st q => letGo_listiter st.1 q)
  rw [List.size_toArray] at W
  refine loop_turnsN (s := { s with heap := _ }) J W ?_ ?_ ?_ hkeep ?_ ?_ (F.push _) (fun p hp => ⟨Heap.get?_push_of_some _ (N p hp).1, (N p hp).2⟩) hj ?_ ?_
  · intro hm'
    rcases List.mem_cons.mp hm' with e | hm'
    · exact absurd F.ns.lt (e ▸ Nat.lt_irrefl _)
    · exact hm.2.1 (List.mem_singleton.mp hm').symm
  · exact next_is_new F
  · rintro i h ⟨⟨o, ho, _⟩, _⟩; exact ⟨o, ho⟩
  · intro p hp e; exact absurd (Heap.lt_size (N p hp).1) (e ▸ Nat.lt_irrefl _)
  · exact ⟨⟨_, Heap.get?_push_size _ rfl, rfl, rfl⟩, hls.at fun o e => Heap.get?_push_of_some _ e⟩
  · intro i v m₁ news₁ h tk oI hi hP hJ hn F₁ N₁
    exact turn i v m₁ news₁ h tk _ oI (by simpa using hP) hJ hn F₁ N₁
  · intro m₁ news₁ h tk hJ F₁ N₁; exact done m₁ news₁ h tk hJ F₁ N₁
theorem loop_keysN {K : Type} [DecidableEq K] {knd : KeyKind prog w K} {kvs : List (K × Value)} {d : Addr} {od : Obj} {m₀ : Str → Option Value} {news : List (Addr × Obj)} (J : Nat → (Str → Option Value) → List (Addr × Obj) → Prop) (hkeep : ∀ i m news, J i m news → (d, od) ∈ news)
    (hh : A.handled = none) (hd : od.IsDictOf knd kvs) (lo : (d == sysModules) = false) (F : Fr h₀ env.locals s.heap m₀) (N : News h₀ env.locals s.heap news) (hj : J 0 m₀ news)
    (turn : ∀ i k x v m₁ news₁ h tk I oI, kvs[i]? = some (k, x) → knd.is k v = true → J i m₁ news₁ → (∀ p ∈ news₁, p.1 ≠ I) → Fr h₀ env.locals h m₁ → News h₀ env.locals h ((I, oI) :: news₁) →
      wpAny (model prog w) A (assign target env v) (fun _ s₃ => wpAny (model prog w) A (execs body env) (PostG h₀ env.locals I oI (J (i + 1)) { s with heap := h, toks := tk } Q) E s₃) E { s with heap := h, toks := tk })
    (done : ∀ m₁ news₁ h tk, J kvs.length m₁ news₁ → Fr h₀ env.locals h m₁ → News h₀ env.locals h news₁ → Q .next { s with heap := h, toks := tk }) :
    wpAny (model prog w) A (pyIter (.ref d)) (fun it s₂ => TurnsAt prog w A h₀ env target body Q E it s₂) E s := by
  have hm := N _ (hkeep _ _ _ hj)
  have hD : s.heap.DictOf knd d kvs := Heap.dictOf_iff.mpr ⟨od, hm.1, hd⟩
  obtain ⟨ep, hat⟩ := hD.dictAt
  have hne : d ≠ s.heap.objs.size := Nat.ne_of_lt hat.lt_size
  refine wpAny_pyIter_dict lo hat ?_
  refine loop_turnsN (s := { s with heap := _ }) J (KTurns.ofWalks (Walks.dictKeys (knd := knd) hh s.heap.objs.size d hne kvs ep) fun i v s Q E st q => letGo_keyiter st.1 q) ?_ ?_ ?_ hkeep ?_ ?_ (F.push _) (fun p hp => ⟨Heap.get?_push_of_some _ (N p hp).1, (N p hp).2⟩) hj ?_ ?_
  · intro hm'
    rcases List.mem_cons.mp hm' with e | hm'
    · exact absurd F.ns.lt (e ▸ Nat.lt_irrefl _)
    · exact hm.2.1 (List.mem_singleton.mp hm').symm
  · exact next_is_new F
  · rintro i h ⟨⟨o, g, c, _⟩, _⟩; exact ⟨o, g⟩
  · intro p hp e; exact absurd (Heap.lt_size (N p hp).1) (e ▸ Nat.lt_irrefl _)
  · exact ⟨⟨_, Heap.get?_push_size _ rfl, rfl, rfl⟩, hat.push _⟩
  · rintro i v m₁ news₁ h tk oI hi ⟨k, x, hx, hk⟩ hJ hnn F₁ N₁
    exact turn i k x v m₁ news₁ h tk _ oI hx hk hJ hnn F₁ N₁
  · intro m₁ news₁ h tk hJ F₁ N₁; exact done m₁ news₁ h tk hJ F₁ N₁
end
end Mine
end
section
open PySem PySem.W PySem.Calls PyProof.Rows PySem.Spec
namespace Mine
theorem fill_12 : (fun w => (PySem.Challenge.rw_jy0002_01, kgrab.heap_1 w)) = (fun w => (PySem.Challenge.rw_jy0002_01, kgrab.heap_1 w)) := by
  k_fill
  rfl
theorem tab_55 {w : World} {g h : Heap} (X : (kgrab.heap_1 w.params).In g) (k : ∀ b o, g.get? b = some o → h.get? b = some o) : TabAt (intKind P0 w) PyData.int h 55 (knownD.map fun p => (PyData.int p.1, p.2)) := KTD.tab_keep (keyed_55 X P0 w) k
theorem known_at {i : Nat} {k : Int} {dv : PyData} (h : (knownD.map fun p => (PyData.int p.1, p.2))[i]? = some (PyData.int k, dv)) : ∃ nm, known[i]? = some (k, nm) ∧ dv = .str nm := by
  rw [List.getElem?_map, knownD, List.getElem?_map] at h
  cases e : known[i]? with
  | none => rw [e] at h; simp at h
  | some q => rw [e] at h; simp only [Option.map_some, Option.some.injEq, Prod.mk.injEq, PyData.int.injEq] at h; obtain ⟨rfl, rfl⟩ := h; exact ⟨q.2, rfl, rfl⟩
def NumIs (x : Str) (v : Value) : Prop := match known.find? (fun p => p.2 == x) with
  | some p => ∃ t, v = .int p.1 t
  | none => v = .none
def NInv (x : Str) (tx : Tok) (vw : Addr) (o : Obj) (i : Nat) (m : Str → Option Value) (news : List (Addr × Obj)) : Prop :=
  m (Str.ofString "name") = some (.str x tx) ∧ news = [(vw, o)] ∧ known.find? (fun p => p.2 == x) = (known.drop i).find? (fun p => p.2 == x)
theorem known_drop {i : Nat} {k : Int} {nm : Str} (h : known[i]? = some (k, nm)) : known.drop i = (k, nm) :: known.drop (i + 1) := by
  have hi : i < known.length := (List.getElem?_eq_some_iff.mp h).1
  rw [List.drop_eq_getElem_cons hi]
  congr 1
  exact (List.getElem?_eq_some_iff.mp h).2
theorem rules_M1 : True := by
  k_with_none
  k_with "execs cons" => (first | (k_here; k_gentoks) | ((with_reducible refine wpAny_execs_cons ?_); (try dsimp only); (try k_fold)))
  k_with "exec For Tuple Call cons nil" => (k_here; refine Stop.out ?_)
  k_with "pyIter ref" => (k_here; refine Stop.out ?_)
  k_with "getMethod ref" => (k_here; (with_reducible show wpAny _ _ (getMethod (Value.ref 55) _ _) _ _ _); with_unfolding_all refine' getMethod_tab (knd := intKind _ _) (enc := PyData.int) PySem.F.slot_dict_items PySem.F.type_dict_items ?q3t ?_; (case q3t => exact tab_55 (by k_asm) (Fr.keep (by k_asm))))
  k_with "call builtin:dict.items" => (k_here; (with_reducible show wpAny _ _ (call (Value.builtin "dict.items") [Value.ref 55]) _ _ _); with_unfolding_all refine' call_items_tab (knd := intKind _ _) (enc := PyData.int) ?q4t ?q4F ?q4N ?_; (case q4t => exact tab_55 (by k_asm) (Fr.keep (by k_asm))); (case q4F => k_asm); (case q4N => k_asm); intro h' o' hv' F' N'; (try dsimp only))
  trivial
set_option maxHeartbeats 8000000 in
theorem num_call {w : World} {p : Program} {loose : List Str} {mean : ExcName → Option Value} {mg mb : Str → Option Value} {A₀ : Around} {base g : Heap} {outer : List Env} {dp un : Nat} {gd : Option (List Code)} {s : Shared}
    {R : Result → Shared → Prop} {x : Str} {tx : Tok}
    (B : Below A₀ base outer g) (hk : g.StaysIn s.heap) (hz : g.objs.size ≤ s.heap.objs.size) (X : (kgrab.heap_1 w.params).In g) (T : Top p loose mean mg mb g)
    (hdp : dp + 1 < recursionLimit) (hun : un + 8 < cLine)
    (ret : ∀ v h' tk', g.StaysIn h' → NumIs x v → R (.ok (.ret v)) { s with heap := h', toks := tk' }) :
    codeAny (model P0 w) (gTop dp un gd outer) (.call (.ref 98) ⟨[.ref 104, .str x tx], []⟩) R s := by
  refine enter B rfl hk hz Led.nil X T (by k_is) (by k_is) (by k_room) (BindsTo.of_eq rfl) (locs rfl) ?_
  intro L' h₁ F' N' B' l' hLs hLl
  (try dsimp only)
  try k_fold
  w_top on
  k_steps
  unfold Stop
  rename Fr _ _ _ _ => F'
  refine For_turns F' ?_
  k_steps
  unfold Stop
  rename Fr _ _ _ _ => F'
  rename News _ _ _ _ => N'
  rename_i o' hv' 
  try dsimp only
  obtain ⟨lo, kvs, hdo, hf⟩ := tab_55 X (fun _ _ e => e)
  obtain ⟨od, hod, hdd⟩ := Heap.dictOf_iff.mp hdo
  refine loop_items (NInv x tx _ o') rfl hv' hod hdd F' N' ⟨rfl, rfl, rfl⟩ ?_ ?_
  · clear F' N'
    rintro i T key k v m₁ news₁ h tk I oI hx hk hT ⟨e1, rfl, hne⟩ hnI F₁ N₁
    obtain ⟨dv, hD, hfl⟩ := hf.at hx
    obtain ⟨nm, hkn, rfl⟩ := known_at hD
    obtain ⟨t, rfl⟩ := PyProof.V.Flat.str_inv hfl
    obtain ⟨tkk, rfl⟩ := Value.isInt_shape hk
    have F₂ := knows [(Str.ofString "name", .str x tx)] F₁ (al1 e1 al0)
    clear F₁
    simp only [withL] at F₂
    refine unpackN_ F₂ N₁ hT rfl rfl rfl ?_
    intro h' F' N'
    k_steps
    all_goals (rename Fr _ _ _ _ => F'; rename News _ _ _ _ => N'; rename (x == nm) = _ => hxn)
    · try dsimp only
      refine ret _ _ _ F'.keep ?_
      have hb : (nm == x) = true := by rw [beq_iff_eq] at hxn ⊢; exact hxn.symm
      unfold NumIs
      rw [hne, known_drop hkn, List.find?_cons, hb]
      exact ⟨_, rfl⟩
    · have hb : (nm == x) = false := by rw [← hxn]; exact Bool.eq_iff_iff.mpr ⟨fun e => by rw [beq_iff_eq] at e ⊢; exact e.symm, fun e => by rw [beq_iff_eq] at e ⊢; exact e.symm⟩
      refine EndG.intro (news' := [(_, o')]) F' (news_sub N' (al1 (by k_memK) (al1 (by k_memK) al0))) hnI ⟨rfl, rfl, ?_⟩
      rw [hne, known_drop hkn, List.find?_cons, hb]
  · clear F' N'
    rintro m₁ news₁ h tk ⟨e1, rfl, hne⟩ F₁ N₁
    have F₂ := knows [(Str.ofString "name", .str x tx)] F₁ (al1 e1 al0)
    clear F₁
    simp only [withL] at F₂
    try dsimp only
    k_steps
    rename Fr _ _ _ _ => F'
    try dsimp only
    refine ret _ _ _ F'.keep ?_
    have hlen : kvs.length = known.length := by
      have := hf.length
      simpa [knownD] using this.symm
    unfold NumIs
    rw [hne, hlen, List.drop_length]
    rfl
theorem num_use {w : World} {p : Program} {loose : List Str} {mean : ExcName → Option Value} {mg mb : Str → Option Value} {A₀ : Around} {base h₀ : Heap} {outer : List Env} {dp un : Nat} {gd : Option (List Code)} {s : Shared} {L a : Addr} {m : Str → Option Value} {cn : Str} {cs : Scope} {ccd : Value} {cl : List (Str × Addr)} {news : List (Addr × Obj)}
    {R : Result → Shared → Prop} {x : Str} {tx : Tok}
    (B : Below A₀ base outer h₀) (F : Fr h₀ L s.heap m) (N : News h₀ L s.heap news) (X : (kgrab.heap_1 w.params).In h₀) (T : Top p loose mean mg mb h₀) (hck : cs.kind = .function) (hdp : dp + 1 < recursionLimit) (hun : un + 8 < cLine)
    (ret : ∀ v h' tk', Fr h₀ L h' m → News h₀ L h' news → NumIs x v → R (.ok (.ret v)) { s with heap := h', toks := tk' }) :
    codeAny (model P0 w) (gTop dp un gd (envX cn cs L a ccd cl :: outer)) (.call (.ref 98) ⟨[.ref 104, .str x tx], []⟩) R s := by
  obtain ⟨B', st, ks, hz, X', T', back⟩ := share (cn := cn) (cs := cs) (a := a) (ccd := ccd) (cl := cl) [] B F N X T hck (fun b hb => nomatch hb)
  refine num_call B' ks hz X' T' hdp hun fun v h' tk' k' hv => ?_
  exact ret v h' tk' (back h' k') (fun q hq => ⟨k' _ _ (hideAll_get _ (N q hq).1 (fun h => nomatch h)), (N q hq).2⟩) hv
end Mine
end
section
open PySem PySem.W PySem.Calls PyProof.Rows PySem.Spec
namespace Mine
section
variable {w : World} {p : Program} {loose : List Str} {mean : ExcName → Option Value} {mg mb : Str → Option Value} {A₀ : Around} {base h₀ : Heap} {out : List Env} {dp un : Nat} {gd : Option (List Code)} {s : Shared} {L a₀ : Addr} {m : Str → Option Value} {cn : Str} {cs : Scope} {ccd : Value} {cl : List (Str × Addr)} {news : List (Addr × Obj)} {Q E : Value → Shared → Prop}
theorem state_use {l : Addr} {vs : List Value} {ns : List Int} (B : Below A₀ base out h₀) (F : Fr h₀ L s.heap m) (N : News h₀ L s.heap news) (X : (kgrab.heap_1 w.params).In h₀) (T : Top p loose mean mg mb h₀) (hck : cs.kind = .function)
    (hdp : dp + 1 < recursionLimit) (hun : un + 8 < cLine) (hl : h₀.IsList l vs.toArray) (hi : IntsAre vs ns) (hlen : ns.length ≤ 63)
    (ret : ∀ d r o h' tk' vs' ns' or nn, Fr h₀ L h' m → News h₀ L h' ((d, o) :: (r, or) :: news) → (∀ q ∈ news, q.1 ≠ d ∧ q.1 ≠ r) → d ≠ r → StObj w r o → or.cls = .type "list" → or.data = .seq (List.toArray vs') nn → IntsAre vs' ns' → ns'.length = 64 → (d == sysModules) = false → Q (.ref d) { s with heap := h', toks := tk' }) :
    wpAny (model P0 w) (gTop dp un gd (envX cn cs L a₀ ccd cl :: out)) (call (.ref 129) [.ref l]) Q E s := by
  obtain ⟨B', st, ks, hz, X', T', back⟩ := share (cn := cn) (cs := cs) (a := a₀) (ccd := ccd) (cl := cl) [] B F N X T hck (fun b hb => nomatch hb)
  have hg : ∀ q ∈ news, (hideAll s.heap []).get? q.1 = some q.2 := fun q hq => hideAll_get _ (N q hq).1 (fun h => nomatch h)
  have FG := back _ (fun _ _ e => e)
  refine state_call B' ks hz X' T' hdp hun (hl.at fun o e => st _ o e) hi hlen ?_
  intro d r o h' tk' vs' ns' k' e1 e2 e3 ndr so hL' hi' hn' lo
  obtain ⟨or, eor, hcl, nn, hda⟩ := hL'
  have ne : ∀ b, (hideAll s.heap []).get? b = none → (∀ q ∈ news, q.1 ≠ b) ∧ b ≠ L ∧ h₀.get? b = none := fun b hb => by
    refine ⟨fun q hq e => ?_, fun e => ?_, ?_⟩
    · have := hg q hq; rw [e, hb] at this; cases this
    · obtain ⟨oL, _, _, hL, _⟩ := FG.ns
      rw [← e, hb] at hL; cases hL
    · cases e : h₀.get? b with
      | none => rfl
      | some o => have := FG.keep _ _ e; rw [hb] at this; cases this
  have n1 := ne d e2
  have n2 := ne r e3
  refine ret d r o h' tk' vs' ns' or nn (back h' k') ?_ (fun q hq => ⟨n1.1 q hq, n2.1 q hq⟩) ndr so hcl hda hi' hn' lo
  intro q hq
  rcases List.mem_cons.mp hq with rfl | hq
  · exact ⟨e1, n1.2⟩
  · rcases List.mem_cons.mp hq with rfl | hq
    · exact ⟨eor, n2.2⟩
    · exact ⟨k' _ _ (hg q hq), (N q hq).2⟩
theorem chunk_top {d r : Addr} {o or : Obj} {vs : List Value} {ns : List Int} {nn : Nat} {keep : List (Addr × Obj)} (B : Below A₀ base out h₀) (F : Fr h₀ L s.heap m) (N : News h₀ L s.heap news) (X : (kgrab.heap_1 w.params).In h₀) (T : Top p loose mean mg mb h₀) (hck : cs.kind = .function)
    (hdp : dp + 4 < recursionLimit) (hun : un + 8 * 4 < cLine) (hd' : (d, o) ∈ news) (hr' : (r, or) ∈ news) (ndr : d ≠ r) (so : StObj w r o) (hcl : or.cls = .type "list") (hda : or.data = .seq (List.toArray vs) nn) (hi : IntsAre vs ns) (hn : ns.length = 64) (lo : (d == sysModules) = false)
    (hkeep : ∀ q ∈ keep, q ∈ news ∧ q.1 ≠ d)
    (ret : ∀ (a : Addr) (tl : List (Addr × Obj)) (b : Array UInt8) (t : Tok) (l : Addr) (vals : List Value) (n : Nat) (xs : List Vec) (h' : Heap) (tk' : Nat),
      Fr h₀ L h' m → News h₀ L h' (keep ++ tl) → (∀ q ∈ keep, ∀ x ∈ tl, q.1 < x.1) → (a, tupOf [.bytes b t, .ref l]) ∈ tl → (l, listOf vals.toArray n) ∈ tl → VecsIn tl vals xs 0 → KBw.bInts b = enc xs → OkV xs → Q (.ref a) { s with heap := h', toks := tk' }) :
    wpAny (model P0 w) (gTop dp un gd (envX cn cs L a₀ ccd cl :: out)) (call (.ref 141) [.ref d, .ref 109]) Q E s := by
  obtain ⟨B', st, ks, hz, X', T', back⟩ := share (cn := cn) (cs := cs) (a := a₀) (ccd := ccd) (cl := cl) [d] B F N X T hck (fun b hb => by
    rw [List.mem_singleton.mp hb]; exact List.mem_map_of_mem hd')
  have hdn : (hideAll s.heap [d]).get? d = none := hideAll_none _ (.head _)
  have hrg : (hideAll s.heap [d]).get? r = some or := hideAll_get _ (N _ hr').1 (fun h => ndr (List.mem_singleton.mp h).symm)
  refine chunk_outer _ _ _ _ _ _ _ _ _ _ _ _ _ B' ks hz X' T' hdp hun (N _ hd').1 hdn lo so ⟨vs, ns, ⟨or, hrg, hcl, nn, hda⟩, hi, hn⟩ ?_
  intro a tl b t l vals n xs h' tk' o' k' e' so' ht hta htl hv hb hx _
  refine ret a tl b t l vals n xs h' tk' (back h' k') ?_ (fun q hq x hx => Nat.lt_of_lt_of_le (Heap.lt_size (N q (hkeep q hq).1).1) (ht x hx).2.2) hta htl hv hb hx
  intro q hq
  rcases List.mem_append.mp hq with hq | hq
  · have P := N q (hkeep q hq).1
    exact ⟨k' _ _ (hideAll_get _ P.1 fun h => (hkeep q hq).2 (List.mem_singleton.mp h)), P.2⟩
  · obtain ⟨q1, q2, q3⟩ := ht q hq
    refine ⟨q1, fun e => ?_, ?_⟩
    · have := F.ns.lt; rw [← e] at this; exact absurd q3 (Nat.not_le.mpr this)
    · cases e : h₀.get? q.1 with
      | none => rfl
      | some o2 => rw [st _ _ e] at q2; cases q2
end
theorem turn_nil {h₀ h₀' h' : Heap} {L : Addr} {m : Str → Option Value} (T : KtsTurn [] h₀ h₀') : (Fr h₀' L h' m → Fr h₀ L h' m) ∧ ∀ l, News h₀' L h' l → News h₀ L h' l := by
  have k : ∀ b o, h₀.get? b = some o → h₀'.get? b = some o := fun b o e => T.other b o e (fun h => nomatch h)
  refine ⟨fun F => ⟨F.ns, fun b o e => F.keep b o (k b o e), by rw [← T.size]; exact F.above⟩, fun l N q hq => ⟨(N q hq).1, (N q hq).2.1, ?_⟩⟩
  cases e : h₀.get? q.1 with
  | none => rfl
  | some o => have := k _ _ e; rw [(N q hq).2.2] at this; cases this
theorem ask_top {w : World} {p : Program} {loose : List Str} {mean : ExcName → Option Value} {mg mb : Str → Option Value} {A₀ : Around} {base h₀ : Heap} {dp un : Nat} {gd : Option (List Code)} {s : Shared} {L a₀ : Addr} {m : Str → Option Value} {cn : Str} {cs : Scope} {ccd : Value} {cl : List (Str × Addr)} {front tt tlv : List (Addr × Obj)}
    {Q E : Value → Shared → Prop} {b : Array UInt8} {t : Tok} {part strict told : Bool} {vl : Addr} {vals : List Value} {n : Nat} {xs : List Vec}
    (htold : told = true ∨ (told = false ∧ part = true ∧ strict = false))
    (B : Below A₀ base [] h₀) (XB : (kgrab.heap_1 w.params).In base) (TB : Top p loose mean mg mb base) (FF : Fr h₀ L s.heap m) (N : News h₀ L s.heap (front ++ (tt ++ tlv))) (hck : cs.kind = .function)
    (hCd : CodeHd h₀ 76 72) (htl : TabLed tt) (hne : ∀ q ∈ front ++ tlv, q.1 ∉ tt.map (·.1))
    (hdp : dp + 12 < recursionLimit) (hun : un + 160 < cLine) (hb : KBw.bInts b = enc xs) (hx : OkV xs) (hvm : (vl, listOf vals.toArray n) ∈ tlv) (hvv : VecsIn tlv vals xs 0)
    (ret : ∀ (h' : Heap) (tk' : Nat) (tt' : List (Addr × Obj)), Fr h₀ L h' m → News h₀ L h' (front ++ (tt' ++ tlv)) → TabLed tt' → (∀ q ∈ front ++ tlv, q.1 ∉ tt'.map (·.1)) → Q (.bool true) { s with heap := h', toks := tk' }) :
    wpAny (model P0 w) (gTop dp un gd [envX cn cs L a₀ ccd cl]) (call (.ref 160) [.bytes b t, .ref vl, .bool part, .bool strict, .bool told]) Q E s := by
  obtain ⟨B', st, ks, hz, X', T', back⟩ := share (cn := cn) (cs := cs) (a := a₀) (ccd := ccd) (cl := cl) (tt.map (·.1)) B FF N (XB.keeps B.stays) (TB.keeps B.stays) hck (fun b hb => by
    rw [List.map_append, List.map_append]; exact List.mem_append_right _ (List.mem_append_left _ hb))
  have FG := back _ (fun _ _ e => e)
  have sub : ∀ q ∈ front ++ tlv, q ∈ front ++ (tt ++ tlv) := fun q hq => (List.mem_append.mp hq).elim (List.mem_append_left _) (fun h => List.mem_append_right _ (List.mem_append_right _ h))
  have NG : News h₀ L (hideAll s.heap (tt.map (·.1))) (front ++ tlv) := fun q hq => by
    have P := N q (sub q hq)
    exact ⟨hideAll_get _ P.1 (hne q hq), P.2⟩
  have hL : Led (hideAll s.heap (tt.map (·.1))) s.heap tt := fun q hq => ⟨(N q (List.mem_append_right _ (List.mem_append_left _ hq))).1, hideAll_none _ (List.mem_map_of_mem hq)⟩
  refine ask_call htold B' XB TB (x_dicts (h := s.heap) rfl (fun b hb => nomatch hb) FG) ks hz (hCd.keeps st) htl hL hdp hun hb hx (fun q hq => (NG q (List.mem_append_right _ hq)).1) hvm hvv ?_
  intro g' h' tk' tt' hT k' hLd htt'
  obtain ⟨h₀', T', Fb, Bb, back'⟩ := x_back (news := front ++ tlv) (env := envX cn cs L a₀ ccd cl) rfl B FG hT k'
  obtain ⟨u1, u2⟩ := turn_nil (L := L) (h' := h') (m := m) T'
  have NT := u2 _ (led_news FG hT T' hLd)
  have NR := u2 _ (fun q hq => back' q hq (NG q hq))
  refine ret h' tk' tt' (u1 Fb) (fun q hq => ?_) htt' (fun q hq hm => ?_)
  · rcases List.mem_append.mp hq with hq | hq
    · exact NR q (List.mem_append_left _ hq)
    · rcases List.mem_append.mp hq with hq | hq
      · exact NT q hq
      · exact NR q (List.mem_append_right _ hq)
  · obtain ⟨x, hx1, hx2⟩ := List.mem_map.mp hm
    have h1 := (hLd x hx1).2
    obtain ⟨sl, h2⟩ := hT.up (NG q hq).1
    rw [hx2, h2] at h1; cases h1
end Mine
end
section
open PySem PySem.W PySem.Calls PyProof.Rows PySem.Spec
namespace Mine
def LInv (b : Array UInt8) (t : Tok) (vl : Addr) (tlv front : List (Addr × Obj)) (kv : List (Str × Value)) (_i : Nat) (m : Str → Option Value) (news : List (Addr × Obj)) : Prop :=
  m (Str.ofString "octets") = some (.bytes b t) ∧ m (Str.ofString "vectors") = some (.ref vl) ∧ (∀ q ∈ kv, m q.1 = some q.2) ∧ ∃ tt, TabLed tt ∧ news = front ++ (tt ++ tlv) ∧ ∀ q ∈ front ++ tlv, q.1 ∉ tt.map (·.1)
theorem LInv.keep {b : Array UInt8} {t : Tok} {vl : Addr} {tlv front : List (Addr × Obj)} {kv : List (Str × Value)} {i : Nat} {m : Str → Option Value} {news : List (Addr × Obj)} {q : Addr × Obj} (h : LInv b t vl tlv front kv i m news) (hq : q ∈ front) : q ∈ news := by
  obtain ⟨_, _, _, tt, _, rfl, _⟩ := h
  exact List.mem_append_left _ hq
theorem bool_in {i : Nat} {v : Value} {x y : Bool} (h : [Value.bool x, .bool y][i]? = some v) : ∃ b, v = .bool b := by
  rcases i with _ | _ | i
  · exact ⟨x, (Option.some.inj h).symm⟩
  · exact ⟨y, (Option.some.inj h).symm⟩
  · simp at h
theorem allLt_to {d : Nat} {l : List (Addr × Obj)} : AllLt d l → ∀ p ∈ l, @LT.lt Nat _ p.1 d := by
  induction l with
  | nil => intro _ p hp; exact nomatch hp
  | cons a r ih =>
    rintro ⟨h1, h2⟩ p hp
    rcases List.mem_cons.mp hp with rfl | hp
    · exact h1
    · exact ih h2 p hp
theorem notin_lt {tt : List (Addr × Obj)} {b : Addr} (h : ∀ p ∈ tt, p.1 < b) : b ∉ tt.map (·.1) := fun hm => by
  obtain ⟨x, hx, rfl⟩ := List.mem_map.mp hm
  exact Nat.lt_irrefl _ (h x hx)
theorem notin_ne {tt : List (Addr × Obj)} {b : Addr} (h : ∀ p ∈ tt, p.1 ≠ b) : b ∉ tt.map (·.1) := fun hm => by
  obtain ⟨x, hx, e⟩ := List.mem_map.mp hm
  exact h x hx e
theorem ne_notin {tt : List (Addr × Obj)} {b : Addr} (h : b ∉ tt.map (·.1)) : ∀ p ∈ tt, p.1 ≠ b := fun p hp e => h (by rw [← e]; exact List.mem_map_of_mem hp)
theorem known_lookup {k : Int} {x : Str} (h : (k, x) ∈ known) : known.lookup k = some x := by
  have : ∀ q ∈ known, known.lookup q.1 = some q.2 := by decide +kernel
  exact this _ h
theorem known_find {k : Int} {x : Str} (h : (k, x) ∈ known) : known.find? (fun p => p.2 == x) = some (k, x) := by
  have : ∀ q ∈ known, known.find? (fun p => p.2 == q.2) = some q := by decide +kernel
  exact this _ h
theorem r_tabItem {w : World} {A : Around} {E : Value → Shared → Prop} {s : Shared} {h₀ : Heap} {L D : Addr} {news : List (Addr × Obj)} {o : Obj} {k : Int} {t : Tok} {tab : List (Int × Str)} {x : Str} {value slice : PySem.Expr} {Q : Value → Shared → Prop} (N : News h₀ L s.heap news) (hm : (D, o) ∈ news) (to : TabObj w o tab) (hl : tab.lookup k = some x) (h : ∀ t', Q (.str x t') { s with toks := s.toks + 1 })
    (hs : subscripted slice false (.ref D) (.int k t) = operate [.ref D, .int k t] (getItem (.ref D) (.int k t)) := by with_unfolding_all rfl) :
    wpAny (model P0 w) A (subscriptTail value slice (.ref D) (.int k t)) Q E s := by
  obtain ⟨kvs, hd, ht⟩ := to
  refine kba_turn (value' := PySem.Expr.Name (PySem.Str.ofString "_") ⟨0, 0, 0, 0⟩) (fun _ => rfl) ?_
  rcases ht.at k with ⟨y, t', a, b⟩ | ⟨a, b⟩
  · rw [hl] at a
    cases a
    exact kda_item (knd := intKind P0 w) N hm hd (intKind_is _ _ _ _) b (h t') hs (fun _ => rfl)
  · rw [hl] at a; cases a
structure KInv (nw : List (Addr × Obj)) (_i : Nat) (_m : Str → Option Value) (news : List (Addr × Obj)) : Prop where
  mk ::
  out : news = nw
theorem tab_at : ∀ {kvs : List (Int × Value)} {tab : List (Int × Str)}, TabIs kvs tab → ∀ {i : Nat} {k : Int} {v : Value}, kvs[i]? = some (k, v) → ∃ x t, (k, x) ∈ tab ∧ v = .str x t
  | [], [], _, i, k, v, h => by simp at h
  | (k', v') :: r, (k'', x) :: r', ⟨e, ⟨t, ht⟩, h⟩, 0, k, v, hi => by
    simp only [List.getElem?_cons_zero, Option.some.injEq, Prod.mk.injEq] at hi
    obtain ⟨rfl, rfl⟩ := hi
    subst e
    exact ⟨x, t, .head _, ht⟩
  | (k', v') :: r, (k'', x) :: r', ⟨_, _, h⟩, i + 1, k, v, hi => by
    simp only [List.getElem?_cons_succ] at hi
    obtain ⟨y, t, hm, e⟩ := tab_at h hi
    exact ⟨y, t, .tail _ hm, e⟩
theorem rules_L1 : True := by
  k_with_none
  k_with "call ref" => (k_here; (try dsimp only [List.cons_append, List.nil_append]); (first | (with_reducible show wpAny _ _ (call (Value.ref 129) _) _ _ _) | (with_reducible show wpAny _ _ (call (Value.ref 141) _) _ _ _) | (with_reducible show wpAny _ _ (call (Value.ref 160) _) _ _ _) | (with_reducible show wpAny _ _ (call (Value.ref 117) _) _ _ _) | (with_reducible show wpAny _ _ (call (Value.ref _) [Value.str _ _]) _ _ _)); refine Stop.out ?_)
  k_with "exec For Name List cons nil" => (k_here; refine Stop.out ?_)
  k_with "exec For Name Call cons nil" => (k_here; refine Stop.out ?_)
  k_with "exec For" => (k_here; refine Stop.out ?_)
  k_with "pyIter ref" => (k_here; refine Stop.out ?_)
  k_with "assign Tuple" => (k_here; refine Stop.out ?_)
  k_with "subscriptTail" => (k_here; (with_reducible show wpAny _ _ (subscriptTail _ _ (Value.ref _) (Value.int _ _)) _ _ _); k_dflt (refine' r_tabItem ?q7tiN ?q7tim ?q7tit ?q7til ?_ ?q7tia; (case q7tiN => k_asm); (case q7tim => k_memK); (case q7tit => with_reducible assumption); (case q7til => with_reducible assumption); (case q7tia => with_unfolding_all rfl)); intro t'; (try dsimp only))
  k_with "And" => ((with_reducible show GoodW _ _ _ _ _ _ _ ∧ GrownAll _ _); refine Stop.out ?_)
  trivial
set_option maxHeartbeats 8000000 in
theorem law1 : rw1.Holds := hd (walk_of (YP' := (kmHook kgrab.heap_1 _ k0_as [72]).says) says_of (by
  k_go0
  (all_goals try k_fold)
  k_steps
  unfold Stop
  rename Fr _ _ _ _ => F'
  rename News _ _ _ _ => N'
  rename Below _ _ _ _ => K'
  rename Frag.In _ (ghostOf _ _) => X'
  rename Top _ _ _ _ _ (ghostOf _ _) => T'
  rename CodeHd _ _ _ => hCd
  rename Heap.IsList (ghostOf _ _) _ _ => hlist
  rename IntsAre _ _ => hints
  rename ¬ _ < _ => hlen
  refine state_use K' F' N' X' T' rfl (by decide) (by decide) hlist hints (by omega) ?_
  clear F' N'
  intro d r o h2 tk2 vs2 ns2 or nn F2 N2 nd ndr so hcl hda hi2 hn2 lo
  k_steps
  unfold Stop
  rename Fr _ _ _ _ => F'
  rename News _ _ _ _ => N'
  refine chunk_top (keep := [(72, tabObj #[])]) K' F' N' X' T' rfl (by decide) (by decide) mem_hd (mem_tl mem_hd) ndr so hcl hda hi2 hn2 lo (al1 ⟨mem_tl (mem_tl mem_hd), (nd _ mem_hd).1⟩ al0) ?_
  clear F' N' nd
  intro a tlv b t vl vals n xs h3 tk3 F3 N3 hab hta htl hvv hb hx
  k_steps
  unfold Stop
  rename Fr _ _ _ _ => F'
  rename News _ _ _ _ => N'
  refine unpackN_ (items := List.toArray [Value.bytes b t, .ref vl]) F' N' ⟨_, (N' _ (mem_tl hta)).1, rfl, _, rfl⟩ rfl rfl rfl ?_
  clear F' N'
  intro h4 F4 N4
  k_steps
  unfold Stop
  rename Fr _ _ _ _ => F'
  rename News _ _ _ _ => N'
  refine For_turns F' ?_
  k_steps
  unfold Stop
  rename Fr _ _ _ _ => F'
  rename News _ _ _ _ => N'
  rename_i l1 hh1 lt1
  have N1 : News (ghostOf _ _) _ _ ([(l1, listOf (List.toArray [Value.bool true, .bool false]) 0)] ++ ([(72, tabObj #[])] ++ tlv)) := N'
  have h72 : ∀ q ∈ tlv, q.1 ∉ [(72, tabObj #[])].map (·.1) := fun q hq hm => by
    have h1 := hab (72, tabObj #[]) (.head _) q hq
    rw [List.mem_singleton.mp hm] at h1
    exact Nat.lt_irrefl _ h1
  refine loop_listN (vs := [Value.bool true, .bool false]) (nn := 0) (LInv b t vl tlv [(l1, listOf (List.toArray [Value.bool true, .bool false]) 0)] []) (fun i m news hJ => hJ.keep (.head _)) rfl F' N1 ⟨rfl, rfl, al0, _, .inl rfl, rfl, al1 (notin_lt fun p hp => lt1 p (List.mem_append_left _ hp)) h72⟩ ?_ ?_
  · clear F' N' N1
    rintro i v m₁ news₁ h tk I oI hvi ⟨e1, e2, -, tt, htt, rfl, hne⟩ hnI F₁ N₁
    obtain ⟨pb, rfl⟩ := bool_in hvi
    clear hvi
    have F₂ := knows [(Str.ofString "octets", .bytes b t), (Str.ofString "vectors", .ref vl)] F₁ (al1 e1 (al1 e2 al0))
    clear F₁ e1 e2
    simp only [withL] at F₂
    k_steps
    unfold Stop
    rename Fr _ _ _ _ => F'
    refine For_turns F' ?_
    k_steps
    unfold Stop
    rename Fr _ _ _ _ => F'
    rename News _ _ _ _ => N'
    rename_i l2 hh2 lt2
    obtain ⟨ltI, lt2'⟩ := lt2
    have lt2 := allLt_to lt2'
    clear lt2'
    have nI := ne_notin (b := I) (tt := tt) (notin_ne fun p hp => hnI p (List.mem_append_right _ (List.mem_append_left _ hp)))
    refine loop_listN (vs := [Value.bool false, .bool true]) (nn := 0) (LInv b t vl tlv ((l2, listOf (List.toArray [Value.bool false, .bool true]) 0) :: (I, oI) :: [(l1, listOf (List.toArray [Value.bool true, .bool false]) 0)]) [(Str.ofString "partial", .bool pb)]) (fun i m news hJ => hJ.keep (.head _)) rfl F' N'
      ⟨rfl, rfl, al1 rfl al0, tt, htt, rfl, al1 (notin_lt fun p hp => lt2 p (List.mem_append_right _ (List.mem_append_left _ hp))) (al1 (notin_ne nI) hne)⟩ ?_ ?_
    · clear F' N' N₁ F₂
      rintro j v m₂ news₂ h5 tk5 I2 oI2 hvj ⟨e1, e2, e3, tt2, htt2, rfl, hne2⟩ hnI2 F₃ N₃
      obtain ⟨sb, rfl⟩ := bool_in hvj
      clear hvj
      have F₄ := knows [(Str.ofString "octets", .bytes b t), (Str.ofString "vectors", .ref vl), (Str.ofString "partial", .bool pb)] F₃ (al1 e1 (al1 e2 (al1 (e3 _ (.head _)) al0)))
      clear F₃ e1 e2 e3
      simp only [withL] at F₄
      k_steps
      unfold Stop
      rename Fr _ _ _ _ => F'
      rename News _ _ _ _ => N'
      refine ask_top (part := pb) (strict := sb) (told := true) (tt := tt2) (tlv := tlv) (front := (I2, oI2) :: (l2, listOf (List.toArray [Value.bool false, .bool true]) 0) :: (I, oI) :: [(l1, listOf (List.toArray [Value.bool true, .bool false]) 0)]) (.inl rfl) K' X' T' F' N' rfl hCd htt2
        (al1 (notin_ne fun p hp => hnI2 p (List.mem_append_right _ (List.mem_append_left _ hp))) hne2) (by decide) (by decide) hb hx htl hvv ?_
      clear F' N'
      intro h6 tk6 tt3 F6 N6 htt3 hne3
      k_steps
      have hI3 := ne_notin (hne3 (I2, oI2) (.head _))
      refine EndG.intro (J := LInv b t vl tlv ((l2, listOf (List.toArray [Value.bool false, .bool true]) 0) :: (I, oI) :: [(l1, listOf (List.toArray [Value.bool true, .bool false]) 0)]) [(Str.ofString "partial", .bool pb)] (j + 1))
        (news' := ((l2, listOf (List.toArray [Value.bool false, .bool true]) 0) :: (I, oI) :: [(l1, listOf (List.toArray [Value.bool true, .bool false]) 0)]) ++ (tt3 ++ tlv)) F6 N6 ?_ ⟨rfl, rfl, al1 rfl al0, tt3, htt3, rfl, fun q hq => hne3 q (mem_tl hq)⟩
      intro p hp
      rcases List.mem_append.mp hp with h | h
      · exact hnI2 p (List.mem_append_left _ h)
      · rcases List.mem_append.mp h with h | h
        · exact hI3 p h
        · exact hnI2 p (List.mem_append_right _ (List.mem_append_right _ h))
    · clear F' N' N₁ F₂
      rintro m₂ news₂ h5 tk5 ⟨e1, e2, e3, tt2, htt2, rfl, hne2⟩ F₃ N₃
      try dsimp only
      k_steps
      refine EndG.intro (J := LInv b t vl tlv [(l1, listOf (List.toArray [Value.bool true, .bool false]) 0)] [] (i + 1)) (news' := [(l1, listOf (List.toArray [Value.bool true, .bool false]) 0)] ++ (tt2 ++ tlv)) F₃ (news_tail N₃) ?_ ⟨e1, e2, al0, tt2, htt2, rfl, fun q hq => hne2 q (mem_tl (mem_tl hq))⟩
      intro p hp
      rcases List.mem_append.mp hp with h | h
      · exact hnI p (List.mem_append_left _ h)
      · rcases List.mem_append.mp h with h | h
        · exact ne_notin (hne2 (I, oI) (mem_tl mem_hd)) p h
        · exact hnI p (List.mem_append_right _ (List.mem_append_right _ h))
  · clear F' N' N1
    rintro m₂ news₂ h5 tk5 ⟨e1, e2, -, tt2, htt2, rfl, hne2⟩ F₃ N₃
    have F₄ := knows [(Str.ofString "octets", .bytes b t), (Str.ofString "vectors", .ref vl)] F₃ (al1 e1 (al1 e2 al0))
    clear F₃ e1 e2
    simp only [withL] at F₄
    try dsimp only
    k_steps
    unfold Stop
    rename Fr _ _ _ _ => F'
    refine ask_top (part := true) (strict := false) (told := false) (tt := tt2) (tlv := tlv) (front := [(l1, listOf (List.toArray [Value.bool true, .bool false]) 0)]) (.inr ⟨rfl, rfl, rfl⟩) K' X' T' F' N₃ rfl hCd htt2 hne2 (by decide) (by decide) hb hx htl hvv ?_
    clear F' N₃
    intro h6 tk6 tt3 F6 N6 htt3 hne3
    k_steps
    unfold Stop
    rename Fr _ _ _ _ => F'
    refine For_turns F' ?_
    k_steps
    unfold Stop
    rename Fr _ _ _ _ => F'
    rename News _ _ _ _ => N'
    refine tab_use names_call K' F' N' X' T' rfl (by decide) ?_
    clear F' N'
    intro D oD h7 tk7 F7 N7 ltD loD tD
    try dsimp only
    k_steps
    unfold Stop
    obtain ⟨kvs, hkd, hkt⟩ := id tD
    refine loop_keysN (KInv ((D, oD) :: ([(l1, listOf (List.toArray [Value.bool true, .bool false]) 0)] ++ (tt3 ++ tlv)))) (fun i m news hJ => by rw [hJ.out]; exact .head _) rfl hkd loD F7 N7 (KInv.mk rfl) ?_ ?_
    · clear F7 N7
      rintro i k y v m₂ news₂ h8 tk8 I oI hky hkk ⟨rfl⟩ hnI F₃ N₃
      obtain ⟨tkk, rfl⟩ := Value.isInt_shape hkk
      obtain ⟨x, tx, hkn, rfl⟩ := tab_at hkt hky
      clear hky hkk
      have hlk := known_lookup hkn
      have hfind := known_find hkn
      k_steps
      (all_goals (try k_data))
      unfold Stop
      rename Fr _ _ _ _ => F'
      rename News _ _ _ _ => N'
      refine tab_use names_call K' F' N' X' T' rfl (by decide) ?_
      clear F' N'
      intro D2 oD2 h9 tk9 F9 N9 ltD2 loD2 tD2
      try dsimp only
      k_steps
      (all_goals (try k_data))
      unfold Stop
      rename Fr _ _ _ _ => F'
      rename News _ _ _ _ => N'
      refine call_meth N' (by k_memK) ?_
      refine num_use K' F' N' X' T' rfl (by decide) (by decide) ?_
      clear F' N'
      intro v h10 tk10 F10 N10 hv
      unfold NumIs at hv
      rw [hfind] at hv
      obtain ⟨t9, rfl⟩ := hv
      try dsimp only
      k_steps
      (all_goals (try k_data))
      · exact absurd rfl (by assumption)
      · rename Fr _ _ _ _ => F'
        rename News _ _ _ _ => N'
        refine EndG.intro (J := KInv ((D, oD) :: ([(l1, listOf (List.toArray [Value.bool true, .bool false]) 0)] ++ (tt3 ++ tlv))) (i + 1)) (news' := (D, oD) :: ([(l1, listOf (List.toArray [Value.bool true, .bool false]) 0)] ++ (tt3 ++ tlv))) F' (news_sub N' ?_) hnI (KInv.mk rfl)
        intro q hq
        exact mem_tl (mem_tl hq)
    · clear F7 N7
      rintro m₂ news₂ h8 tk8 ⟨rfl⟩ F₃ N₃
      try dsimp only
      k_steps
      (all_goals (try k_data))
      unfold Stop
      rename Fr _ _ _ _ => F'
      rename News _ _ _ _ => N'
      refine call_meth N' (by k_memK) ?_
      refine num_use K' F' N' X' T' rfl (by decide) (by decide) ?_
      clear F' N'
      intro v h10 tk10 F10 N10 hv
      obtain rfl : v = .none := by
        unfold NumIs at hv
        rw [show known.find? (fun p => p.2 == Str.ofString "x7F") = none by decide +kernel] at hv
        exact hv
      try dsimp only
      k_steps
      (all_goals (try k_data))
      unfold Stop
      rename Fr _ _ _ _ => F'
      rename News _ _ _ _ => N'
      refine call_meth N' (by k_memK) ?_
      refine num_use K' F' N' X' T' rfl (by decide) (by decide) ?_
      clear F' N'
      intro v h10 tk10 F10 N10 hv
      obtain rfl : v = .none := by
        unfold NumIs at hv
        rw [show known.find? (fun p => p.2 == Str.ofString "") = none by decide +kernel] at hv
        exact hv
      try dsimp only
      k_steps
      (all_goals (try k_data))
      unfold Stop
      rename Fr _ _ _ _ => F'
      rename News _ _ _ _ => N'
      refine ⟨?_, ?_, trivial⟩
      · k_steps
      · rcases htt3 with rfl | ⟨c', oc, vs', t', rfl, -, -⟩
        · exact GrownAt.of N' (mem_tl (mem_tl (mem_tl (mem_tl mem_hd))))
        · exact GrownAt.of N' (show (72, tabFull c') ∈ _ from mem_tl (mem_tl (mem_tl (mem_tl mem_hd))))))
theorem law_end : PySem.Challenge.rw_jy0002_01.Holds := rw1_eq ▸ law1
end Mine
end
theorem PySem.Challenge.cw_jy0002_01_holds : PySem.Challenge.rw_jy0002_01.Holds :=
  Mine.law_end
