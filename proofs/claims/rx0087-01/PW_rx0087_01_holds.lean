import PyProof.Rows.All
import Wide.All
import OpenK.AllK
import Wide.FinOn
import PySem.Challenge.RW_rx0087_01
open PySem PySem.W PySem.Spec PySem.Calls PyProof.Rows
set_option Elab.async false
set_option maxRecDepth 100000
set_option maxHeartbeats 0
namespace Mine
noncomputable def HookOf (K : Params → Frag) (H : Hook) : Prop := ∃ as e ts, H = kmHook K as e ts
noncomputable def QK (K : Params → Frag) : Prop := ∀ H : Hook, HookOf K H → OpenRow.Holds PySem.Challenge.rw_rx0087_01.row
theorem QK.use {K : Params → Frag} (q : QK K) (H : Hook) (e : HookOf K H) : OpenRow.Holds PySem.Challenge.rw_rx0087_01.row := q H e
section
local macro_rules | `(tactic| o_head $H) => `(tactic| exact QK.use (by assumption) $H ⟨_, _, _, rfl⟩)
noncomputable def K39 : Params → Frag := by
  refine' (fun (K : Params → Frag) (_ : QK K → OpenRow.Holds PySem.Challenge.rw_rx0087_01.row) => K) _ ?h
  case h => intro _; k_head
end
noncomputable def lawRec : DefRec := match PySem.Challenge.pw_rx0087_01.main.body.getLast? with
  | some (.FunctionDef name args body _ _ _ scope _ _ pos) => { name := name, params := args, body := body, scope := scope, pos := pos }
  | _ => { name := Str.ofString "", params := ⟨[], [], none, [], [], none, []⟩, body := [], scope := { kind := .function, names := [], isGenerator := false, isCoroutine := false, more := [] }, pos := ⟨0, 0, 0, 0⟩ }
noncomputable def V39 : Program := { PySem.Challenge.pw_rx0087_01 with main := { PySem.Challenge.pw_rx0087_01.main with body := [0, 1, 3, 4, 6, 7, 9, 10, 12, 13, 15, 17, 19, 20, 22, 24, 26, 27, 28, 29, 30, 32, 33, 34, 35, 36, 37].filterMap fun i => PySem.Challenge.pw_rx0087_01.main.body[i]? } }
theorem as39 (P : Params) : [2, 3, 32, 34, 35, 37, 38, 39, 41, 42, 44, 45, 46, 48, 49, 51, 52, 56, 57, 58, 60, 61, 63, 64, 66, 70, 72, 73, 75, 76, 77, 79, 80, 82, 83, 84, 86, 87, 89, 90, 91, 93, 94, 96, 97, 98, 105, 107, 108, 110, 111, 112, 113, 114, 117, 124, 126, 127, 129, 130, 131, 133, 134, 136, 137, 138, 140, 141, 143, 144, 145, 146, 147, 150, 152, 153, 155, 156, 157, 159, 160, 162, 163, 164, 166, 167, 169, 170, 171, 173, 174, 176, 177, 178, 180, 181, 183, 184, 185, 187, 188, 190, 191, 192, 194, 195, 197, 198, 199, 202, 203, 204, 206, 207, 209, 210, 211, 213, 214, 216, 217, 218, 221, 222, 223, 225, 226, 228, 229, 230, 232, 233, 235, 236, 237, 240, 241] = (K39.heap_1 P).map (·.1) := by kernel_rfl
noncomputable def T39 : Prop := WalkO V39 [Str.ofString "_twin_re_1", Str.ofString "_special_chars_map"] (XL V39 []) (kmHook K39.heap_1 [2, 3, 32, 34, 35, 37, 38, 39, 41, 42, 44, 45, 46, 48, 49, 51, 52, 56, 57, 58, 60, 61, 63, 64, 66, 70, 72, 73, 75, 76, 77, 79, 80, 82, 83, 84, 86, 87, 89, 90, 91, 93, 94, 96, 97, 98, 105, 107, 108, 110, 111, 112, 113, 114, 117, 124, 126, 127, 129, 130, 131, 133, 134, 136, 137, 138, 140, 141, 143, 144, 145, 146, 147, 150, 152, 153, 155, 156, 157, 159, 160, 162, 163, 164, 166, 167, 169, 170, 171, 173, 174, 176, 177, 178, 180, 181, 183, 184, 185, 187, 188, 190, 191, 192, 194, 195, 197, 198, 199, 202, 203, 204, 206, 207, 209, 210, 211, 213, 214, 216, 217, 218, 221, 222, 223, 225, 226, 228, 229, 230, 232, 233, 235, 236, 237, 240, 241] as39 [78, 238]).says PySem.Challenge.rw_rx0087_01.row.toRowW lawRec [] fun f vs => call f vs
theorem ex0_2 {P1 P2 : Prop} {G : Prop} (h : P1 ∧ P2) (k : P1 → P2 → G) : G := k h.1 h.2
theorem ex0_3 {P1 P2 P3 : Prop} {G : Prop} (h : P1 ∧ P2 ∧ P3) (k : P1 → P2 → P3 → G) : G := k h.1 h.2.1 h.2.2
theorem ex0_5 {P1 P2 P3 P4 P5 : Prop} {G : Prop} (h : P1 ∧ P2 ∧ P3 ∧ P4 ∧ P5) (k : P1 → P2 → P3 → P4 → P5 → G) : G := k h.1 h.2.1 h.2.2.1 h.2.2.2.1 h.2.2.2.2
theorem ex0_6 {P1 P2 P3 P4 P5 P6 : Prop} {G : Prop} (h : P1 ∧ P2 ∧ P3 ∧ P4 ∧ P5 ∧ P6) (k : P1 → P2 → P3 → P4 → P5 → P6 → G) : G := k h.1 h.2.1 h.2.2.1 h.2.2.2.1 h.2.2.2.2.1 h.2.2.2.2.2
theorem ex1_1 {A1 : Type} {P1 : A1 → Prop} {G : Prop} (h : ∃ (x1 : A1), P1 x1) (k : ∀ (x1 : A1), P1 x1 → G) : G := h.elim fun x1 h => k x1 h
theorem ex1_2 {A1 : Type} {P1 P2 : A1 → Prop} {G : Prop} (h : ∃ (x1 : A1), P1 x1 ∧ P2 x1) (k : ∀ (x1 : A1), P1 x1 → P2 x1 → G) : G := h.elim fun x1 h => k x1 h.1 h.2
theorem ex1_3 {A1 : Type} {P1 P2 P3 : A1 → Prop} {G : Prop} (h : ∃ (x1 : A1), P1 x1 ∧ P2 x1 ∧ P3 x1) (k : ∀ (x1 : A1), P1 x1 → P2 x1 → P3 x1 → G) : G := h.elim fun x1 h => k x1 h.1 h.2.1 h.2.2
theorem ex1_5 {A1 : Type} {P1 P2 P3 P4 P5 : A1 → Prop} {G : Prop} (h : ∃ (x1 : A1), P1 x1 ∧ P2 x1 ∧ P3 x1 ∧ P4 x1 ∧ P5 x1) (k : ∀ (x1 : A1), P1 x1 → P2 x1 → P3 x1 → P4 x1 → P5 x1 → G) : G := h.elim fun x1 h => k x1 h.1 h.2.1 h.2.2.1 h.2.2.2.1 h.2.2.2.2
theorem ex2_1 {A1 A2 : Type} {P1 : A1 → A2 → Prop} {G : Prop} (h : ∃ (x1 : A1) (x2 : A2), P1 x1 x2) (k : ∀ (x1 : A1) (x2 : A2), P1 x1 x2 → G) : G := h.elim fun x1 h => h.elim fun x2 h => k x1 x2 h
theorem ex2_2 {A1 A2 : Type} {P1 P2 : A1 → A2 → Prop} {G : Prop} (h : ∃ (x1 : A1) (x2 : A2), P1 x1 x2 ∧ P2 x1 x2) (k : ∀ (x1 : A1) (x2 : A2), P1 x1 x2 → P2 x1 x2 → G) : G := h.elim fun x1 h => h.elim fun x2 h => k x1 x2 h.1 h.2
theorem ex2_3 {A1 A2 : Type} {P1 P2 P3 : A1 → A2 → Prop} {G : Prop} (h : ∃ (x1 : A1) (x2 : A2), P1 x1 x2 ∧ P2 x1 x2 ∧ P3 x1 x2) (k : ∀ (x1 : A1) (x2 : A2), P1 x1 x2 → P2 x1 x2 → P3 x1 x2 → G) : G := h.elim fun x1 h => h.elim fun x2 h => k x1 x2 h.1 h.2.1 h.2.2
theorem ex2_5 {A1 A2 : Type} {P1 P2 P3 P4 P5 : A1 → A2 → Prop} {G : Prop} (h : ∃ (x1 : A1) (x2 : A2), P1 x1 x2 ∧ P2 x1 x2 ∧ P3 x1 x2 ∧ P4 x1 x2 ∧ P5 x1 x2) (k : ∀ (x1 : A1) (x2 : A2), P1 x1 x2 → P2 x1 x2 → P3 x1 x2 → P4 x1 x2 → P5 x1 x2 → G) : G := h.elim fun x1 h => h.elim fun x2 h => k x1 x2 h.1 h.2.1 h.2.2.1 h.2.2.2.1 h.2.2.2.2
theorem ex3_2 {A1 A2 A3 : Type} {P1 P2 : A1 → A2 → A3 → Prop} {G : Prop} (h : ∃ (x1 : A1) (x2 : A2) (x3 : A3), P1 x1 x2 x3 ∧ P2 x1 x2 x3) (k : ∀ (x1 : A1) (x2 : A2) (x3 : A3), P1 x1 x2 x3 → P2 x1 x2 x3 → G) : G := h.elim fun x1 h => h.elim fun x2 h => h.elim fun x3 h => k x1 x2 x3 h.1 h.2
theorem ex3_3 {A1 A2 A3 : Type} {P1 P2 P3 : A1 → A2 → A3 → Prop} {G : Prop} (h : ∃ (x1 : A1) (x2 : A2) (x3 : A3), P1 x1 x2 x3 ∧ P2 x1 x2 x3 ∧ P3 x1 x2 x3) (k : ∀ (x1 : A1) (x2 : A2) (x3 : A3), P1 x1 x2 x3 → P2 x1 x2 x3 → P3 x1 x2 x3 → G) : G := h.elim fun x1 h => h.elim fun x2 h => h.elim fun x3 h => k x1 x2 x3 h.1 h.2.1 h.2.2
theorem ex3_4 {A1 A2 A3 : Type} {P1 P2 P3 P4 : A1 → A2 → A3 → Prop} {G : Prop} (h : ∃ (x1 : A1) (x2 : A2) (x3 : A3), P1 x1 x2 x3 ∧ P2 x1 x2 x3 ∧ P3 x1 x2 x3 ∧ P4 x1 x2 x3) (k : ∀ (x1 : A1) (x2 : A2) (x3 : A3), P1 x1 x2 x3 → P2 x1 x2 x3 → P3 x1 x2 x3 → P4 x1 x2 x3 → G) : G := h.elim fun x1 h => h.elim fun x2 h => h.elim fun x3 h => k x1 x2 x3 h.1 h.2.1 h.2.2.1 h.2.2.2
theorem ex4_3 {A1 A2 A3 A4 : Type} {P1 P2 P3 : A1 → A2 → A3 → A4 → Prop} {G : Prop} (h : ∃ (x1 : A1) (x2 : A2) (x3 : A3) (x4 : A4), P1 x1 x2 x3 x4 ∧ P2 x1 x2 x3 x4 ∧ P3 x1 x2 x3 x4) (k : ∀ (x1 : A1) (x2 : A2) (x3 : A3) (x4 : A4), P1 x1 x2 x3 x4 → P2 x1 x2 x3 x4 → P3 x1 x2 x3 x4 → G) : G := h.elim fun x1 h => h.elim fun x2 h => h.elim fun x3 h => h.elim fun x4 h => k x1 x2 x3 x4 h.1 h.2.1 h.2.2
local macro_rules | `(tactic| walk_at $s:str) => `(tactic| k_extra $s)
theorem fill : (fun (_ : OpenLaw) (_ : Params → Frag) => True) PySem.Challenge.rw_rx0087_01 Mine.K39.heap_1 := by
  k_fill
  trivial
local macro_rules | `(tactic| x_close) => `(tactic| (solve_by_elim))
theorem reg_j_0 : True := by
  (k_with "call builtin:issubclass" => (k_here; (rename News _ _ _ _ => kN); refine isub _ _ _ _ _ _ ((kN _ (by k_mem)).1) ?_; intro _))
  trivial
local macro_rules | `(tactic| size_fits) => `(tactic| ((try simp only [Str.length_append, sizeLine_eq]); walk_at "om"))
theorem reg_j_1 : True := by
  (k_with "exec For" => (refine wpAny_For ?_ (by intro _; rfl)))
  (k_with "my steps" => repeat' (first | (k_unfold; (try dsimp only)) | ((fail_if_success (with_reducible show wpAny _ _ (exec (Stmt.While _ _ _ _) _) _ _ _)); (fail_if_success (with_reducible show wpAny _ _ (exec (Stmt.For _ _ _ _ _) _) _ _ _)); (fail_if_success (with_reducible show wpAny _ _ (exec (Stmt.Assign _ (Expr.ListComp _ _ _ _) _) _) _ _ _)); (fail_if_success (with_reducible show wpAny _ _ (eval (Expr.ListComp _ _ _ _) _) _ _ _)); walk1) | fail "no step"))
  (k_with "om" => (first | with_reducible assumption | with_unfolding_all exact Nat.le_of_ble_eq_true rfl | ((with_reducible apply om1); (focus with_reducible assumption); with_unfolding_all exact rfl) | ((with_reducible apply om3); (focus with_reducible assumption); with_unfolding_all exact rfl) | ((with_reducible apply om2); (focus with_reducible assumption); with_unfolding_all exact rfl) | ((with_reducible apply om4); (focus with_reducible assumption); with_unfolding_all exact rfl) | ((with_reducible apply om5); (focus with_reducible assumption); with_unfolding_all exact rfl) | ((with_reducible apply om6); (focus with_reducible assumption); with_unfolding_all exact rfl) | ((with_reducible apply om7); (focus with_reducible assumption); with_unfolding_all exact rfl) | ((with_reducible apply om8); (focus with_reducible assumption); with_unfolding_all exact rfl) | with_reducible exact Int.natCast_nonneg _ | with_reducible exact om9 | ((with_reducible apply om10); (focus with_reducible assumption); with_unfolding_all exact rfl) | ((with_reducible apply om11); (focus with_reducible assumption); with_unfolding_all exact rfl) | ((with_reducible apply Nat.le_of_lt); with_reducible assumption) | ((with_reducible apply Nat.succ_le_of_lt); with_reducible assumption) | ((with_reducible apply om12); (focus with_reducible assumption); with_unfolding_all exact rfl) | ((with_reducible apply om13); (focus with_reducible assumption); with_unfolding_all exact rfl) | ((with_reducible apply om14); (focus with_reducible assumption); with_unfolding_all exact rfl) | ((with_reducible apply om15); (focus with_reducible assumption); with_unfolding_all exact rfl) | ((with_reducible apply om16); (focus with_reducible assumption); with_unfolding_all exact rfl) | ((with_reducible apply om17); (focus with_reducible assumption); with_unfolding_all exact rfl) | ((with_reducible apply om19); (focus with_reducible assumption); with_unfolding_all exact rfl) | ((with_reducible apply om20); (focus with_reducible assumption); with_unfolding_all exact rfl) | ((with_reducible apply om18); with_reducible assumption) | ((with_reducible show (_ : Int) = _); with_unfolding_all exact rfl) | ((with_reducible apply om21); (focus with_reducible assumption); with_unfolding_all exact rfl) | ((with_reducible apply om22); with_unfolding_all exact rfl) | ((with_reducible apply om25); with_unfolding_all exact rfl) | ((with_reducible apply om24); with_unfolding_all exact rfl) | ((with_reducible apply om23); with_unfolding_all exact rfl) | decide | omega))
  (k_with "execs cons" => ((with_reducible refine exec_seq ?_); (try dsimp only)))
  (k_with "Seq" => (first | with_reducible refine seq_next ?_ | with_reducible refine seq_ret ?_ | with_reducible refine seq_brk ?_ | with_reducible refine seq_cont ?_))
  (k_with "exec If" => (with_reducible refine exec_if ?_))
  (k_with "IfQ" => (first | with_reducible refine ifq_t ?_ | with_reducible refine ifq_f ?_ | with_reducible refine ifq ?_))
  trivial
noncomputable abbrev Keeps (h h' : Heap) : Prop := ∀ b o, h.get? b = some o → h'.get? b = some o
noncomputable abbrev Ar (dp un : Nat) (fr : Option (List Env)) (gd : Option (List Code)) : Around := { handled := none, depth := dp, frames := fr, guards := gd, units := un }
noncomputable abbrev looseV : List Str := looseW Mine.V39 [Str.ofString "_twin_re_1", Str.ofString "_special_chars_map"]
noncomputable abbrev looseK : List Str := looseV ++ (recsOf Mine.V39).map (·.name) ++ (litsOf Mine.V39).map (·.1) ++ (clssOf Mine.V39 looseV).map (·.name)
noncomputable abbrev TopV (mean : ExcName → Option Value) (mg mb : Str → Option Value) (h : Heap) : Prop := Top topProg looseK mean mg mb h
noncomputable def Fun (w : World) (k : Nat) (f : Addr) (vs : List Value) (pre : Heap → Prop) (post : Heap → Value → Heap → Prop) : Prop :=
  ∀ (mean : ExcName → Option Value) (mg mb : Str → Option Value) (dp un : Nat) (fr : Option (List Env)) (gd : Option (List Code)) (hs : Heap) (gs : Array GenState) (ds : Drawn) (ts : Nat) (os : OsState) (Q E : Value → Shared → Prop),
    (Mine.K39.heap_1 w.params).In hs → TopV mean mg mb hs → pre hs → dp + k < recursionLimit → un + 10 * k < cLine →
    (∀ v h' tk', Keeps hs h' → post hs v h' → Q v ⟨h', gs, ds, tk', os⟩) →
    wpAny (model PySem.Challenge.pw_rx0087_01 w) (Ar dp un fr gd) (call (.ref f) vs) Q E ⟨hs, gs, ds, ts, os⟩
theorem om1 {x a b : Nat} (h : x ≤ a) (e : Nat.ble a b = true) : x ≤ b := Nat.le_trans h (Nat.le_of_ble_eq_true e)
theorem om2 {x a b : Nat} (h : x < a) (e : Nat.ble a (b + 1) = true) : x ≤ b := Nat.le_of_lt_succ (Nat.lt_of_lt_of_le h (Nat.le_of_ble_eq_true e))
theorem om3 {x a b : Nat} (h : x ≤ a) (e : Nat.ble (a + 1) b = true) : x < b := Nat.lt_of_le_of_lt h (Nat.le_of_ble_eq_true e)
theorem om4 {x a b : Nat} (h : x < a) (e : Nat.ble a b = true) : x < b := Nat.lt_of_lt_of_le h (Nat.le_of_ble_eq_true e)
theorem om5 {x a b : Nat} (h : x = a) (e : Nat.ble a b = true) : x ≤ b := h ▸ Nat.le_of_ble_eq_true e
theorem om6 {x a b : Nat} (h : x = a) (e : Nat.ble (a + 1) b = true) : x < b := h ▸ Nat.le_of_ble_eq_true e
theorem om7 {x a b c : Nat} (h : x ≤ a) (e : Nat.ble (a + c) b = true) : x + c ≤ b := Nat.le_trans (Nat.add_le_add_right h c) (Nat.le_of_ble_eq_true e)
theorem om8 {x a b c : Nat} (h : x ≤ a) (e : Nat.ble (a + c + 1) b = true) : x + c < b := Nat.lt_of_le_of_lt (Nat.add_le_add_right h c) (Nat.le_of_ble_eq_true e)
theorem om9 {i : Nat} : (-2 ^ 63 : Int) ≤ i := Int.le_trans (by decide) (Int.natCast_nonneg i)
theorem om10 {x a : Nat} (h : x < a) (e : Nat.ble a 9223372036854775808 = true) : (x : Int) < 9223372036854775808 := Int.ofNat_lt.mpr (om4 h e)
theorem om11 {x a : Nat} (h : x ≤ a) (e : Nat.ble (a + 1) 9223372036854775808 = true) : (x : Int) < 9223372036854775808 := Int.ofNat_lt.mpr (om3 h e)
theorem om12 {x y a b c : Nat} (h : x + y ≤ a) (e : Nat.ble (a + c + 1) b = true) : x + c < b := om8 (Nat.le_trans (Nat.le_add_right x y) h) e
theorem om13 {x y a b c : Nat} (h : y + x ≤ a) (e : Nat.ble (a + c + 1) b = true) : x + c < b := om8 (Nat.le_trans (Nat.le_add_left x y) h) e
theorem om14 {x y a b : Nat} (h : x + y ≤ a) (e : Nat.ble a b = true) : x ≤ b := om1 (Nat.le_trans (Nat.le_add_right x y) h) e
theorem om15 {x y a b : Nat} (h : x + y ≤ a) (e : Nat.ble (a + 1) b = true) : x < b := om3 (Nat.le_trans (Nat.le_add_right x y) h) e
theorem om16 {x y a b : Nat} (h : y + x ≤ a) (e : Nat.ble a b = true) : x ≤ b := om1 (Nat.le_trans (Nat.le_add_left x y) h) e
theorem om17 {x y a b : Nat} (h : y + x ≤ a) (e : Nat.ble (a + 1) b = true) : x < b := om3 (Nat.le_trans (Nat.le_add_left x y) h) e
theorem om18 {x c b : Nat} (h : x + c < b) : x < b := Nat.lt_of_le_of_lt (Nat.le_add_right x c) h
theorem om19 {x c a b : Nat} (h : x = a) (e : Nat.ble (a + c + 1) b = true) : x + c < b := h ▸ Nat.le_of_ble_eq_true e
theorem om20 {x c a b : Nat} (h : x = a) (e : Nat.ble (a + c) b = true) : x + c ≤ b := h ▸ Nat.le_of_ble_eq_true e
theorem om21 {x y a b c k : Nat} (h : x + k + y ≤ a) (e : Nat.ble (a + c + 1) b = true) : x + c < b := om8 (Nat.le_trans (Nat.le_add_right x k) (Nat.le_trans (Nat.le_add_right (x + k) y) h)) e
theorem om22 {x c : Nat} (e : Nat.ble 1 c = true) : (x : Int) < ((x + c : Nat) : Int) := Int.ofNat_lt.mpr (Nat.lt_add_of_pos_right (Nat.le_of_ble_eq_true e))
theorem om23 {x j c : Nat} (e : Nat.ble (j + 1) c = true) : ((x + j : Nat) : Int) < ((x + c : Nat) : Int) := Int.ofNat_lt.mpr (Nat.add_lt_add_left (Nat.le_of_ble_eq_true e) x)
theorem om24 {x i j c : Nat} (e : Nat.ble (i + j + 1) c = true) : ((x + i + j : Nat) : Int) < ((x + c : Nat) : Int) := by rw [Nat.add_assoc]; exact om23 e
theorem om25 {x c : Nat} (e : Nat.ble 2 c = true) : (x : Int) + 1 < ((x + c : Nat) : Int) := om23 (j := 1) e
theorem meas0 {n i : Nat} (h : i < n) : n + 1 - (i + 1) < n + 1 - i := by (walk_at "om")
theorem room_d {dp k j l : Nat} (h : dp + k < l) (e : Nat.ble (1 + j) k = true) : dp + 1 + j < l := Nat.lt_of_le_of_lt (Nat.add_assoc dp 1 j ▸ Nat.add_le_add_left (Nat.le_of_ble_eq_true e) dp) h
theorem room_u {un k j l : Nat} (h : un + 10 * k < l) (e : Nat.ble (3 + 10 * j) (10 * k) = true) : un + 3 + 10 * j < l := Nat.lt_of_le_of_lt (Nat.add_assoc un 3 (10 * j) ▸ Nat.add_le_add_left (Nat.le_of_ble_eq_true e) un) h
/-- what comes behind a statement of a body -/
noncomputable def Seq (M : Model) (A : Around) (rest : List Stmt) (env : Env) (Q : Flow → Shared → Prop) (E : Value → Shared → Prop) (f : Flow) (s : Shared) : Prop := match f with | .next => wpAny M A (execs rest env) Q E s | f => Q f s
theorem exec_seq {M : Model} {A : Around} {st : Stmt} {rest : List Stmt} {env : Env} {Q : Flow → Shared → Prop} {E : Value → Shared → Prop} {s : Shared} (h : wpAny M A (exec st env) (Seq M A rest env Q E) E s) : wpAny M A (execs (st :: rest) env) Q E s := wpAny_execs_cons h
theorem seq_next {M : Model} {A : Around} {rest : List Stmt} {env : Env} {Q : Flow → Shared → Prop} {E : Value → Shared → Prop} {s : Shared} (h : wpAny M A (execs rest env) Q E s) : Seq M A rest env Q E .next s := h
theorem seq_ret {M : Model} {A : Around} {rest : List Stmt} {env : Env} {Q : Flow → Shared → Prop} {E : Value → Shared → Prop} {s : Shared} {v : Value} (h : Q (.ret v) s) : Seq M A rest env Q E (.ret v) s := h
theorem seq_brk {M : Model} {A : Around} {rest : List Stmt} {env : Env} {Q : Flow → Shared → Prop} {E : Value → Shared → Prop} {s : Shared} (h : Q .brk s) : Seq M A rest env Q E .brk s := h
theorem seq_cont {M : Model} {A : Around} {rest : List Stmt} {env : Env} {Q : Flow → Shared → Prop} {E : Value → Shared → Prop} {s : Shared} (h : Q .cont s) : Seq M A rest env Q E .cont s := h
/-- what comes behind the test of an if -/
noncomputable def IfQ (M : Model) (A : Around) (body orelse : List Stmt) (env : Env) (Q : Flow → Shared → Prop) (E : Value → Shared → Prop) (b : Bool) (s : Shared) : Prop := if b then wpAny M A (execs body env) Q E s else wpAny M A (execs orelse env) Q E s
theorem exec_if {M : Model} {A : Around} {test : Expr} {body orelse : List Stmt} {pos : Pos} {env : Env} {Q : Flow → Shared → Prop} {E : Value → Shared → Prop} {s : Shared} (h : wpAny M A (isTrue test env (eval test env)) (IfQ M A body orelse env Q E) E s) : wpAny M A (exec (.If test body orelse pos) env) Q E s := wpAny_If h
theorem ifq {M : Model} {A : Around} {body orelse : List Stmt} {env : Env} {Q : Flow → Shared → Prop} {E : Value → Shared → Prop} {b : Bool} {s : Shared} (h : if b then wpAny M A (execs body env) Q E s else wpAny M A (execs orelse env) Q E s) : IfQ M A body orelse env Q E b s := h
theorem ifq_t {M : Model} {A : Around} {body orelse : List Stmt} {env : Env} {Q : Flow → Shared → Prop} {E : Value → Shared → Prop} {s : Shared} (h : wpAny M A (execs body env) Q E s) : IfQ M A body orelse env Q E true s := h
theorem ifq_f {M : Model} {A : Around} {body orelse : List Stmt} {env : Env} {Q : Flow → Shared → Prop} {E : Value → Shared → Prop} {s : Shared} (h : wpAny M A (execs orelse env) Q E s) : IfQ M A body orelse env Q E false s := h
/-- a scope and a code of K that make a plain def: no generator and no coroutine -/
structure DefAt (K : Frag) (qual : Str) (scope : Scope) (code : Value) : Prop where
  code : codeIn K code qual = true
  co : scope.isCoroutine = false
  gen : scope.isGenerator = false
  fn : scope.kind = .function
/-- a def's body, run in its own frame, nothing raised -/
noncomputable abbrev BodyOf (w : World) (A : Around) (env : Env) (body : List Stmt) (R : Result → Shared → Prop) (s : Shared) : Prop :=
  wpAny (model PySem.Challenge.pw_rx0087_01 w) (A.deeper env) (execs body env) (fun fl s' => R (.ok (.ret (match fl with | .ret v => v | _ => .none))) s') (fun _ _ => False) s
section
variable {w : World} {A : Around} {hs : Heap} {gs : Array GenState} {ds : Drawn} {ts : Nat} {os : OsState} {R : Result → Shared → Prop} {mean : ExcName → Option Value} {mg mb : Str → Option Value} {K : Frag} {name qual : Str} {params : Arguments} {body : List Stmt} {scope : Scope}
  {d1 d2 doc mo code ct cl : Value} {an di : Option Addr} {sl : Array (Option Value)} {f : Addr} {args : Args} {binds : List (Str × Value)}
theorem enter (X : K.In hs) (T : TopV mean mg mb hs) (def_ : K.lookup f = some ⟨cl, di, .func (fnOf name qual params body scope d1 d2 doc mo an code ct), sl⟩) (D : DefAt K qual scope code) (room : A.depth < recursionLimit) (nocell : ∀ x ∈ scope.names, x.2 ≠ .cell)
    (bind : BindsTo ⟨hs, gs, ds, ts, os⟩ (fnOf name qual params body scope d1 d2 doc mo an code ct) args binds) (loc : ∀ y ∈ binds, scope.names.lookup y.1 = some .local)
    (run : ∀ L h, Fr hs L h (fun y => binds.reverse.lookup y) → News hs L h [] → BodyOf w A (envOf qual scope L f code) body R ⟨h, gs, ds, ts + binds.length, os⟩) : codeAny (model PySem.Challenge.pw_rx0087_01 w) A (.call (.ref f) args) R ⟨hs, gs, ds, ts, os⟩ := by
  first | refine ex2_2 D fun c co gn fn => ?_ | refine ex1_3 D fun c co gn fn => ?_ | obtain ⟨c, co, gn, fn⟩ := D
  try clear D
  exact codeAny_call_def room (X _ _ def_) rfl T.nolimit (codeRec_of X c) rfl bind nocell loc (fun h ns k => wpAny_noRaise (run hs.objs.size h ⟨ns, k, Nat.le_refl _⟩ News.nil)) co gn fn
end
theorem fr_len {h₀ h : Heap} {L : Addr} {m : Str → Option Value} (F : Fr h₀ L h m) : L < h.objs.size := F.ns.lt
theorem Fun.use {w : World} {k f : Nat} {vs : List Value} {pre : Heap → Prop} {post : Heap → Value → Heap → Prop} (C : Fun w k f vs pre post)
    {mean : ExcName → Option Value} {mg mb : Str → Option Value} {dp un : Nat} {fr : Option (List Env)} {gd : Option (List Code)} {s : Shared} {Q E : Value → Shared → Prop} {h₀ : Heap} {L : Addr} {m : Str → Option Value} {news : List (Addr × Obj)}
    (F : Fr h₀ L s.heap m) (N : News h₀ L s.heap news) (X : (Mine.K39.heap_1 w.params).In h₀) (T : TopV mean mg mb h₀) (hp : pre s.heap) (hd : dp + k < recursionLimit) (hu : un + 10 * k < cLine)
    (ret : ∀ v h' tk', Keeps s.heap h' → Fr h₀ L h' m → News h₀ L h' news → post s.heap v h' → Q v { s with heap := h', toks := tk' }) :
    wpAny (model PySem.Challenge.pw_rx0087_01 w) (Ar dp un fr gd) (call (.ref f) vs) Q E s :=
  C mean mg mb dp un fr gd s.heap s.gens s.drawn s.toks s.os Q E (X.keeps F.keep) (T.keeps F.keep) hp hd hu fun v h' tk' hk hv => ret v h' tk' hk (F.after hk) (News.keepsAll N hk) hv
noncomputable abbrev IsStr (r : Str) (_ : Heap) (v : Value) (_ : Heap) : Prop := ∃ t, v = .str r t
noncomputable abbrev tt0 (_ : Heap) : Prop := True
theorem isub {w : World} {dp un : Nat} {fr : Option (List Env)} {gd : Option (List Code)} {Q E : Value → Shared → Prop} (h : Heap) (g : Array GenState) (d : Drawn) (t : Nat) (os : OsState) (a : Addr)
   (ha : h.get? a = some ⟨.type "tuple", none, .seq #[.type "str", .type "bytes"] 0, #[]⟩)
   (hq : ∀ t', Q (.bool true) ⟨h, g, d, t', os⟩) :
   wpAny (model PySem.Challenge.pw_rx0087_01 w) (Ar dp un fr gd) (call (.builtin "issubclass") [.type "str", .ref a]) Q E ⟨h, g, d, t, os⟩ := by
  x_run
/-- the end of a walk as a letter: the statements on the way stay small -/
theorem wp_gen {α : Type} {M : Model} {A : Around} {t : Sem α} {Q : α → Shared → Prop} {E : Value → Shared → Prop} {s : Shared} (h : ∀ G : α → Shared → Prop, (∀ v s', Q v s' → G v s') → wpAny M A t G E s) : wpAny M A t Q E s := h Q fun _ _ x => x
/-- a contract whose answer is one value but for its token -/
theorem Fun.useX {w : World} {k f : Nat} {vs : List Value} {pre : Heap → Prop} {mk : Tok → Value} (C : Fun w k f vs pre (fun _ v _ => ∃ t, v = mk t))
    {mean : ExcName → Option Value} {mg mb : Str → Option Value} {dp un : Nat} {fr : Option (List Env)} {gd : Option (List Code)} {s : Shared} {Q E : Value → Shared → Prop} {h₀ : Heap} {L : Addr} {m : Str → Option Value} {news : List (Addr × Obj)}
    (F : Fr h₀ L s.heap m) (N : News h₀ L s.heap news) (X : (Mine.K39.heap_1 w.params).In h₀) (T : TopV mean mg mb h₀) (hp : pre s.heap) (hd : dp + k < recursionLimit) (hu : un + 10 * k < cLine)
    (ret : ∀ t h' tk', Fr h₀ L h' m → News h₀ L h' news → Q (mk t) { s with heap := h', toks := tk' }) :
    wpAny (model PySem.Challenge.pw_rx0087_01 w) (Ar dp un fr gd) (call (.ref f) vs) Q E s :=
  C.use F N X T hp hd hu fun v h' tk' _ F' N' hv => Exists.elim hv fun t e => e ▸ ret t h' tk' F' N'
theorem Fun.useE {w : World} {k f : Nat} {vs : List Value} {pre : Heap → Prop} {x : Value} (C : Fun w k f vs pre (fun _ v _ => v = x))
    {mean : ExcName → Option Value} {mg mb : Str → Option Value} {dp un : Nat} {fr : Option (List Env)} {gd : Option (List Code)} {s : Shared} {Q E : Value → Shared → Prop} {h₀ : Heap} {L : Addr} {m : Str → Option Value} {news : List (Addr × Obj)}
    (F : Fr h₀ L s.heap m) (N : News h₀ L s.heap news) (X : (Mine.K39.heap_1 w.params).In h₀) (T : TopV mean mg mb h₀) (hp : pre s.heap) (hd : dp + k < recursionLimit) (hu : un + 10 * k < cLine)
    (ret : ∀ h' tk', Fr h₀ L h' m → News h₀ L h' news → Q x { s with heap := h', toks := tk' }) :
    wpAny (model PySem.Challenge.pw_rx0087_01 w) (Ar dp un fr gd) (call (.ref f) vs) Q E s :=
  C.use F N X T hp hd hu fun v h' tk' _ F' N' e => e ▸ ret h' tk' F' N'
theorem sub_nil {l : List (Addr × Obj)} : ∀ p ∈ ([] : List (Addr × Obj)), p ∈ l := fun _ h => nomatch h
theorem sub_cons {x : Addr × Obj} {r l : List (Addr × Obj)} (h : x ∈ l) (t : ∀ p ∈ r, p ∈ l) : ∀ p ∈ x :: r, p ∈ l := fun p hp => by
  rcases List.mem_cons.mp hp with rfl | hp
  · exact h
  · exact t p hp
theorem sub_app {a b l : List (Addr × Obj)} (h : ∀ p ∈ a, p ∈ l) (t : ∀ p ∈ b, p ∈ l) : ∀ p ∈ a ++ b, p ∈ l := fun p hp => (List.mem_append.mp hp).elim (h p) (t p)
theorem sub_here {l : List (Addr × Obj)} : ∀ p ∈ l, p ∈ l := fun _ h => h
theorem sub_tail {x : Addr × Obj} {r l : List (Addr × Obj)} (t : ∀ p ∈ r, p ∈ l) : ∀ p ∈ r, p ∈ x :: l := fun p hp => .tail _ (t p hp)
theorem sub_left {a b r : List (Addr × Obj)} (t : ∀ p ∈ r, p ∈ a) : ∀ p ∈ r, p ∈ a ++ b := fun p hp => List.mem_append_left _ (t p hp)
theorem sub_right {a b r : List (Addr × Obj)} (t : ∀ p ∈ r, p ∈ b) : ∀ p ∈ r, p ∈ a ++ b := fun p hp => List.mem_append_right _ (t p hp)
noncomputable abbrev lt01 (a b : Str) : Prop := a.cps.toList < b.cps.toList
theorem strcoll {w : World} (a b : Str) (ta tb : Tok) : Fun w 1 45 [.str a ta, .str b tb] tt0 (fun _ v _ => ∃ t, v = .int (b2i (decide (lt01 b a)) - b2i (decide (lt01 a b))) t) := by
  intro mean mg mb dp un fr gd hq0 gq0 dq0 tq0 oq0 Q E X T hpre hdp hun ret
  refine wpAny_call ?_
  refine' enter (binds := [(Str.ofString "a", .str a ta), (Str.ofString "b", .str b tb)]) X T ?ho ⟨?hcd, ?h1, ?h2, ?h3⟩ ?hroom ?h4 ?hbind ?hloc ?_
  case ho => k_is
  case hcd => k_is
  case hroom => exact om18 hdp
  case hbind => exact BindsTo.of_eq rfl
  case hloc => exact locs rfl
  case h1 => exact rfl
  case h2 => exact rfl
  case h3 => exact rfl
  case h4 => decide
  intro L h₁ F N
  dsimp only [BodyOf, List.reverse_cons, List.reverse_nil, List.nil_append, List.cons_append, List.length_cons, List.length_nil] at F ⊢
  k_fold
  k_steps
  exact ret _ _ _ (Fr.keep (by assumption)) ⟨_, rfl⟩
theorem strxfrm {w : World} (a : Str) (ta : Tok) : Fun w 1 52 [.str a ta] tt0 (fun _ v _ => v = .str a ta) := by
  intro mean mg mb dp un fr gd hq0 gq0 dq0 tq0 oq0 Q E X T hpre hdp hun ret
  refine wpAny_call ?_
  refine' enter (binds := [(Str.ofString "s", .str a ta)]) X T ?ho ⟨?hcd, ?h1, ?h2, ?h3⟩ ?hroom ?h4 ?hbind ?hloc ?_
  case ho => k_is
  case hcd => k_is
  case hroom => exact om18 hdp
  case hbind => exact BindsTo.of_eq rfl
  case hloc => exact locs rfl
  case h1 => exact rfl
  case h2 => exact rfl
  case h3 => exact rfl
  case h4 => decide
  intro L h₁ F N
  dsimp only [BodyOf, List.reverse_cons, List.reverse_nil, List.nil_append, List.cons_append, List.length_cons, List.length_nil] at F ⊢
  k_fold
  k_steps
  exact ret _ _ _ (Fr.keep (by assumption)) rfl
theorem fspath {w : World} (a : Str) (ta : Tok) : Fun w 1 163 [.str a ta] tt0 (fun _ v _ => v = .str a ta) := by
  intro mean mg mb dp un fr gd hq0 gq0 dq0 tq0 oq0 Q E X T hpre hdp hun ret
  refine wpAny_call ?_
  refine' enter (binds := [(Str.ofString "path", .str a ta)]) X T ?ho ⟨?hcd, ?h1, ?h2, ?h3⟩ ?hroom ?h4 ?hbind ?hloc ?_
  case ho => k_is
  case hcd => k_is
  case hroom => exact om18 hdp
  case hbind => exact BindsTo.of_eq rfl
  case hloc => exact locs rfl
  case h1 => exact rfl
  case h2 => exact rfl
  case h3 => exact rfl
  case h4 => decide
  intro L h₁ F N
  dsimp only [BodyOf, List.reverse_cons, List.reverse_nil, List.nil_append, List.cons_append, List.length_cons, List.length_nil] at F ⊢
  k_fold
  k_steps
  exact ret _ _ _ (Fr.keep (by assumption)) rfl
theorem get_sep {w : World} (a : Str) (ta : Tok) : Fun w 1 177 [.str a ta] tt0 (fun _ v _ => ∃ t, v = .str "/" t) := by
  intro mean mg mb dp un fr gd hq0 gq0 dq0 tq0 oq0 Q E X T hpre hdp hun ret
  refine wpAny_call ?_
  refine' enter (binds := [(Str.ofString "path", .str a ta)]) X T ?ho ⟨?hcd, ?h1, ?h2, ?h3⟩ ?hroom ?h4 ?hbind ?hloc ?_
  case ho => k_is
  case hcd => k_is
  case hroom => exact om18 hdp
  case hbind => exact BindsTo.of_eq rfl
  case hloc => exact locs rfl
  case h1 => exact rfl
  case h2 => exact rfl
  case h3 => exact rfl
  case h4 => decide
  intro L h₁ F N
  dsimp only [BodyOf, List.reverse_cons, List.reverse_nil, List.nil_append, List.cons_append, List.length_cons, List.length_nil] at F ⊢
  k_fold
  k_steps
  exact ret _ _ _ (Fr.keep (by assumption)) ⟨_, rfl⟩
noncomputable def stemS (a : Str) : Str := if a = Str.ofString "/" then Str.ofString "" else a
theorem law_stem {w : World} (a : Str) (ta : Tok) : Fun w 1 217 [.str a ta] tt0 (fun _ v _ => ∃ t, v = .str (stemS a) t) := by
  intro mean mg mb dp un fr gd hq0 gq0 dq0 tq0 oq0 Q E X T hpre hdp hun ret
  refine wpAny_call ?_
  refine' enter (binds := [(Str.ofString "spot", .str a ta)]) X T ?ho ⟨?hcd, ?h1, ?h2, ?h3⟩ ?hroom ?h4 ?hbind ?hloc ?_
  case ho => k_is
  case hcd => k_is
  case hroom => exact om18 hdp
  case hbind => exact BindsTo.of_eq rfl
  case hloc => exact locs rfl
  case h1 => exact rfl
  case h2 => exact rfl
  case h3 => exact rfl
  case h4 => decide
  intro L h₁ F N
  dsimp only [BodyOf, List.reverse_cons, List.reverse_nil, List.nil_append, List.cons_append, List.length_cons, List.length_nil] at F ⊢
  k_fold
  k_steps
  all_goals exact ret _ _ _ (Fr.keep (by assumption)) ⟨_, by simp_all [stemS]; rfl⟩
theorem reg_j_2 : True := by
  (k_with "call ref" => (k_here; (first | apply Fun.useE (fspath _ _) | apply Fun.useX (get_sep _ _) | apply Fun.useX (law_stem _ _) | apply Fun.useX (strcoll _ _ _ _) | apply Fun.useH (fun h => escape _ h _) | apply Fun.useE (strxfrm _ _)); (iterate 3 with_reducible assumption); assumption; trivial; (first | (apply room_d; assumption; exact rfl) | (dsimp only [Ar]; (walk_at "om"))); (first | (apply room_u; assumption; exact rfl) | (dsimp only [Ar]; (walk_at "om"))); intros))
  trivial
noncomputable def AllAt (m : Str → Option Value) : List (Str × Value) → Prop
  | [] => True
  | p :: r => m p.1 = some p.2 ∧ AllAt m r
theorem AllAt.all {m : Str → Option Value} {l : List (Str × Value)} (h : AllAt m l) : ∀ p ∈ l, m p.1 = some p.2 := by
  induction l with
  | nil => exact fun p hp => absurd hp List.not_mem_nil
  | cons q r ih => exact fun p hp => (List.mem_cons.mp hp).elim (fun e => e ▸ h.1) (ih h.2 p)
/-- beside the names of ps and those of the row, m holds what m₀ holds -/
noncomputable def Stays (ps : List (Str × Value)) (stored : List Str) (m₀ m : Str → Option Value) : Prop := ∀ z, (∀ p ∈ ps, z ≠ p.1) → stored.contains z = false → m z = m₀ z
noncomputable def noF (o : Obj) : Bool := match o.data with | .fields _ => false | _ => true
inductive FEndI {σ : Type} (h₀ : Heap) (L : Addr) (Led : σ → List (Addr × Obj)) (ps : σ → List (Str × Value)) (stored : List Str) (m₀ : Str → Option Value) (P : σ → Prop) (own : List (Addr × Obj)) (g : Array GenState) (d : Drawn) (os : OsState) : Shared → Prop
  | mk (c' : σ) (h' : Heap) (tk : Nat) (m' : Str → Option Value) (news' : List (Addr × Obj)) (F : Fr h₀ L h' m') (N : News h₀ L h' news') (h1 : ∀ p ∈ Led c', p ∈ news') (h2 : ∀ p ∈ own, p ∈ news')
    (h3 : ∀ p ∈ ps c', m' p.1 = some p.2) (h4 : Stays (ps c') stored m₀ m') (h5 : P c') : FEndI h₀ L Led ps stored m₀ P own g d os ⟨h', g, d, tk, os⟩
noncomputable def FEnd {σ : Type} (h₀ : Heap) (L : Addr) (Led : σ → List (Addr × Obj)) (ps : σ → List (Str × Value)) (stored : List Str) (m₀ : Str → Option Value) (P : σ → Prop) (own : List (Addr × Obj)) (s : Shared) (s₂ : Shared) : Prop := FEndI h₀ L Led ps stored m₀ P own s.gens s.drawn s.os s₂
/-- a loop's body ends: a return passes, a break ends the loop, else J holds and the loop goes on -/
noncomputable def GoesOn (J : Shared → Prop) (Q : Flow → Shared → Prop) : Flow → Shared → Prop
  | .ret v => Q (.ret v)
  | .brk => Q .next
  | _ => J
noncomputable abbrev FPost {σ : Type} (h₀ : Heap) (L : Addr) (Led : σ → List (Addr × Obj)) (ps : σ → List (Str × Value)) (stored : List Str) (m₀ : Str → Option Value) (P : σ → Prop) (own : List (Addr × Obj)) (s : Shared) (Q : Flow → Shared → Prop) : Flow → Shared → Prop := GoesOn (FEnd h₀ L Led ps stored m₀ P own s) Q
theorem fend {σ : Type} {h₀ : Heap} {L : Addr} {Led : σ → List (Addr × Obj)} {ps : σ → List (Str × Value)} {stored : List Str} {m₀ : Str → Option Value} {P : σ → Prop} {own : List (Addr × Obj)} {s : Shared} {h' : Heap} {tk : Nat} {m' : Str → Option Value} {news' : List (Addr × Obj)} (c' : σ)
    (F : Fr h₀ L h' m') (N : News h₀ L h' news') (h1 : ∀ p ∈ Led c', p ∈ news') (h2 : ∀ p ∈ own, p ∈ news') (h3 : AllAt m' (ps c')) (h4 : Stays (ps c') stored m₀ m') (h5 : P c') :
    FEnd h₀ L Led ps stored m₀ P own s { s with heap := h', toks := tk } := FEndI.mk c' h' tk m' news' F N h1 h2 h3.all h4 h5
theorem sm_stored {l : List Str} {z x : Str} (h : l.contains z = false) (e : l.contains x = true) : z ≠ x := fun q => by
  rw [q, e] at h
  cases h
theorem sm_step {z x : Str} {a b c : Option Value} [d : Decidable (z = x)] (h : z ≠ x) (t : b = c) : (@ite _ (z = x) d a b) = c := (if_neg h).trans t
theorem sm_last {l : List Str} {z : Str} {a b : Option Value} (h : l.contains z = false) : (if l.contains z then a else b) = b := if_neg (h ▸ Bool.false_ne_true)
/-- what stands between the turns of a loop -/
inductive FInv {σ : Type} (h₀ : Heap) (L : Addr) (St : Nat → Heap → Prop) (Led : σ → List (Addr × Obj)) (ps : σ → List (Str × Value)) (stored : List Str) (m₀ : Str → Option Value) (P : Nat → σ → Prop) (n : Nat) (s : Shared) : Nat → Shared → Prop
  | mk (h' : Heap) (tk : Nat) (m' : Str → Option Value) (c : σ) (i : Nat) (st : St i h') (F : Fr h₀ L h' m') (N : News h₀ L h' (Led c)) (hk : ∀ p ∈ ps c, m' p.1 = some p.2) (hr : Stays (ps c) stored m₀ m') (hP : P i c) (hi : i ≤ n) :
    FInv h₀ L St Led ps stored m₀ P n s (n + 1 - i) { s with heap := h', toks := tk }
section
variable {prog : Program} {w : World} {A : Around} {E : Value → Shared → Prop} {Q : Flow → Shared → Prop} {s : Shared} {env : Env} {h₀ : Heap}
/-- frame and ledger stand in a heap that differs at I alone -/
theorem both_but {h h₁ : Heap} {L I : Addr} {m : Str → Option Value} {l : List (Addr × Obj)} (F : Fr h₀ L h m) (N : News h₀ L h l) (hL : L ≠ I) (hI : h₀.get? I = none) (off : ∀ p ∈ l, p.1 ≠ I)
    (kept : ∀ b o, b ∉ [I] → h.get? b = some o → h₁.get? b = some o) : Fr h₀ L h₁ m ∧ News h₀ L h₁ l := by
  have k : ∀ b, b ≠ I → ∀ o, h.get? b = some o → h₁.get? b = some o := fun b ne o => kept b o (mt List.mem_singleton.mp ne)
  constructor
  · constructor
    · exact F.ns.at' (k L hL)
    · refine fun b o e => k b ?_ o (F.keep b o e)
      rintro rfl
      cases hI.symm.trans e
    · exact F.above
  · intro p hp
    first | refine ex1_1 (N p hp) fun g r => ?_ | refine ex0_2 (N p hp) fun g r => ?_ | obtain ⟨g, r⟩ := N p hp
    exact ⟨k _ (off p hp) _ g, r⟩
theorem for_core2 {σ : Type} {target : Expr} {body : List Stmt} {I : Addr} {fp : List Addr} {n : Nat} {Pv : Nat → Value → Prop} {St : Nat → Heap → Prop} {m₀ : Str → Option Value}
    (W : Walks prog w A I fp [I] n Pv St) (Led : σ → List (Addr × Obj)) (ps : σ → List (Str × Value)) (stored : List Str) (P : Nat → σ → Prop) (c₀ : σ)
    (hLf : env.locals ∉ fp) (hI0 : h₀.get? I = none) (hIt : ∀ i h, St i h → ∃ o, h.get? I = some o ∧ noF o = false)
    (hgo : ∀ i v s Q, St i s.heap → Q () s → wpAny (model prog w) A (letOwnedTupleGo target (.ref I) v) Q (fun _ _ => False) s)
    (hfix : ∀ b ∈ fp, b ≠ I → ∃ o, ∀ c h m, Fr h₀ env.locals h m → News h₀ env.locals h (Led c) → h.get? b = some o)
    (hled : ∀ c, ∀ p ∈ Led c, noF p.2 = true ∨ p.1 ≠ I)
    (hst : St 0 s.heap) (F : Fr h₀ env.locals s.heap m₀) (N : News h₀ env.locals s.heap (Led c₀)) (hk : ∀ p ∈ ps c₀, m₀ p.1 = some p.2) (hp : P 0 c₀)
    (turn : ∀ i v (c : σ) (u : Str → Option Value) h tk own, i < n → Pv i v → P i c → OwnOff own ((Led c).map (·.1)) →
      Fr h₀ env.locals h (kstB (fun z => if stored.contains z then u z else m₀ z) (ps c)) → News h₀ env.locals h (Led c ++ own) →
      wpAny (model prog w) A (assign target env v) (fun _ s₂ => wpAny (model prog w) A (execs body env) (FPost h₀ env.locals Led ps stored m₀ (P (i + 1)) own s Q) E s₂) E { s with heap := h, toks := tk })
    (done : ∀ (c : σ) (u : Str → Option Value) h tk, P n c → Fr h₀ env.locals h (kstB (fun z => if stored.contains z then u z else m₀ z) (ps c)) → News h₀ env.locals h (Led c) → Q .next { s with heap := h, toks := tk })
    (hE : PassesOwn (model prog w) A env E) :
    codeAny (model prog w) A (.forLoop target (.ref I) body [] env) (fun r s' => match r with | .ok f => Q f s' | .error e => cameBackBy (model prog w) A env E e s') s := by
  have LI : env.locals ≠ I := fun e => hLf (e ▸ W.sub I (.head _))
  have apart : ∀ {j h c}, St j h → News h₀ env.locals h (Led c) → ∀ p ∈ Led c, p.1 ≠ I := by
    intro j h c st N p hp e
    first | refine ex2_1 (hIt j h st) fun o ho no => ?_ | refine ex1_2 (hIt j h st) fun o ho no => ?_ | refine ex0_3 (hIt j h st) fun o ho no => ?_ | obtain ⟨o, ho, no⟩ := hIt j h st
    refine (hled c p hp).elim (fun yes => ?_) fun ne => ne e
    rw [Option.some.inj ((N p hp).1.symm.trans (e ▸ ho)), no] at yes
    cases yes
  refine codeAny_forLoop_any (FInv h₀ env.locals St Led ps stored m₀ P n s) (fun _ _ inv => ?_) (n + 1) (.mk _ _ _ c₀ 0 hst F N hk (fun _ _ _ => rfl) hp (Nat.zero_le _))
  cases inv with
  | mk h tk m c i st F N hk hr hP hi =>
    rcases Nat.eq_or_lt_of_le hi with rfl | lt
    · exact W.done _ _ _ st fun _ _ kept => wpAny_execs_nil (And.elim (fun F₁ => done c m _ _ hP (ksw_fr hk hr F₁)) (both_but F N LI hI0 (apart st N) kept))
    refine W.item _ _ _ _ lt st fun v h₁ tk₁ pv st₁ kept => wpAny_mono (hgo (i + 1) v _ _ st₁ ?_) (fun _ _ x => x) fun _ _ x => x.elim
    have FN := both_but F N LI hI0 (apart st N) kept
    obtain ⟨oI, at_, -⟩ := hIt _ _ st₁
    have own : News h₀ env.locals h₁ [(I, oI)] := List.forall_mem_singleton.mpr ⟨at_, LI.symm, hI0⟩
    have off : OwnOff [(I, oI)] ((Led c).map (·.1)) := List.forall_mem_singleton.mpr fun b hb e => by
      first | refine ex2_1 (List.mem_map.mp hb) fun p hp eq => ?_ | refine ex1_2 (List.mem_map.mp hb) fun p hp eq => ?_ | refine ex0_3 (List.mem_map.mp hb) fun p hp eq => ?_ | obtain ⟨p, hp, eq⟩ := List.mem_map.mp hb
      exact apart st N p hp (eq.trans e.symm)
    have body := turn i v c m h₁ tk₁ [(I, oI)] lt pv hP off (ksw_fr hk hr FN.1) (FN.2.append own)
    have goes : ∀ s₃, FEnd h₀ env.locals Led ps stored m₀ (P (i + 1)) [(I, oI)] { s with heap := h₁, toks := tk₁ } s₃ → ∃ k, k < n + 1 - i ∧ FInv h₀ env.locals St Led ps stored m₀ P n s k s₃ := by
      intro s₃ e
      cases e with
      | mk c' h₂ tk₂ m₂ news₂ F₂ N₂ inLed inOwn named stays pn =>
        have N₃ : News h₀ env.locals h₂ (Led c') := fun p hp => N₂ p (inLed p hp)
        refine ⟨_, meas0 (by (walk_at "om")), .mk h₂ tk₂ m₂ c' (i + 1) (W.frame _ _ _ st₁ fun b hb o e => ?_) F₂ N₃ named stays pn lt⟩
        by_cases ne : b = I
        · subst ne
          rw [← Option.some.inj (at_.symm.trans e)]
          exact (N₂ _ (inOwn _ (.head _))).1
        · first | refine ex1_1 (hfix b hb ne) fun o' fixed => ?_ | refine ex0_2 (hfix b hb ne) fun o' fixed => ?_ | obtain ⟨o', fixed⟩ := hfix b hb ne
          rw [← Option.some.inj ((fixed c h₁ m FN.1 FN.2).symm.trans e)]
          exact fixed c' h₂ m₂ F₂ N₃
    refine wpAny_mono (wpAny_passesOwn hE body) (fun _ s₂ rest => wpAny_mono (wpAny_passesOwn hE rest) (fun f s₃ e => ?_) fun _ _ e => e) fun _ _ e => e
    cases f
    case ret => exact e
    case brk => exact e
    all_goals exact goes s₃ e
theorem for_core {σ : Type} {target : Expr} {body : List Stmt} {I : Addr} {fp : List Addr} {n : Nat} {Pv : Nat → Value → Prop} {St : Nat → Heap → Prop} {m₀ : Str → Option Value}
    (W : Walks prog w A I fp [I] n Pv St) (Led : σ → List (Addr × Obj)) (ps : σ → List (Str × Value)) (stored : List Str) (P : Nat → σ → Prop) (c₀ : σ)
    (hLf : env.locals ∉ fp) (hI0 : h₀.get? I = none) (hIt : ∀ i h, St i h → ∃ o, h.get? I = some o ∧ noF o = false)
    (hgo : ∀ i v s Q, St i s.heap → Q () s → wpAny (model prog w) A (letOwnedTupleGo target (.ref I) v) Q (fun _ _ => False) s)
    (hfix : ∀ b ∈ fp, b ≠ I → ∃ o, ∀ c h m, Fr h₀ env.locals h m → News h₀ env.locals h (Led c) → h.get? b = some o)
    (hled : ∀ c, ∀ p ∈ Led c, noF p.2 = true)
    (hst : St 0 s.heap) (F : Fr h₀ env.locals s.heap m₀) (N : News h₀ env.locals s.heap (Led c₀)) (hk : ∀ p ∈ ps c₀, m₀ p.1 = some p.2) (hp : P 0 c₀)
    (turn : ∀ i v (c : σ) (u : Str → Option Value) h tk own, i < n → Pv i v → P i c → OwnOff own ((Led c).map (·.1)) →
      Fr h₀ env.locals h (kstB (fun z => if stored.contains z then u z else m₀ z) (ps c)) → News h₀ env.locals h (Led c ++ own) →
      wpAny (model prog w) A (assign target env v) (fun _ s₂ => wpAny (model prog w) A (execs body env) (FPost h₀ env.locals Led ps stored m₀ (P (i + 1)) own s Q) E s₂) E { s with heap := h, toks := tk })
    (done : ∀ (c : σ) (u : Str → Option Value) h tk, P n c → Fr h₀ env.locals h (kstB (fun z => if stored.contains z then u z else m₀ z) (ps c)) → News h₀ env.locals h (Led c) → Q .next { s with heap := h, toks := tk })
    (hE : PassesOwn (model prog w) A env E) :
    codeAny (model prog w) A (.forLoop target (.ref I) body [] env) (fun r s' => match r with | .ok f => Q f s' | .error e => cameBackBy (model prog w) A env E e s') s :=
  for_core2 W Led ps stored P c₀ hLf hI0 hIt hgo hfix (fun c p hp => .inl (hled c p hp)) hst F N hk hp turn done hE
theorem go_name {x : Str} {px : Pos} (I : Addr) (St : Nat → Heap → Prop) : ∀ (i : Nat) (v : Value) (s : Shared) (Q : Unit → Shared → Prop), St i s.heap → Q () s → wpAny (model prog w) A (letOwnedTupleGo (.Name x px) (.ref I) v) Q (fun _ _ => False) s :=
  fun _ _ _ _ _ hQ => wpAny_pure hQ
theorem go_list {es : List Expr} {k : Nat} {px : Pos} (I : Addr) {l : Addr} {items : Array Value} : ∀ (i : Nat) (v : Value) (s : Shared) (Q : Unit → Shared → Prop), (s.heap.IsListIter I l i ∧ s.heap.IsList l items) → Q () s → wpAny (model prog w) A (letOwnedTupleGo (.Tuple es k px) (.ref I) v) Q (fun _ _ => False) s :=
  fun _ v _ _ hst hQ => by
  first | refine ex2_2 hst.1 fun o ho hc hd => ?_ | refine ex1_3 hst.1 fun o ho hc hd => ?_ | obtain ⟨o, ho, hc, hd⟩ := hst.1
  unfold letOwnedTupleGo
  cases v <;> try exact wpAny_pure hQ
  refine wpAny_bind (wpAny_load ho ?_)
  rw [hc, hd]
  exact wpAny_pure hQ
end
section
variable {prog : Program} {w : World} {A : Around} {E : Value → Shared → Prop} {Q : Flow → Shared → Prop} {s : Shared} {env : Env} {h₀ : Heap}
/-- a for over a list that stands, its target a name -/
theorem for_list {σ : Type} {x : Str} {px : Pos} {body : List Stmt} {l : Addr} {items : Array Value} {ol : Obj} {m₀ : Str → Option Value}
    (Led : σ → List (Addr × Obj)) (ps : σ → List (Str × Value)) (stored : List Str) (P : Nat → σ → Prop) 
    (hh : A.handled = none) (hol : ol.cls = .type "list") (hod : ∃ nl, ol.data = .seq items nl)
    (hfix : ∀ c h m, Fr h₀ env.locals h m → News h₀ env.locals h (Led c) → h.get? l = some ol) (hlL : env.locals ≠ l)
    (hled : ∀ c, ∀ p ∈ Led c, noF p.2 = true)
    (F : Fr h₀ env.locals s.heap m₀) (h0 : ∃ c₀, News h₀ env.locals s.heap (Led c₀) ∧ AllAt m₀ (ps c₀) ∧ P 0 c₀)
    (turn : ∀ i v (c : σ) (u : Str → Option Value) h tk own, items[i]? = some v → P i c → OwnOff own ((Led c).map (·.1)) →
      Fr h₀ env.locals h (kstB (fun z => if stored.contains z then u z else m₀ z) (ps c)) → News h₀ env.locals h (Led c ++ own) →
      wpAny (model prog w) A (assign (.Name x px) env v) (fun _ s₂ => wpAny (model prog w) A (execs body env) (FPost h₀ env.locals Led ps stored m₀ (P (i + 1)) own s Q) E s₂) E { s with heap := h, toks := tk })
    (done : ∀ (c : σ) (u : Str → Option Value) h tk, P items.size c → Fr h₀ env.locals h (kstB (fun z => if stored.contains z then u z else m₀ z) (ps c)) → News h₀ env.locals h (Led c) → Q .next { s with heap := h, toks := tk })
    (hE : PassesOwn (model prog w) A env E) :
    wpAny (model prog w) A (pyIter (.ref l)) (fun it s₂ => codeAny (model prog w) A (.forLoop (.Name x px) it body [] env) (fun r s' => match r with | .ok f => Q f s' | .error e => cameBackBy (model prog w) A env E e s') s₂) E s := by
  first | refine ex2_2 h0 fun c₀ N hk hp => ?_ | refine ex1_3 h0 fun c₀ N hk hp => ?_ | obtain ⟨c₀, N, hk, hp⟩ := h0
  try clear h0
  replace hk := hk.all
  have hl0 := hfix c₀ _ _ F N
  have hlt := Heap.lt_size hl0
  have hls : s.heap.IsList l items := let ⟨nl, hd⟩ := hod; ⟨ol, hl0, hol, nl, hd⟩
  refine wpAny_pyIter_list hls ?_
  have hne : l ≠ s.heap.objs.size := Nat.ne_of_lt hlt
  have hI0 : h₀.get? s.heap.objs.size = none := Heap.get?_none_of_le (Nat.le_trans F.above (Nat.le_of_lt F.ns.lt))
  refine for_core (s := { s with heap := s.heap.push _ }) (Walks.list hh s.heap.objs.size l hne items) Led ps stored P c₀ ?_ hI0 (fun i h st => ?_) (fun _ _ _ _ _ hQ => wpAny_pure hQ) (fun b hb hbI => ?_) hled ⟨⟨_, Heap.get?_push_size _ rfl, rfl, rfl⟩, hls.at fun o e => Heap.get?_push_of_some _ e⟩ (F.push _)
    (fun p hp => ⟨Heap.get?_push_of_some _ (N p hp).1, (N p hp).2⟩) hk hp (fun i v c u h tk own hi hv => turn i v c u h tk own hv) (fun c u h tk => done c u h tk) hE
  · intro hm
    rcases List.mem_cons.mp hm with e | hm
    · exact absurd F.ns.lt (e ▸ Nat.lt_irrefl _)
    · exact hlL (List.mem_singleton.mp hm)
  · obtain ⟨⟨o, ho, hc, hd⟩, _⟩ := st
    exact ⟨o, ho, by unfold noF; rw [hd]⟩
  · rcases List.mem_cons.mp hb with e | hb
    · exact absurd e hbI
    · rw [List.mem_singleton.mp hb]
      exact ⟨ol, fun c h m F N => hfix c h m F N⟩
/-- its target a tuple of names -/
theorem for_listT {σ : Type} {es : List Expr} {kk : Nat} {px : Pos} {body : List Stmt} {l : Addr} {items : Array Value} {ol : Obj} {m₀ : Str → Option Value}
    (Led : σ → List (Addr × Obj)) (ps : σ → List (Str × Value)) (stored : List Str) (P : Nat → σ → Prop) 
    (hh : A.handled = none) (hol : ol.cls = .type "list") (hod : ∃ nl, ol.data = .seq items nl)
    (hfix : ∀ c h m, Fr h₀ env.locals h m → News h₀ env.locals h (Led c) → h.get? l = some ol) (hlL : env.locals ≠ l)
    (hled : ∀ c, ∀ p ∈ Led c, noF p.2 = true)
    (F : Fr h₀ env.locals s.heap m₀) (h0 : ∃ c₀, News h₀ env.locals s.heap (Led c₀) ∧ AllAt m₀ (ps c₀) ∧ P 0 c₀)
    (turn : ∀ i v (c : σ) (u : Str → Option Value) h tk own, items[i]? = some v → P i c → OwnOff own ((Led c).map (·.1)) →
      Fr h₀ env.locals h (kstB (fun z => if stored.contains z then u z else m₀ z) (ps c)) → News h₀ env.locals h (Led c ++ own) →
      wpAny (model prog w) A (assign (.Tuple es kk px) env v) (fun _ s₂ => wpAny (model prog w) A (execs body env) (FPost h₀ env.locals Led ps stored m₀ (P (i + 1)) own s Q) E s₂) E { s with heap := h, toks := tk })
    (done : ∀ (c : σ) (u : Str → Option Value) h tk, P items.size c → Fr h₀ env.locals h (kstB (fun z => if stored.contains z then u z else m₀ z) (ps c)) → News h₀ env.locals h (Led c) → Q .next { s with heap := h, toks := tk })
    (hE : PassesOwn (model prog w) A env E) :
    wpAny (model prog w) A (pyIter (.ref l)) (fun it s₂ => codeAny (model prog w) A (.forLoop (.Tuple es kk px) it body [] env) (fun r s' => match r with | .ok f => Q f s' | .error e => cameBackBy (model prog w) A env E e s') s₂) E s := by
  first | refine ex2_2 h0 fun c₀ N hk hp => ?_ | refine ex1_3 h0 fun c₀ N hk hp => ?_ | obtain ⟨c₀, N, hk, hp⟩ := h0
  try clear h0
  replace hk := hk.all
  have hl0 := hfix c₀ _ _ F N
  have hlt := Heap.lt_size hl0
  have hls : s.heap.IsList l items := let ⟨nl, hd⟩ := hod; ⟨ol, hl0, hol, nl, hd⟩
  refine wpAny_pyIter_list hls ?_
  have hne : l ≠ s.heap.objs.size := Nat.ne_of_lt hlt
  have hI0 : h₀.get? s.heap.objs.size = none := Heap.get?_none_of_le (Nat.le_trans F.above (Nat.le_of_lt F.ns.lt))
  refine for_core (s := { s with heap := s.heap.push _ }) (Walks.list hh s.heap.objs.size l hne items) Led ps stored P c₀ ?_ hI0 (fun i h st => ?_) (go_list _) (fun b hb hbI => ?_) hled ⟨⟨_, Heap.get?_push_size _ rfl, rfl, rfl⟩, hls.at fun o e => Heap.get?_push_of_some _ e⟩ (F.push _)
    (fun p hp => ⟨Heap.get?_push_of_some _ (N p hp).1, (N p hp).2⟩) hk hp (fun i v c u h tk own hi hv => turn i v c u h tk own hv) (fun c u h tk => done c u h tk) hE
  · intro hm
    rcases List.mem_cons.mp hm with e | hm
    · exact absurd F.ns.lt (e ▸ Nat.lt_irrefl _)
    · exact hlL (List.mem_singleton.mp hm)
  · obtain ⟨⟨o, ho, hc, hd⟩, _⟩ := st
    exact ⟨o, ho, by unfold noF; rw [hd]⟩
  · rcases List.mem_cons.mp hb with e | hb
    · exact absurd e hbI
    · rw [List.mem_singleton.mp hb]
      exact ⟨ol, fun c h m F N => hfix c h m F N⟩
end
section
variable {prog : Program} {w : World} {A : Around} {E : Value → Shared → Prop} {Q : Flow → Shared → Prop} {s : Shared} {env : Env} {h₀ : Heap} {L : Addr}
theorem while_core {σ : Type} {test : Expr} {body : List Stmt} {pos : Pos} {m₀ : Str → Option Value}
    (Led : σ → List (Addr × Obj)) (ps : σ → List (Str × Value)) (stored : List Str) (P : σ → Prop) (μ : σ → Nat)
    (F : Fr h₀ L s.heap m₀) (h0 : ∃ c₀, News h₀ L s.heap (Led c₀) ∧ AllAt m₀ (ps c₀) ∧ P c₀)
    (turn : ∀ (c : σ) (u : Str → Option Value) h tk, P c → Fr h₀ L h (kstB (fun z => if stored.contains z then u z else m₀ z) (ps c)) → News h₀ L h (Led c) →
      wpAny (model prog w) A (isTrue test env (eval test env)) (fun b s₂ =>
        if b = true then wpAny (model prog w) A (execs body env) (FPost h₀ L Led ps stored m₀ (fun c' => P c' ∧ μ c' < μ c) [] s Q) E s₂ else Q .next s₂) E { s with heap := h, toks := tk })
    (hE : PassesOwn (model prog w) A env E) :
    wpAny (model prog w) A (exec (.While test body [] pos) env) Q E s := by
  first | refine ex2_2 h0 fun c₀ N hk hp => ?_ | refine ex1_3 h0 fun c₀ N hk hp => ?_ | obtain ⟨c₀, N, hk, hp⟩ := h0
  try clear h0
  replace hk := hk.all
  refine ksw_while Led ps (fun _ => True) stored P μ c₀ F N trivial hk hp (fun c u h tk _ hP F₁ N₁ => wpAny_mono (turn c u h tk hP F₁ N₁) (fun b s₂ hb => ?_) fun _ _ e => e) hE
  cases b with
  | false => simpa using hb
  | true =>
    simp only [if_true] at hb ⊢
    refine wpAny_mono hb (fun f s₃ h₃ => ?_) fun _ _ e => e
    have fin : FEnd h₀ L Led ps stored m₀ (fun c' => P c' ∧ μ c' < μ c) [] s s₃ → KswEnd h₀ L s Led ps (fun _ => True) stored m₀ P μ c s₃ := by
      rintro ⟨c', h', tk', m', news', F', N', g1, _, g3, g4, g5, g6⟩
      exact ⟨c', h', tk', m', news', rfl, F', N', g1, trivial, g3, g4, g5, g6⟩
    cases f with
    | ret v => exact h₃
    | brk => exact h₃
    | cont => exact fin h₃
    | next => exact fin h₃
end
noncomputable abbrev sOf (l : List Nat) : Str := ⟨l.toArray⟩
theorem sOf_len (l : List Nat) : (sOf l).length = l.length := by simp [Str.length]
theorem txt_item (x : Str) (k c : Nat) (hx : x.cps[k]? = some c) : Txt.item x (k : Int) = sOf [c] := by
  have hk : k < x.cps.size := by
    rcases Nat.lt_or_ge k x.cps.size with h | h
    · exact h
    · rw [Array.getElem?_eq_none h] at hx; cases hx
  have hs : seqIndex? (k : Int) x.length = some k := by
    unfold seqIndex? Str.length
    have h1 : ¬ ((k : Int) < 0) := by (walk_at "om")
    have h2 : (k : Int) < (x.cps.size : Int) := by (walk_at "om")
    simp [h1, h2]
  unfold Txt.item Txt.charAt
  rw [hs, Option.bind_some, hx]
  rfl
section
variable {prog : Program} {w : World} {A : Around} {E : Value → Shared → Prop} {s : Shared}
theorem item_my {value slice : Expr} {e l : List Nat} {t u : Tok} {i : Int} {j c : Nat} {Q : Value → Shared → Prop} (hi : i = ((e.length + j : Nat) : Int)) (hx : l[j]? = some c) (hb : e.length + j < 1000000)
    (h : Q (.str (sOf [c]) s.toks) { s with toks := s.toks + 1 })
    (hs : subscripted slice false (.str (sOf (e ++ l)) t) (.int i u) = operate [.str (sOf (e ++ l)) t, .int i u] (getItem (.str (sOf (e ++ l)) t) (.int i u)) := by with_unfolding_all rfl)
    (ht : ∀ r, letTemporaryGo value (.str (sOf (e ++ l)) t) r = pure () := by intro _; with_unfolding_all rfl) :
    wpAny (model prog w) A (subscriptTail value slice (.str (sOf (e ++ l)) t) (.int i u)) Q E s := by
  have hj : j < l.length := by
    rcases Nat.lt_or_ge j l.length with h | h
    · exact h
    · rw [List.getElem?_eq_none h] at hx; cases hx
  have hlen : (sOf (e ++ l)).length = e.length + l.length := by rw [sOf_len, List.length_append]
  subst hi
  refine item_str (fitsSsize_of (N := 9223372036854775808) (by (walk_at "om")) (by (walk_at "om")) (Int.le_refl _)) (by rw [hlen]; (walk_at "om")) (by rw [hlen]; (walk_at "om")) (fun _ => ?_) hs ht
  rw [txt_item _ _ c (by simp only [List.getElem?_toArray]; rw [List.getElem?_append_right (by (walk_at "om")), Nat.add_sub_cancel_left]; exact hx)]
  exact h
end
section
variable {prog : Program} {w : World} {A : Around} {E : Value → Shared → Prop} {s : Shared}
theorem len_sOf {l : List Nat} {n : Nat} {t : Tok} {Q : Value → Shared → Prop} (hn : l.length = n) (hb : n < 1000000) (h : Q (.int (n : Int) (s.toks + 1)) { s with toks := s.toks + 1 + 1 }) :
    wpAny (model prog w) A (call (.builtin "len") [.str (sOf l) t]) Q E s :=
  len_str (by rw [sOf_len]; (walk_at "om")) (by rw [sOf_len, hn]; exact h)
end
theorem sOf_append (a b : List Nat) : sOf a ++ sOf b = sOf (a ++ b) := by
  show Str.append _ _ = _
  simp [Str.append]
theorem at_str {x y : Str} {t : Tok} (h : x = y) : some (Value.str x t) = some (Value.str y t) := by rw [h]
theorem at_int {x y : Int} {t : Tok} (h : x = y) : some (Value.int x t) = some (Value.int y t) := by rw [h]
section
variable {prog : Program} {w : World} {M : Model} {A : Around} {E : Value → Shared → Prop} {s : Shared} {env : Env}
theorem const_my {x : Str} {l : List Nat} {k : Nat} {pos : Pos} {Q : Value → Shared → Prop} (e : x = sOf l) (h : Q (.str (sOf l) s.toks) { s with toks := s.toks + 1 }) : wpAny M A (eval (.Constant (.str x) k pos) env) Q E s := by
  subst e; exact Calls.Constant_str h
theorem add_sOf {a b : List Nat} {t u : Tok} {Q : Value → Shared → Prop} (hb : a.length + b.length < 1000000) (h : ∀ t' tk, Q (.str (sOf (a ++ b)) t') { s with toks := tk }) : wpAny (model prog w) A (binaryOp .Add (.str (sOf a) t) (.str (sOf b) u)) Q E s :=
  add_str (fun t' tk => by rw [sOf_append]; exact h t' tk) (by rw [sOf_len, sOf_len, sizeLine_eq]; (walk_at "om"))
end
theorem fnext {σ : Type} {h₀ : Heap} {L : Addr} {Led : σ → List (Addr × Obj)} {ps : σ → List (Str × Value)} {stored : List Str} {m₀ : Str → Option Value} {P : σ → Prop} {own : List (Addr × Obj)} {s : Shared} {h' : Heap} {tk : Nat} {m' : Str → Option Value} {news' : List (Addr × Obj)} {Q : Flow → Shared → Prop} (c' : σ)
    (F : Fr h₀ L h' m') (N : News h₀ L h' news') (h1 : ∀ p ∈ Led c', p ∈ news') (h2 : ∀ p ∈ own, p ∈ news') (h3 : AllAt m' (ps c')) (h4 : Stays (ps c') stored m₀ m') (h5 : P c') :
    FPost h₀ L Led ps stored m₀ P own s Q .next { s with heap := h', toks := tk } := fend c' F N h1 h2 h3 h4 h5
theorem fcont {σ : Type} {h₀ : Heap} {L : Addr} {Led : σ → List (Addr × Obj)} {ps : σ → List (Str × Value)} {stored : List Str} {m₀ : Str → Option Value} {P : σ → Prop} {own : List (Addr × Obj)} {s : Shared} {h' : Heap} {tk : Nat} {m' : Str → Option Value} {news' : List (Addr × Obj)} {Q : Flow → Shared → Prop} (c' : σ)
    (F : Fr h₀ L h' m') (N : News h₀ L h' news') (h1 : ∀ p ∈ Led c', p ∈ news') (h2 : ∀ p ∈ own, p ∈ news') (h3 : AllAt m' (ps c')) (h4 : Stays (ps c') stored m₀ m') (h5 : P c') :
    FPost h₀ L Led ps stored m₀ P own s Q .cont { s with heap := h', toks := tk } := fend c' F N h1 h2 h3 h4 h5
theorem cst0 : Str.ofString "/" = sOf [47] := by decide +kernel
theorem cst1 : Str.ofString "" = sOf [] := by decide +kernel
theorem cst2 : Str.ofString "." = sOf [46] := by decide +kernel
theorem cst3 : Str.ofString ".." = sOf [46, 46] := by decide +kernel
theorem cst4 : Str.ofString "*" = sOf [42] := by decide +kernel
theorem cst5 : Str.ofString "?" = sOf [63] := by decide +kernel
theorem cst6 : Str.ofString "[" = sOf [91] := by decide +kernel
theorem cst7 : Str.ofString "!" = sOf [33] := by decide +kernel
theorem cst8 : Str.ofString "]" = sOf [93] := by decide +kernel
theorem cst9 : Str.ofString "\\[" = sOf [92, 91] := by decide +kernel
theorem cst10 : Str.ofString "-" = sOf [45] := by decide +kernel
theorem cst11 : Str.ofString "\\" = sOf [92] := by decide +kernel
theorem cst12 : Str.ofString "\\\\" = sOf [92, 92] := by decide +kernel
theorem cst13 : Str.ofString "(?!)" = sOf [40, 63, 33, 41] := by decide +kernel
theorem cst14 : Str.ofString "^" = sOf [94] := by decide +kernel
theorem cst15 : Str.ofString ".*" = sOf [46, 42] := by decide +kernel
theorem cst16 : Str.ofString "0" = sOf [48] := by decide +kernel
theorem cst17 : Str.ofString "(?s:" = sOf [40, 63, 115, 58] := by decide +kernel
theorem cst18 : Str.ofString ".*)\\Z" = sOf [46, 42, 41, 92, 90] := by decide +kernel
theorem cst19 : Str.ofString "*[" = sOf [42, 91] := by decide +kernel
theorem cst20 : Str.ofString "^$.|?*+(){}" = sOf [94, 36, 46, 124, 63, 42, 43, 40, 41, 123, 125] := by decide +kernel
theorem cst21 : Str.ofString "a" = sOf [97] := by decide +kernel
theorem cst22 : Str.ofString "a-" = sOf [97, 45] := by decide +kernel
theorem cst23 : Str.ofString "a0" = sOf [97, 48] := by decide +kernel
theorem cst24 : Str.ofString "a/*" = sOf [97, 47, 42] := by decide +kernel
theorem cst25 : Str.ofString "a/*/a" = sOf [97, 47, 42, 47, 97] := by decide +kernel
theorem cst26 : Str.ofString "a-/[" = sOf [97, 45, 47, 91] := by decide +kernel
theorem cst27 : Str.ofString "/*" = sOf [47, 42] := by decide +kernel
theorem sl_ss (l : List Nat) {i j : Int} (h0 : 0 ≤ i) (h1 : i ≤ j) (h2 : j ≤ l.length) : Txt.slice (sOf l) (some i) (some j) = sOf ((l.drop i.toNat).take (j - i).toNat) := by
  have := eq_of_beq (slice_closes (x := sOf l) (i := i) (j := j) ⟨h0, h1, by simpa using h2⟩)
  simpa using this
theorem sl_from (l : List Nat) {i : Int} (h0 : 0 ≤ i) : Txt.slice (sOf l) (some i) none = sOf (l.drop i.toNat) := by
  by_cases h2 : i ≤ l.length
  · have := eq_of_beq (slice_closes_from (x := sOf l) (i := i) ⟨h0, by simpa using h2⟩)
    rw [this]
    congr 2
    rw [List.take_of_length_le]
    simp; (walk_at "om")
  · rw [slice_from_beyond (by rw [sOf_len]; (walk_at "om")), List.drop_eq_nil_of_le (by (walk_at "om"))]
theorem sl_to (l : List Nat) {j : Int} (h0 : 0 ≤ j) : Txt.slice (sOf l) none (some j) = sOf (l.take j.toNat) := by
  by_cases h2 : j ≤ l.length
  · have := eq_of_beq (slice_closes_to (x := sOf l) (j := j) ⟨h0, by simpa using h2⟩)
    rw [this]
    simp
  · rw [slice_to_beyond (by rw [sOf_len]; (walk_at "om")), sOf_len]
    have := eq_of_beq (slice_closes_to (x := sOf l) (j := l.length) ⟨by (walk_at "om"), by simp⟩)
    rw [this, List.take_of_length_le (i := j.toNat) (by (walk_at "om"))]
    simp
theorem sl_fromNeg (a b : List Nat) {i : Int} (h0 : i < 0) (h : i = -(b.length : Int)) : Txt.slice (sOf (a ++ b)) (some i) none = sOf b := by
  rw [slice_from_neg h0, sOf_len, List.length_append]
  rw [show max (0 : Int) (((a.length + b.length : Nat) : Int) + i) = (a.length : Int) by (walk_at "om"), sl_from _ (by (walk_at "om"))]
  simp
theorem sl_at (e l r : List Nat) {i j : Int} (p k : Nat) (hi : i = ((e.length + p : Nat) : Int)) (hj : j = ((e.length + p + k : Nat) : Int)) (hr : (l.drop p).take k = r) (hlen : p + k ≤ l.length) : Txt.slice (sOf (e ++ l)) (some i) (some j) = sOf r := by
  subst hi hj
  rw [sl_ss _ (Int.natCast_nonneg _) (Int.ofNat_le.mpr (Nat.le_add_right _ _)) (by rw [List.length_append]; exact Int.ofNat_le.mpr (by rw [Nat.add_assoc]; exact Nat.add_le_add_left hlen _))]
  congr 2
  rw [Int.toNat_natCast, List.drop_append, List.drop_eq_nil_of_le (Nat.le_add_right _ _), List.nil_append, Nat.add_sub_cancel_left, Int.toNat_sub, Nat.add_sub_cancel_left, hr]
theorem sl_sNeg (a b c : List Nat) {i j : Int} (hi : i = a.length) (h0 : j < 0) (h : j = -(c.length : Int)) : Txt.slice (sOf (a ++ (b ++ c))) (some i) (some j) = sOf b := by
  have e : Txt.slice (sOf (a ++ (b ++ c))) (some i) (some j) = Txt.slice (sOf (a ++ (b ++ c))) (some i) (some (j + ((sOf (a ++ (b ++ c))).length : Int))) :=
    StrLaws.sliceText_neg_hi (sOf (a ++ (b ++ c))) (some i) h0 (by rw [sOf_len]; simp; (walk_at "om"))
  rw [e]
  exact sl_at a (b ++ c) b 0 b.length (by rw [hi]; rfl) (by rw [h, sOf_len, List.length_append, List.length_append]; (walk_at "om")) List.take_left (by rw [List.length_append]; (walk_at "om"))
theorem reg_j_3 : True := by
  (k_with "my item" => (k_here; first | refine item_my (j := 0) (by (walk_at "om")) rfl (by (walk_at "om")) ?_ | refine item_my (j := 1) (by (walk_at "om")) rfl (by (walk_at "om")) ?_ | refine item_my (j := 2) (by (walk_at "om")) rfl (by (walk_at "om")) ?_ | refine item_my (j := 3) (by (walk_at "om")) rfl (by (walk_at "om")) ?_))
  (k_with "subscriptTail Name Name str int" => walk_at "my item")
  (k_with "subscriptTail Name BinOp str int" => walk_at "my item")
  (k_with "subscriptTail Name Constant str int" => walk_at "my item")
  (k_with "subscriptTail Name UnaryOp str int" => walk_at "my item")
  (k_with "call builtin:len" => (k_here; refine len_sOf (by first | ((simp only [List.length_append, List.length_cons, List.length_nil]); exact rfl) | exact rfl) (by (walk_at "om")) ?_))
  (k_with "my same" => (first | (intro z h2 h3; (repeat (refine sm_step ?hne ?_; (case hne => first | exact h2 _ (.head _) | exact h2 _ (.tail _ (.head _)) | exact h2 _ (.tail _ (.tail _ (.head _))) | exact sm_stored h3 (by decide +kernel)))); first | exact sm_last h3 | exact rfl) | (intro z h2 h3; (simp only [List.forall_mem_cons, List.not_mem_nil, false_implies, implies_true, and_true, ne_eq] at h2); (simp only [List.contains_cons, List.contains_nil, Bool.or_false, Bool.or_eq_false_iff, beq_eq_false_iff_ne, ne_eq] at h3); (simp [h2, h3, kstB]; done))))
  (k_with "binaryOp Add str str" => (k_here; refine add_sOf (by (simp only [List.length_append, List.length_cons, List.length_nil]); (walk_at "om")) ?_; intro _ _))
  (k_with "ite" => (k_closed; first | refine ite_pos (by decide +kernel) ?_ | refine ite_neg (by decide +kernel) ?_))
  (k_with "eval Name" => (k_here; (with_reducible show wpAny _ _ (eval _ (compEnvC _ _ _ _)) _ _ _); (with_reducible rename Fr _ _ _ _ => kF); first | refine ev_loc kF rfl ?_ rfl rfl (by decide) | refine ev_cell kF rfl (by assumption) ?_ rfl rfl (by decide)))
  (k_with "call builtin:str.join" => (k_here; (with_reducible rename News _ _ _ _ => kN); refine join_my (News.isListX kN (by k_mem)) (by assumption) (by first | assumption | (simp only [tot_append, tot_cons, tot_nil]; (walk_at "om"))) (by simp) ?_; intro _ _))
  (k_with "eval Constant str" => (with_reducible refine const_my (by first | exact cst0 | exact cst1 | exact cst2 | exact cst3 | exact cst4 | exact cst5 | exact cst6 | exact cst7 | exact cst8 | exact cst9 | exact cst10 | exact cst11 | exact cst12 | exact cst13 | exact cst14 | exact cst15 | exact cst16 | exact cst17 | exact cst18 | exact cst19 | exact cst20 | exact cst21 | exact cst22 | exact cst23 | exact cst24 | exact cst25 | exact cst26 | exact cst27) ?_))
  trivial
noncomputable def enc : Nat → List Nat
  | 45 => [92, 45]
  | 42 => [91, 42, 93]
  | 91 => [91, 92, 91, 93]
  | c => [c]
noncomputable def good (c : Nat) : Prop := c = 97 ∨ c = 48 ∨ c = 47 ∨ c = 45 ∨ c = 42 ∨ c = 91
noncomputable def encs (cs : List Nat) : List Nat := cs.flatMap enc
noncomputable def toldS (cs : List Nat) : Str := sOf ([40, 63, 115, 58] ++ (encs cs ++ [46, 42, 41, 92, 90]))
theorem enc_len (c : Nat) : (enc c).length ≤ 4 := by unfold enc; split <;> simp
theorem encs_len (cs : List Nat) : (encs cs).length ≤ 4 * cs.length := by
  induction cs with
  | nil => simp [encs]
  | cons c r ih => have := enc_len c; simp only [encs, List.flatMap_cons, List.length_append, List.length_cons] at *; (walk_at "om")
theorem pi3 {A1 A2 A3 : Type} {P : A1 × A2 × A3 → Prop} (h : ∀ x1 x2 x3, P (x1, x2, x3)) : ∀ c, P c := fun c => h c.1 c.2.1 c.2.2
theorem pi4 {A1 A2 A3 A4 : Type} {P : A1 × A2 × A3 × A4 → Prop} (h : ∀ x1 x2 x3 x4, P (x1, x2, x3, x4)) : ∀ c, P c := fun c => h c.1 c.2.1 c.2.2.1 c.2.2.2
theorem pi6 {A1 A2 A3 A4 A5 A6 : Type} {P : A1 × A2 × A3 × A4 × A5 × A6 → Prop} (h : ∀ x1 x2 x3 x4 x5 x6, P (x1, x2, x3, x4, x5, x6)) : ∀ c, P c := fun c => h c.1 c.2.1 c.2.2.1 c.2.2.2.1 c.2.2.2.2.1 c.2.2.2.2.2
theorem meas1 {q d r : List Nat} {c : Nat} (h : d ++ c :: r = q) : q.length - (d ++ [c]).length < q.length - d.length := by
  subst h
  simp only [List.length_append, List.length_cons, List.length_nil]
  (walk_at "om")
theorem len_pre {q d r : List Nat} {c n : Nat} (h : d ++ c :: r = q) (hl : q.length ≤ n) : d.length ≤ n := Nat.le_trans (by subst h; rw [List.length_append]; exact Nat.le_add_right _ _) hl
theorem pre_cases {d cs : List Nat} {G : Prop} (h : ∃ r, d ++ r = cs) (h1 : d = cs → G) (h2 : ∀ c r, d ++ c :: r = cs → G) : G := by
  first | refine ex1_1 h fun r hr => ?_ | refine ex0_2 h fun r hr => ?_ | obtain ⟨r, hr⟩ := h
  try clear h
  cases r with
  | nil => exact h1 (by simpa using hr)
  | cons c r => exact h2 c r hr
theorem front_cases {c : Nat} {G : Prop} (h : good c) (h1 : enc c = [c] → (sOf [c] == sOf [92]) = false → (sOf [c] == sOf [91]) = false → (Builtin.Str.occurrences (sOf [94, 36, 46, 124, 63, 42, 43, 40, 41, 123, 125]) (sOf [c]) 0 (sOf [94, 36, 46, 124, 63, 42, 43, 40, 41, 123, 125]).length 1).isEmpty = true → G)
    (h2 : enc c = [92, c] → G) (h3 : enc c = [91, c, 93] → (sOf [c] == sOf [92]) = false → G) (h4 : enc c = [91, 92, c, 93] → G) : G := by
  rcases h with rfl | rfl | rfl | rfl | rfl | rfl
  · exact h1 rfl (by decide) (by decide) (by decide +kernel)
  · exact h1 rfl (by decide) (by decide) (by decide +kernel)
  · exact h1 rfl (by decide) (by decide) (by decide +kernel)
  · exact h2 rfl
  · exact h3 rfl (by decide)
  · exact h4 rfl
theorem law_front {w : World} (cs : List Nat) (hc : ∀ c ∈ cs, good c) (hlen : cs.length ≤ 200) (ta : Tok) : Fun w 2 229 [.str (toldS cs) ta] tt0 (fun _ v _ => ∃ t, v = .str (sOf cs) t) := by
  have hel0 : (encs cs).length ≤ 1000 := Nat.le_trans (encs_len cs) (by (walk_at "om"))
  have hel : (sOf (encs cs)).length ≤ 1000 := by rw [sOf_len]; exact hel0
  have ha : (toldS cs).length ≤ 1100 := by rw [toldS, sOf_len]; simp; (walk_at "om")
  have hin : Txt.slice (toldS cs) (some 4) (some (-5)) = sOf (encs cs) := sl_sNeg [40, 63, 115, 58] (encs cs) [46, 42, 41, 92, 90] rfl (by (walk_at "om")) rfl
  have hpre1 : Txt.slice (toldS cs) none (some 4) = Str.ofString "(?s:" := by rw [toldS, sl_to _ (by (walk_at "om"))]; rfl
  have hpre2 : Txt.slice (toldS cs) (some (-5)) none = Str.ofString ".*)\\Z" := by
    have := sl_fromNeg ([40, 63, 115, 58] ++ encs cs) [46, 42, 41, 92, 90] (i := -5) (by (walk_at "om")) rfl
    rw [toldS, ← List.append_assoc, this]; rfl
  generalize htold : toldS cs = a at *
  intro mean mg mb dp un fr gd hq0 gq0 dq0 tq0 oq0 Q E X T hpre hdp hun ret
  refine wpAny_call ?_
  refine' enter (binds := [(Str.ofString "told", .str a ta)]) X T ?ho ⟨?hcd, ?h1, ?h2, ?h3⟩ ?hroom ?h4 ?hbind ?hloc ?_
  case ho => k_is
  case hcd => k_is
  case hroom => exact om18 hdp
  case hbind => exact BindsTo.of_eq rfl
  case hloc => exact locs rfl
  case h1 => exact rfl
  case h2 => exact rfl
  case h3 => exact rfl
  case h4 => decide
  intro L h₁ F N
  dsimp only [BodyOf, List.reverse_cons, List.reverse_nil, List.nil_append, List.cons_append, List.length_cons, List.length_nil] at F ⊢
  k_fold
  walk_at "my steps"
  · rename_i hh; rw [hpre1] at hh; cases hh
  · rename_i hh; rw [hpre2] at hh; cases hh
  rw [hin] at *
  rename_i F' N'
  refine while_core (σ := List Nat × Tok × Tok) (fun _ => []) (fun c => [("front", .str (sOf c.1) c.2.1), ("place", .int (encs c.1).length c.2.2)]) ["start"] (fun c => ∃ r, c.1 ++ r = cs) (fun c => cs.length - c.1.length) F' ⟨([], _, _), N', ⟨rfl, rfl, trivial⟩, ⟨cs, rfl⟩⟩ ?_ PassesOwn.never
  intro q u h tk hP F'' N''
  refine wp_gen fun G hG => ?_
  refine pre_cases hP (fun hr => ?_) (fun c r hr => ?_)
  · rw [hr, ← sOf_len] at F''
    dsimp only at F''
    walk_at "my steps"
    refine hG _ _ ?_
    rw [if_neg (by simp [sOf_len])]
    walk_at "my steps"
    exact ret _ _ _ (Fr.keep (by assumption)) ⟨_, rfl⟩
  · have hE : encs cs = encs q.1 ++ (enc c ++ encs r) := by rw [← hr]; simp [encs]
    rw [hE] at F''
    have hle : (encs q.1).length + ((enc c).length + (encs r).length) ≤ 1000 := by simpa [hE, sOf_len] using hel
    have hdl : q.1.length ≤ 200 := len_pre hr hlen
    have hE' : encs (q.1 ++ [c]) = encs q.1 ++ enc c := by simp [encs]
    have hr' : ∃ r_1, (q.1 ++ [c]) ++ r_1 = cs := ⟨r, by simpa using hr⟩
    have hm' : cs.length - (q.1 ++ [c]).length < cs.length - q.1.length := meas1 hr
    have hgc : good c := hc c (by rw [← hr]; simp)
    have hpos : 1 ≤ (enc c).length := by unfold enc; split <;> simp
    dsimp only [kstB] at F''
    walk_at "my steps"
    refine hG _ _ ?_
    rw [if_pos (by simp; (walk_at "om"))]
    clear hG G
    refine wp_gen fun G hG => ?_
    rename Fr _ _ _ _ => F3
    rename News _ _ _ _ => N3
    refine front_cases hgc (fun h1 g1 g2 g3 => ?_) (fun h1 => ?_) (fun h1 g1 => ?_) (fun h1 => ?_) <;> rw [h1] at F3 hE' hle <;> simp only [List.cons_append, List.nil_append] at F3 <;> simp only [List.length_cons, List.length_nil] at hle <;> walk_at "my steps"
    all_goals
      rename_i F' N'
      refine hG _ _ (fnext (q.1 ++ [c], _, _) F' N' (fun _ h => nomatch h) (fun _ h => nomatch h) ⟨rfl, at_int ?_, trivial⟩ ?_ ⟨hr', hm'⟩)
      · (simp only [hE', List.length_append, List.length_cons, List.length_nil]; (walk_at "om"))
      · rw [hE, h1]; simp only [List.cons_append, List.nil_append]; walk_at "my same"
inductive CEndI {σ : Type} (h₁ : Heap) (C : Addr) (Led : σ → List (Addr × Obj)) (P : σ → Prop) (own : List (Addr × Obj)) (g : Array GenState) (d : Drawn) (os : OsState) : Shared → Prop
  | mk (c' : σ) (h' : Heap) (tk : Nat) (m' : Str → Option Value) (news' : List (Addr × Obj)) (F : Fr h₁ C h' m') (N : News h₁ C h' news') (h1 : ∀ p ∈ Led c', p ∈ news') (h2 : ∀ p ∈ own, p ∈ news') (h3 : OwnOff own ((Led c').map (·.1))) (h4 : P c') : CEndI h₁ C Led P own g d os ⟨h', g, d, tk, os⟩
noncomputable def CEnd {σ : Type} (h₁ : Heap) (C : Addr) (Led : σ → List (Addr × Obj)) (P : σ → Prop) (own : List (Addr × Obj)) (s : Shared) (s₂ : Shared) : Prop := CEndI h₁ C Led P own s.gens s.drawn s.os s₂
theorem cend {σ : Type} {h₁ : Heap} {C : Addr} {Led : σ → List (Addr × Obj)} {P : σ → Prop} {own : List (Addr × Obj)} {s : Shared} {h' : Heap} {tk : Nat} {m' : Str → Option Value} {news' : List (Addr × Obj)} (c' : σ)
    (F : Fr h₁ C h' m') (N : News h₁ C h' news') (h1 : ∀ p ∈ Led c', p ∈ news') (h2 : ∀ p ∈ own, p ∈ news') (h3 : OwnOff own ((Led c').map (·.1))) (h4 : P c') :
    CEnd h₁ C Led P own s { s with heap := h', toks := tk } := CEndI.mk c' h' tk m' news' F N h1 h2 h3 h4
/-- the tests of a clause (none, or one) let the walk on with an answer -/
noncomputable def Tests (M : Model) (A : Around) (ifs : List Expr) (env : Env) (Q : Bool → Shared → Prop) (E : Value → Shared → Prop) (s : Shared) : Prop := match ifs with
  | [] => Q true s
  | c :: _ => wpAny M A (isTrue c env (eval c env)) Q E s
theorem tests_nil {M : Model} {A : Around} {env : Env} {Q : Bool → Shared → Prop} {E : Value → Shared → Prop} {s : Shared} (h : Q true s) : Tests M A [] env Q E s := h
theorem tests_one {M : Model} {A : Around} {c : Expr} {env : Env} {Q : Bool → Shared → Prop} {E : Value → Shared → Prop} {s : Shared} (h : wpAny M A (isTrue c env (eval c env)) Q E s) : Tests M A [c] env Q E s := h
theorem Tests.imp {M : Model} {A : Around} {ifs : List Expr} {env : Env} {Q Q' : Bool → Shared → Prop} {E E' : Value → Shared → Prop} {s : Shared} (h : Tests M A ifs env Q E s) (a : ∀ b s, Q b s → Q' b s) (b : ∀ e s, E e s → E' e s) : Tests M A ifs env Q' E' s := by
  cases ifs with
  | nil => exact a _ _ h
  | cons c r => exact wpAny_mono h a b
/-- one turn of a comprehension of one clause, J what it comes back to -/
noncomputable def CTurn (prog : Program) (w : World) (A : Around) (elt target : Expr) (ifs : List Expr) (it acc : Value) (env : Env) (R : Result → Shared → Prop) (J : Shared → Prop) : Shared → Prop :=
  let E := notedBy (model prog w) A env fun e s' => R (.error e) s'
  let W := fun {α : Type} (t : Sem α) (Q : α → Shared → Prop) s => wpAny (model prog w) A t Q E s
  W (pyNext it) fun r s₁ => match r with
    | none => R (.ok .next) s₁
    | some v => W (letOwnedTupleGo target it v) (fun _ s₂ => W (assign target env v) (fun _ s₃ => Tests (model prog w) A ifs env (fun ok s₄ =>
        if ok = true then W (eval elt env) (fun x s₅ => W (call (.builtin "list.append") [acc, x]) (fun _ s₆ => J s₆) s₅) s₄ else J s₄) E s₃) s₂) s₁
section
variable {prog : Program} {w : World} {A : Around} {E : Value → Shared → Prop} {s : Shared} {R : Result → Shared → Prop}
/-- the loop of such a comprehension: the kit's two rules as one -/
theorem comp_go {elt target iter : Expr} {ifs : List Expr} {scope : Scope} {pos : Pos} {it acc : Value} {env : Env} (hifs : ifs.length ≤ 1) (I : Nat → Shared → Prop) (turn : ∀ n s, I n s → CTurn prog w A elt target ifs it acc env R (fun s' => ∃ m, m < n ∧ I m s') s)
    (n : Nat) (h : I n s) : codeAny (model prog w) A (.compLoop (.ListComp elt [⟨target, iter, ifs, 0⟩] scope pos) 0 it acc env) R s := by
  match ifs, hifs with
  | [], _ => exact kcp_loop I turn n h
  | [c], _ => exact kct_loop I turn n h
end
theorem objs_at {h : Heap} : ∀ {io : List Addr}, (∀ b ∈ io, ∃ o, h.get? b = some o) → ∃ its : List (Addr × Obj), its.map (·.1) = io ∧ ∀ p ∈ its, h.get? p.1 = some p.2
  | [], _ => ⟨[], rfl, fun _ h => nomatch h⟩
  | b :: r, hb => by
    first | refine ex2_1 (objs_at (io := r) fun c hc => hb c (.tail _ hc)) fun its e h1 => ?_ | refine ex1_2 (objs_at (io := r) fun c hc => hb c (.tail _ hc)) fun its e h1 => ?_ | refine ex0_3 (objs_at (io := r) fun c hc => hb c (.tail _ hc)) fun its e h1 => ?_ | obtain ⟨its, e, h1⟩ := objs_at (io := r) fun c hc => hb c (.tail _ hc)
    first | refine ex1_1 (hb b (.head _)) fun o ho => ?_ | refine ex0_2 (hb b (.head _)) fun o ho => ?_ | obtain ⟨o, ho⟩ := hb b (.head _)
    refine ⟨(b, o) :: its, by rw [List.map_cons, e], fun p hp => ?_⟩
    rcases List.mem_cons.mp hp with rfl | hp
    · exact ho
    · exact h1 p hp
section
open PySem.W
variable {prog : Program} {w : World} {A : Around} {s : Shared}
noncomputable def GTurn (prog : Program) (w : World) (A : Around) {σ : Type} (target elt : Expr) (ifs : List Expr) (cenv : Env) (h₁ : Heap) (Pv : Nat → Value → Heap → Prop) (Led : σ → List (Addr × Obj)) (acc : σ → List Value) (P : Nat → σ → Prop) (n : Nat) (s : Shared) : Prop :=
  ∀ i v (c : σ) (u : Str → Option Value) h tk own, i < n → Pv i v h → P i c → OwnOff own ((Led c).map (·.1)) → Fr h₁ cenv.locals h u → News h₁ cenv.locals h (Led c ++ own) →
    wpAny (model prog w) A (assign target cenv v) (fun _ s₂ => Tests (model prog w) A ifs cenv (fun ok s₃ =>
      if ok = true then wpAny (model prog w) A (eval elt cenv) (fun y s₄ => CEnd h₁ cenv.locals Led (fun c' => acc c' = acc c ++ [y] ∧ P (i + 1) c') own s s₄) (fun _ _ => False) s₃
      else CEnd h₁ cenv.locals Led (fun c' => acc c' = acc c ∧ P (i + 1) c') own s s₃) (fun _ _ => False) s₂) (fun _ _ => False) { s with heap := h, toks := tk }
/-- what stands between the turns of a comprehension -/
inductive CInv {σ : Type} (h₁ : Heap) (C D : Addr) (io : List Addr) (St : Nat → Heap → Prop) (Led : σ → List (Addr × Obj)) (acc : σ → List Value) (P : Nat → σ → Prop) (n : Nat) (s : Shared) : Nat → Shared → Prop
  | mk (h' : Heap) (tk : Nat) (m' : Str → Option Value) (c : σ) (i nn : Nat) (st : St i h') (F : Fr h₁ C h' m') (N : News h₁ C h' (Led c)) (hD : h'.get? D = some (listOf (acc c).toArray nn)) (off : ∀ p ∈ Led c, p.1 ∉ io ∧ p.1 ≠ D) (hal : (acc c).length ≤ i) (hP : P i c) (hi : i ≤ n) :
    CInv h₁ C D io St Led acc P n s (n + 1 - i) { s with heap := h', toks := tk }
theorem comp_coreG {σ : Type} {R : Result → Shared → Prop} {elt iter target : Expr} {ifs : List Expr} {scope : Scope} {pos : Pos} {I D : Addr} {cenv : Env} {h₁ : Heap} {fp wr io : List Addr} {n : Nat} {Pv Md : Nat → Value → Heap → Prop} {St : Nat → Heap → Prop}
    (W : KTurns prog w A target I fp wr n Pv Md St) (Led : σ → List (Addr × Obj)) (acc : σ → List Value) (P : Nat → σ → Prop) (c₀ : σ)
    (hwr : ∀ b ∈ wr, b ∈ io) (hfp : ∀ b ∈ fp, b ∈ io ∨ ∃ o, h₁.get? b = some o) (hio : ∀ b ∈ io, b ≠ cenv.locals ∧ b ≠ D ∧ h₁.get? b = none) (hob : ∀ i h, St i h → ∀ b ∈ io, ∃ o, h.get? b = some o) (hDf : D ∉ fp) (hDC : D ≠ cenv.locals) (hD0 : h₁.get? D = none)
    (hst : St 0 s.heap) (hl0 : News h₁ cenv.locals s.heap (Led c₀)) (hl1 : ∀ p ∈ Led c₀, p.1 ∉ io ∧ p.1 ≠ D) (ha0 : acc c₀ = []) (hacc : s.heap.PlainList D #[]) (F : ∃ m, Fr h₁ cenv.locals s.heap m) (hp0 : P 0 c₀)
    (turn : GTurn prog w A target elt ifs cenv h₁ Pv Led acc P n s)
    (done : ∀ (c : σ) m h tk nn, P n c → Fr h₁ cenv.locals h m → News h₁ cenv.locals h ((D, listOf (acc c).toArray nn) :: Led c) → (∀ p ∈ Led c, p.1 ≠ D) → R (.ok .next) { s with heap := h, toks := tk })
    (hsz : n ≤ sizeLine) (hifs : ifs.length ≤ 1) :
    codeAny (model prog w) A (.compLoop (.ListComp elt [⟨target, iter, ifs, 0⟩] scope pos) 0 (.ref I) (.ref D) cenv) R s := by
  first | refine ex1_1 F fun m0 F0 => ?_ | refine ex0_2 F fun m0 F0 => ?_ | obtain ⟨m0, F0⟩ := F
  try clear F
  first | refine ex1_1 hacc fun n0 hn0 => ?_ | refine ex0_2 hacc fun n0 hn0 => ?_ | obtain ⟨n0, hn0⟩ := hacc
  try clear hacc
  refine comp_go hifs (CInv h₁ cenv.locals D io St Led acc P n s) ?_ (n + 1) (CInv.mk s.heap s.toks m0 c₀ 0 n0 hst F0 hl0 (by rw [ha0]; exact hn0) hl1 (by rw [ha0]; exact Nat.le_refl _) hp0 (Nat.zero_le _))
  intro k s' hinv
  cases hinv with
  | mk h' tk m' c i nn hst' F' N' hD' hoff hal hP hi =>
    have next : ∀ h h₂ : Heap, Fr h₁ cenv.locals h m' → News h₁ cenv.locals h (Led c) → h.get? D = some (listOf (acc c).toArray nn) → (∀ b o, b ∉ wr → h.get? b = some o → h₂.get? b = some o) → Fr h₁ cenv.locals h₂ m' ∧ News h₁ cenv.locals h₂ (Led c) ∧ h₂.get? D = some (listOf (acc c).toArray nn) := fun h h₂ F' N' hD' hk₂ =>
      ⟨⟨F'.ns.at' fun o e => hk₂ _ o (fun hb => (hio _ (hwr _ hb)).1 rfl) e, fun b o e => hk₂ b o (fun hb => by rw [(hio _ (hwr _ hb)).2.2] at e; cases e) (F'.keep b o e), F'.above⟩,
        fun p hp => ⟨hk₂ _ _ (fun hb => (hoff p hp).1 (hwr _ hb)) (N' p hp).1, (N' p hp).2⟩, hk₂ _ _ (fun hb => (hio _ (hwr _ hb)).2.1 rfl) hD'⟩
    by_cases hlt : i < n
    · refine W.item i _ _ _ hlt hst' fun v h₂ tk₂ hMd hk₂ => ?_
      first | refine ex2_1 (next _ _ F' N' hD' hk₂) fun F₂ N₂ hD₂ => ?_ | refine ex1_2 (next _ _ F' N' hD' hk₂) fun F₂ N₂ hD₂ => ?_ | refine ex0_3 (next _ _ F' N' hD' hk₂) fun F₂ N₂ hD₂ => ?_ | obtain ⟨F₂, N₂, hD₂⟩ := next _ _ F' N' hD' hk₂
      refine W.go i v _ _ _ hMd fun h₃ hPv hst₃ hk₃ => ?_
      first | refine ex2_1 (next _ _ F₂ N₂ hD₂ hk₃) fun F₃ N₃ hD₃ => ?_ | refine ex1_2 (next _ _ F₂ N₂ hD₂ hk₃) fun F₃ N₃ hD₃ => ?_ | refine ex0_3 (next _ _ F₂ N₂ hD₂ hk₃) fun F₃ N₃ hD₃ => ?_ | obtain ⟨F₃, N₃, hD₃⟩ := next _ _ F₂ N₂ hD₂ hk₃
      first | refine ex2_1 (objs_at (hob _ _ hst₃)) fun its hits hito => ?_ | refine ex1_2 (objs_at (hob _ _ hst₃)) fun its hits hito => ?_ | refine ex0_3 (objs_at (hob _ _ hst₃)) fun its hits hito => ?_ | obtain ⟨its, hits, hito⟩ := objs_at (hob _ _ hst₃)
      have hmi : ∀ p ∈ its, p.1 ∈ io := fun p hp => hits ▸ List.mem_map_of_mem hp
      have No : News h₁ cenv.locals h₃ (its ++ [(D, listOf (acc c).toArray nn)]) := fun p hp => by
        rcases List.mem_append.mp hp with hp | hp
        · exact ⟨hito p hp, (hio _ (hmi p hp)).1, (hio _ (hmi p hp)).2.2⟩
        · rw [List.mem_singleton.mp hp]; exact ⟨hD₃, hDC, hD0⟩
      have hoff' : OwnOff (its ++ [(D, listOf (acc c).toArray nn)]) ((Led c).map (·.1)) := fun p hp b hb => by
        first | refine ex2_1 (List.mem_map.mp hb) fun q hq e90 => ?_ | refine ex1_2 (List.mem_map.mp hb) fun q hq e90 => ?_ | refine ex0_3 (List.mem_map.mp hb) fun q hq e90 => ?_ | obtain ⟨q, hq, e90⟩ := List.mem_map.mp hb
        subst e90
        rcases List.mem_append.mp hp with hp | hp
        · exact fun e => (hoff q hq).1 (e ▸ hmi p hp)
        · rw [List.mem_singleton.mp hp]; exact (hoff q hq).2.symm
      -- the heap behind a turn
      have back : ∀ (c' : σ) h₄ m₄ news₄, Fr h₁ cenv.locals h₄ m₄ → News h₁ cenv.locals h₄ news₄ → (∀ p ∈ Led c', p ∈ news₄) → (∀ p ∈ its ++ [(D, listOf (acc c).toArray nn)], p ∈ news₄) → OwnOff (its ++ [(D, listOf (acc c).toArray nn)]) ((Led c').map (·.1)) →
          St (i + 1) h₄ ∧ h₄.get? D = some (listOf (acc c).toArray nn) ∧ (∀ p ∈ Led c', p.1 ∉ io ∧ p.1 ≠ D) := by
        intro c' h₄ m₄ news₄ F₄ N₄ g1 g2 g3
        refine ⟨W.frame _ _ _ hst₃ fun b hb o e => ?_, (N₄ _ (g2 _ (List.mem_append_right _ (.head _)))).1, fun p hp => ⟨fun hpi => ?_, (g3 _ (List.mem_append_right _ (.head _)) p.1 (List.mem_map.mpr ⟨p, hp, rfl⟩)).symm⟩⟩
        · rcases hfp b hb with hbi | ⟨o', ho'⟩
          · rw [← hits] at hbi
            first | refine ex2_1 (List.mem_map.mp hbi) fun q hq e90 => ?_ | refine ex1_2 (List.mem_map.mp hbi) fun q hq e90 => ?_ | refine ex0_3 (List.mem_map.mp hbi) fun q hq e90 => ?_ | obtain ⟨q, hq, e90⟩ := List.mem_map.mp hbi
            subst e90
            rw [hito q hq] at e
            rw [← Option.some.inj e]
            exact (N₄ _ (g2 _ (List.mem_append_left _ hq))).1
          · rw [F₃.keep b o' ho'] at e
            rw [← Option.some.inj e]; exact F₄.keep b o' ho'
        · rw [← hits] at hpi
          first | refine ex2_1 (List.mem_map.mp hpi) fun q hq e => ?_ | refine ex1_2 (List.mem_map.mp hpi) fun q hq e => ?_ | refine ex0_3 (List.mem_map.mp hpi) fun q hq e => ?_ | obtain ⟨q, hq, e⟩ := List.mem_map.mp hpi
          exact g3 q (List.mem_append_left _ hq) p.1 (List.mem_map.mpr ⟨p, hp, rfl⟩) e
      refine wpAny_mono (turn i v c m' h₃ _ _ hlt hPv hP hoff' F₃ (N₃.append No)) (fun _ s₂ h₂' => h₂'.imp (fun ok s₃ h₃' => ?_) fun _ _ x => x.elim) fun _ _ x => x.elim
      cases ok with
      | false =>
        simp only [Bool.false_eq_true, if_false] at h₃' ⊢
        obtain ⟨c', h₄, tk₄, m₄, news₄, F₄, N₄, g1, g2, g3, g4, g5⟩ := h₃'
        first | refine ex2_1 (back c' h₄ m₄ news₄ F₄ N₄ g1 g2 g3) fun b1 b2 b3 => ?_ | refine ex1_2 (back c' h₄ m₄ news₄ F₄ N₄ g1 g2 g3) fun b1 b2 b3 => ?_ | refine ex0_3 (back c' h₄ m₄ news₄ F₄ N₄ g1 g2 g3) fun b1 b2 b3 => ?_ | obtain ⟨b1, b2, b3⟩ := back c' h₄ m₄ news₄ F₄ N₄ g1 g2 g3
        exact ⟨n + 1 - (i + 1), meas0 (by (walk_at "om")), CInv.mk h₄ tk₄ m₄ c' (i + 1) nn b1 F₄ (fun p hp => N₄ p (g1 p hp)) (by rw [g4]; exact b2) b3 (by rw [g4]; (walk_at "om")) g5 hlt⟩
      | true =>
        simp only [if_true] at h₃' ⊢
        refine wpAny_mono h₃' (fun y s₄ h₄' => ?_) fun _ _ x => x.elim
        obtain ⟨c', h₄, tk₄, m₄, news₄, F₄, N₄, g1, g2, g3, g4, g5⟩ := h₄'
        first | refine ex2_1 (back c' h₄ m₄ news₄ F₄ N₄ g1 g2 g3) fun b1 b2 b3 => ?_ | refine ex1_2 (back c' h₄ m₄ news₄ F₄ N₄ g1 g2 g3) fun b1 b2 b3 => ?_ | refine ex0_3 (back c' h₄ m₄ news₄ F₄ N₄ g1 g2 g3) fun b1 b2 b3 => ?_ | obtain ⟨b1, b2, b3⟩ := back c' h₄ m₄ news₄ F₄ N₄ g1 g2 g3
        refine wpAny_list_append_plain (s := { s with heap := h₄, toks := tk₄ }) (hsz := by rw [List.size_toArray]; (walk_at "om")) ⟨nn, b2⟩ fun h₅ hl₅ hs₅ => ?_
        first | refine ex1_1 hl₅ fun nn' hl₅ => ?_ | refine ex0_2 hl₅ fun nn' hl₅ => ?_ | obtain ⟨nn', hl₅⟩ := hl₅
        refine ⟨n + 1 - (i + 1), meas0 (by (walk_at "om")), CInv.mk h₅ tk₄ m₄ c' (i + 1) nn' (W.frame _ _ _ b1 fun b hb o e => (hs₅.2 b fun q => hDf (q ▸ hb)).trans e) ⟨F₄.ns.sameBut hs₅ (Ne.symm hDC), fun b o e => (hs₅.2 b (by rintro rfl; rw [hD0] at e; cases e)).trans (F₄.keep b o e), F₄.above⟩
          (fun p hp => ⟨(hs₅.2 p.1 (b3 p hp).2).trans (N₄ p (g1 p hp)).1, (N₄ p (g1 p hp)).2⟩) ?_ b3 (by rw [g4, List.length_append, List.length_singleton]; (walk_at "om")) g5 hlt⟩
        rw [hl₅, g4]
        simp [PySem.W.listOf]
    · have hin : i = n := by (walk_at "om")
      subst hin
      refine W.done _ _ _ hst' fun h₂ tk₂ hk₂ => ?_
      first | refine ex2_1 (next _ _ F' N' hD' hk₂) fun F₂ N₂ hD₂ => ?_ | refine ex1_2 (next _ _ F' N' hD' hk₂) fun F₂ N₂ hD₂ => ?_ | refine ex0_3 (next _ _ F' N' hD' hk₂) fun F₂ N₂ hD₂ => ?_ | obtain ⟨F₂, N₂, hD₂⟩ := next _ _ F' N' hD' hk₂
      refine done c m' h₂ tk₂ nn hP F₂ (fun p hp => ?_) fun p hp => (hoff p hp).2
      rcases List.mem_cons.mp hp with rfl | hp
      · exact ⟨hD₂, hDC, hD0⟩
      · exact N₂ p hp
end
open PySem.W in
inductive CompAtG (prog : Program) (w : World) (A : Around) (env : Env) (scope : Scope) (cl : List (Str × Addr)) (target elt : Expr) (ifs : List Expr) (Q' : Heap → Addr → Addr → Heap → Nat → Prop) (it : Value) (s₂ : Shared) : Prop
  | mk (σ : Type) (h₁ : Heap) (I : Addr) (fp wr io : List Addr) (n : Nat) (Pv Md : Nat → Value → Heap → Prop) (St : Nat → Heap → Prop) (Led : σ → List (Addr × Obj)) (acc : σ → List Value) (P : Nat → σ → Prop) (c₀ : σ)
    (hit : it = .ref I) (W : KTurns prog w A target I fp wr n Pv Md St) (hsz : n ≤ sizeLine) (hst : St 0 s₂.heap) (hself : ∀ (s' : Shared) (Q : Value → Shared → Prop) (E : Value → Shared → Prop), St 0 s'.heap → Q (.ref I) s' → wpAny (model prog w) A (pyIter (.ref I)) Q E s') (hfp : ∀ b ∈ fp, b < s₂.heap.objs.size)
    (hwr : ∀ b ∈ wr, b ∈ io) (hfpi : ∀ b ∈ fp, b ∈ io ∨ ∃ o, h₁.get? b = some o) (hio : ∀ b ∈ io, b < s₂.heap.objs.size ∧ h₁.get? b = none) (hob : ∀ i h, St i h → ∀ b ∈ io, ∃ o, h.get? b = some o)
    (hk12 : ∀ b o, h₁.get? b = some o → s₂.heap.get? b = some o) (hle : h₁.objs.size ≤ s₂.heap.objs.size)
    (hl0 : ∀ p ∈ Led c₀, s₂.heap.get? p.1 = some p.2 ∧ h₁.get? p.1 = none ∧ p.1 ∉ io) (ha0 : acc c₀ = []) (hp0 : P 0 c₀)
    (turn : ∀ C, GTurn prog w A target elt ifs (compEnvC scope cl C env) h₁ Pv Led acc P n s₂)
    (done : ∀ D C (c : σ) m h tk nn, P n c → Fr h₁ C h m → News h₁ C h ((D, PySem.W.listOf (acc c).toArray nn) :: Led c) → (∀ p ∈ Led c, p.1 ≠ D) → Q' h₁ D C h tk) : CompAtG prog w A env scope cl target elt ifs Q' it s₂
theorem CompAtG.mono {prog : Program} {w : World} {A : Around} {env : Env} {scope : Scope} {cl : List (Str × Addr)} {target elt : Expr} {ifs : List Expr} {Q₁ Q₂ : Heap → Addr → Addr → Heap → Nat → Prop} {it : Value} {s₂ : Shared} (h : CompAtG prog w A env scope cl target elt ifs Q₁ it s₂)
    (hQ : ∀ h₁ D C c m h tk, Fr h₁ C h m → Q₁ h₁ D C h tk → c = 0 → Q₂ h₁ D C h tk) : CompAtG prog w A env scope cl target elt ifs Q₂ it s₂ := by
  cases h with
  | mk σ h₁ I fp wr io n Pv Md St Led acc P c₀ g1 g2 g3 g4 g5 g6 g7 g8 g9 g10 g11 g12 g13 g14 g15 g16 g17 =>
    exact .mk σ h₁ I fp wr io n Pv Md St Led acc P c₀ g1 g2 g3 g4 g5 g6 g7 g8 g9 g10 g11 g12 g13 g14 g15 g16 fun D C c m h tk nn hP F N ho => hQ h₁ D C 0 m h tk F (g17 D C c m h tk nn hP F N ho) rfl
section
variable {prog : Program} {w : World} {A : Around} {E : Value → Shared → Prop} {s : Shared} {env : Env}
theorem comp_ground {h h₃ : Heap} {o x : Obj} (ho : o.isFreed = false) (hs : Heap.SameBut (h.push o).objs.size ((h.push o).push x) h₃) : Keeps h h₃ ∧ h₃.get? h.objs.size = some o ∧ (∀ b, b < h.objs.size → b ≠ h.objs.size ∧ b ≠ (h.push o).objs.size) ∧ h.objs.size < (h.push o).objs.size := by
  have k : Keeps (h.push o) h₃ := fun b y e => (hs.2 b (Nat.ne_of_lt (Heap.lt_size e))).trans (Heap.get?_push_of_some _ e)
  have lt : h.objs.size < (h.push o).objs.size := by rw [Heap.size_push]; exact Nat.lt_succ_self _
  exact ⟨fun b y e => k b y (Heap.get?_push_of_some _ e), k _ _ (Heap.get?_push_size _ ho), fun b hb => ⟨Nat.ne_of_lt hb, Nat.ne_of_lt (Nat.lt_trans hb lt)⟩, lt⟩
/-- what stands behind the first iterable: the new list, the new frame, the loop -/
theorem comp_rest {elt iter target : Expr} {ifs : List Expr} {scope : Scope} {cl : List (Str × Addr)} {pos : Pos} {s₂ : Shared} {it : Value} {use : Option (Value → Sem Unit)} {Q : Value → Shared → Prop} (hifs : ifs.length ≤ 1)
    (hcell : ∀ y ∈ scope.names, y.2 ≠ .cell) (hkind : scope.kind = .function)
    (h : CompAtG prog w A env scope cl target elt ifs (fun _ D C h' tk => compPost (model prog w) A E use Q (.ref D) C (.ok .next) { s₂ with heap := h', toks := tk }) it s₂) :
    wpAny (model prog w) A (newList []) (fun acc => wpAny (model prog w) A (newFunctionEnv scope env.globals cl [] env.qual none .none (some env)) (fun cenv =>
      codeAny (model prog w) A (.compStart (.ListComp elt [⟨target, iter, ifs, 0⟩] scope pos) 0 it acc { cenv with scope := relabel scope env }) (compPost (model prog w) A E use Q acc cenv.locals)) E) E s₂ := by
  cases h with
  | mk σ h₁ I fp wr io n Pv Md St Led acc P c₀ hit W hsz hst hself hfp hwr hfpi hio hob hk12 hle hl0 ha0 hp0 turn done =>
    subst hit
    refine wpAny_newObj_type (wpAny_newFunctionEnv hcell (fun _ hy => nomatch hy) (fun h₃ hns hsb => ?_) hkind)
    have G := comp_ground rfl hsb
    have st := W.frame 0 _ h₃ hst fun b _ o e => G.1 b o e
    have core := comp_coreG (iter := iter) (scope := scope) (pos := pos) (R := compPost (model prog w) A E use Q (.ref s₂.heap.objs.size) _) (s := { s₂ with heap := h₃, toks := s₂.toks + 0 }) (cenv := compEnvC scope cl _ env) W Led acc P c₀ hwr hfpi
      (fun b hb => ⟨(G.2.2.1 b (hio b hb).1).2, (G.2.2.1 b (hio b hb).1).1, (hio b hb).2⟩) hob (fun hm => Nat.lt_irrefl _ (hfp _ hm)) (Nat.ne_of_lt G.2.2.2) (Heap.get?_none_of_le hle) st
      (fun p hp => ⟨G.1 _ _ (hl0 p hp).1, (G.2.2.1 _ (Heap.lt_size (hl0 p hp).1)).2, (hl0 p hp).2.1⟩) (fun p hp => ⟨(hl0 p hp).2.2, (G.2.2.1 _ (Heap.lt_size (hl0 p hp).1)).1⟩) ha0 ⟨_, G.2.1⟩ ⟨_, hns, fun b o e => G.1 b o (hk12 b o e), Nat.le_trans hle (Nat.le_of_lt G.2.2.2)⟩ hp0
      (turn _) (done _ _) hsz hifs
    exact codeAny_compStart_list core (hself _ _ _ st core)
/-- the scope of a comprehension of the law's kind: no cells of its own, all that it closes over at hand -/
structure CompOk (env : Env) (scope : Scope) (cl : List (Str × Addr)) : Prop where
  clos : closureFor scope env = pure cl
  cell : ∀ y ∈ scope.names, y.2 ≠ .cell
  kind : scope.kind = .function
  at_ : ∀ y ∈ scope.names, y.2 = .local → scope.names.lookup y.1 = some .local
/-- the first iterable, then its iterator, then K -/
noncomputable abbrev First (prog : Program) (w : World) (A : Around) (iter : Expr) (env : Env) (E : Value → Shared → Prop) (K : Heap → Value → Shared → Prop) (s : Shared) : Prop :=
  wpAny (model prog w) A (eval iter env) (fun v s₁ => wpAny (model prog w) A (pyIter v) (K s₁.heap) E s₁) E s
theorem First.imp {iter : Expr} {K K' : Heap → Value → Shared → Prop} (f : First prog w A iter env E K s) (k : ∀ h v s, K h v s → K' h v s) : First prog w A iter env E K' s :=
  wpAny_mono f (fun _ s₁ a => wpAny_mono a (k s₁.heap) fun _ _ e => e) fun _ _ e => e
/-- a comprehension, with or without a use for its list -/
theorem comp_use {elt iter target : Expr} {ifs : List Expr} {scope : Scope} {cl : List (Str × Addr)} {pos p : Pos} (use : Option (Value → Sem Unit)) {Q : Value → Shared → Prop} (ok : CompOk env scope cl) (set : ∀ x, foldedSetIterable iter env x = pure x) (one : ifs.length ≤ 1)
    (f : First prog w A iter env E (fun _ it s₂ => CompAtG prog w A env scope cl target elt ifs (fun _ D C h tk => compPost (model prog w) A E use Q (.ref D) C (.ok .next) { s₂ with heap := h, toks := tk }) it s₂) s) :
    wpAny (model prog w) A (comprehension (.ListComp elt [⟨target, iter, ifs, 0⟩] scope pos) scope env p (newList []) false (eval iter env) use) Q E s :=
  wpAny_comprehension_free rfl set ok.clos ok.kind ok.at_ (f.imp fun _ _ _ a => comp_rest one ok.cell ok.kind a)
/-- a comprehension as a value -/
theorem eval_compG {elt iter target : Expr} {ifs : List Expr} {scope : Scope} {cl : List (Str × Addr)} {pos : Pos} {Q : Value → Shared → Prop} (ok : CompOk env scope cl)
    (f : First prog w A iter env E (fun _ it s₂ => CompAtG prog w A env scope cl target elt ifs (fun _ D C h tk => ∀ h', Heap.SameBut C h h' → Q (.ref D) { s₂ with heap := h', toks := tk }) it s₂) s)
    (set : ∀ x, foldedSetIterable iter env x = pure x := by intro _; rfl) (one : ifs.length ≤ 1 := by exact Nat.le_of_ble_eq_true rfl) : wpAny (model prog w) A (eval (.ListComp elt [⟨target, iter, ifs, 0⟩] scope pos) env) Q E s := by
  rw [eval_ListComp]
  exact comp_use none ok set one (f.imp fun _ _ _ a => a.mono fun _ _ _ _ m _ _ F g _ => ⟨m, F.ns, g⟩)
/-- what stands behind the list's coming under its name -/
noncomputable abbrev Kept (prog : Program) (w : World) (A : Around) (env : Env) (y : Str) (E : Value → Shared → Prop) (Q : Flow → Shared → Prop) (s : Shared) (D C : Addr) (h : Heap) (tk : Nat) : Prop :=
  wpAny (model prog w) A (storeName env y (.ref D)) (fun _ s₁ => ∃ m, s₁.heap.Ns C m ∧ ∀ h', Heap.SameBut C s₁.heap h' → Q .next { s₁ with heap := h' }) E { s with heap := h, toks := tk }
/-- a comprehension bound to a name -/
theorem assign_compG {elt iter target : Expr} {y : Str} {py pos spos : Pos} {ifs : List Expr} {scope : Scope} {cl : List (Str × Addr)} {Q : Flow → Shared → Prop}
    (swap : swapsWith (.ListComp elt [⟨target, iter, ifs, 0⟩] scope pos) (some (.Name y py)) spos.line env = pure true) (ok : CompOk env scope cl)
    (f : First prog w A iter env E (fun _ it s₂ => CompAtG prog w A env scope cl target elt ifs (fun _ => Kept prog w A env y E Q s₂) it s₂) s)
    (set : ∀ x, foldedSetIterable iter env x = pure x := by intro _; rfl) (one : ifs.length ≤ 1 := by exact Nat.le_of_ble_eq_true rfl) : wpAny (model prog w) A (exec (.Assign [.Name y py] (.ListComp elt [⟨target, iter, ifs, 0⟩] scope pos) spos) env) Q E s := by
  rw [exec_Assign_Name_used _ _ _ _ swap]
  exact wpAny_bind (wpAny_standAt (wpAny_bind (wpAny_bind (wpAny_mono (comp_use (Q := fun _ => Q .next) (some (assign (.Name y py) env)) ok set one (f.imp fun _ _ _ a => a.mono fun _ _ _ _ _ _ _ _ g _ => wpAny_assign_Name g)) (fun _ _ q => wpAny_pure (wpAny_pure q)) fun _ _ e => e))))
end
/-- a comprehension whose target is a name: the turn begins with the name bound -/
noncomputable def CompAt (prog : Program) (w : World) (A : Around) (env : Env) (scope : Scope) (cl : List (Str × Addr)) (x : Str) (ifs : List Expr) (elt : Expr) (_h₁ : Heap) (Q' : Addr → Addr → Heap → Nat → Prop) (it : Value) (s₂ : Shared) : Prop :=
  scope.names.lookup x = some .local → scope.kind = .function → ∀ px, CompAtG prog w A env scope cl (.Name x px) elt ifs (fun _ => Q') it s₂
section
variable {prog : Program} {w : World} {A : Around} {E : Value → Shared → Prop} {s : Shared} {env : Env} {elt iter : Expr} {x : Str} {px pos : Pos} {ifs : List Expr} {scope : Scope} {cl : List (Str × Addr)}
theorem eval_comp {Q : Value → Shared → Prop} (ok : CompOk env scope cl) (hx : scope.names.lookup x = some .local)
    (f : First prog w A iter env E (fun h₁ it s₂ => CompAt prog w A env scope cl x ifs elt h₁ (fun D C h tk => ∀ h', Heap.SameBut C h h' → Q (.ref D) { s₂ with heap := h', toks := tk }) it s₂) s)
    (set : ∀ x, foldedSetIterable iter env x = pure x := by intro _; rfl) (one : ifs.length ≤ 1 := by exact Nat.le_of_ble_eq_true rfl) : wpAny (model prog w) A (eval (.ListComp elt [⟨.Name x px, iter, ifs, 0⟩] scope pos) env) Q E s :=
  eval_compG ok (f.imp fun _ _ _ a => a hx ok.kind px) set one
theorem assign_comp {y : Str} {py spos : Pos} {Q : Flow → Shared → Prop} (swap : swapsWith (.ListComp elt [⟨.Name x px, iter, ifs, 0⟩] scope pos) (some (.Name y py)) spos.line env = pure true) (ok : CompOk env scope cl) (hx : scope.names.lookup x = some .local)
    (f : First prog w A iter env E (fun h₁ it s₂ => CompAt prog w A env scope cl x ifs elt h₁ (Kept prog w A env y E Q s₂) it s₂) s)
    (set : ∀ x, foldedSetIterable iter env x = pure x := by intro _; rfl) (one : ifs.length ≤ 1 := by exact Nat.le_of_ble_eq_true rfl) : wpAny (model prog w) A (exec (.Assign [.Name y py] (.ListComp elt [⟨.Name x px, iter, ifs, 0⟩] scope pos) spos) env) Q E s :=
  assign_compG swap ok (f.imp fun _ _ _ a => a hx ok.kind px) set one
end
section
variable {prog : Program} {w : World} {A : Around} {E : Value → Shared → Prop} {s : Shared} {env : Env} {scope : Scope} {cl : List (Str × Addr)} {x : Str} {ifs : List Expr} {elt : Expr}
theorem comp_push {σ : Type} {fp : List Addr} {n : Nat} {Pv : Nat → Value → Prop} {St : Nat → Heap → Prop} {o : Obj} {Q' : Addr → Addr → Heap → Nat → Prop}
    (W : Walks prog w A s.heap.objs.size fp [s.heap.objs.size] n Pv St) (hsz : n ≤ sizeLine) (hst : St 0 (s.heap.push o)) (hfp : ∀ b ∈ fp, b ≠ s.heap.objs.size → ∃ o, s.heap.get? b = some o)
    (hIt : ∀ i h, St i h → ∃ o, h.get? s.heap.objs.size = some o)
    (Led : σ → List (Addr × Obj)) (acc : σ → List Value) (P : Nat → σ → Prop) (c₀ : σ) (hl0 : Led c₀ = []) (ha0 : acc c₀ = []) (hp0 : P 0 c₀)
    (turn : ∀ C i v (c : σ) (u : Str → Option Value) h tk own, i < n → Pv i v → P i c → OwnOff own ((Led c).map (·.1)) → Fr s.heap C h (fun y => if y = x then some v else u y) → News s.heap C h (Led c ++ own) →
      Tests (model prog w) A ifs (compEnvC scope cl C env) (fun ok s₃ =>
        if ok = true then wpAny (model prog w) A (eval elt (compEnvC scope cl C env)) (fun y s₄ => CEnd s.heap C Led (fun c' => acc c' = acc c ++ [y] ∧ P (i + 1) c') own s s₄) (fun _ _ => False) s₃
        else CEnd s.heap C Led (fun c' => acc c' = acc c ∧ P (i + 1) c') own s s₃) (fun _ _ => False) { s with heap := h, toks := tk })
    (done : ∀ D C (c : σ) m h tk nn, P n c → Fr s.heap C h m → News s.heap C h ((D, PySem.W.listOf (acc c).toArray nn) :: Led c) → Q' D C h tk) :
    CompAt prog w A env scope cl x ifs elt s.heap Q' (.ref s.heap.objs.size) { s with heap := s.heap.push o } := by
  intro hx hkind px
  have hne : ∀ b ∈ fp, b < s.heap.objs.size ∨ b = s.heap.objs.size := fun b hb => by
    by_cases hb' : b = s.heap.objs.size
    · exact .inr hb'
    · first | refine ex1_1 (hfp b hb hb') fun o' ho' => ?_ | refine ex0_2 (hfp b hb hb') fun o' ho' => ?_ | obtain ⟨o', ho'⟩ := hfp b hb hb'
      exact .inl (Heap.lt_size ho')
  have hsz' : (s.heap.push o).objs.size = s.heap.objs.size + 1 := Heap.size_push ..
  refine .mk σ s.heap s.heap.objs.size fp [s.heap.objs.size] [s.heap.objs.size] n _ _ St Led acc P c₀ rfl (PySem.W.KTurns.ofWalks W fun _ _ _ _ _ _ hQ => wpAny_pure hQ) hsz hst (fun s' Q E' st hQ => W.self 0 s' Q E' st hQ) (fun b hb => ?_) (fun b hb => hb) (fun b hb => ?_) (fun b hb => ?_) (fun i h st b hb => ?_)
    (fun b o' e => Heap.get?_push_of_some _ e) (by rw [hsz']; exact Nat.le_succ _) (by rw [hl0]; exact fun _ h => nomatch h) ha0 hp0 (fun C i v c u h tk own hi hPv hP ho F N => ?_) fun D C c m h tk nn hP F N _ => done D C c m h tk nn hP F N
  · show b < (s.heap.push o).objs.size
    rw [hsz']
    exact (hne b hb).elim (fun h => Nat.lt_succ_of_lt h) fun h => h ▸ Nat.lt_succ_self _
  · by_cases hb' : b = s.heap.objs.size
    · exact .inl (List.mem_singleton.mpr hb')
    · exact .inr (hfp b hb hb')
  · rw [List.mem_singleton.mp hb]
    exact ⟨by show _ < (s.heap.push o).objs.size; rw [hsz']; exact Nat.lt_succ_self _, Heap.get?_none_of_le (Nat.le_refl _)⟩
  · rw [List.mem_singleton.mp hb]; exact hIt i h st
  · exact wpAny_assign_Name (wpAny_storeName_local (lookup_relabel_local hx) F.ns (fun h₃ hn₃ hs₃ => turn C i v c u h₃ _ own hi hPv hP ho (F.set hn₃ hs₃) (N.set hs₃)) (by simp [compEnvC, relabel, hkind]))
theorem comp_list {σ : Type} {l : Addr} {items : Array Value} {X : Shared → Addr → Addr → Heap → Nat → Prop}
    (hh : A.handled = none) (hl : s.heap.IsList l items) (hsz : items.size ≤ sizeLine)
    (Led : σ → List (Addr × Obj)) (acc : σ → List Value) (P : Nat → σ → Prop) (c₀ : σ) (hl0 : Led c₀ = []) (ha0 : acc c₀ = []) (hp0 : P 0 c₀)
    (turn : ∀ C i v (c : σ) (u : Str → Option Value) h tk own, items[i]? = some v → P i c → OwnOff own ((Led c).map (·.1)) → Fr s.heap C h (fun y => if y = x then some v else u y) → News s.heap C h (Led c ++ own) →
      Tests (model prog w) A ifs (compEnvC scope cl C env) (fun ok s₃ =>
        if ok = true then wpAny (model prog w) A (eval elt (compEnvC scope cl C env)) (fun y s₄ => CEnd s.heap C Led (fun c' => acc c' = acc c ++ [y] ∧ P (i + 1) c') own s s₄) (fun _ _ => False) s₃
        else CEnd s.heap C Led (fun c' => acc c' = acc c ∧ P (i + 1) c') own s s₃) (fun _ _ => False) { s with heap := h, toks := tk })
    (done : ∀ h₂ D C (c : σ) m h tk nn, P items.size c → Fr s.heap C h m → News s.heap C h ((D, PySem.W.listOf (acc c).toArray nn) :: Led c) → X { s with heap := h₂ } D C h tk) :
    wpAny (model prog w) A (pyIter (.ref l)) (fun it s₂ => CompAt prog w A env scope cl x ifs elt s.heap (X s₂) it s₂) E s := by
  first | refine ex2_1 (id hl) fun ol hol _ => ?_ | refine ex1_2 (id hl) fun ol hol _ => ?_ | refine ex0_3 (id hl) fun ol hol _ => ?_ | obtain ⟨ol, hol, _⟩ := id hl
  have hne : l ≠ s.heap.objs.size := Nat.ne_of_lt (Heap.lt_size hol)
  refine wpAny_pyIter_list hl ?_
  refine comp_push (Walks.list hh s.heap.objs.size l hne items) hsz ⟨⟨_, Heap.get?_push_size _ rfl, rfl, rfl⟩, hl.at fun o e => Heap.get?_push_of_some _ e⟩ (fun b hb hbI => ?_) (fun i h st => ?_) Led acc P c₀ hl0 ha0 hp0 (fun C i v c u h tk own _ hv => turn C i v c u h tk own hv) (done _)
  · rcases List.mem_cons.mp hb with e | hb
    · exact absurd e hbI
    · rw [List.mem_singleton.mp hb]; exact ⟨ol, hol⟩
  · obtain ⟨⟨o, ho, _⟩, _⟩ := st
    exact ⟨o, ho⟩
theorem comp_tuple {σ : Type} {l : Addr} {items : Array Value} {X : Shared → Addr → Addr → Heap → Nat → Prop}
    (hh : A.handled = none) (hl : s.heap.IsTuple l items) (hsz : items.size ≤ sizeLine)
    (Led : σ → List (Addr × Obj)) (acc : σ → List Value) (P : Nat → σ → Prop) (c₀ : σ) (hl0 : Led c₀ = []) (ha0 : acc c₀ = []) (hp0 : P 0 c₀)
    (turn : ∀ C i v (c : σ) (u : Str → Option Value) h tk own, items[i]? = some v → P i c → OwnOff own ((Led c).map (·.1)) → Fr s.heap C h (fun y => if y = x then some v else u y) → News s.heap C h (Led c ++ own) →
      Tests (model prog w) A ifs (compEnvC scope cl C env) (fun ok s₃ =>
        if ok = true then wpAny (model prog w) A (eval elt (compEnvC scope cl C env)) (fun y s₄ => CEnd s.heap C Led (fun c' => acc c' = acc c ++ [y] ∧ P (i + 1) c') own s s₄) (fun _ _ => False) s₃
        else CEnd s.heap C Led (fun c' => acc c' = acc c ∧ P (i + 1) c') own s s₃) (fun _ _ => False) { s with heap := h, toks := tk })
    (done : ∀ h₂ D C (c : σ) m h tk nn, P items.size c → Fr s.heap C h m → News s.heap C h ((D, PySem.W.listOf (acc c).toArray nn) :: Led c) → X { s with heap := h₂ } D C h tk) :
    wpAny (model prog w) A (pyIter (.ref l)) (fun it s₂ => CompAt prog w A env scope cl x ifs elt s.heap (X s₂) it s₂) E s := by
  first | refine ex2_1 (id hl) fun ol hol _ => ?_ | refine ex1_2 (id hl) fun ol hol _ => ?_ | refine ex0_3 (id hl) fun ol hol _ => ?_ | obtain ⟨ol, hol, _⟩ := id hl
  have hne : l ≠ s.heap.objs.size := Nat.ne_of_lt (Heap.lt_size hol)
  refine wpAny_pyIter_tuple hl ?_
  refine comp_push (Walks.tuple hh s.heap.objs.size l hne items) hsz ⟨⟨_, Heap.get?_push_size _ rfl, rfl, rfl⟩, let ⟨o, ho, r⟩ := hl; ⟨o, Heap.get?_push_of_some _ ho, r⟩⟩ (fun b hb hbI => ?_) (fun i h st => ?_) Led acc P c₀ hl0 ha0 hp0 (fun C i v c u h tk own _ hv => turn C i v c u h tk own hv) (done _)
  · rcases List.mem_cons.mp hb with e | hb
    · exact absurd e hbI
    · rw [List.mem_singleton.mp hb]; exact ⟨ol, hol⟩
  · obtain ⟨⟨o, ho, _⟩, _⟩ := st
    exact ⟨o, ho⟩
theorem comp_str {σ : Type} {y : Str} {t : Tok} {X : Shared → Addr → Addr → Heap → Nat → Prop}
    (hh : A.handled = none) (hsz : y.cps.size ≤ sizeLine)
    (Led : σ → List (Addr × Obj)) (acc : σ → List Value) (P : Nat → σ → Prop) (c₀ : σ) (hl0 : Led c₀ = []) (ha0 : acc c₀ = []) (hp0 : P 0 c₀)
    (turn : ∀ C i v (c : σ) (u : Str → Option Value) h tk own, SignAt y i v → P i c → OwnOff own ((Led c).map (·.1)) → Fr s.heap C h (fun y => if y = x then some v else u y) → News s.heap C h (Led c ++ own) →
      Tests (model prog w) A ifs (compEnvC scope cl C env) (fun ok s₃ =>
        if ok = true then wpAny (model prog w) A (eval elt (compEnvC scope cl C env)) (fun y s₄ => CEnd s.heap C Led (fun c' => acc c' = acc c ++ [y] ∧ P (i + 1) c') own s s₄) (fun _ _ => False) s₃
        else CEnd s.heap C Led (fun c' => acc c' = acc c ∧ P (i + 1) c') own s s₃) (fun _ _ => False) { s with heap := h, toks := tk })
    (done : ∀ h₂ D C (c : σ) m h tk nn, P y.cps.size c → Fr s.heap C h m → News s.heap C h ((D, PySem.W.listOf (acc c).toArray nn) :: Led c) → X { s with heap := h₂ } D C h tk) :
    wpAny (model prog w) A (pyIter (.str y t)) (fun it s₂ => CompAt prog w A env scope cl x ifs elt s.heap (X s₂) it s₂) E s := by
  have key : ∀ (ty : String) (W : Walks prog w A s.heap.objs.size [s.heap.objs.size] [s.heap.objs.size] y.cps.size (SignAt y) (fun i h => h.IsStrIter s.heap.objs.size ty y t i)),
      CompAt prog w A env scope cl x ifs elt s.heap (X { s with heap := s.heap.push { cls := .type ty, data := .fields #[.str y t, .int 0 0] } }) (.ref s.heap.objs.size) { s with heap := s.heap.push { cls := .type ty, data := .fields #[.str y t, .int 0 0] } } := fun ty W => by
    refine comp_push W hsz ⟨_, Heap.get?_push_size _ rfl, rfl, rfl⟩ (fun b hb hbI => absurd (List.mem_singleton.mp hb) hbI) (fun i h st => ?_) Led acc P c₀ hl0 ha0 hp0 (fun C i v c u h tk own _ hv => turn C i v c u h tk own hv) (done _)
    first | refine ex2_1 st fun o ho _ => ?_ | refine ex1_2 st fun o ho _ => ?_ | refine ex0_3 st fun o ho _ => ?_ | obtain ⟨o, ho, _⟩ := st
    try clear st
    exact ⟨o, ho⟩
  cases ha : y.cps.all (· < 128)
  · exact wpAny_pyIter_wide ha (key _ (Walks.strWide hh _ y t))
  · exact wpAny_pyIter_ascii ha (key _ (Walks.strAscii hh _ y t))
end
section
variable {M : Model} {A : Around} {E : Value → Shared → Prop} {s : Shared} {env : Env} {h₁ : Heap} {L c : Addr} {m : Str → Option Value} {x : Str} {pos : Pos} {v : Value} {Q : Value → Shared → Prop}
theorem ev_loc (F : Fr h₁ env.locals s.heap m) (hv : m x = some v) (h : Q v s) (hk : env.scope.kind = .function) (hl : env.kindOf x = some .local) (hd : (x == ("__debug__" : Str)) = false) : wpAny M A (eval (.Name x pos) env) Q E s :=
  wpAny_Name (wpAny_loadName_local hk hl F.ns hv h) hd
theorem ev_cell (F : Fr h₁ L s.heap m) (hc : env.cells.lookup x = some c) (hv : h₁.IsCell c (some v)) (h : Q v s) (hk : env.scope.kind = .function) (hl : env.kindOf x = some .cell) (hd : (x == ("__debug__" : Str)) = false) : wpAny M A (eval (.Name x pos) env) Q E s :=
  wpAny_Name (wpAny_loadName_cell hk hl hc (hv.keeps F.keep) h) hd
theorem ev_glob {mg : Str → Option Value} (F : Fr h₁ L s.heap m) (hg : h₁.Ns mainGlobals mg) (he : env.globals = mainGlobals) (hb : mg x = some v) (h : Q v s) (hk : env.scope.kind = .function) (hl : env.kindOf x = some .globalImplicit) (hd : (x == ("__debug__" : Str)) = false) : wpAny M A (eval (.Name x pos) env) Q E s :=
  Calls.Name_function_global hk hl (Calls.loadGlobal_global (by rw [he]; exact hg.keeps F.keep) hb h) hd
end
theorem News.isListX {h₀ h : Heap} {L a : Addr} {its : Array Value} {n : Nat} {news : List (Addr × Obj)} (N : News h₀ L h news) (hm : (a, PySem.W.listOf its n) ∈ news) : h.IsList a its := ⟨_, (N _ hm).1, rfl, n, rfl⟩
section
variable {h₀ h₁ h h' : Heap} {L C : Addr} {m m₂ : Str → Option Value} {news news₂ : List (Addr × Obj)}
theorem up_fr (F : Fr h₀ L h₁ m) (F₂ : Fr h₁ C h m₂) : Fr h₀ L h m := F.after F₂.keep
theorem up_news (F : Fr h₀ L h₁ m) (N : News h₀ L h₁ news) (F₂ : Fr h₁ C h m₂) (N₂ : News h₁ C h news₂) : News h₀ L h (news₂ ++ news) := fun p hp => by
  rcases List.mem_append.mp hp with hp | hp
  · refine ⟨(N₂ p hp).1, ?_, ?_⟩
    · rintro e
      first | refine ex3_2 F.ns fun o _ _ ho _ => ?_ | refine ex2_3 F.ns fun o _ _ ho _ => ?_ | refine ex0_5 F.ns fun o _ _ ho _ => ?_ | obtain ⟨o, _, _, ho, _⟩ := F.ns
      have := (N₂ p hp).2.2
      rw [e, ho] at this; cases this
    · cases e : h₀.get? p.1 with
      | none => rfl
      | some o => have := F.keep _ _ e; rw [(N₂ p hp).2.2] at this; cases this
  · exact ⟨F₂.keep _ _ (N p hp).1, (N p hp).2⟩
theorem same_fr (F : Fr h₀ L h₁ m) (hC : h₁.objs.size ≤ C) (F₃ : Fr h₀ L h m₂) (hs : Heap.SameBut C h h') : Fr h₀ L h' m₂ :=
  ⟨F₃.ns.sameBut hs (Nat.ne_of_lt (Nat.lt_of_lt_of_le F.ns.lt hC)), fun b o e => (hs.2 b (Nat.ne_of_lt (Nat.lt_of_lt_of_le (Heap.lt_size (F.keep b o e)) hC))).trans (F₃.keep b o e), F₃.above⟩
end
section
variable {M : Model} {A : Around} {E : Value → Shared → Prop} {s : Shared} {env : Env} {h₀ h₁ : Heap} {C D : Addr} {m m₂ : Str → Option Value} {news news₂ : List (Addr × Obj)} {x : Str}
theorem comp_store {Q : Shared → Prop} (F : Fr h₀ env.locals h₁ m) (N : News h₀ env.locals h₁ news) (F₂ : Fr h₁ C s.heap m₂) (N₂ : News h₁ C s.heap news₂)
    (hl : env.kindOf x = some .local) (hp : (env.scope.kind == .class || (env.scope.kind == .module && env.locals != env.globals)) = false)
    (h : ∀ h' , Fr h₀ env.locals h' (fun y => if y = x then some (.ref D) else m y) → News h₀ env.locals h' (news₂ ++ news) → Q { s with heap := h', toks := s.toks + 1 }) :
    wpAny M A (storeName env x (.ref D)) (fun _ s'' => ∃ m, s''.heap.Ns C m ∧ ∀ h'', Heap.SameBut C s''.heap h'' → Q { s'' with heap := h'' }) E s := by
  have F₃ := up_fr F F₂
  have N₃ := up_news F N F₂ N₂
  have hLC : env.locals ≠ C := Nat.ne_of_lt (Nat.lt_of_lt_of_le F.ns.lt F₂.above)
  refine wpAny_storeName_local hl F₃.ns (fun h' hn hs => ?_) hp
  refine ⟨m₂, F₂.ns.sameBut hs (Ne.symm hLC), fun h'' hs'' => h h'' (same_fr F F₂.above (F₃.set hn hs) hs'') fun p hp => ?_⟩
  refine ⟨(hs''.2 p.1 ?_).trans (N₃.set hs p hp).1, (N₃ p hp).2⟩
  rcases List.mem_append.mp hp with hp | hp
  · exact (N₂ p hp).2.1
  · exact Nat.ne_of_lt (Nat.lt_of_lt_of_le (Heap.lt_size (N p hp).1) F₂.above)
/-- the same where the comprehension is a value -/
theorem comp_value {h h'' : Heap} (F : Fr h₀ L h₁ m) (N : News h₀ L h₁ news) (F₂ : Fr h₁ C h m₂) (N₂ : News h₁ C h news₂) (hs'' : Heap.SameBut C h h'') : Fr h₀ L h'' m ∧ News h₀ L h'' (news₂ ++ news) := by
  have F₃ := up_fr F F₂
  have N₃ := up_news F N F₂ N₂
  refine ⟨same_fr F F₂.above F₃ hs'', fun p hp => ⟨(hs''.2 p.1 ?_).trans (N₃ p hp).1, (N₃ p hp).2⟩⟩
  rcases List.mem_append.mp hp with hp | hp
  · exact (N₂ p hp).2.1
  · exact Nat.ne_of_lt (Nat.lt_of_lt_of_le (Heap.lt_size (N p hp).1) F₂.above)
end
theorem StrsAre.snoc {vs : List Value} {ss : List Str} {x : Str} {t : Tok} (h : StrsAre vs ss) : StrsAre (vs ++ [.str x t]) (ss ++ [x]) := by
  induction h with
  | nil => exact StrsAre.cons _ _ StrsAre.nil
  | cons y u _ ih => exact StrsAre.cons y u ih
theorem take_snoc {α : Type} {l : List α} {i : Nat} {a : α} (h : l[i]? = some a) : l.take (i + 1) = l.take i ++ [a] := by rw [List.take_add_one, h]; rfl
noncomputable def joinL (sep : List Nat) : List (List Nat) → List Nat
  | [] => []
  | [x] => x
  | x :: y :: r => x ++ sep ++ joinL sep (y :: r)
theorem join_sOf (sep : List Nat) : ∀ ls : List (List Nat), Str.join (sOf sep) (ls.map sOf) = sOf (joinL sep ls)
  | [] => rfl
  | [x] => rfl
  | x :: y :: r => by
    have ih := join_sOf sep (y :: r)
    simp only [List.map_cons] at ih ⊢
    rw [Str.join, joinL, ih, sOf_append, sOf_append]
    simp
noncomputable abbrev SAre (vs : List Value) (ls : List (List Nat)) : Prop := StrsAre vs (ls.map sOf)
noncomputable def tot (ls : List (List Nat)) : Nat := (ls.map fun l => l.length + 1).sum
theorem tot_nil : tot [] = 0 := rfl
theorem tot_cons (l : List Nat) (ls : List (List Nat)) : tot (l :: ls) = l.length + 1 + tot ls := by simp [tot]
theorem tot_append (a b : List (List Nat)) : tot (a ++ b) = tot a + tot b := by simp [tot]
theorem tot_map_sum (ls : List (List Nat)) : ((ls.map sOf).map (·.length)).sum + ls.length = tot ls := by
  induction ls with
  | nil => rfl
  | cons l r ih => rw [tot_cons]; simp only [List.map_cons, List.sum_cons, List.length_cons, sOf_len] at *; (walk_at "om")
section
variable {prog : Program} {w : World} {A : Around} {E : Value → Shared → Prop} {s : Shared}
theorem join_my {D : Addr} {items : Array Value} {sep : List Nat} {ls : List (List Nat)} {t : Tok} {Q : Value → Shared → Prop} (hl : s.heap.IsList D items) (hi : SAre items.toList ls) (ht : tot ls ≤ 100000) (hsep : sep.length ≤ 16)
    (h : ∀ t' tk, Q (.str (sOf (joinL sep ls)) t') { s with toks := tk }) : wpAny (model prog w) A (call (.builtin "str.join") [.str (sOf sep) t, .ref D]) Q E s := by
  have hs := tot_map_sum ls
  refine join_listW hl hi (by rw [sOf_len]; exact hsep) (by rw [List.length_map]; (walk_at "om")) fun t' tk => ?_
  have e : Txt.join (sOf sep) (ls.map sOf) = sOf (joinL sep ls) := by rw [eq_of_beq (join_closes (ys := ls.map sOf) rfl), join_sOf]
  rw [e]
  exact h t' tk
end
theorem val_str {x y : Str} {t : Tok} (h : x = y) : Value.str x t = Value.str y t := by rw [h]
theorem val_sOf {x y : List Nat} {t : Tok} (h : x = y) : Value.str (sOf x) t = Value.str (sOf y) t := by rw [h]
theorem at_sOf {x y : List Nat} {t : Tok} (h : x = y) : some (Value.str (sOf x) t) = some (Value.str (sOf y) t) := by rw [h]
noncomputable def msk (c : Nat) : List Nat := if c = 42 ∨ c = 91 then [91, c, 93] else [c]
theorem msk_other {c : Nat} (h : (!(Builtin.Str.occurrences (sOf [42, 91]) ⟨#[c]⟩ 0 (sOf [42, 91]).length 1).isEmpty) = false) : msk c = [c] := by
  rw [StrLaws.found_one] at h
  have h' : ¬ (c = 42 ∨ c = 91) := by simpa using h
  unfold msk; rw [if_neg h']
theorem msk_in {c : Nat} (h : (!(Builtin.Str.occurrences (sOf [42, 91]) ⟨#[c]⟩ 0 (sOf [42, 91]).length 1).isEmpty) = true) : msk c = [91, c, 93] := by
  rw [StrLaws.found_one] at h
  have h' : (c = 42 ∨ c = 91) := by simpa using h
  unfold msk; rw [if_pos h']
theorem msk_len1 (c : Nat) : (msk c).length ≤ 3 := by unfold msk; split <;> simp
theorem msk_len (r : List Nat) : (r.flatMap msk).length ≤ 3 * r.length := by
  induction r with
  | nil => simp
  | cons c r ih => have := msk_len1 c; simp only [List.flatMap_cons, List.length_append, List.length_cons]; (walk_at "om")
theorem msk_tot (r : List Nat) : tot (r.map msk) ≤ 4 * r.length := by
  induction r with
  | nil => simp [tot]
  | cons c r ih => have := msk_len1 c; simp only [List.map_cons, tot_cons, List.length_cons]; (walk_at "om")
theorem joinL_nil : ∀ ls : List (List Nat), joinL [] ls = ls.flatten
  | [] => rfl
  | [x] => by simp [joinL]
  | x :: y :: r => by rw [joinL, joinL_nil (y :: r)]; simp
theorem law_mask {w : World} (l : List Nat) (hl : l.length ≤ 200) (ta : Tok) : Fun w 3 222 [.str (sOf l) ta] tt0 (fun _ v _ => ∃ t r, stemS (sOf l) = sOf r ∧ v = .str (sOf (r.flatMap msk ++ [47, 42])) t) := by
  intro mean mg mb dp un fr gd hq0 gq0 dq0 tq0 oq0 Q E X T hpre hdp hun ret
  refine wpAny_call ?_
  refine' enter (binds := [(Str.ofString "spot", .str (sOf l) ta)]) X T ?ho ⟨?hcd, ?h1, ?h2, ?h3⟩ ?hroom ?h4 ?hbind ?hloc ?_
  case ho => k_is
  case hcd => k_is
  case hroom => exact om18 hdp
  case hbind => exact BindsTo.of_eq rfl
  case hloc => exact locs rfl
  case h1 => exact rfl
  case h2 => exact rfl
  case h3 => exact rfl
  case h4 => decide
  intro L h₁ F N
  dsimp only [BodyOf, List.reverse_cons, List.reverse_nil, List.nil_append, List.cons_append, List.length_cons, List.length_nil] at F ⊢
  k_fold
  obtain ⟨r, hr, hrl⟩ : ∃ r, stemS (sOf l) = sOf r ∧ r.length ≤ 200 := by
    unfold stemS; split
    · exact ⟨[], rfl, by simp⟩
    · exact ⟨l, rfl, hl⟩
  walk_at "my steps"
  refine assign_comp (cl := []) (by rfl) ⟨by rfl, by decide, rfl, by decide⟩ (by decide) ?_
  walk_at "my steps"
  rw [hr]
  refine comp_str (σ := List Value) rfl (by rw [sizeLine_eq]; simp; (walk_at "om")) (fun _ => []) id (fun i acc => SAre acc ((r.take i).map msk)) [] rfl rfl StrsAre.nil ?_ ?_
  · intro C i v c u h tk own q9 hP hoff F₂ N₂
    first | refine ex2_2 q9 fun ch tv hch e90 => ?_ | refine ex1_3 q9 fun ch tv hch e90 => ?_ | obtain ⟨ch, tv, hch, e90⟩ := q9
    subst e90
    try clear q9
    refine tests_nil ?_
    simp only [if_true]
    walk_at "my steps"
    · rename_i hh
      refine cend (c ++ [_]) (by assumption) N₂ (fun _ h => nomatch h) (fun p hp => hp) hoff ⟨rfl, ?_⟩
      rw [take_snoc (a := ch) (by simpa using hch), List.map_append, SAre, List.map_append]
      have e : msk ch = [ch] := msk_other (by rw [hh]; rfl)
      simp only [List.map_cons, List.map_nil, e]
      exact StrsAre.snoc hP
    · rename_i hh t' tk' tt2 tk2
      refine cend (c ++ [_]) (by assumption) N₂ (fun _ h => nomatch h) (fun p hp => hp) hoff ⟨rfl, ?_⟩
      rw [take_snoc (a := ch) (by simpa using hch), List.map_append, SAre, List.map_append]
      have e : msk ch = [91, ch, 93] := msk_in (by rw [hh]; rfl)
      simp only [List.map_cons, List.map_nil, e]
      exact StrsAre.snoc hP
  intro h₂ D C c m h tk nn hP F₂ N₂
  refine comp_store (by assumption) (by assumption) F₂ N₂ rfl rfl ?_
  intro h' F₃ N₃
  have hP : SAre c (r.map msk) := by simpa using hP
  have ht : tot (r.map msk) ≤ 100000 := Nat.le_trans (msk_tot r) (by (walk_at "om"))
  have hj : (joinL [] (r.map msk)).length ≤ 1000 := by rw [joinL_nil, ← List.flatMap_def]; exact Nat.le_trans (msk_len r) (by (walk_at "om"))
  dsimp only [id, List.append_nil] at N₃
  walk_at "my steps"
  exact ret _ _ _ (Fr.keep F₃) ⟨_, r, hr, val_sOf (by rw [joinL_nil, ← List.flatMap_def])⟩
section
variable {prog : Program} {w : World} {A : Around} {E : Value → Shared → Prop} {s : Shared} {f : Int → Option Value} {c d : Nat}
theorem look_missing {D : Addr} {Q : Builtin.Str.Mapped → Shared → Prop} (hd : (D == sysModules) = false) (hh : A.handled = none) (hm : s.heap.MapOf (intKind prog w) D f) (hv : f c = none)
    (h : ∀ h' tk, Keeps s.heap h' → Q .keep { s with heap := h', toks := tk }) : wpAny (model prog w) A (Builtin.Str.tableLookup (.ref D) c) Q E s := by
  unfold Builtin.Str.tableLookup
  refine wpAny_bind (wpAny_attempt (wpAny_bind ?_))
  show wpAny _ _ (mkInt (c : Int)) _ _ s
  refine wpAny_mkInt ?_
  refine wpAny_getItem_missing_of (k := (c : Int)) (by simp [intKind, Value.isInt]) hd hh hm hv fun h' e he => ?_
  first | refine ex3_2 he.there fun ob t ho hc _ => ?_ | refine ex2_3 he.there fun ob t ho hc _ => ?_ | refine ex0_5 he.there fun ob t ho hc _ => ?_ | obtain ⟨ob, t, ho, hc, _⟩ := he.there
  refine wpAny_bind (wpAny_isInstance (T := "KeyError") (b := true) ⟨ob, ho, hc⟩ (by kernel_rfl) ?_)
  simp only [if_true]
  exact wpAny_bind (wpAny_rule (wpAny_pure (h _ _ he.keeps)))
theorem look_found {D : Addr} {y : Str} {t : Tok} {Q : Builtin.Str.Mapped → Shared → Prop} (hm : s.heap.MapOf (intKind prog w) D f) (hv : f c = some (.str y t))
    (h : ∀ tk, Q (.text y) { s with toks := tk }) : wpAny (model prog w) A (Builtin.Str.tableLookup (.ref D) c) Q E s := by
  unfold Builtin.Str.tableLookup
  refine wpAny_bind (wpAny_attempt (wpAny_bind ?_))
  show wpAny _ _ (mkInt (c : Int)) _ _ s
  refine wpAny_mkInt ?_
  refine wpAny_getItem_of (k := (c : Int)) (by simp [intKind, Value.isInt]) hm hv ?_
  refine wpAny_bind (wpAny_of_eq (a := none) (by rfl) ?_)
  dsimp only
  refine wpAny_bind (wpAny_of_eq (a := some y) (by rfl) ?_)
  exact wpAny_pure (h _)
end
theorem forIn_one {M : Model} {A : Around} {E : Value → Shared → Prop} {s : Shared} {β : Type} {f : Nat → β → Sem (ForInStep β)} {Q : β → Shared → Prop} {xs : Array Nat} {c : Nat} {b0 : β} (hx : xs.toList = [c])
    (h : wpAny M A (f c b0) (fun r s' => ∃ b, r = .yield b ∧ Q b s') E s) : wpAny M A (forIn xs b0 f) Q E s :=
  forIn_array_ f (fun rest b s' => (rest = [c] ∧ b = b0 ∧ s' = s) ∨ (rest = [] ∧ Q b s')) Q
    (fun x rest b s' hI => hI.elim (fun ⟨e1, e2, e3⟩ => by
      first | refine ex1_1 (List.cons.inj e1) fun e90 e91 => ?_ | refine ex0_2 (List.cons.inj e1) fun e90 e91 => ?_ | obtain ⟨e90, e91⟩ := List.cons.inj e1
      subst e90
      subst e91
      subst e2 e3
      exact wpAny_mono h (fun r s2 ⟨b, e, q⟩ => by subst e; exact .inr ⟨rfl, q⟩) fun _ _ x => x) fun ⟨e1, _⟩ => nomatch e1)
    (fun b s' hI => hI.elim (fun ⟨e1, _⟩ => nomatch e1) fun ⟨_, q⟩ => q) xs b0 (.inl ⟨hx, rfl, rfl⟩)
section
variable {prog : Program} {w : World} {A : Around} {E : Value → Shared → Prop} {s : Shared} {f : Int → Option Value} {c d : Nat}
theorem tr_missing {D : Addr} {t : Tok} {Q : Value → Shared → Prop} (hd : (D == sysModules) = false) (hh : A.handled = none) (hm : s.heap.MapOf (intKind prog w) D f) (hv : f c = none) (hc : c < 128)
    (h : ∀ h' tt tk, Keeps s.heap h' → Q (.str (sOf [c]) tt) { s with heap := h', toks := tk }) : wpAny (model prog w) A (call (.builtin "str.translate") [.str (sOf [c]) t, .ref D]) Q E s := by
  refine wpAny_call_entry F.slot_str_translate (typeIs_str _ _ _) F.entry_str_translate ?_ (F.args_str_translate_2 _ _)
  unfold Builtin.«str.translate»
  refine wpAny_bind (wpAny_of_eq (a := (.str (sOf [c]) t, sOf [c], .ref D)) (by rfl) ?_)
  dsimp only
  refine wpAny_ite ?_
  rw [if_neg (by simp [Str.length])]
  have hall : (sOf [c]).cps.all (fun x => decide (x < 128)) = true := by simp [hc]
  rw [hall]
  refine wpAny_bind (forIn_one rfl ?_)
  have ht : Builtin.Str.tooLong 0 = false := by decide
  simp only [ht, Bool.false_eq_true, if_false, if_true, List.lookup_nil]
  refine wpAny_bind (look_missing (A := A.in1) hd hh hm hv fun h' tk hk => ?_)
  refine wpAny_bind (wpAny_pure (wpAny_pure ⟨_, rfl, ?_⟩))
  show wpAny _ _ (mkStr (sOf [c]) >>= fun v => ret v) _ _ _
  exact wpAny_bind (wpAny_mkStr (wpAny_pure ⟨_, rfl, h _ _ _ hk⟩) (by rw [sOf_len, sizeLine_eq]; simp))
theorem tr_found {D : Addr} {t ty : Tok} {a b : Nat} {Q : Value → Shared → Prop} (hm : s.heap.MapOf (intKind prog w) D f) (hv : f c = some (.str (sOf [a, b]) ty)) (hc : c < 128)
    (h : ∀ tt tk, Q (.str (sOf [a, b]) tt) { s with toks := tk }) : wpAny (model prog w) A (call (.builtin "str.translate") [.str (sOf [c]) t, .ref D]) Q E s := by
  refine wpAny_call_entry F.slot_str_translate (typeIs_str _ _ _) F.entry_str_translate ?_ (F.args_str_translate_2 _ _)
  unfold Builtin.«str.translate»
  refine wpAny_bind (wpAny_of_eq (a := (.str (sOf [c]) t, sOf [c], .ref D)) (by rfl) ?_)
  dsimp only
  refine wpAny_ite ?_
  rw [if_neg (by simp [Str.length])]
  have hall : (sOf [c]).cps.all (fun x => decide (x < 128)) = true := by simp [hc]
  rw [hall]
  refine wpAny_bind (forIn_one rfl ?_)
  have ht : Builtin.Str.tooLong 0 = false := by decide
  simp only [ht, Bool.false_eq_true, if_false, if_true, List.lookup_nil]
  refine wpAny_bind (look_found (A := A.in1) hm hv fun tk => ?_)
  refine wpAny_bind (wpAny_pure ?_)
  show wpAny _ _ (do rule "str.translate.fast-road-left"; _) _ _ _
  refine wpAny_bind (wpAny_rule ?_)
  refine wpAny_bind (look_found (s := { s with toks := tk }) (A := A.in1) hm hv fun tk => ?_)
  refine wpAny_pure ⟨_, rfl, ?_⟩
  show wpAny _ _ (mkStr (sOf [a, b]) >>= fun v => ret v) _ _ _
  exact wpAny_bind (wpAny_mkStr (wpAny_pure ⟨_, rfl, h _ _⟩) (by rw [sOf_len, sizeLine_eq]; simp))
end
noncomputable def intKeyed (e : DictEntry) : Bool := match e.key with | .int k _ => e.hash == hashInt k | _ => false
theorem mapI {prog : Program} {w : World} {K : Frag} {h : Heap} {a : Addr} {es : Array DictEntry} {n : Nat} (X : K.In h) (hl : K.lookup a = some ⟨.type "dict", none, .dict es n, #[]⟩) (hk : es.all intKeyed = true) :
    h.MapOf (intKind prog w) a (fun k => findBy Value.isInt es k) := by
  refine ⟨_, es, n, X _ _ hl, ⟨rfl, rfl, rfl⟩, rfl, fun e he => ?_, fun _ => rfl⟩
  have h1 := Array.all_eq_true_iff_forall_mem.mp hk e he
  unfold intKeyed at h1
  split at h1
  · rename_i k t e1
    exact ⟨k, by rw [e1]; simp [intKind, Value.isInt], eq_of_beq h1⟩
  · cases h1
theorem map66 {prog : Program} {w : World} {h : Heap} (X : (Mine.K39.heap_1 w.params).In h) : ∃ f, h.MapOf (intKind prog w) 66 f ∧ f 97 = none ∧ f 48 = none ∧ f 47 = none ∧ ∃ t, f 45 = some (.str (sOf [92, 45]) t) := by
  refine ⟨_, mapI X (by k_is) (by decide +kernel), by decide +kernel, by decide +kernel, by decide +kernel, 416, ?_⟩
  exact (rfl : _ = some (Value.str (Str.ofString "\\-") 416)).trans (by decide +kernel)
theorem gm_translate {M : Model} {A : Around} {E : Value → Shared → Prop} {s : Shared} {x : Str} {t : Tok} {pl : Sem Bool} {Q : Value × List Value → Shared → Prop} (h : Q (.builtin "str.translate", [.str x t]) s) : wpAny M A (getMethod (.str x t) "translate" pl) Q E s := by
  with_reducible exact GM.of (.str x t) (typeIs_str _ _ _) F.slot_str_translate F.type_str_translate GM.noRef h
noncomputable def esc4 (c : Nat) : Prop := c = 97 ∨ c = 48 ∨ c = 47 ∨ c = 45
theorem tr_esc {w : World} {A : Around} {E : Value → Shared → Prop} {s : Shared} {h₁ : Heap} {L : Addr} {m : Str → Option Value} {c : Nat} {t : Tok} {Q : Value → Shared → Prop} (hc : esc4 c) (hh : A.handled = none) (X : (Mine.K39.heap_1 w.params).In h₁) (F : Fr h₁ L s.heap m)
    (h : ∀ h' tt tk, Keeps s.heap h' → Q (.str (sOf (enc c)) tt) { s with heap := h', toks := tk }) : wpAny (model PySem.Challenge.pw_rx0087_01 w) A (call (.builtin "str.translate") [.str (sOf [c]) t, .ref 66]) Q E s := by
  first | refine ex4_3 (map66 (prog := PySem.Challenge.pw_rx0087_01) (w := w) (X.keeps F.keep)) fun f hm h1 h2 h3 ty h4 => ?_ | refine ex3_4 (map66 (prog := PySem.Challenge.pw_rx0087_01) (w := w) (X.keeps F.keep)) fun f hm h1 h2 h3 ty h4 => ?_ | refine ex2_5 (map66 (prog := PySem.Challenge.pw_rx0087_01) (w := w) (X.keeps F.keep)) fun f hm h1 h2 h3 ty h4 => ?_ | obtain ⟨f, hm, h1, h2, h3, ty, h4⟩ := map66 (prog := PySem.Challenge.pw_rx0087_01) (w := w) (X.keeps F.keep)
  rcases hc with rfl | rfl | rfl | rfl
  · exact tr_missing (by decide) hh hm h1 (by decide) h
  · exact tr_missing (by decide) hh hm h2 (by decide) h
  · exact tr_missing (by decide) hh hm h3 (by decide) h
  · exact tr_found hm h4 (by decide) fun tt tk => h s.heap tt tk fun _ _ e => e
theorem escape {w : World} (c : Nat) (hc : esc4 c) (ta : Tok) : Fun w 2 76 [.str (sOf [c]) ta] tt0 (fun _ v _ => ∃ t, v = .str (sOf (enc c)) t) := by
  intro mean mg mb dp un fr gd hq0 gq0 dq0 tq0 oq0 Q E X T hpre hdp hun ret
  refine wpAny_call ?_
  refine' enter (binds := [(Str.ofString "pattern", .str (sOf [c]) ta)]) X T ?ho ⟨?hcd, ?h1, ?h2, ?h3⟩ ?hroom ?h4 ?hbind ?hloc ?_
  case ho => k_is
  case hcd => k_is
  case hroom => exact om18 hdp
  case hbind => exact BindsTo.of_eq rfl
  case hloc => exact locs rfl
  case h1 => exact rfl
  case h2 => exact rfl
  case h3 => exact rfl
  case h4 => decide
  intro L h₁ F N
  dsimp only [BodyOf, List.reverse_cons, List.reverse_nil, List.nil_append, List.cons_append, List.length_cons, List.length_nil] at F ⊢
  k_fold
  walk_at "my steps"
  refine gm_translate ?_
  walk_at "my steps"
  refine tr_esc hc rfl (by assumption) (by assumption) fun h' tt tk hk => ?_
  exact ret _ _ _ (fun b o e => hk _ _ (Fr.keep (by assumption) b o e)) ⟨_, rfl⟩
theorem Fun.useH {w : World} {k f : Nat} {vs : List Value} {P : Prop} {mk : Tok → Value} (C : P → Fun w k f vs tt0 (fun _ v _ => ∃ t, v = mk t))
    {mean : ExcName → Option Value} {mg mb : Str → Option Value} {dp un : Nat} {fr : Option (List Env)} {gd : Option (List Code)} {s : Shared} {Q E : Value → Shared → Prop} {h₀ : Heap} {L : Addr} {m : Str → Option Value} {news : List (Addr × Obj)}
    (F : Fr h₀ L s.heap m) (N : News h₀ L s.heap news) (X : (Mine.K39.heap_1 w.params).In h₀) (T : TopV mean mg mb h₀) (hp : P) (hd : dp + k < recursionLimit) (hu : un + 10 * k < cLine)
    (ret : ∀ t h' tk', Fr h₀ L h' m → News h₀ L h' news → Q (mk t) { s with heap := h', toks := tk' }) :
    wpAny (model PySem.Challenge.pw_rx0087_01 w) (Ar dp un fr gd) (call (.ref f) vs) Q E s := (C hp).useX F N X T trivial hd hu ret
noncomputable abbrev boundB (id : String) (a : Addr) : Obj := ⟨.type "builtin_function_or_method", none, .fields #[.builtin id, .ref a], #[]⟩
theorem keeps0 {h₀ h : Heap} {news : List (Addr × Obj)} (D : PySem.W.X.Mem h₀ h [] news) : Keeps h₀ h := fun b o e => D.keep b o e (by simp [PySem.W.X.away])
theorem closeAttr {h₀ h : Heap} {q a : Addr} {id' : String} {o' : Obj} {G : Prop} (id : String) (D : PySem.W.X.Mem h₀ h [] [(q, o')]) (e' : o' = boundB id' a) (e : id' = id) (k : Keeps h₀ h → h₀.get? q = none → h.get? q = some (boundB id a) → G) : G :=
  k (keeps0 D) (D.nw _ (.head _)).2 (by rw [← e, ← e']; exact (D.nw _ (.head _)).1)
local macro_rules | `(tactic| x_close) => `(tactic| (rename PySem.W.X.Mem _ _ _ _ => kD; refine closeAttr "list.append" kD rfl (by kernel_rfl) ?_; intro k1 k2 k3; solve_by_elim))
theorem attr_append0 {w : World} {dp un : Nat} {fr : Option (List Env)} {gd : Option (List Code)} {Q E : Value → Shared → Prop} (h : Heap) (g : Array GenState) (d : Drawn) (t : Nat) (os : OsState) (tk : Tok) (a : Addr) (its : Array Value) (n : Nat)
   (ha : h.get? a = some ⟨.type "list", none, .seq its n, #[]⟩) (hq : ∀ h' t' q, Keeps h h' → h.get? q = none → h'.get? q = some (boundB "list.append" a) → Q (.ref q) ⟨h', g, d, t', os⟩) :
   wpAny (model PySem.Challenge.pw_rx0087_01 w) (Ar dp un fr gd) (call (.builtin "list.__getattribute__") [.ref a, .str (Str.ofString "append") tk]) Q E ⟨h, g, d, t, os⟩ := by
  x_run
theorem attr_append {w : World} {dp un : Nat} {fr : Option (List Env)} {gd : Option (List Code)} {Q E : Value → Shared → Prop} {s : Shared} {ex : Bool} {a : Addr} {its : Array Value} {n : Nat}
   (ha : s.heap.get? a = some ⟨.type "list", none, .seq its n, #[]⟩) (hq : ∀ h' t' q, Keeps s.heap h' → s.heap.get? q = none → h'.get? q = some (boundB "list.append" a) → Q (.ref q) { s with heap := h', toks := t' }) :
   wpAny (model PySem.Challenge.pw_rx0087_01 w) (Ar dp un fr gd) (getAttr (.ref a) (Str.ofString "append") ex) Q E s := by
  unfold getAttr
  refine wpAny_bind ?_
  unfold mkText
  refine wpAny_bind (wpAny_fresh (wpAny_pure ?_))
  unfold getAttrBy
  refine wpAny_holding (wpAny_bind (wpAny_typeOf (T := "list") ⟨_, ha, rfl⟩ ?_))
  refine wpAny_bind (wpAny_of_eq (a := some (.builtin "list.__getattribute__")) F.slot_list_getattribute.lookup ?_)
  dsimp only
  refine wpAny_ite ?_
  rw [if_neg (by decide)]
  unfold getAttrByItsOwn
  refine wpAny_bind (wpAny_of_eq (a := none) (by rfl) ?_)
  refine wpAny_bind (wpAny_attempt (wpAny_holding ?_))
  unfold callGetattribute
  refine wpAny_ite ?_
  rw [if_neg (by cases ex <;> decide)]
  unfold boundAndCalled
  refine wpAny_bind (wpAny_of_eq (a := (.builtin "list.__getattribute__", [.ref a])) (F.slot_list_getattribute.bind _) ?_)
  exact attr_append0 s.heap s.gens s.drawn _ s.os _ a its n ha fun h' t' q h1 h2 h3 => wpAny_pure (hq h' t' q h1 h2 h3)
section
variable {prog : Program} {w : World} {A : Around} {E : Value → Shared → Prop} {s : Shared}
theorem call_bound_append {q l : Addr} {items : Array Value} {n : Nat} {x : Value} {Q : Value → Shared → Prop} (ho : s.heap.get? q = some (boundB "list.append" l)) (hl : s.heap.get? l = some (PySem.W.listOf items n)) (hsz : items.size ≤ sizeLine)
    (hQ : ∀ h', h'.get? l = some (PySem.W.listOf (items.push x) (n + 1)) → Heap.SameBut l s.heap h' → Q .none { s with heap := h' }) : wpAny (model prog w) A (call (.ref q) [x]) Q E s := by
  refine wpAny_call (codeAny_of_tree ?_)
  show wpAny _ _ (callAny (.ref q) _) _ _ _
  unfold callAny
  refine wpAny_bind (wpAny_load ho ?_)
  dsimp only
  refine wpAny_ite ?_
  rw [if_pos (by decide)]
  show wpAny _ _ (do checkBoundCall "list.append" _; again _) _ _ _
  refine wpAny_bind ?_
  unfold checkBoundCall
  have hs : Manifest.signature? "list.append" = some ⟨.oneArg, "list.append", "append", .self, [⟨"object", .posOnly, true⟩]⟩ := by
    rw [signature?_of (id := "list.append") (n := ['d', 'n', 'e', 'p', 'p', 'a']) (o := ['t', 's', 'i', 'l']) (by kernel_rfl) F.owner_list]; kernel_rfl
  have hb : builtinKind "list.append" = some .method := by kernel_rfl
  rw [hs, hb]
  dsimp only
  refine wpAny_ite ?_
  rw [if_neg (by decide)]
  refine wpAny_bind (wpAny_isInstance (T := "list") (b := false) ⟨_, hl, rfl⟩ (by kernel_rfl) ?_)
  refine wpAny_ite ?_
  rw [if_neg (by decide)]
  refine wpAny_bind ?_
  show wpAny _ _ (do return match (← loadHead l).data with | .cls _ => true | _ => false) _ _ _
  unfold loadHead
  refine wpAny_bind (wpAny_loadPart hl ?_)
  refine wpAny_pure ?_
  refine wpAny_ite ?_
  simp only [Bool.false_eq_true, if_false]
  refine wpAny_bind (wpAny_typeOf (T := "list") ⟨_, hl, rfl⟩ ?_)
  dsimp only
  refine wpAny_of_eq (a := ()) (by kernel_rfl) ?_
  refine wpAny_pure ⟨by kernel_rfl, ?_⟩
  refine codeAny_builtin entry_list_append ?_
  show wpAny _ _ (updateSeq l (·.push x) >>= fun _ => ret .none) _ _ s
  refine wpAny_bind ?_
  refine wpAny_updateSeq hl rfl (wpAny_pure (hQ _ ((Heap.get?_update_self _ hl rfl).trans (by simp [Obj.mapSeq, PySem.W.listOf])) (Heap.SameBut.update ..)))
end
section
variable {M : Model} {A : Around} {E : Value → Shared → Prop} {s : Shared} {env : Env} {pos : Pos} {Q : Value → Shared → Prop}
/-- a bound built-in, held by a name of the ledger, called with one plain argument -/
theorem bound_call {h₀ : Heap} {L : Addr} {news : List (Addr × Obj)} {q l : Addr} {id : String} {e : Expr} (_led : News h₀ L s.heap news) (_held : (q, boundB id l) ∈ news)
    (arg : wpAny M A (spliced (backTo pos (starEach [e] env))) (fun vs s₁ => s₁.heap.get? q = some (boundB id l) ∧ wpAny M A (call (.ref q) vs) Q E s₁) E s) (one : starEach [e] env = [(false, eval e env)] := by rfl) :
    wpAny M A (callWith pos (.ref q) [] (backTo pos (starEach [e] env)) []) Q E s := by
  rw [one] at arg ⊢
  exact callWith_of (P := fun h => h.get? q = some (boundB id l)) (first := []) rfl (fun _ o => ⟨.machine, .inr (.inl rfl), (Looks.ld (part := none) o).andThen .now⟩) (evalArgs_plain arg)
end
section
variable {prog : Program} {w : World} {A : Around} {E : Value → Shared → Prop} {s : Shared} {h₀ : Heap} {L : Addr} {m : Str → Option Value} {news : List (Addr × Obj)}
theorem bound_append_N {q l : Addr} {items : Array Value} {n : Nat} {x : Value} {Q : Value → Shared → Prop} (F : Fr h₀ L s.heap m) (N : News h₀ L s.heap news) (hq : (q, boundB "list.append" l) ∈ news) (hl : (l, PySem.W.listOf items n) ∈ news) (hsz : items.size ≤ sizeLine)
    (hQ : ∀ h', Fr h₀ L h' m → News h₀ L h' [(q, boundB "list.append" l), (l, PySem.W.listOf (items.push x) (n + 1))] → Q .none { s with heap := h' }) : wpAny (model prog w) A (call (.ref q) [x]) Q E s := by
  have hql : q ≠ l := fun e => by
    have h1 := (N _ hq).1
    have h2 := (N _ hl).1
    dsimp only at h1 h2
    rw [e, h2] at h1
    exact absurd (congrArg Obj.data (Option.some.inj h1)) (fun h => nomatch h)
  refine call_bound_append (N _ hq).1 (N _ hl).1 hsz fun h' h1 hs => hQ h' ⟨F.ns.sameBut hs (Ne.symm (N _ hl).2.1), fun b o e => (hs.2 b (by rintro rfl; have := (N _ hl).2.2; rw [this] at e; cases e)).trans (F.keep b o e), F.above⟩ fun p hp => ?_
  rcases List.mem_cons.mp hp with rfl | hp
  · exact ⟨(hs.2 _ hql).trans (N _ hq).1, (N _ hq).2⟩
  · rw [List.mem_singleton.mp hp]; exact ⟨h1, (N _ hl).2⟩
theorem attr_append_N {dp un : Nat} {fr : Option (List Env)} {gd : Option (List Code)} {a : Addr} {its : Array Value} {n : Nat} {ex : Bool} {Q : Value → Shared → Prop} (F : Fr h₀ L s.heap m) (N : News h₀ L s.heap news) (ha : (a, PySem.W.listOf its n) ∈ news)
    (hQ : ∀ h' t' q, Fr h₀ L h' m → News h₀ L h' [(q, boundB "list.append" a), (a, PySem.W.listOf its n)] → Q (.ref q) { s with heap := h', toks := t' }) :
    wpAny (model PySem.Challenge.pw_rx0087_01 w) (Ar dp un fr gd) (getAttr (.ref a) (Str.ofString "append") ex) Q E s := by
  refine attr_append (N _ ha).1 fun h' t' q hk hn hb => hQ h' t' q (F.after hk) fun p hp => ?_
  rcases List.mem_cons.mp hp with rfl | hp
  · refine ⟨hb, ?_, ?_⟩
    · rintro e
      first | refine ex3_2 F.ns fun o _ _ ho _ => ?_ | refine ex2_3 F.ns fun o _ _ ho _ => ?_ | refine ex0_5 F.ns fun o _ _ ho _ => ?_ | obtain ⟨o, _, _, ho, _⟩ := F.ns
      dsimp only at e
      rw [e, ho] at hn; cases hn
    · cases e : h₀.get? q with
      | none => rfl
      | some o => have := F.keep _ _ e; rw [hn] at this; cases this
  · rw [List.mem_singleton.mp hp]; exact ⟨hk _ _ (N _ ha).1, (N _ ha).2⟩
end
section
variable {prog : Program} {w : World} {A : Around} {E : Value → Shared → Prop} {s : Shared} {h₀ : Heap} {L : Addr} {m : Str → Option Value} {news : List (Addr × Obj)} {env : Env} {pos : Pos}
theorem bound_append_L {q l : Addr} {vs : List Value} {n : Nat} {x : Value} {Q : Value → Shared → Prop} (F : Fr h₀ L s.heap m) (N : News h₀ L s.heap news) (hq : (q, boundB "list.append" l) ∈ news) (hl : (l, PySem.W.listOf vs.toArray n) ∈ news) (hsz : vs.length < 1000000)
    (hQ : ∀ h', Fr h₀ L h' m → News h₀ L h' [(q, boundB "list.append" l), (l, PySem.W.listOf (vs ++ [x]).toArray (n + 1))] → Q .none { s with heap := h' }) : wpAny (model prog w) A (call (.ref q) [x]) Q E s :=
  bound_append_N F N hq hl (by rw [List.size_toArray, sizeLine_eq]; (walk_at "om")) (by rw [List.push_toArray]; exact hQ)
end
theorem reg_j_4 : True := by
  (k_with "getAttr ref" => (k_here; (with_reducible show wpAny _ _ (getAttr (Value.ref _) (PySem.Str.ofString "append") _) _ _ _); (with_reducible rename Fr _ _ _ _ => kF); (with_reducible rename News _ _ _ _ => kN); refine' attr_append_N kF kN ?ha ?_; (case ha => k_mem); intro _ _ _ _ _))
  (k_with "callWith ref" => (k_here; (with_reducible rename News _ _ _ _ => kN); refine' bound_call kN ?hq ?_; (case hq => k_mem)))
  (k_with "call ref" => (k_here; (with_reducible rename Fr _ _ _ _ => kF); (with_reducible rename News _ _ _ _ => kN); refine' bound_append_L kF kN ?hq ?hl ?hs ?_; (case hq => k_mem); (case hl => k_mem); (case hs => ((try simp only [List.length_append, List.length_cons, List.length_nil]); (walk_at "om"))); intro _ _ _))
  trivial
section
variable {prog : Program} {w : World} {A : Around} {E : Value → Shared → Prop} {s : Shared} {h₀ : Heap} {L : Addr} {news : List (Addr × Obj)}
theorem truthy_L {l : Addr} {vs : List Value} {n : Nat} {Q : Bool → Shared → Prop} (N : News h₀ L s.heap news) (hl : (l, PySem.W.listOf vs.toArray n) ∈ news) (hsz : vs.length < 1000000) (h : Q (!vs.isEmpty) { s with toks := s.toks + 1 + 1 }) : wpAny (model prog w) A (truthy (.ref l)) Q E s :=
  wpAny_truthy_list (News.isListX N hl) (by simp; (walk_at "om")) (by simpa using h)
end
theorem fnext2 {σ : Type} {h₀ : Heap} {L : Addr} {Led : σ → List (Addr × Obj)} {ps : σ → List (Str × Value)} {stored : List Str} {m₀ : Str → Option Value} {P : σ → Prop} {own : List (Addr × Obj)} {s : Shared} {h' : Heap} {tk : Nat} {m' : Str → Option Value} {news' : List (Addr × Obj)} {Q : Flow → Shared → Prop}
    (F : Fr h₀ L h' m') (N : News h₀ L h' news') (h : ∃ c', (∀ p ∈ Led c', p ∈ news') ∧ (∀ p ∈ own, p ∈ news') ∧ AllAt m' (ps c') ∧ Stays (ps c') stored m₀ m' ∧ P c') :
    FPost h₀ L Led ps stored m₀ P own s Q .next { s with heap := h', toks := tk } := by
  first | refine ex3_3 h fun c' h1 h2 h3 h4 h5 => ?_ | refine ex1_5 h fun c' h1 h2 h3 h4 h5 => ?_ | refine ex0_6 h fun c' h1 h2 h3 h4 h5 => ?_ | obtain ⟨c', h1, h2, h3, h4, h5⟩ := h
  try clear h
  exact fnext c' F N h1 h2 h3 h4 h5
theorem fcont2 {σ : Type} {h₀ : Heap} {L : Addr} {Led : σ → List (Addr × Obj)} {ps : σ → List (Str × Value)} {stored : List Str} {m₀ : Str → Option Value} {P : σ → Prop} {own : List (Addr × Obj)} {s : Shared} {h' : Heap} {tk : Nat} {m' : Str → Option Value} {news' : List (Addr × Obj)} {Q : Flow → Shared → Prop}
    (F : Fr h₀ L h' m') (N : News h₀ L h' news') (h : ∃ c', (∀ p ∈ Led c', p ∈ news') ∧ (∀ p ∈ own, p ∈ news') ∧ AllAt m' (ps c') ∧ Stays (ps c') stored m₀ m' ∧ P c') :
    FPost h₀ L Led ps stored m₀ P own s Q .cont { s with heap := h', toks := tk } := by
  first | refine ex3_3 h fun c' h1 h2 h3 h4 h5 => ?_ | refine ex1_5 h fun c' h1 h2 h3 h4 h5 => ?_ | refine ex0_6 h fun c' h1 h2 h3 h4 h5 => ?_ | obtain ⟨c', h1, h2, h3, h4, h5⟩ := h
  try clear h
  exact fcont c' F N h1 h2 h3 h4 h5
theorem no_own {news : List (Addr × Obj)} : ∀ p ∈ ([] : List (Addr × Obj)), p ∈ news := fun _ h => nomatch h
theorem sare_snoc {vs : List Value} {ls : List (List Nat)} {l : List Nat} {t : Tok} (h : SAre vs ls) : SAre (vs ++ [.str (sOf l) t]) (ls ++ [l]) := by
  unfold SAre; rw [List.map_append]; exact StrsAre.snoc h
theorem boundAt {h₀ h : Heap} {L q l : Addr} {id : String} {news : List (Addr × Obj)} (N : News h₀ L h news) (hq : (q, boundB id l) ∈ news) : h.get? q = some (boundB id l) := (N _ hq).1
theorem rep42 {w : World} {dp un : Nat} {fr : Option (List Env)} {gd : Option (List Code)} {Q E : Value → Shared → Prop} (h : Heap) (g : Array GenState) (d : Drawn) (t : Nat) (os : OsState) (t1 t2 t3 : Tok)
   (hq : ∀ t' tk, Q (.str (sOf [42]) t') ⟨h, g, d, tk, os⟩) :
   wpAny (model PySem.Challenge.pw_rx0087_01 w) (Ar dp un fr gd) (call (.builtin "str.replace") [.str (sOf [42]) t1, .str (sOf [92]) t2, .str (sOf [92, 92]) t3]) Q E ⟨h, g, d, t, os⟩ := by
  x_run
theorem rep91 {w : World} {dp un : Nat} {fr : Option (List Env)} {gd : Option (List Code)} {Q E : Value → Shared → Prop} (h : Heap) (g : Array GenState) (d : Drawn) (t : Nat) (os : OsState) (t1 t2 t3 : Tok)
   (hq : ∀ t' tk, Q (.str (sOf [91]) t') ⟨h, g, d, tk, os⟩) :
   wpAny (model PySem.Challenge.pw_rx0087_01 w) (Ar dp un fr gd) (call (.builtin "str.replace") [.str (sOf [91]) t1, .str (sOf [92]) t2, .str (sOf [92, 92]) t3]) Q E ⟨h, g, d, t, os⟩ := by
  x_run
local macro_rules | `(tactic| x_close) => `(tactic| (solve_by_elim [keeps0]))
theorem resub42 {w : World} {dp un : Nat} {fr : Option (List Env)} {gd : Option (List Code)} {Q E : Value → Shared → Prop} (h : Heap) (g : Array GenState) (d : Drawn) (t : Nat) (os : OsState) (t1 : Tok) (lam : Addr) (dl : Data)
   (X : (Mine.K39.heap_1 w.params).In h) (hlam : h.get? lam = some ⟨.type "function", none, dl, #[]⟩) (hq : ∀ h' t' tk, Keeps h h' → Q (.str (sOf [42]) t') ⟨h', g, d, tk, os⟩) :
   wpAny (model PySem.Challenge.pw_rx0087_01 w) (Ar dp un fr gd) (call (.builtin "re.Pattern.sub") [.ref 57, .ref lam, .str (sOf [42]) t1]) Q E ⟨h, g, d, t, os⟩ := by
  x_run
theorem resub91 {w : World} {dp un : Nat} {fr : Option (List Env)} {gd : Option (List Code)} {Q E : Value → Shared → Prop} (h : Heap) (g : Array GenState) (d : Drawn) (t : Nat) (os : OsState) (t1 : Tok) (lam : Addr) (dl : Data)
   (X : (Mine.K39.heap_1 w.params).In h) (hlam : h.get? lam = some ⟨.type "function", none, dl, #[]⟩) (hq : ∀ h' t' tk, Keeps h h' → Q (.str (sOf [91]) t') ⟨h', g, d, tk, os⟩) :
   wpAny (model PySem.Challenge.pw_rx0087_01 w) (Ar dp un fr gd) (call (.builtin "re.Pattern.sub") [.ref 57, .ref lam, .str (sOf [91]) t1]) Q E ⟨h, g, d, t, os⟩ := by
  x_run
theorem slot_pat_sub : Slot "re.Pattern" "sub" "re.Pattern.sub" :=
  .of (owner := "re.Pattern") (n := "sub") (by rw [typeLookup_type, builtinLookup_eq_fast]; kernel_rfl) (by decide +kernel) (by decide +kernel) (by decide +kernel)
    (by first | exact .inl (by decide +kernel) | exact .inr (by decide +kernel)) (by rw [isSubtype_type]; kernel_rfl)
theorem type_pat_sub : typeOf (.builtin "re.Pattern.sub") = pure (.type "method_descriptor") := by show builtinType _ = _; rw [builtinType_eq_fast]; kernel_rfl
theorem plainAttrs_pat : PlainAttrs "re.Pattern" :=
  ⟨⟨"object.__getattribute__", by rw [typeLookup_type, builtinLookup_eq_fast]; kernel_rfl, by decide +kernel⟩, by rw [typeLookup_type, builtinLookup_eq_fast]; kernel_rfl⟩
theorem gm_sub {w : World} {M : Model} {A : Around} {E : Value → Shared → Prop} {s : Shared} {h₁ : Heap} {L : Addr} {m : Str → Option Value} {pl : Sem Bool} {Q : Value × List Value → Shared → Prop} (X : (Mine.K39.heap_1 w.params).In h₁) (F : Fr h₁ L s.heap m)
    (h : Q (.builtin "re.Pattern.sub", [.ref 57]) s) : wpAny M A (getMethod (.ref 57) (Str.ofString "sub") pl) Q E s := by
  have h57 := F.keep _ _ (X 57 _ (by k_is))
  refine getMethod_builtin (T := "re.Pattern") ⟨_, h57, rfl⟩ plainAttrs_pat slot_pat_sub type_pat_sub (fun a e => ?_) h
  cases e
  exact ⟨_, h57, rfl⟩
/-- the base of a frame whose code's table grows (address 78: the table of the code of _translate) -/
noncomputable def gh (h : Heap) : Heap := hideAll h [78]
theorem gh_get {h : Heap} {b : Addr} {o : Obj} (e : h.get? b = some o) (hb : b ≠ 78) : (gh h).get? b = some o := hideAll_get _ e (by simpa using hb)
theorem of_gh {h : Heap} {b : Addr} {o : Obj} (e : (gh h).get? b = some o) : h.get? b = some o := of_hideAll _ e
theorem gh_none {h : Heap} : (gh h).get? 78 = none := hideAll_none _ (by simp)
theorem gh_size (h : Heap) : (gh h).objs.size = h.objs.size := hideAll_size _ _
theorem gh_none_of {h : Heap} {b : Addr} (e : h.get? b = none) : (gh h).get? b = none := by
  cases q : (gh h).get? b with
  | none => rfl
  | some o => rw [of_gh q] at e; cases e
theorem gh_ns {h : Heap} {a : Addr} {m : Str → Option Value} {ps : Array Value} (ht : h.get? 78 = some (tabObj ps)) (x : h.Ns a m) : (gh h).Ns a m := by
  first | refine ex3_3 x fun o es ep e hd r => ?_ | refine ex1_5 x fun o es ep e hd r => ?_ | refine ex0_6 x fun o es ep e hd r => ?_ | obtain ⟨o, es, ep, e, hd, r⟩ := x
  try clear x
  refine ⟨o, es, ep, gh_get e ?_, hd, r⟩
  rintro rfl
  rw [ht] at e; cases e; cases hd
theorem gh_K {w : World} {h : Heap} (X : (Mine.K39.heap_1 w.params).In h) : (Mine.K39.heap_1 w.params).In (gh h) := fun a o e => by
  refine gh_get (X a o e) ?_
  rintro rfl
  have : (Mine.K39.heap_1 w.params).lookup 78 = none := by rfl
  rw [this] at e; cases e
theorem gh_top {mean : ExcName → Option Value} {mg mb : Str → Option Value} {h : Heap} {ps : Array Value} (ht : h.get? 78 = some (tabObj ps)) (T : TopV mean mg mb h) : TopV mean mg mb (gh h) := by
  have cls : ∀ {a : Addr} {o : Obj}, h.get? a = some o → o.cls ≠ .none → (gh h).get? a = some o := fun {a o} e c => gh_get e fun q => by
    subst q
    exact c (congrArg Obj.cls (Option.some.inj (e.symm.trans ht)))
  obtain ⟨g, b, ⟨m1, l1, r1⟩, ⟨m2, l2, r2⟩, _, _, _, free, names, _, ⟨bm, ob, e1, e2, e3, e4, r3⟩, _⟩ := T
  refine ⟨gh_ns ht g, gh_ns ht b, ⟨m1, gh_ns ht l1, r1⟩, ⟨m2, gh_ns ht l2, r2⟩, ?_, ?_, ?_, free, names, ?_, ⟨bm, ob, e1, e2, cls e3 ?_, e4, r3⟩, ?_⟩
  · exact fun _ q => nomatch q
  · exact fun _ q => nomatch q
  · exact fun _ _ q => nomatch q
  · exact fun _ q => nomatch q
  · rw [e4]; exact fun q => nomatch q
  · exact fun q => nomatch q
theorem gh_fr {h₀ h : Heap} {L : Addr} {m : Str → Option Value} (F : Fr h₀ L h m) : Fr (gh h₀) L h m := ⟨F.ns, fun b o e => F.keep b o (of_gh e), by rw [gh_size]; exact F.above⟩
theorem gh_news {h₀ h : Heap} {L : Addr} {m : Str → Option Value} {ps : Array Value} (ht : h₀.get? 78 = some (tabObj ps)) (F : Fr h₀ L h m) : News (gh h₀) L h [(78, tabObj ps)] := fun p hp => by
  rw [List.mem_singleton.mp hp]
  exact ⟨F.keep _ _ ht, Nat.ne_of_lt (Nat.lt_of_lt_of_le (Heap.lt_size ht) F.above), gh_none⟩
/-- the table is empty, or holds the one lambda's code -/
noncomputable def TabOk (ps : Array Value) : Prop := ps = #[] ∨ ∃ c, ps = #[rawInt 71, rawInt 39, .ref c]
noncomputable def FunT (w : World) (k : Nat) (f : Addr) (vs : List Value) (pre : Heap → Prop) (post : Heap → Value → Heap → Prop) : Prop :=
  ∀ (mean : ExcName → Option Value) (mg mb : Str → Option Value) (dp un : Nat) (fr : Option (List Env)) (gd : Option (List Code)) (hs : Heap) (gs : Array GenState) (ds : Drawn) (ts : Nat) (os : OsState) (Q E : Value → Shared → Prop) (ps : Array Value),
    (Mine.K39.heap_1 w.params).In hs → TopV mean mg mb hs → hs.get? 78 = some (tabObj ps) → TabOk ps → pre hs → dp + k < recursionLimit → un + 10 * k < cLine →
    (∀ v h' tk' ps', Keeps (gh hs) h' → h'.get? 78 = some (tabObj ps') → TabOk ps' → post hs v h' → Q v ⟨h', gs, ds, tk', os⟩) →
    wpAny (model PySem.Challenge.pw_rx0087_01 w) (Ar dp un fr gd) (call (.ref f) vs) Q E ⟨hs, gs, ds, ts, os⟩
section
variable {prog : Program} {w : World} {A : Around} {E : Value → Shared → Prop} {s : Shared} {h₀ : Heap} {L : Addr} {m : Str → Option Value} {news : List (Addr × Obj)}
theorem bound_append_T {q l P : Addr} {vs : List Value} {ps : Array Value} {n : Nat} {x : Value} {Q : Value → Shared → Prop} (F : Fr h₀ L s.heap m) (N : News h₀ L s.heap news) (hq : (q, boundB "list.append" l) ∈ news) (hl : (l, PySem.W.listOf vs.toArray n) ∈ news) (hT : (P, tabObj ps) ∈ news) (hsz : vs.length < 1000000)
    (hQ : ∀ h', Fr h₀ L h' m → News h₀ L h' [(q, boundB "list.append" l), (l, PySem.W.listOf (vs ++ [x]).toArray (n + 1)), (P, tabObj ps)] → Q .none { s with heap := h' }) : wpAny (model prog w) A (call (.ref q) [x]) Q E s := by
  have hql : q ≠ l := fun e => by
    have h1 := (N _ hq).1
    have h2 := (N _ hl).1
    dsimp only at h1 h2
    rw [e, h2] at h1
    exact absurd (congrArg Obj.data (Option.some.inj h1)) (fun h => nomatch h)
  have hPl : P ≠ l := fun e => by
    have h1 := (N _ hT).1
    have h2 := (N _ hl).1
    dsimp only at h1 h2
    rw [e, h2] at h1
    exact absurd (congrArg Obj.data (Option.some.inj h1)) (fun h => nomatch h)
  refine call_bound_append (N _ hq).1 (N _ hl).1 (by rw [List.size_toArray, sizeLine_eq]; (walk_at "om")) fun h' h1 hs => hQ h' ⟨F.ns.sameBut hs (Ne.symm (N _ hl).2.1), fun b o e => (hs.2 b (by rintro rfl; have := (N _ hl).2.2; rw [this] at e; cases e)).trans (F.keep b o e), F.above⟩ fun p hp => ?_
  rw [List.push_toArray] at h1
  rcases List.mem_cons.mp hp with rfl | hp
  · exact ⟨(hs.2 _ hql).trans (N _ hq).1, (N _ hq).2⟩
  · rcases List.mem_cons.mp hp with rfl | hp
    · exact ⟨h1, (N _ hl).2⟩
    · rw [List.mem_singleton.mp hp]
      exact ⟨(hs.2 _ hPl).trans (N _ hT).1, (N _ hT).2⟩
theorem attr_append_T {dp un : Nat} {fr : Option (List Env)} {gd : Option (List Code)} {a P : Addr} {its ps : Array Value} {n : Nat} {ex : Bool} {Q : Value → Shared → Prop} (F : Fr h₀ L s.heap m) (N : News h₀ L s.heap news) (ha : (a, PySem.W.listOf its n) ∈ news) (hT : (P, tabObj ps) ∈ news)
    (hQ : ∀ h' t' q, Fr h₀ L h' m → News h₀ L h' [(q, boundB "list.append" a), (a, PySem.W.listOf its n), (P, tabObj ps)] → Q (.ref q) { s with heap := h', toks := t' }) :
    wpAny (model PySem.Challenge.pw_rx0087_01 w) (Ar dp un fr gd) (getAttr (.ref a) (Str.ofString "append") ex) Q E s := by
  refine attr_append (N _ ha).1 fun h' t' q hk hn hb => hQ h' t' q (F.after hk) fun p hp => ?_
  rcases List.mem_cons.mp hp with rfl | hp
  · refine ⟨hb, ?_, ?_⟩
    · rintro e
      first | refine ex3_2 F.ns fun o _ _ ho _ => ?_ | refine ex2_3 F.ns fun o _ _ ho _ => ?_ | refine ex0_5 F.ns fun o _ _ ho _ => ?_ | obtain ⟨o, _, _, ho, _⟩ := F.ns
      dsimp only at e
      rw [e, ho] at hn; cases hn
    · cases e : h₀.get? q with
      | none => rfl
      | some o => have := F.keep _ _ e; rw [hn] at this; cases this
  · rcases List.mem_cons.mp hp with rfl | hp
    · exact ⟨hk _ _ (N _ ha).1, (N _ ha).2⟩
    · rw [List.mem_singleton.mp hp]; exact ⟨hk _ _ (N _ hT).1, (N _ hT).2⟩
end
theorem hd82 {w : World} {h : Heap} (X : (Mine.K39.heap_1 w.params).In h) : CodeHd h 82 78 := codeHd_of_K X (by kernel_rfl)
theorem closeLam {name qual : Str} {params : Arguments} {body : Expr} {scope : Scope} {clos : List (Str × Addr)} {pm : Value} {c' : Addr} {ctv : Value} : kla_obj name qual params body scope clos pm c' ctv = ⟨.type "function", none, (kla_obj name qual params body scope clos pm c' ctv).data, #[]⟩ := rfl
section
variable {M : Model} {A : Around} {E : Value → Shared → Prop} {s : Shared} {h₀ : Heap} {L a q l : Addr} {m mg mb : Str → Option Value} {cn : Str} {cs : Scope} {news : List (Addr × Obj)} {mean : ExcName → Option Value} {w : World}
  {params : Arguments} {body : Expr} {scope : Scope} {ps : Array Value} {vs : List Value} {n : Nat}
/-- the lambda of _translate: the first time its code goes to the table, then it is found there; the function itself is dropped -/
theorem lam_T {pos : Pos} {Q : Value → Shared → Prop} (F : Fr h₀ L s.heap m) (N : News h₀ L s.heap news) (X : (Mine.K39.heap_1 w.params).In h₀) (T : TopV mean mg mb h₀) (hq : (q, boundB "list.append" l) ∈ news) (hl : (l, PySem.W.listOf vs.toArray n) ∈ news) (hT : (78, tabObj ps) ∈ news) (hok : TabOk ps)
    (hdef : defaultsOf params (envOf cn cs L a (.ref 82)) = ([], [])) (hcl : closureFor scope (envOf cn cs L a (.ref 82)) = pure []) (hpos : pos.line = 71 ∧ pos.col = 39)
    (h : ∀ f d h' tk ps', TabOk ps' → Fr h₀ L h' m → News h₀ L h' [(f, ⟨.type "function", none, d, #[]⟩), (q, boundB "list.append" l), (l, PySem.W.listOf vs.toArray n), (78, tabObj ps')] → Q (.ref f) { s with heap := h', toks := tk }) :
    wpAny M A (eval (.Lambda params body scope pos) (envOf cn cs L a (.ref 82))) Q E s := by
  have hq78 : q ≠ 78 := fun e => by
    have h1 := (N _ hq).1
    have h2 := (N _ hT).1
    dsimp only at h1 h2
    rw [e, h2] at h1
    exact absurd (congrArg Obj.cls (Option.some.inj h1)) (fun h => nomatch h)
  have hl78 : l ≠ 78 := fun e => by
    have h1 := (N _ hl).1
    have h2 := (N _ hT).1
    dsimp only at h1 h2
    rw [e, h2] at h1
    exact absurd (congrArg Obj.cls (Option.some.inj h1)) (fun h => nomatch h)
  have N3 : News h₀ L s.heap [(q, boundB "list.append" l), (l, PySem.W.listOf vs.toArray n), (78, tabObj ps)] := fun p hp => by
    rcases List.mem_cons.mp hp with rfl | hp
    · exact N _ hq
    · rcases List.mem_cons.mp hp with rfl | hp
      · exact N _ hl
      · rw [List.mem_singleton.mp hp]; exact N _ hT
  refine kla_eval hdef ?_
  first | refine ex1_1 hpos fun h1 h2 => ?_ | refine ex0_2 hpos fun h1 h2 => ?_ | obtain ⟨h1, h2⟩ := hpos
  try clear hpos
  rcases hok with rfl | ⟨c, rfl⟩
  · refine kla_nest (cl := []) (clos := []) F N3 T (hd82 X) rfl (.tail hq78 (.tail hl78 (.head (fun _ h => nomatch h)))) trivial rfl hcl ?_
    intro f c' oc vs' t ctv h' tk F' N' _ _ _ _
    refine h f (.func (kla_fn "<lambda>" ((envOf cn cs L a (.ref 82)).qual ++ "<lambda>") params body scope [] ((mg "__name__").getD .none) (.ref c') ctv)) h' tk (#[] ++ #[rawInt pos.line, rawInt pos.col, .ref c']) (.inr ⟨c', by rw [h1, h2]; rfl⟩) F' fun p hp => ?_
    rcases List.mem_cons.mp hp with rfl | hp
    · exact N' _ (.head _)
    · exact N' _ (.tail _ (.tail _ hp))
  · refine kla_hit (cl := []) (clos := []) (c' := c) F N3 T (hd82 X) rfl (.tail _ (.tail _ (.head _))) trivial ?_ hcl ?_
    · simp [codeAmong, rawInt, h1, h2]
    · intro f ctv h' tk F' N' _
      exact h f _ h' tk _ (.inr ⟨c, rfl⟩) F' N'
end
theorem item_plain {prog : Program} {w : World} {A : Around} {E : Value → Shared → Prop} {s : Shared} {value slice : Expr} {l : List Nat} {t u : Tok} {i : Int} {j c : Nat} {Q : Value → Shared → Prop} (hi : i = (j : Int)) (hx : l[j]? = some c) (hb : j < 1000000)
    (h : Q (.str (sOf [c]) s.toks) { s with toks := s.toks + 1 })
    (hs : subscripted slice false (.str (sOf l) t) (.int i u) = operate [.str (sOf l) t, .int i u] (getItem (.str (sOf l) t) (.int i u)) := by with_unfolding_all rfl)
    (ht : ∀ r, letTemporaryGo value (.str (sOf l) t) r = pure () := by intro _; with_unfolding_all rfl) :
    wpAny (model prog w) A (subscriptTail value slice (.str (sOf l) t) (.int i u)) Q E s :=
  item_my (e := []) (l := l) (by simp [hi]) hx (by simpa using hb) h hs ht
theorem StrsAre.last {vs : List Value} {ss : List Str} (h : StrsAre vs ss) (hne : ss ≠ []) : ∃ vs' x t, vs = vs' ++ [.str x t] := by
  induction h with
  | nil => exact absurd rfl hne
  | cons y t h ih =>
    rename_i vs ys
    cases ys with
    | nil => cases h; exact ⟨[], y, t, rfl⟩
    | cons z zs =>
      obtain ⟨vs', x, u, rfl⟩ := ih (by simp)
      exact ⟨.str y t :: vs', x, u, rfl⟩
noncomputable abbrev TSt := List Nat × Bool × List Value × Nat × Array Value × Tok
noncomputable def tLed (qq l' : Addr) (b : Addr) (c : TSt) : List (Addr × Obj) := [(qq, boundB "list.append" l'), (l', PySem.W.listOf (c.2.2.1 ++ (if c.2.1 then [Value.ref b] else [])).toArray c.2.2.2.1), (78, tabObj c.2.2.2.2.1)]
theorem led_false {qq l' b : Addr} {d : List Nat} {vs : List Value} {nn : Nat} {ps : Array Value} {ti : Tok} {news : List (Addr × Obj)} (h : ∀ p ∈ [(qq, boundB "list.append" l'), (l', PySem.W.listOf vs.toArray nn), (78, tabObj ps)], p ∈ news) : ∀ p ∈ tLed qq l' b (d, false, vs, nn, ps, ti), p ∈ news := by
  simpa [tLed] using h
theorem led_true {qq l' b : Addr} {d : List Nat} {vs : List Value} {nn : Nat} {ps : Array Value} {ti : Tok} {news : List (Addr × Obj)} (h : ∀ p ∈ [(qq, boundB "list.append" l'), (l', PySem.W.listOf (vs ++ [Value.ref b]).toArray nn), (78, tabObj ps)], p ∈ news) : ∀ p ∈ tLed qq l' b (d, true, vs, nn, ps, ti), p ∈ news := by
  simpa [tLed] using h
theorem gh_fresh {h : Heap} {b : Addr} (e : (gh h).get? b = none) (hb : b ≠ 78) : h.get? b = none := by
  cases q : h.get? b with
  | none => rfl
  | some o => rw [gh_get q hb] at e; cases e
theorem ne78 {h₀ h : Heap} {L l : Addr} {its : Array Value} {n : Nat} {ps : Array Value} {news : List (Addr × Obj)} (N : News h₀ L h news) (hl : (l, PySem.W.listOf its n) ∈ news) (hT : (78, tabObj ps) ∈ news) : l ≠ 78 := fun e => by
  have h1 := (N _ hl).1
  have h2 := (N _ hT).1
  dsimp only at h1 h2
  rw [e, h2] at h1
  exact absurd (congrArg Obj.cls (Option.some.inj h1)) (fun h => nomatch h)
theorem resub42N {w : World} {dp un : Nat} {fr : Option (List Env)} {gd : Option (List Code)} {s : Shared} {Q E : Value → Shared → Prop} {h₀ : Heap} {L lam : Addr} {m : Str → Option Value} {news : List (Addr × Obj)} {t1 : Tok} {dl : Data}
    (F : Fr h₀ L s.heap m) (N : News h₀ L s.heap ((lam, ⟨.type "function", none, dl, #[]⟩) :: news)) (X : (Mine.K39.heap_1 w.params).In h₀)
    (h : ∀ h' t' tk, Fr h₀ L h' m → News h₀ L h' ((lam, ⟨.type "function", none, dl, #[]⟩) :: news) → Q (.str (sOf [42]) t') { s with heap := h', toks := tk }) :
    wpAny (model PySem.Challenge.pw_rx0087_01 w) (Ar dp un fr gd) (call (.builtin "re.Pattern.sub") [.ref 57, .ref lam, .str (sOf [42]) t1]) Q E s :=
  resub42 s.heap s.gens s.drawn s.toks s.os t1 lam dl (X.keeps F.keep) (N _ (.head _)).1 fun h' t' tk hk => h h' t' tk (F.after hk) (News.keepsAll N hk)
theorem resub91N {w : World} {dp un : Nat} {fr : Option (List Env)} {gd : Option (List Code)} {s : Shared} {Q E : Value → Shared → Prop} {h₀ : Heap} {L lam : Addr} {m : Str → Option Value} {news : List (Addr × Obj)} {t1 : Tok} {dl : Data}
    (F : Fr h₀ L s.heap m) (N : News h₀ L s.heap ((lam, ⟨.type "function", none, dl, #[]⟩) :: news)) (X : (Mine.K39.heap_1 w.params).In h₀)
    (h : ∀ h' t' tk, Fr h₀ L h' m → News h₀ L h' ((lam, ⟨.type "function", none, dl, #[]⟩) :: news) → Q (.str (sOf [91]) t') { s with heap := h', toks := tk }) :
    wpAny (model PySem.Challenge.pw_rx0087_01 w) (Ar dp un fr gd) (call (.builtin "re.Pattern.sub") [.ref 57, .ref lam, .str (sOf [91]) t1]) Q E s :=
  resub91 s.heap s.gens s.drawn s.toks s.os t1 lam dl (X.keeps F.keep) (N _ (.head _)).1 fun h' t' tk hk => h h' t' tk (F.after hk) (News.keepsAll N hk)
theorem reg_j_5 : True := by
  (k_with "truthy ref" => (k_here; (with_reducible rename News _ _ _ _ => kN); refine' truthy_L kN ?hl ?hs ?_; (case hl => k_mem); (case hs => ((try simp only [List.length_append, List.length_cons, List.length_nil]); (walk_at "om"))); (try simp only [List.isEmpty_append, List.isEmpty_cons, Bool.and_false, Bool.not_false])))
  (k_with "subscriptTail Name UnaryOp ref int" => (k_here; (with_reducible rename News _ _ _ _ => kN); refine' item_last (News.isListX kN ?hl) ?_ ?hs ?hg; (case hl => k_mem); (case hs => with_unfolding_all rfl); (case hg => (intro _; with_unfolding_all rfl))))
  (k_with "compareOp IsNot str ref" => (k_here; refine wpAny_isNot_other (by rfl) (by intro x; cases x) ?_))
  (k_with "And" => ((with_reducible show Heap.get? _ _ = _ ∧ _); (with_reducible rename News _ _ _ _ => kN); refine' ⟨boundAt kN ?hq, ?_⟩; (case hq => with_unfolding_all k_mem); (try dsimp only)))
  (k_with "getAttr ref" => (k_here; (apply attr_append_T (P := 78)); (iterate 2 with_reducible assumption); (iterate 2 k_mem); intros))
  (k_with "call ref" => (k_here; (apply bound_append_T (P := 78)); (iterate 2 with_reducible assumption); (iterate 3 k_mem); (focus (try simp only [List.length_append, List.length_cons, List.length_nil]); (walk_at "om")); intros))
  (k_with "eval Lambda" => (k_here; (with_reducible rename Fr _ _ _ _ => kF); (with_reducible rename News _ _ _ _ => kN); (with_reducible rename Frag.In _ _ => kX); (with_reducible rename Top _ _ _ _ _ _ => kT); (with_reducible rename TabOk _ => kO); refine' lam_T kF kN kX kT ?hq ?hl ?hT kO rfl ?hc ⟨rfl, rfl⟩ ?_; (case hq => k_mem); (case hl => k_mem); (case hT => k_mem); (case hc => rfl); intro _ _ _ _ _ _ _ _))
  (k_with "getMethod ref" => (k_here; (with_reducible show wpAny _ _ (getMethod _ (PySem.Str.ofString "sub") _) _ _ _); (apply gm_sub); (iterate 2 with_reducible assumption)))
  (k_with "call builtin:str.replace" => (k_here; (first | apply rep42 | apply rep91); intros))
  (k_with "call builtin:re.Pattern.sub" => (k_here; (first | apply resub42N | apply resub91N); (iterate 3 with_reducible assumption); intros))
  (k_with "subscriptTail Name UnaryOp str int" => (k_here; refine item_plain (j := 0) rfl rfl (by (walk_at "om")) ?_))
  (k_with "subscriptTail Name Constant str int" => (k_here; refine item_plain (j := 0) rfl rfl (by (walk_at "om")) ?_))
  trivial
noncomputable def Brk (c : Nat) : Prop := (c = 42 ∨ c = 91) ∧ msk c = [91, c, 93] ∧ (sOf [c] == sOf [33]) = false ∧ (sOf [c] == sOf [93]) = false ∧ (sOf [c] != sOf [93]) = true ∧ (Builtin.Str.occurrences (sOf [c]) (sOf [45]) 0 (sOf [c]).length 1).isEmpty = true
theorem brk_of {c : Nat} (h : c = 42 ∨ c = 91) : Brk c := by
  rcases h with rfl | rfl
  · exact ⟨.inl rfl, rfl, by decide, by decide, by decide, by decide +kernel⟩
  · exact ⟨.inr rfl, rfl, by decide, by decide, by decide, by decide +kernel⟩
theorem repC {w : World} {dp un : Nat} {fr : Option (List Env)} {gd : Option (List Code)} {Q E : Value → Shared → Prop} {c : Nat} {s : Shared} {t1 t2 t3 : Tok} (hb : c = 42 ∨ c = 91)
   (hq : ∀ t' tk, Q (.str (sOf [c]) t') { s with toks := tk }) :
   wpAny (model PySem.Challenge.pw_rx0087_01 w) (Ar dp un fr gd) (call (.builtin "str.replace") [.str (sOf [c]) t1, .str (sOf [92]) t2, .str (sOf [92, 92]) t3]) Q E s := by
  rcases hb with rfl | rfl
  · exact rep42 _ _ _ _ _ _ _ _ hq
  · exact rep91 _ _ _ _ _ _ _ _ hq
theorem resubCN {w : World} {dp un : Nat} {fr : Option (List Env)} {gd : Option (List Code)} {s : Shared} {Q E : Value → Shared → Prop} {h₀ : Heap} {L lam c : Nat} {m : Str → Option Value} {news : List (Addr × Obj)} {t1 : Tok} {dl : Data}
    (hb : c = 42 ∨ c = 91) (F : Fr h₀ L s.heap m) (N : News h₀ L s.heap ((lam, ⟨.type "function", none, dl, #[]⟩) :: news)) (X : (Mine.K39.heap_1 w.params).In h₀)
    (h : ∀ h' t' tk, Fr h₀ L h' m → News h₀ L h' ((lam, ⟨.type "function", none, dl, #[]⟩) :: news) → Q (.str (sOf [c]) t') { s with heap := h', toks := tk }) :
    wpAny (model PySem.Challenge.pw_rx0087_01 w) (Ar dp un fr gd) (call (.builtin "re.Pattern.sub") [.ref 57, .ref lam, .str (sOf [c]) t1]) Q E s := by
  rcases hb with rfl | rfl
  · exact resub42N F N X h
  · exact resub91N F N X h
theorem reg_j_6 : True := by
  (k_with "call builtin:str.replace" => (k_here; apply repC; (focus assumption); intros))
  (k_with "call builtin:re.Pattern.sub" => (k_here; apply resubCN; (focus assumption); (iterate 3 with_reducible assumption); intros))
  (k_with "my steps if" => repeat' (first | (k_unfold; (try dsimp only)) | ((fail_if_success (with_reducible show wpAny _ _ (exec (Stmt.If _ _ _ _) _) _ _ _)); walk1) | fail "no step"))
  trivial
theorem translate_in {w : World} (q : List Nat) (hq : ∀ c ∈ q, good c) (hne : q ≠ []) (hl : q.length ≤ 200) (ta tq : Tok) (b : Addr) : FunT w 3 83 [.str (sOf (q.flatMap msk ++ [42])) ta, .ref b, .str (sOf [46]) tq] (fun h => ∃ o, h.get? b = some o)
   (fun h v h' => ∃ a vs nn, v = .ref a ∧ h.get? a = none ∧ h'.get? a = some (PySem.W.listOf (vs ++ [.ref b]).toArray nn) ∧ SAre vs (q.map enc)) := by
  intro mean mg mb dp un fr gd hq0 gq0 dq0 tq0 oq0 Q E ps X T hT78 hok hpre hdp hun ret
  refine wpAny_call ?_
  refine' enter (binds := [(Str.ofString "pat", .str (sOf (q.flatMap msk ++ [42])) ta), (Str.ofString "STAR", .ref b), (Str.ofString "QUESTION_MARK", .str (sOf [46]) tq)]) X T ?ho ⟨?hcd, ?h1, ?h2, ?h3⟩ ?hroom ?h4 ?hbind ?hloc ?_
  case ho => k_is
  case hcd => k_is
  case hroom => exact om18 hdp
  case hbind => exact BindsTo.of_eq rfl
  case hloc => exact locs rfl
  case h1 => exact rfl
  case h2 => exact rfl
  case h3 => exact rfl
  case h4 => decide
  intro L h₁ F N
  dsimp only [BodyOf, List.reverse_cons, List.reverse_nil, List.nil_append, List.cons_append, List.length_cons, List.length_nil] at F ⊢
  k_fold
  have N9 := gh_news hT78 F
  have F9 := gh_fr F
  have X9 := gh_K X
  have T9 := gh_top hT78 T
  clear N F X T
  have hml : (q.flatMap msk).length ≤ 600 := Nat.le_trans (msk_len q) (by (walk_at "om"))
  walk_at "my steps"
  rename_i F' N'
  refine while_core (σ := TSt) (tLed _ _ b)
    (fun c => [("i", .int ((c.1.flatMap msk).length + (if c.2.1 then 1 else 0) : Nat) c.2.2.2.2.2)]) ["c", "j", "stuff", "chunks", "k", "chunk"]
    (fun c => (∃ r, c.1 ++ r = q ∧ (c.2.1 = true → r = [])) ∧ SAre c.2.2.1 (c.1.map enc) ∧ TabOk c.2.2.2.2.1) (fun c => (q.length - c.1.length) + (if c.2.1 then 0 else 1)) F' ⟨([], false, [], _, _, _), (fun p hp => N' p (.tail _ hp)), ⟨rfl, trivial⟩, ⟨q, rfl, fun h => nomatch h⟩, StrsAre.nil, hok⟩ ?_ PassesOwn.never
  refine pi6 ?_
  intro d fin vs nn ps ti u h tk q8 F'' N''
  first | refine ex2_1 q8 fun q7 hvs hok' => ?_ | refine ex1_2 q8 fun q7 hvs hok' => ?_ | refine ex0_3 q8 fun q7 hvs hok' => ?_ | obtain ⟨q7, hvs, hok'⟩ := q8
  try clear q8
  first | refine ex2_1 q7 fun r hr hfin => ?_ | refine ex1_2 q7 fun r hr hfin => ?_ | refine ex0_3 q7 fun r hr hfin => ?_ | obtain ⟨r, hr, hfin⟩ := q7
  try clear q7
  dsimp only [kstB, tLed] at F'' N'' hfin hr hvs hok'
  clear hok hT78
  have hvl : vs.length = d.length := by have := StrsAre.length hvs; simpa using this
  have hdq : d.length + r.length = q.length := by rw [← hr, List.length_append]
  cases fin with
  | true =>
    obtain rfl := hfin rfl
    rw [List.append_nil] at hr
    subst hr
    simp only [if_true] at F'' N'' ⊢
    clear F' N'
    walk_at "my steps"
    rename Fr _ _ _ _ => F9
    rename News _ _ _ _ => N9
    exact ret _ _ _ ps F9.keep (N9 _ (.tail _ (.tail _ (.head _)))).1 hok' ⟨_, vs, nn, rfl, gh_fresh (N9 _ (.tail _ (.head _))).2.2 (ne78 N9 (.tail _ (.head _)) (.tail _ (.tail _ (.head _)))), (N9 _ (.tail _ (.head _))).1, hvs⟩
  | false =>
    simp only [Bool.false_eq_true, if_false, List.append_nil, Nat.add_zero] at F'' N'' ⊢
    cases r with
    | nil =>
      rw [List.append_nil] at hr
      subst hr
      obtain ⟨vs', x, t, rfl⟩ : ∃ vs' x t, vs = vs' ++ [.str x t] := StrsAre.last hvs (by simpa using hne)
      simp only [List.length_append, List.length_cons, List.length_nil] at hvl
      clear F' N'
      walk_at "my steps"
      · exact absurd (by assumption : (vs' ++ [Value.str x t]).isEmpty = true) (by simp)
      · rename Fr _ _ _ _ => F9
        rename News _ _ _ _ => N9
        refine fnext (d, true, vs' ++ [.str x t], _, _, _) F9 N9 (led_true fun p hp => hp) no_own ⟨at_int ?_, trivial⟩ ?_ ⟨⟨⟨[], by simp, fun _ => rfl⟩, hvs, hok'⟩, by simp⟩
        · simp
        · walk_at "my same"
    | cons c r =>
      have hgc : good c := hq c (by rw [← hr]; simp)
      have hml' : (d.flatMap msk).length + (msk c).length + (r.flatMap msk).length ≤ 600 := by
        rw [← hr] at hml; simp only [List.flatMap_append, List.flatMap_cons, List.length_append] at hml; (walk_at "om")
      have hE : q.flatMap msk ++ [42] = d.flatMap msk ++ (msk c ++ (r.flatMap msk ++ [42])) := by rw [← hr]; simp
      have hn : (q.flatMap msk).length + (0 + 1) = (d.flatMap msk).length + ((msk c).length + ((r.flatMap msk).length + 1)) := by have := congrArg List.length hE; simpa using this
      have hE' : (d ++ [c]).flatMap msk = d.flatMap msk ++ msk c := by simp
      have hr' : ∃ r_1, (d ++ [c]) ++ r_1 = q ∧ (false = true → r_1 = []) := ⟨r, by rw [← hr]; simp, fun h => nomatch h⟩
      have hm' : q.length - (d ++ [c]).length + 1 < q.length - d.length + 1 := Nat.succ_lt_succ (meas1 hr)
      rw [hn] at F'' ⊢
      rw [hE] at F'' ⊢
      have hdl : d.length ≤ 200 := len_pre hr hl
      have hvs' : ∀ tt, SAre (vs ++ [.str (sOf (enc c)) tt]) ((d ++ [c]).map enc) := fun tt => by rw [List.map_append]; exact sare_snoc hvs
      clear F' N' hn hE hml hq
      generalize he : d.flatMap msk = e at F'' hE' hml' ⊢
      generalize he2 : r.flatMap msk = e2 at F'' hml' ⊢
      have hcs : (msk c = [c] ∧ esc4 c ∧ (sOf [c] == sOf [42]) = false ∧ (sOf [c] == sOf [63]) = false ∧ (sOf [c] == sOf [91]) = false) ∨ Brk c := by
        rcases hgc with rfl | rfl | rfl | rfl | rfl | rfl
        · exact .inl ⟨rfl, .inl rfl, by decide, by decide, by decide⟩
        · exact .inl ⟨rfl, .inr (.inl rfl), by decide, by decide, by decide⟩
        · exact .inl ⟨rfl, .inr (.inr (.inl rfl)), by decide, by decide, by decide⟩
        · exact .inl ⟨rfl, .inr (.inr (.inr rfl)), by decide, by decide, by decide⟩
        · exact .inr (brk_of (.inl rfl))
        · exact .inr (brk_of (.inr rfl))
      clear hgc
      refine wp_gen fun G hG => ?_
      rcases hcs with ⟨h1, h2, g1, g2, g3⟩ | ⟨hb, h1, k1, k2, k3, k4⟩
      · rw [h1] at F'' hE' hml' hG
        simp only [List.cons_append, List.nil_append, List.length_cons, List.length_nil, Nat.zero_add] at F'' hml' hG
        walk_at "my steps"
        refine hG _ _ ?_
        rw [if_pos (by first | rfl | (rw [decide_eq_true_eq]; (walk_at "om")))]
        refine wp_gen fun G2 hG2 => ?_
        walk_at "my steps"
        rename Fr _ _ _ _ => F9
        rename News _ _ _ _ => N9
        refine hG2 _ _ (fnext (d ++ [c], false, _, _, _, _) F9 N9 (led_false fun p hp => hp) no_own ⟨at_int ?_, trivial⟩ ?_ ⟨⟨hr', hvs' _, hok'⟩, hm'⟩)
        · (rw [hE']; simp)
        · walk_at "my same"
      · rw [h1] at F'' hE' hml' hG
        simp only [List.cons_append, List.nil_append, List.length_cons, List.length_nil, Nat.zero_add] at F'' hml' hG
        walk_at "my steps"
        refine hG _ _ ?_
        rw [if_pos (by first | rfl | (rw [decide_eq_true_eq]; (walk_at "om")))]
        refine wp_gen fun G2 hG2 => ?_
        walk_at "my steps"
        rename Fr _ _ _ _ => F8
        rename News _ _ _ _ => N8
        refine while_core (σ := Bool × Tok) (fun _ => [(_, boundB "list.append" _), (_, PySem.W.listOf vs.toArray nn), (78, tabObj ps)]) (fun c => [("j", .int ((e.length + 1 + (if c.1 then 1 else 0) : Nat) : Int) c.2)]) [] (fun _ => True) (fun c => if c.1 then 0 else 1) F8 ⟨(false, _), N8, ⟨rfl, trivial⟩, trivial⟩ ?_ PassesOwn.never
        rintro ⟨mv, tj⟩ u2 h2 tk2 _ F7 N7
        cases mv with
        | false =>
          dsimp only [kstB] at F7
          simp only [Bool.false_eq_true, if_false, Nat.add_zero] at F7 ⊢
          clear F8 N8
          refine wp_gen fun G3 hG3 => ?_
          walk_at "my steps"
          refine hG3 _ _ ?_
          rw [if_pos (by rfl)]
          refine wp_gen fun G4 hG4 => ?_
          walk_at "my steps"
          rename Fr _ _ _ _ => F9
          rename News _ _ _ _ => N9
          refine hG4 _ _ (fnext (true, _) F9 N9 (fun p hp => hp) no_own ⟨at_int ?_, trivial⟩ ?_ ⟨trivial, by simp⟩)
          · (simp only [if_true]; (walk_at "om"))
          · walk_at "my same"
        | true =>
          dsimp only [kstB] at F7
          simp only [if_true] at F7 ⊢
          clear F8 N8
          walk_at "my steps"
          rename Fr _ _ _ _ => F9
          rename News _ _ _ _ => N9
          refine slice_strN_ss (hsz := ?hsz) (s := ⟨_, _, _, _, _⟩) F9 N9 ?_
          case hsz => (rw [sOf_len, sizeLine_eq]; simp only [List.length_append, List.length_cons, List.length_nil]; (walk_at "om"))
          intro h3 t3 k3 F3 N3
          rw [sl_at e (91 :: c :: 93 :: (e2 ++ [42])) [c] 1 1 (by (walk_at "om")) (by (walk_at "om")) rfl (by simp)]
          clear F9 N9
          walk_at "my steps if"
          walk1
          walk_at "my steps if"
          rename Fr _ _ _ _ => F8
          rename News _ _ _ _ => N8
          rcases hb with rfl | rfl
          · walk_at "my steps"
            rename Fr _ _ _ _ => F9
            rename News _ _ _ _ => N9
            have e9 : Str.empty ++ sOf [91] ++ sOf [42] ++ sOf [93] = sOf (enc 42) := by decide +kernel
            rw [e9] at N9
            refine hG2 _ _ (fnext (d ++ [42], false, _, _, _, _) F9 N9 (led_false fun p hp => hp) no_own ⟨at_int ?_, trivial⟩ ?_ ⟨⟨hr', hvs' _, by assumption⟩, hm'⟩)
            · (rw [hE']; simp; (walk_at "om"))
            · walk_at "my same"
          · walk_at "my steps"
            rename Fr _ _ _ _ => F9
            rename News _ _ _ _ => N9
            have e9 : Str.empty ++ sOf [91] ++ sOf [92, 91] ++ sOf [93] = sOf (enc 91) := by decide +kernel
            rw [e9] at N9
            refine hG2 _ _ (fnext (d ++ [91], false, _, _, _, _) F9 N9 (led_false fun p hp => hp) no_own ⟨at_int ?_, trivial⟩ ?_ ⟨⟨hr', hvs' _, by assumption⟩, hm'⟩)
            · (rw [hE']; simp; (walk_at "om"))
            · walk_at "my same"
theorem reg_none_C15 : True := by
  k_with_none
  trivial
theorem reg_j_7 : True := by
  (k_with "call builtin:issubclass" => (k_here; (rename News _ _ _ _ => kN); refine isub _ _ _ _ _ _ ((kN _ (by k_mem)).1) ?_; intro _))
  (k_with "exec For" => (refine wpAny_For ?_ (by intro _; rfl)))
  (k_with "my steps" => repeat' (first | (k_unfold; (try dsimp only)) | ((fail_if_success (with_reducible show wpAny _ _ (exec (Stmt.While _ _ _ _) _) _ _ _)); (fail_if_success (with_reducible show wpAny _ _ (exec (Stmt.For _ _ _ _ _) _) _ _ _)); (fail_if_success (with_reducible show wpAny _ _ (exec (Stmt.Assign _ (Expr.ListComp _ _ _ _) _) _) _ _ _)); (fail_if_success (with_reducible show wpAny _ _ (eval (Expr.ListComp _ _ _ _) _) _ _ _)); walk1) | fail "no step"))
  (k_with "om" => (first | with_reducible assumption | with_unfolding_all exact Nat.le_of_ble_eq_true rfl | ((with_reducible apply om1); (focus with_reducible assumption); with_unfolding_all exact rfl) | ((with_reducible apply om3); (focus with_reducible assumption); with_unfolding_all exact rfl) | ((with_reducible apply om2); (focus with_reducible assumption); with_unfolding_all exact rfl) | ((with_reducible apply om4); (focus with_reducible assumption); with_unfolding_all exact rfl) | ((with_reducible apply om5); (focus with_reducible assumption); with_unfolding_all exact rfl) | ((with_reducible apply om6); (focus with_reducible assumption); with_unfolding_all exact rfl) | ((with_reducible apply om7); (focus with_reducible assumption); with_unfolding_all exact rfl) | ((with_reducible apply om8); (focus with_reducible assumption); with_unfolding_all exact rfl) | with_reducible exact Int.natCast_nonneg _ | with_reducible exact om9 | ((with_reducible apply om10); (focus with_reducible assumption); with_unfolding_all exact rfl) | ((with_reducible apply om11); (focus with_reducible assumption); with_unfolding_all exact rfl) | ((with_reducible apply Nat.le_of_lt); with_reducible assumption) | ((with_reducible apply Nat.succ_le_of_lt); with_reducible assumption) | ((with_reducible apply om12); (focus with_reducible assumption); with_unfolding_all exact rfl) | ((with_reducible apply om13); (focus with_reducible assumption); with_unfolding_all exact rfl) | ((with_reducible apply om14); (focus with_reducible assumption); with_unfolding_all exact rfl) | ((with_reducible apply om15); (focus with_reducible assumption); with_unfolding_all exact rfl) | ((with_reducible apply om16); (focus with_reducible assumption); with_unfolding_all exact rfl) | ((with_reducible apply om17); (focus with_reducible assumption); with_unfolding_all exact rfl) | ((with_reducible apply om19); (focus with_reducible assumption); with_unfolding_all exact rfl) | ((with_reducible apply om20); (focus with_reducible assumption); with_unfolding_all exact rfl) | ((with_reducible apply om18); with_reducible assumption) | ((with_reducible show (_ : Int) = _); with_unfolding_all exact rfl) | ((with_reducible apply om21); (focus with_reducible assumption); with_unfolding_all exact rfl) | ((with_reducible apply om22); with_unfolding_all exact rfl) | ((with_reducible apply om25); with_unfolding_all exact rfl) | ((with_reducible apply om24); with_unfolding_all exact rfl) | ((with_reducible apply om23); with_unfolding_all exact rfl) | decide | omega))
  (k_with "execs cons" => ((with_reducible refine exec_seq ?_); (try dsimp only)))
  (k_with "Seq" => (first | with_reducible refine seq_next ?_ | with_reducible refine seq_ret ?_ | with_reducible refine seq_brk ?_ | with_reducible refine seq_cont ?_))
  (k_with "exec If" => (with_reducible refine exec_if ?_))
  (k_with "IfQ" => (first | with_reducible refine ifq_t ?_ | with_reducible refine ifq_f ?_ | with_reducible refine ifq ?_))
  (k_with "call ref" => (k_here; (first | apply Fun.useE (fspath _ _) | apply Fun.useX (get_sep _ _) | apply Fun.useX (law_stem _ _) | apply Fun.useX (strcoll _ _ _ _) | apply Fun.useH (fun h => escape _ h _) | apply Fun.useE (strxfrm _ _)); (iterate 3 with_reducible assumption); assumption; trivial; (first | (apply room_d; assumption; exact rfl) | (dsimp only [Ar]; (walk_at "om"))); (first | (apply room_u; assumption; exact rfl) | (dsimp only [Ar]; (walk_at "om"))); intros))
  (k_with "my item" => (k_here; first | refine item_my (j := 0) (by (walk_at "om")) rfl (by (walk_at "om")) ?_ | refine item_my (j := 1) (by (walk_at "om")) rfl (by (walk_at "om")) ?_ | refine item_my (j := 2) (by (walk_at "om")) rfl (by (walk_at "om")) ?_ | refine item_my (j := 3) (by (walk_at "om")) rfl (by (walk_at "om")) ?_))
  (k_with "subscriptTail Name Name str int" => walk_at "my item")
  (k_with "subscriptTail Name BinOp str int" => walk_at "my item")
  (k_with "subscriptTail Name Constant str int" => walk_at "my item")
  (k_with "subscriptTail Name UnaryOp str int" => walk_at "my item")
  (k_with "call builtin:len" => (k_here; refine len_sOf (by first | ((simp only [List.length_append, List.length_cons, List.length_nil]); exact rfl) | exact rfl) (by (walk_at "om")) ?_))
  (k_with "my same" => (first | (intro z h2 h3; (repeat (refine sm_step ?hne ?_; (case hne => first | exact h2 _ (.head _) | exact h2 _ (.tail _ (.head _)) | exact h2 _ (.tail _ (.tail _ (.head _))) | exact sm_stored h3 (by decide +kernel)))); first | exact sm_last h3 | exact rfl) | (intro z h2 h3; (simp only [List.forall_mem_cons, List.not_mem_nil, false_implies, implies_true, and_true, ne_eq] at h2); (simp only [List.contains_cons, List.contains_nil, Bool.or_false, Bool.or_eq_false_iff, beq_eq_false_iff_ne, ne_eq] at h3); (simp [h2, h3, kstB]; done))))
  (k_with "binaryOp Add str str" => (k_here; refine add_sOf (by (simp only [List.length_append, List.length_cons, List.length_nil]); (walk_at "om")) ?_; intro _ _))
  (k_with "ite" => (k_closed; first | refine ite_pos (by decide +kernel) ?_ | refine ite_neg (by decide +kernel) ?_))
  (k_with "eval Name" => (k_here; (with_reducible show wpAny _ _ (eval _ (compEnvC _ _ _ _)) _ _ _); (with_reducible rename Fr _ _ _ _ => kF); first | refine ev_loc kF rfl ?_ rfl rfl (by decide) | refine ev_cell kF rfl (by assumption) ?_ rfl rfl (by decide)))
  (k_with "call builtin:str.join" => (k_here; (with_reducible rename News _ _ _ _ => kN); refine join_my (News.isListX kN (by k_mem)) (by assumption) (by first | assumption | (simp only [tot_append, tot_cons, tot_nil]; (walk_at "om"))) (by simp) ?_; intro _ _))
  (k_with "eval Constant str" => (with_reducible refine const_my (by first | exact cst0 | exact cst1 | exact cst2 | exact cst3 | exact cst4 | exact cst5 | exact cst6 | exact cst7 | exact cst8 | exact cst9 | exact cst10 | exact cst11 | exact cst12 | exact cst13 | exact cst14 | exact cst15 | exact cst16 | exact cst17 | exact cst18 | exact cst19 | exact cst20 | exact cst21 | exact cst22 | exact cst23 | exact cst24 | exact cst25 | exact cst26 | exact cst27) ?_))
  (k_with "getAttr ref" => (k_here; (with_reducible show wpAny _ _ (getAttr (Value.ref _) (PySem.Str.ofString "append") _) _ _ _); (with_reducible rename Fr _ _ _ _ => kF); (with_reducible rename News _ _ _ _ => kN); refine' attr_append_N kF kN ?ha ?_; (case ha => k_mem); intro _ _ _ _ _))
  (k_with "callWith ref" => (k_here; (with_reducible rename News _ _ _ _ => kN); refine' bound_call kN ?hq ?_; (case hq => k_mem)))
  (k_with "call ref" => (k_here; (with_reducible rename Fr _ _ _ _ => kF); (with_reducible rename News _ _ _ _ => kN); refine' bound_append_L kF kN ?hq ?hl ?hs ?_; (case hq => k_mem); (case hl => k_mem); (case hs => ((try simp only [List.length_append, List.length_cons, List.length_nil]); (walk_at "om"))); intro _ _ _))
  (k_with "truthy ref" => (k_here; (with_reducible rename News _ _ _ _ => kN); refine' truthy_L kN ?hl ?hs ?_; (case hl => k_mem); (case hs => ((try simp only [List.length_append, List.length_cons, List.length_nil]); (walk_at "om"))); (try simp only [List.isEmpty_append, List.isEmpty_cons, Bool.and_false, Bool.not_false])))
  (k_with "subscriptTail Name UnaryOp ref int" => (k_here; (with_reducible rename News _ _ _ _ => kN); refine' item_last (News.isListX kN ?hl) ?_ ?hs ?hg; (case hl => k_mem); (case hs => with_unfolding_all rfl); (case hg => (intro _; with_unfolding_all rfl))))
  (k_with "compareOp IsNot str ref" => (k_here; refine wpAny_isNot_other (by rfl) (by intro x; cases x) ?_))
  (k_with "And" => ((with_reducible show Heap.get? _ _ = _ ∧ _); (with_reducible rename News _ _ _ _ => kN); refine' ⟨boundAt kN ?hq, ?_⟩; (case hq => with_unfolding_all k_mem); (try dsimp only)))
  (k_with "getAttr ref" => (k_here; (apply attr_append_T (P := 78)); (iterate 2 with_reducible assumption); (iterate 2 k_mem); intros))
  (k_with "call ref" => (k_here; (apply bound_append_T (P := 78)); (iterate 2 with_reducible assumption); (iterate 3 k_mem); (focus (try simp only [List.length_append, List.length_cons, List.length_nil]); (walk_at "om")); intros))
  (k_with "eval Lambda" => (k_here; (with_reducible rename Fr _ _ _ _ => kF); (with_reducible rename News _ _ _ _ => kN); (with_reducible rename Frag.In _ _ => kX); (with_reducible rename Top _ _ _ _ _ _ => kT); (with_reducible rename TabOk _ => kO); refine' lam_T kF kN kX kT ?hq ?hl ?hT kO rfl ?hc ⟨rfl, rfl⟩ ?_; (case hq => k_mem); (case hl => k_mem); (case hT => k_mem); (case hc => rfl); intro _ _ _ _ _ _ _ _))
  (k_with "getMethod ref" => (k_here; (with_reducible show wpAny _ _ (getMethod _ (PySem.Str.ofString "sub") _) _ _ _); (apply gm_sub); (iterate 2 with_reducible assumption)))
  (k_with "call builtin:str.replace" => (k_here; (first | apply rep42 | apply rep91); intros))
  (k_with "call builtin:re.Pattern.sub" => (k_here; (first | apply resub42N | apply resub91N); (iterate 3 with_reducible assumption); intros))
  (k_with "subscriptTail Name UnaryOp str int" => (k_here; refine item_plain (j := 0) rfl rfl (by (walk_at "om")) ?_))
  (k_with "subscriptTail Name Constant str int" => (k_here; refine item_plain (j := 0) rfl rfl (by (walk_at "om")) ?_))
  trivial
theorem tot_enc : ∀ q : List Nat, tot (q.map enc) ≤ 5 * q.length
  | [] => by simp [tot]
  | c :: r => by have := enc_len c; have := tot_enc r; rw [List.map_cons, tot_cons, List.length_cons]; (walk_at "om")
section
variable {prog : Program} {w : World} {A : Around} {E : Value → Shared → Prop} {s : Shared} {h₀ : Heap} {L : Addr} {m : Str → Option Value}
theorem item_mid {value slice : Expr} {a : Addr} {d r : List Value} {x : Value} {n : Nat} {i : Int} {u : Tok} {Q : Value → Shared → Prop} (F : Fr h₀ L s.heap m) (ha : h₀.get? a = some (PySem.W.listOf (d ++ x :: r).toArray n)) (hi : i = (d.length : Int)) (hb : (d ++ x :: r).length < 1000000) (h : Q x s)
    (hs : subscripted slice false (.ref a) (.int i u) = operate [.ref a, .int i u] (getItem (.ref a) (.int i u)) := by with_unfolding_all rfl) :
    wpAny (model prog w) A (subscriptTail value slice (.ref a) (.int i u)) Q E s := by
  have hL : s.heap.IsList a (d ++ x :: r).toArray := ⟨_, F.keep _ _ ha, rfl, n, rfl⟩
  subst hi
  exact tail_any hL.typeIs slot_list_getitem.lookup (wpAny_getItem_list hL (by (walk_at "om")) (by simp at hb ⊢; (walk_at "om")) (by simp) h) hs
theorem len_base {a : Addr} {vs : List Value} {n : Nat} {Q : Value → Shared → Prop} (F : Fr h₀ L s.heap m) (ha : h₀.get? a = some (PySem.W.listOf vs.toArray n)) (hb : vs.length < 1000000)
    (h : ∀ t tk, Q (.int (vs.length : Nat) t) { s with toks := tk }) : wpAny (model prog w) A (call (.builtin "len") [.ref a]) Q E s := by
  have hL : s.heap.IsList a vs.toArray := ⟨_, F.keep _ _ ha, rfl, n, rfl⟩
  exact call_len_list hL (by simp; (walk_at "om")) (by simpa using h _ _)
end
theorem reg_j_8 : True := by
  (k_with "call builtin:len" => (k_here; (with_reducible show wpAny _ _ (call (Value.builtin "len") [Value.ref _]) _ _ _); (with_reducible rename Fr _ _ _ _ => kF); refine len_base kF (by assumption) (by first | assumption | (walk_at "om")) ?_; intro _ _))
  (k_with "subscriptTail Name Name ref int" => (k_here; (with_reducible rename Fr _ _ _ _ => kF); refine item_mid kF (by assumption) ?hi ?hb ?_; (case hi => first | rfl | (walk_at "om")); (case hb => first | assumption | (walk_at "om"))))
  (k_with "compareOp Is ref ref" => (k_here; refine wpAny_is_ref_self ?_))
  (k_with "compareOp IsNot ref ref" => (k_here; refine wpAny_isNot_ref_self ?_))
  (k_with "call builtin:str.join" => (k_here; (with_reducible show wpAny _ _ (call (Value.builtin "str.join") [Value.str _ _, Value.ref _]) _ _ _); (with_reducible rename News _ _ _ _ => kN); refine join_my (sep := []) (News.isListX kN (by k_mem)) (sare_snoc (by assumption)) (by first | assumption | (simp only [tot_append, tot_cons, tot_nil, List.length_cons, List.length_nil]; (walk_at "om"))) (by simp) ?_; intro _ _))
  trivial
noncomputable def jLed (q l : Addr) (c : List Value × Nat × Tok) : List (Addr × Obj) := [(q, boundB "list.append" l), (l, PySem.W.listOf c.1.toArray c.2.1)]
theorem jled {q l : Addr} {d : List Value} {n : Nat} {t : Tok} {news : List (Addr × Obj)} (h : ∀ p ∈ [(q, boundB "list.append" l), (l, PySem.W.listOf d.toArray n)], p ∈ news) : ∀ p ∈ jLed q l (d, n, t), p ∈ news := h
theorem join_parts {w : World} (q : List Nat) (hl : q.length ≤ 200) (vs : List Value) (nn : Nat) (a b : Addr) (hvs : SAre vs (q.map enc)) : Fun w 0 90 [.ref a, .ref b] (fun h => h.get? a = some (PySem.W.listOf (vs ++ [Value.ref b]).toArray nn)) (fun _ v _ => ∃ t, v = .str (toldS q) t) := by
  intro mean mg mb dp un fr gd hq0 gq0 dq0 tq0 oq0 Q E X T hpre hdp hun ret
  refine wpAny_call ?_
  refine' enter (binds := [(Str.ofString "inp", .ref a), (Str.ofString "STAR", .ref b)]) X T ?ho ⟨?hcd, ?h1, ?h2, ?h3⟩ ?hroom ?h4 ?hbind ?hloc ?_
  case ho => k_is
  case hcd => k_is
  case hroom => exact om18 hdp
  case hbind => exact BindsTo.of_eq rfl
  case hloc => exact locs rfl
  case h1 => exact rfl
  case h2 => exact rfl
  case h3 => exact rfl
  case h4 => decide
  intro L h₁ F N
  dsimp only [BodyOf, List.reverse_cons, List.reverse_nil, List.nil_append, List.cons_append, List.length_cons, List.length_nil] at F ⊢
  k_fold
  have htq : tot (q.map enc) ≤ 1000 := Nat.le_trans (tot_enc q) (by (walk_at "om"))
  have hvl : vs.length ≤ 200 := by have := StrsAre.length hvs; simp at this; (walk_at "om")
  have hvb : (vs ++ [Value.ref b]).length < 1000000 := by simp; (walk_at "om")
  have hvb2 : (vs ++ [Value.ref b]).length = vs.length + 1 := by simp
  replace hpre : hq0.get? a = some (PySem.W.listOf (vs ++ [Value.ref b]).toArray nn) := hpre
  walk_at "my steps"
  rename Fr _ _ _ _ => F8
  rename News _ _ _ _ => N8
  rw [hvb2] at F8
  refine while_core (σ := List Value × Nat × Tok) (jLed _ _) (fun c => [("i", .int (c.1.length : Nat) c.2.2)]) [] (fun c => ∃ r, c.1 ++ r = vs) (fun c => vs.length - c.1.length) F8 ⟨([], _, _), fun p hp => N8 p (.tail _ hp), ⟨rfl, trivial⟩, ⟨vs, rfl⟩⟩ ?_ PassesOwn.never
  refine pi3 ?_
  intro d nd ti u h tk q8 F'' N''
  first | refine ex1_1 q8 fun r hr => ?_ | refine ex0_2 q8 fun r hr => ?_ | obtain ⟨r, hr⟩ := q8
  try clear q8
  dsimp only [kstB, jLed] at F'' N'' hr
  clear F8 N8
  have hdr : d.length + r.length = vs.length := by rw [← hr, List.length_append]
  cases r with
  | nil =>
    rw [List.append_nil] at hr
    subst hr
    walk_at "my steps"
    rename Fr _ _ _ _ => F8
    rename News _ _ _ _ => N8
    refine while_core (σ := List Value × Nat × Tok) (jLed _ _) (fun c => [("i", .int (d.length : Nat) c.2.2)]) [] (fun c => c.1 = d) (fun c => 0) F8 ⟨(d, _, _), fun p hp => N8 p hp, ⟨rfl, trivial⟩, rfl⟩ ?_ PassesOwn.never
    refine pi3 ?_
    intro d' nd ti u h tk hd F'' N''
    obtain rfl : d' = d := hd
    dsimp only [kstB, jLed] at F'' N''
    clear F8 N8
    walk_at "my steps"
    dsimp only [FPost, GoesOn]
    walk_at "my steps"
    have hj : joinL [] (List.map enc q ++ [[46, 42]]) = encs q ++ [46, 42] := by rw [joinL_nil]; simp [encs, List.flatMap]
    have hel : (encs q ++ [46, 42]).length ≤ 1000 := by have := encs_len q; simp; (walk_at "om")
    have hel2 : (sOf (encs q ++ [46, 42])).length ≤ 1000 := by rw [sOf_len]; exact hel
    rw [hj]
    have e9 : Str.empty ++ sOf [40, 63, 115, 58] ++ sOf (encs q ++ [46, 42]) ++ Str.ofString ")\\Z" = toldS q := by rw [toldS, show Str.empty = sOf [] from rfl, show Str.ofString ")\\Z" = sOf [41, 92, 90] from rfl]; simp only [sOf_append]; refine congrArg sOf ?_; simp
    generalize sOf (encs q ++ [46, 42]) = z at hel2 e9 ⊢
    walk_at "my steps"
    rename Fr _ _ _ _ => F9
    exact ret _ _ _ F9.keep ⟨_, val_str e9⟩
  | cons x r =>
    obtain ⟨y, t, rfl⟩ : ∃ y t, x = .str y t := by
      obtain ⟨y, t, e, _⟩ := StrsAre.item hvs d.length x (by rw [← hr]; simp)
      exact ⟨y, t, e⟩
    have hA : vs ++ [Value.ref b] = d ++ (.str y t :: (r ++ [.ref b])) := by rw [← hr]; simp
    simp only [List.length_cons] at hdr
    rw [hA] at hpre
    have hvb3 : (d ++ (Value.str y t :: (r ++ [.ref b]))).length < 1000000 := by rw [← hA]; exact hvb
    walk_at "my steps"
    rename Fr _ _ _ _ => F9
    rename News _ _ _ _ => N9
    refine fnext (d ++ [.str y t], _, _) F9 N9 (jled fun p hp => hp) no_own ⟨at_int ?_, trivial⟩ ?_ ⟨⟨r, by rw [← hr]; simp⟩, by (simp only [List.length_append, List.length_cons, List.length_nil]; (walk_at "om"))⟩
    · simp
    · walk_at "my same"
theorem reg_none_C16 : True := by
  k_with_none
  trivial
theorem reg_j_9 : True := by
  (k_with "call builtin:issubclass" => (k_here; (rename News _ _ _ _ => kN); refine isub _ _ _ _ _ _ ((kN _ (by k_mem)).1) ?_; intro _))
  (k_with "exec For" => (refine wpAny_For ?_ (by intro _; rfl)))
  (k_with "my steps" => repeat' (first | (k_unfold; (try dsimp only)) | ((fail_if_success (with_reducible show wpAny _ _ (exec (Stmt.While _ _ _ _) _) _ _ _)); (fail_if_success (with_reducible show wpAny _ _ (exec (Stmt.For _ _ _ _ _) _) _ _ _)); (fail_if_success (with_reducible show wpAny _ _ (exec (Stmt.Assign _ (Expr.ListComp _ _ _ _) _) _) _ _ _)); (fail_if_success (with_reducible show wpAny _ _ (eval (Expr.ListComp _ _ _ _) _) _ _ _)); walk1) | fail "no step"))
  (k_with "om" => (first | with_reducible assumption | with_unfolding_all exact Nat.le_of_ble_eq_true rfl | ((with_reducible apply om1); (focus with_reducible assumption); with_unfolding_all exact rfl) | ((with_reducible apply om3); (focus with_reducible assumption); with_unfolding_all exact rfl) | ((with_reducible apply om2); (focus with_reducible assumption); with_unfolding_all exact rfl) | ((with_reducible apply om4); (focus with_reducible assumption); with_unfolding_all exact rfl) | ((with_reducible apply om5); (focus with_reducible assumption); with_unfolding_all exact rfl) | ((with_reducible apply om6); (focus with_reducible assumption); with_unfolding_all exact rfl) | ((with_reducible apply om7); (focus with_reducible assumption); with_unfolding_all exact rfl) | ((with_reducible apply om8); (focus with_reducible assumption); with_unfolding_all exact rfl) | with_reducible exact Int.natCast_nonneg _ | with_reducible exact om9 | ((with_reducible apply om10); (focus with_reducible assumption); with_unfolding_all exact rfl) | ((with_reducible apply om11); (focus with_reducible assumption); with_unfolding_all exact rfl) | ((with_reducible apply Nat.le_of_lt); with_reducible assumption) | ((with_reducible apply Nat.succ_le_of_lt); with_reducible assumption) | ((with_reducible apply om12); (focus with_reducible assumption); with_unfolding_all exact rfl) | ((with_reducible apply om13); (focus with_reducible assumption); with_unfolding_all exact rfl) | ((with_reducible apply om14); (focus with_reducible assumption); with_unfolding_all exact rfl) | ((with_reducible apply om15); (focus with_reducible assumption); with_unfolding_all exact rfl) | ((with_reducible apply om16); (focus with_reducible assumption); with_unfolding_all exact rfl) | ((with_reducible apply om17); (focus with_reducible assumption); with_unfolding_all exact rfl) | ((with_reducible apply om19); (focus with_reducible assumption); with_unfolding_all exact rfl) | ((with_reducible apply om20); (focus with_reducible assumption); with_unfolding_all exact rfl) | ((with_reducible apply om18); with_reducible assumption) | ((with_reducible show (_ : Int) = _); with_unfolding_all exact rfl) | ((with_reducible apply om21); (focus with_reducible assumption); with_unfolding_all exact rfl) | ((with_reducible apply om22); with_unfolding_all exact rfl) | ((with_reducible apply om25); with_unfolding_all exact rfl) | ((with_reducible apply om24); with_unfolding_all exact rfl) | ((with_reducible apply om23); with_unfolding_all exact rfl) | decide | omega))
  (k_with "execs cons" => ((with_reducible refine exec_seq ?_); (try dsimp only)))
  (k_with "Seq" => (first | with_reducible refine seq_next ?_ | with_reducible refine seq_ret ?_ | with_reducible refine seq_brk ?_ | with_reducible refine seq_cont ?_))
  (k_with "exec If" => (with_reducible refine exec_if ?_))
  (k_with "IfQ" => (first | with_reducible refine ifq_t ?_ | with_reducible refine ifq_f ?_ | with_reducible refine ifq ?_))
  (k_with "call ref" => (k_here; (first | apply Fun.useE (fspath _ _) | apply Fun.useX (get_sep _ _) | apply Fun.useX (law_stem _ _) | apply Fun.useX (strcoll _ _ _ _) | apply Fun.useH (fun h => escape _ h _) | apply Fun.useE (strxfrm _ _)); (iterate 3 with_reducible assumption); assumption; trivial; (first | (apply room_d; assumption; exact rfl) | (dsimp only [Ar]; (walk_at "om"))); (first | (apply room_u; assumption; exact rfl) | (dsimp only [Ar]; (walk_at "om"))); intros))
  (k_with "my item" => (k_here; first | refine item_my (j := 0) (by (walk_at "om")) rfl (by (walk_at "om")) ?_ | refine item_my (j := 1) (by (walk_at "om")) rfl (by (walk_at "om")) ?_ | refine item_my (j := 2) (by (walk_at "om")) rfl (by (walk_at "om")) ?_ | refine item_my (j := 3) (by (walk_at "om")) rfl (by (walk_at "om")) ?_))
  (k_with "subscriptTail Name Name str int" => walk_at "my item")
  (k_with "subscriptTail Name BinOp str int" => walk_at "my item")
  (k_with "subscriptTail Name Constant str int" => walk_at "my item")
  (k_with "subscriptTail Name UnaryOp str int" => walk_at "my item")
  (k_with "call builtin:len" => (k_here; refine len_sOf (by first | ((simp only [List.length_append, List.length_cons, List.length_nil]); exact rfl) | exact rfl) (by (walk_at "om")) ?_))
  (k_with "my same" => (first | (intro z h2 h3; (repeat (refine sm_step ?hne ?_; (case hne => first | exact h2 _ (.head _) | exact h2 _ (.tail _ (.head _)) | exact h2 _ (.tail _ (.tail _ (.head _))) | exact sm_stored h3 (by decide +kernel)))); first | exact sm_last h3 | exact rfl) | (intro z h2 h3; (simp only [List.forall_mem_cons, List.not_mem_nil, false_implies, implies_true, and_true, ne_eq] at h2); (simp only [List.contains_cons, List.contains_nil, Bool.or_false, Bool.or_eq_false_iff, beq_eq_false_iff_ne, ne_eq] at h3); (simp [h2, h3, kstB]; done))))
  (k_with "binaryOp Add str str" => (k_here; refine add_sOf (by (simp only [List.length_append, List.length_cons, List.length_nil]); (walk_at "om")) ?_; intro _ _))
  (k_with "ite" => (k_closed; first | refine ite_pos (by decide +kernel) ?_ | refine ite_neg (by decide +kernel) ?_))
  (k_with "eval Name" => (k_here; (with_reducible show wpAny _ _ (eval _ (compEnvC _ _ _ _)) _ _ _); (with_reducible rename Fr _ _ _ _ => kF); first | refine ev_loc kF rfl ?_ rfl rfl (by decide) | refine ev_cell kF rfl (by assumption) ?_ rfl rfl (by decide)))
  (k_with "call builtin:str.join" => (k_here; (with_reducible rename News _ _ _ _ => kN); refine join_my (News.isListX kN (by k_mem)) (by assumption) (by first | assumption | (simp only [tot_append, tot_cons, tot_nil]; (walk_at "om"))) (by simp) ?_; intro _ _))
  (k_with "eval Constant str" => (with_reducible refine const_my (by first | exact cst0 | exact cst1 | exact cst2 | exact cst3 | exact cst4 | exact cst5 | exact cst6 | exact cst7 | exact cst8 | exact cst9 | exact cst10 | exact cst11 | exact cst12 | exact cst13 | exact cst14 | exact cst15 | exact cst16 | exact cst17 | exact cst18 | exact cst19 | exact cst20 | exact cst21 | exact cst22 | exact cst23 | exact cst24 | exact cst25 | exact cst26 | exact cst27) ?_))
  (k_with "getAttr ref" => (k_here; (with_reducible show wpAny _ _ (getAttr (Value.ref _) (PySem.Str.ofString "append") _) _ _ _); (with_reducible rename Fr _ _ _ _ => kF); (with_reducible rename News _ _ _ _ => kN); refine' attr_append_N kF kN ?ha ?_; (case ha => k_mem); intro _ _ _ _ _))
  (k_with "callWith ref" => (k_here; (with_reducible rename News _ _ _ _ => kN); refine' bound_call kN ?hq ?_; (case hq => k_mem)))
  (k_with "call ref" => (k_here; (with_reducible rename Fr _ _ _ _ => kF); (with_reducible rename News _ _ _ _ => kN); refine' bound_append_L kF kN ?hq ?hl ?hs ?_; (case hq => k_mem); (case hl => k_mem); (case hs => ((try simp only [List.length_append, List.length_cons, List.length_nil]); (walk_at "om"))); intro _ _ _))
  (k_with "truthy ref" => (k_here; (with_reducible rename News _ _ _ _ => kN); refine' truthy_L kN ?hl ?hs ?_; (case hl => k_mem); (case hs => ((try simp only [List.length_append, List.length_cons, List.length_nil]); (walk_at "om"))); (try simp only [List.isEmpty_append, List.isEmpty_cons, Bool.and_false, Bool.not_false])))
  (k_with "subscriptTail Name UnaryOp ref int" => (k_here; (with_reducible rename News _ _ _ _ => kN); refine' item_last (News.isListX kN ?hl) ?_ ?hs ?hg; (case hl => k_mem); (case hs => with_unfolding_all rfl); (case hg => (intro _; with_unfolding_all rfl))))
  (k_with "compareOp IsNot str ref" => (k_here; refine wpAny_isNot_other (by rfl) (by intro x; cases x) ?_))
  (k_with "And" => ((with_reducible show Heap.get? _ _ = _ ∧ _); (with_reducible rename News _ _ _ _ => kN); refine' ⟨boundAt kN ?hq, ?_⟩; (case hq => with_unfolding_all k_mem); (try dsimp only)))
  (k_with "getAttr ref" => (k_here; (apply attr_append_T (P := 78)); (iterate 2 with_reducible assumption); (iterate 2 k_mem); intros))
  (k_with "call ref" => (k_here; (apply bound_append_T (P := 78)); (iterate 2 with_reducible assumption); (iterate 3 k_mem); (focus (try simp only [List.length_append, List.length_cons, List.length_nil]); (walk_at "om")); intros))
  (k_with "eval Lambda" => (k_here; (with_reducible rename Fr _ _ _ _ => kF); (with_reducible rename News _ _ _ _ => kN); (with_reducible rename Frag.In _ _ => kX); (with_reducible rename Top _ _ _ _ _ _ => kT); (with_reducible rename TabOk _ => kO); refine' lam_T kF kN kX kT ?hq ?hl ?hT kO rfl ?hc ⟨rfl, rfl⟩ ?_; (case hq => k_mem); (case hl => k_mem); (case hT => k_mem); (case hc => rfl); intro _ _ _ _ _ _ _ _))
  (k_with "getMethod ref" => (k_here; (with_reducible show wpAny _ _ (getMethod _ (PySem.Str.ofString "sub") _) _ _ _); (apply gm_sub); (iterate 2 with_reducible assumption)))
  (k_with "call builtin:str.replace" => (k_here; (first | apply rep42 | apply rep91); intros))
  (k_with "call builtin:re.Pattern.sub" => (k_here; (first | apply resub42N | apply resub91N); (iterate 3 with_reducible assumption); intros))
  (k_with "subscriptTail Name UnaryOp str int" => (k_here; refine item_plain (j := 0) rfl rfl (by (walk_at "om")) ?_))
  (k_with "subscriptTail Name Constant str int" => (k_here; refine item_plain (j := 0) rfl rfl (by (walk_at "om")) ?_))
  trivial
theorem FunT.use {w : World} {k f : Nat} {vs : List Value} {pre : Heap → Prop} {post : Heap → Value → Heap → Prop} (C : FunT w k f vs pre post)
    {mean : ExcName → Option Value} {mg mb : Str → Option Value} {dp un : Nat} {fr : Option (List Env)} {gd : Option (List Code)} {s : Shared} {Q E : Value → Shared → Prop} {h₀ : Heap} {L : Addr} {m : Str → Option Value} {news : List (Addr × Obj)} {ps : Array Value}
    (F : Fr h₀ L s.heap m) (N : News h₀ L s.heap news) (X : (Mine.K39.heap_1 w.params).In h₀) (T : TopV mean mg mb h₀) (hT : (78, tabObj ps) ∈ news) (hok : TabOk ps) (hp : pre s.heap) (hd : dp + k < recursionLimit) (hu : un + 10 * k < cLine)
    (ret : ∀ v h' tk' ps', TabOk ps' → Keeps (gh s.heap) h' → Fr h₀ L h' m → (∀ p ∈ news, p.1 ≠ 78 → h'.get? p.1 = some p.2 ∧ p.1 ≠ L ∧ h₀.get? p.1 = none) → (h'.get? 78 = some (tabObj ps') ∧ 78 ≠ L ∧ h₀.get? 78 = none) → post s.heap v h' → Q v { s with heap := h', toks := tk' }) :
    wpAny (model PySem.Challenge.pw_rx0087_01 w) (Ar dp un fr gd) (call (.ref f) vs) Q E s := by
  first | refine ex2_1 (N _ hT) fun t1 t2 t3 => ?_ | refine ex1_2 (N _ hT) fun t1 t2 t3 => ?_ | refine ex0_3 (N _ hT) fun t1 t2 t3 => ?_ | obtain ⟨t1, t2, t3⟩ := N _ hT
  refine C mean mg mb dp un fr gd s.heap s.gens s.drawn s.toks s.os Q E ps (X.keeps F.keep) (T.keeps F.keep) t1 hok hp hd hu fun v h' tk' ps' hk ht hok' hv => ret v h' tk' ps' hok' hk ⟨F.ns.at' fun o e => hk _ _ (gh_get e (Ne.symm t2)), fun b o e => hk _ _ (gh_get (F.keep b o e) ?_), F.above⟩ (fun p hp' hne => ⟨hk _ _ (gh_get (N p hp').1 hne), (N p hp').2⟩) ⟨ht, t2, t3⟩ hv
  rintro rfl
  dsimp only at t3
  rw [t3] at e; cases e
theorem closeObj {h₀ h : Heap} {q : Addr} {o' o : Obj} {G : Prop} (D : PySem.W.X.Mem h₀ h [] [(q, o')]) (e' : o' = o) (k : Keeps h₀ h → h₀.get? q = none → h.get? q = some o → G) : G :=
  k (keeps0 D) (D.nw _ (.head _)).2 (by rw [← e']; exact (D.nw _ (.head _)).1)
local macro_rules | `(tactic| x_close) => `(tactic| (rename PySem.W.X.Mem _ _ _ _ => kD; refine closeObj kD rfl ?_; intro k1 k2 k3; solve_by_elim))
theorem objmk {w : World} {dp un : Nat} {fr : Option (List Env)} {gd : Option (List Code)} {Q E : Value → Shared → Prop} (h : Heap) (g : Array GenState) (d : Drawn) (t : Nat) (os : OsState)
   (hq : ∀ h' q, Keeps h h' → h.get? q = none → h'.get? q = some ⟨.type "object", none, .plain, #[]⟩ → Q (.ref q) ⟨h', g, d, t, os⟩) :
   wpAny (model PySem.Challenge.pw_rx0087_01 w) (Ar dp un fr gd) (call (.type "object") []) Q E ⟨h, g, d, t, os⟩ := by
  x_run
theorem news_new {h₀ h h' : Heap} {L q : Addr} {m : Str → Option Value} {o : Obj} {news : List (Addr × Obj)} (F : Fr h₀ L h m) (N : News h₀ L h news) (hk : Keeps h h') (hn : h.get? q = none) (hq : h'.get? q = some o) : News h₀ L h' ((q, o) :: news) := fun p hp => by
  rcases List.mem_cons.mp hp with rfl | hp
  · refine ⟨hq, ?_, ?_⟩
    · rintro e
      first | refine ex3_2 F.ns fun o _ _ ho _ => ?_ | refine ex2_3 F.ns fun o _ _ ho _ => ?_ | refine ex0_5 F.ns fun o _ _ ho _ => ?_ | obtain ⟨o, _, _, ho, _⟩ := F.ns
      dsimp only at e
      rw [e, ho] at hn; cases hn
    · cases e : h₀.get? q with
      | none => rfl
      | some o => have := F.keep _ _ e; rw [hn] at this; cases this
  · exact ⟨hk _ _ (N _ hp).1, (N _ hp).2⟩
theorem translate {w : World} (q : List Nat) (hq : ∀ c ∈ q, good c) (hne : q ≠ []) (hl : q.length ≤ 200) (ta : Tok) : FunT w 4 64 [.str (sOf (q.flatMap msk ++ [42])) ta] tt0 (fun _ v _ => ∃ t, v = .str (toldS q) t) := by
  intro mean mg mb dp un fr gd hq0 gq0 dq0 tq0 oq0 Q E ps X T hT78 hok hpre hdp hun ret
  refine wpAny_call ?_
  refine' enter (binds := [(Str.ofString "pat", .str (sOf (q.flatMap msk ++ [42])) ta)]) X T ?ho ⟨?hcd, ?h1, ?h2, ?h3⟩ ?hroom ?h4 ?hbind ?hloc ?_
  case ho => k_is
  case hcd => k_is
  case hroom => exact om18 hdp
  case hbind => exact BindsTo.of_eq rfl
  case hloc => exact locs rfl
  case h1 => exact rfl
  case h2 => exact rfl
  case h3 => exact rfl
  case h4 => decide
  intro L h₁ F N
  dsimp only [BodyOf, List.reverse_cons, List.reverse_nil, List.nil_append, List.cons_append, List.length_cons, List.length_nil] at F ⊢
  k_fold
  have N9 := gh_news hT78 F
  have F9 := gh_fr F
  have X9 := gh_K X
  have T9 := gh_top hT78 T
  clear N F X T
  walk_at "my steps"
  refine objmk _ _ _ _ _ ?_
  intro h2 b k1 k2 k3
  have F2 := F9.after k1
  have N2 := news_new F9 N9 k1 k2 k3
  clear F9 N9
  walk_at "my steps"
  rename Fr _ _ _ _ => F3
  rename News _ _ _ _ => N3
  refine FunT.use (translate_in q hq hne hl _ _ b) F3 N3 X9 T9 (.tail _ (.head _)) hok ⟨_, (N3 _ (.head _)).1⟩ (by dsimp only [Ar]; (walk_at "om")) (by dsimp only [Ar]; (walk_at "om")) ?_
  intro v h4 tk4 ps4 hok4 kk F4 _ N78 q9
  first | refine ex4_3 q9 fun a vs nn e90 ha0 ha hvs => ?_ | refine ex3_4 q9 fun a vs nn e90 ha0 ha hvs => ?_ | refine ex2_5 q9 fun a vs nn e90 ha0 ha hvs => ?_ | obtain ⟨a, vs, nn, e90, ha0, ha, hvs⟩ := q9
  subst e90
  try clear q9
  have ha3 : (gh hq0).get? a = none := by
    cases e : (gh hq0).get? a with
    | none => rfl
    | some o => have := F3.keep _ _ e; rw [ha0] at this; cases this
  have haL : a ≠ L := by
    rintro rfl
    first | refine ex3_2 F3.ns fun o _ _ ho _ => ?_ | refine ex2_3 F3.ns fun o _ _ ho _ => ?_ | refine ex0_5 F3.ns fun o _ _ ho _ => ?_ | obtain ⟨o, _, _, ho, _⟩ := F3.ns
    rw [ho] at ha0; cases ha0
  have ha78 : a ≠ 78 := by
    rintro rfl
    have := (N3 _ (.tail _ (.head _))).1
    dsimp only at this
    rw [this] at ha0; cases ha0
  have N4 : News (gh hq0) L h4 [(a, PySem.W.listOf (vs ++ [Value.ref b]).toArray nn), (78, tabObj ps4)] := fun p hp => by
    rcases List.mem_cons.mp hp with rfl | hp
    · exact ⟨ha, haL, ha3⟩
    · rw [List.mem_singleton.mp hp]; exact N78
  clear F3 N3 hok hT78 k1 k2 k3 kk ha N78 ha0
  walk_at "my steps"
  rename Fr _ _ _ _ => F5
  rename News _ _ _ _ => N5
  refine Fun.use (join_parts q hl vs nn a b hvs) F5 N5 X9 T9 (N5 _ (.head _)).1 (by dsimp only [Ar]; (walk_at "om")) (by dsimp only [Ar]; (walk_at "om")) ?_
  intro _ _ _ _ F6 N6 q9
  first | refine ex1_1 q9 fun kt e90 => ?_ | refine ex0_2 q9 fun kt e90 => ?_ | obtain ⟨kt, e90⟩ := q9
  subst e90
  try clear q9
  clear F5 N5
  walk_at "my steps"
  exact ret _ _ _ ps4 F6.keep (N6 _ (.tail _ (.head _))).1 hok4 ⟨_, rfl⟩
noncomputable def splitL (c : Nat) : List Nat → List (List Nat)
  | [] => [[]]
  | x :: r => if x = c then [] :: splitL c r else match splitL c r with
    | [] => [[x]]
    | h :: t => (x :: h) :: t
theorem splitL_ne (c : Nat) (l : List Nat) : splitL c l ≠ [] := by
  cases l with
  | nil => simp [splitL]
  | cons x r =>
    unfold splitL
    split
    · simp
    · split <;> simp
theorem splitL_free {c : Nat} : ∀ {x : List Nat}, c ∉ x → splitL c x = [x]
  | [], _ => rfl
  | y :: r, h => by
    have h1 : y ≠ c := fun e => h (e ▸ List.mem_cons_self)
    have h2 : c ∉ r := fun e => h (List.mem_cons_of_mem _ e)
    rw [splitL, if_neg h1, splitL_free h2]
theorem splitL_app (c : Nat) (b : List Nat) : ∀ a : List Nat, splitL c (a ++ c :: b) = splitL c a ++ splitL c b
  | [] => by simp [splitL]
  | x :: r => by
    rw [List.cons_append]
    have ih := splitL_app c b r
    generalize splitL c b = B at ih ⊢
    unfold splitL
    by_cases h : x = c
    · rw [if_pos h, if_pos h, ih]; rfl
    · rw [if_neg h, if_neg h, ih]
      cases e : splitL c r with
      | nil => exact absurd e (splitL_ne c r)
      | cons h t => rfl
theorem splitL_uniq {c : Nat} : ∀ {ls : List (List Nat)}, ls ≠ [] → (∀ x ∈ ls, c ∉ x) → splitL c (joinL [c] ls) = ls
  | [], h, _ => absurd rfl h
  | [x], _, h => splitL_free (h x (.head _))
  | x :: y :: r, _, h => by
    rw [joinL, List.append_assoc, List.singleton_append, splitL_app, splitL_free (h x (.head _)), splitL_uniq (by simp) fun z hz => h z (.tail _ hz)]
    rfl
theorem split_sOf (l : List Nat) (c : Nat) : Txt.split (sOf l) (sOf [c]) = (splitL c l).map sOf := by
  have e1 := StrLaws.join_split (sOf l) (sOf [c])
  have e2 := StrLaws.split_free (sOf l) c
  have e3 := split_pos (sOf l) (sOf [c])
  generalize hL : Txt.split (sOf l) (sOf [c]) = L at e1 e3
  have e2' : ∀ p ∈ L, c ∉ p.cps.toList := by rw [← hL]; exact e2
  have hm : (L.map (·.cps.toList)).map sOf = L := by rw [List.map_map]; exact (List.map_congr_left fun p _ => by show sOf p.cps.toList = p; rfl).trans (List.map_id _)
  rw [← hm, join_sOf] at e1
  have e4 : joinL [c] (L.map (·.cps.toList)) = l := by
    have := congrArg (fun s : Str => s.cps.toList) e1
    simpa using this
  have e5 : splitL c l = L.map (·.cps.toList) := by
    rw [← e4]
    exact splitL_uniq (by intro h; rw [List.map_eq_nil_iff] at h; rw [h] at e3; simp at e3) fun x hx => by
      first | refine ex2_1 (List.mem_map.mp hx) fun p hp e90 => ?_ | refine ex1_2 (List.mem_map.mp hx) fun p hp e90 => ?_ | refine ex0_3 (List.mem_map.mp hx) fun p hp e90 => ?_ | obtain ⟨p, hp, e90⟩ := List.mem_map.mp hx
      subst e90
      exact e2' p hp
  rw [e5, hm]
theorem strValues_are (l : List (Str × Tok)) : StrsAre (strValues l) (l.map (·.1)) := by
  induction l with
  | nil => exact StrsAre.nil
  | cons p r ih => exact StrsAre.cons _ _ ih
/-- what normpath and _law_names do with the parts -/
noncomputable def step (acc : List (List Nat)) (c : List Nat) : List (List Nat) := if c = [46, 46] then acc.dropLast else if c = [] ∨ c = [46] then acc else acc ++ [c]
noncomputable def names (cs : List (List Nat)) : List (List Nat) := cs.foldl step []
theorem names_snoc (cs : List (List Nat)) (c : List Nat) : names (cs ++ [c]) = step (names cs) c := by simp [names]
theorem names_ne (cs : List (List Nat)) : ∀ x ∈ names cs, x ≠ [46, 46] ∧ x ≠ [] ∧ x ≠ [46] := by
  suffices ∀ (cs acc : List (List Nat)), (∀ x ∈ acc, x ≠ [46, 46] ∧ x ≠ [] ∧ x ≠ [46]) → ∀ x ∈ cs.foldl step acc, x ≠ [46, 46] ∧ x ≠ [] ∧ x ≠ [46] from this cs [] (fun _ h => nomatch h)
  intro cs
  induction cs with
  | nil => intro acc h; exact h
  | cons c r ih =>
    intro acc h
    refine ih _ ?_
    unfold step
    split
    · exact fun x hx => h x (List.dropLast_subset _ hx)
    · split
      · exact h
      · rename_i h1 h2
        rw [not_or] at h2
        intro x hx
        rcases List.mem_append.mp hx with hx | hx
        · exact h x hx
        · rw [List.mem_singleton.mp hx]; exact ⟨h1, h2⟩
theorem step_empty (acc : List (List Nat)) : step acc [] = acc := by simp [step]
theorem foldl_empty (acc : List (List Nat)) (a b : List (List Nat)) : (a ++ [] :: b).foldl step acc = (a ++ b).foldl step acc := by simp [step_empty]
/-- os.path.join on two texts -/
noncomputable def join2 (p b : List Nat) : List Nat := if b.head? = some 47 ∨ p = [] then b else if p.getLast? = some 47 then p ++ b else p ++ 47 :: b
theorem names_join2 {p b : List Nat} (hp : p.head? = some 47) (hb : b.head? ≠ some 47) : names (splitL 47 (join2 p b)) = names (splitL 47 p ++ splitL 47 b) := by
  have hne : p ≠ [] := by rintro rfl; cases hp
  unfold join2
  rw [if_neg (by simp [hb, hne])]
  split
  · rename_i h
    obtain ⟨x, rfl⟩ : ∃ x, p = x ++ [47] := by
      obtain ⟨ys, hys⟩ := List.getLast?_eq_some_iff.mp h
      exact ⟨ys, hys⟩
    rw [List.append_assoc, List.singleton_append, splitL_app, splitL_app]
    show names _ = names (splitL 47 x ++ [[]] ++ splitL 47 b)
    unfold names
    rw [List.append_assoc, List.singleton_append, foldl_empty]
  · rw [splitL_app]
theorem join2_head {p b : List Nat} (hp : p.head? = some 47) (hb : b.head? ≠ some 47) : (join2 p b).head? = some 47 := by
  cases p with
  | nil => cases hp
  | cons x r =>
    unfold join2
    rw [if_neg (by simp [hb])]
    split <;> simpa using hp
/-- no second mark right after the first -/
noncomputable def one47 (p : List Nat) : Prop := ∃ l, p = 47 :: l ∧ l.head? ≠ some 47
theorem join2_one {p b : List Nat} (hp : one47 p) (hb : b.head? ≠ some 47) : one47 (join2 p b) := by
  first | refine ex2_1 hp fun l e90 hl => ?_ | refine ex1_2 hp fun l e90 hl => ?_ | refine ex0_3 hp fun l e90 hl => ?_ | obtain ⟨l, e90, hl⟩ := hp
  subst e90
  try clear hp
  unfold join2
  rw [if_neg (by simp [hb])]
  split
  · refine ⟨l ++ b, rfl, ?_⟩
    cases l with
    | nil => simpa using hb
    | cons x r => simpa using hl
  · rename_i h
    refine ⟨l ++ 47 :: b, rfl, ?_⟩
    cases l with
    | nil => simp at h
    | cons x r => simpa using hl
noncomputable def joinAll (ps : List (List Nat)) : List Nat := ps.foldl join2 [47]
theorem joinAll_one : ∀ (ps : List (List Nat)), (∀ b ∈ ps, b.head? ≠ some 47) → ∀ p, one47 p → one47 (ps.foldl join2 p)
  | [], _, _, h => h
  | b :: r, hb, p, h => joinAll_one r (fun x hx => hb x (.tail _ hx)) _ (join2_one h (hb b (.head _)))
theorem names_split_join : ∀ (ps : List (List Nat)), (∀ b ∈ ps, b.head? ≠ some 47) → ∀ p, one47 p → names (splitL 47 (ps.foldl join2 p)) = names (splitL 47 p ++ ps.flatMap (splitL 47))
  | [], _, p, _ => by simp
  | b :: r, hb, p, h => by
    have h1 := names_split_join r (fun x hx => hb x (.tail _ hx)) _ (join2_one h (hb b (.head _)))
    first | refine ex2_1 h fun l e90 hl => ?_ | refine ex1_2 h fun l e90 hl => ?_ | refine ex0_3 h fun l e90 hl => ?_ | obtain ⟨l, e90, hl⟩ := h
    subst e90
    try clear h
    have h2 := names_join2 (p := 47 :: l) rfl (hb b (.head _))
    rw [List.foldl_cons, h1, List.flatMap_cons]
    unfold names at h2 ⊢
    rw [List.foldl_append, h2, ← List.foldl_append, List.append_assoc]
theorem splitL_join : ∀ (ps : List (List Nat)), ps ≠ [] → splitL 47 (joinL [47] ps) = ps.flatMap (splitL 47)
  | [], h => absurd rfl h
  | [x], _ => by simp [joinL]
  | x :: y :: r, _ => by
    rw [joinL, List.append_assoc, List.singleton_append, splitL_app, splitL_join (y :: r) (by simp)]; simp only [List.flatMap_cons]
theorem names_join_all (ps : List (List Nat)) (hne : ps ≠ []) (hb : ∀ b ∈ ps, b.head? ≠ some 47) : names (splitL 47 (joinAll ps)) = names (splitL 47 (joinL [47] ps)) := by
  rw [joinAll, names_split_join ps hb _ ⟨[], rfl, by simp⟩, splitL_join ps hne]
  show names ([] :: [] :: ps.flatMap (splitL 47)) = _
  unfold names
  rw [List.foldl_cons, List.foldl_cons, step_empty, step_empty]
noncomputable def tup (vs : List Value) : Obj := ⟨.type "tuple", none, .seq vs.toArray, #[]⟩
theorem splitroot {w : World} (l : List Nat) (hl : l.head? ≠ some 47) (hlen : l.length ≤ 1000) (ta : Tok) : Fun w 2 191 [.str (sOf (47 :: l)) ta] tt0 (fun h v h' => ∃ D t1 t2 t3, v = .ref D ∧ h.get? D = none ∧ h'.get? D = some (tup [.str (sOf []) t1, .str (sOf [47]) t2, .str (sOf l) t3])) := by
  intro mean mg mb dp un fr gd hq0 gq0 dq0 tq0 oq0 Q E X T hpre hdp hun ret
  refine wpAny_call ?_
  refine' enter (binds := [(Str.ofString "p", .str (sOf (47 :: l)) ta)]) X T ?ho ⟨?hcd, ?h1, ?h2, ?h3⟩ ?hroom ?h4 ?hbind ?hloc ?_
  case ho => k_is
  case hcd => k_is
  case hroom => exact om18 hdp
  case hbind => exact BindsTo.of_eq rfl
  case hloc => exact locs rfl
  case h1 => exact rfl
  case h2 => exact rfl
  case h3 => exact rfl
  case h4 => decide
  intro L h₁ F N
  dsimp only [BodyOf, List.reverse_cons, List.reverse_nil, List.nil_append, List.cons_append, List.length_cons, List.length_nil] at F ⊢
  k_fold
  have e1 : Txt.slice (sOf (47 :: l)) none (some 1) = sOf [47] := by rw [sl_to _ (by (walk_at "om"))]; rfl
  have e2 : Txt.slice (sOf (47 :: l)) (some 1) none = sOf l := by rw [sl_from _ (by (walk_at "om"))]; rfl
  have e3 : Txt.slice (sOf (47 :: l)) (some 1) (some 2) ≠ sOf [47] := by
    cases l with
    | nil => decide +kernel
    | cons x r =>
      rw [sl_ss _ (by (walk_at "om")) (by (walk_at "om")) (by simp; (walk_at "om"))]
      intro h
      have := congrArg (fun s : Str => s.cps.toList) h
      simp at this hl
      exact hl this
  have hz : (sOf (47 :: l)).length ≤ 1001 := by rw [sOf_len]; simp; (walk_at "om")
  generalize sOf (47 :: l) = z at *
  walk_at "my steps"
  · exact absurd (by assumption : (Txt.slice z none (some 1) != sOf [47]) = true) (by rw [e1]; decide +kernel)
  · rename News _ _ _ _ => N9
    rw [e2] at N9
    exact ret _ _ _ (Fr.keep (by assumption)) ⟨_, _, _, _, rfl, (N9 _ (.head _)).2.2, (N9 _ (.head _)).1⟩
  · rename News _ _ _ _ => N9
    rw [e2] at N9
    exact ret _ _ _ (Fr.keep (by assumption)) ⟨_, _, _, _, rfl, (N9 _ (.head _)).2.2, (N9 _ (.head _)).1⟩
  · exact absurd (by assumption : (Txt.slice z (some 1) (some 2) != sOf [47]) = false) (by simpa using e3)
section
variable {prog : Program} {w : World} {A : Around} {E : Value → Shared → Prop} {s : Shared}
theorem truthy_sOf {l : List Nat} {t : Tok} {Q : Bool → Shared → Prop} (hl : l.length ≤ 100000) (h : ∀ k, Q (!l.isEmpty) { s with toks := k }) : wpAny (model prog w) A (truthy (.str (sOf l) t)) Q E s :=
  KXt.truthy (b := !l.isEmpty) (by rw [sOf_len]; cases l <;> simp [bne]; (walk_at "om")) (by rw [sOf_len]; (walk_at "om")) h
end
theorem reg_j_10 : True := by
  (k_with "truthy str" => (k_here; refine truthy_sOf ?hl ?_; (case hl => first | assumption | (walk_at "om") | (simp only [List.length_cons]; (walk_at "om"))); intro _; (try dsimp only [List.isEmpty, Bool.not_false, Bool.not_true])))
  (k_with "call builtin:str.split" => (k_here; (with_reducible rename Fr _ _ _ _ => kF); (with_reducible rename News _ _ _ _ => kN); refine splitN1 (hsz := ?hsz) kF kN rfl ?_; (case hsz => (rw [sizeLine_eq, sOf_len]; (walk_at "om"))); intro kl _ _ ke _ _; (rw [split_sOf] at ke); (have kS := strValues_are kl); (rw [ke] at kS)))
  trivial
theorem splitL_short {c : Nat} : ∀ {l x : List Nat}, x ∈ splitL c l → x.length ≤ l.length
  | [], x, h => by rw [List.mem_singleton.mp h]; simp
  | y :: r, x, h => by
    unfold splitL at h
    split at h
    · rcases List.mem_cons.mp h with rfl | h
      · simp
      · have := splitL_short h; simp; (walk_at "om")
    · split at h
      · rename_i e; exact absurd e (splitL_ne c r)
      · rename_i hd tl e
        rcases List.mem_cons.mp h with rfl | h
        · have := splitL_short (x := hd) (l := r) (c := c) (by rw [e]; exact .head _); simp; (walk_at "om")
        · have := splitL_short (x := x) (l := r) (c := c) (by rw [e]; exact .tail _ h); simp; (walk_at "om")
theorem splitL_len {c : Nat} : ∀ l : List Nat, (splitL c l).length ≤ l.length + 1
  | [] => by simp [splitL]
  | y :: r => by
    have := splitL_len (c := c) r
    unfold splitL
    split
    · simp; (walk_at "om")
    · split
      · simp
      · rename_i e; rw [e] at this; simp at this ⊢; (walk_at "om")
theorem names_len (cs : List (List Nat)) : (names cs).length ≤ cs.length := by
  suffices ∀ (cs acc : List (List Nat)), (cs.foldl step acc).length ≤ acc.length + cs.length by simpa [names] using this cs []
  intro cs
  induction cs with
  | nil => intro acc; simp
  | cons c r ih =>
    intro acc
    have h1 : (step acc c).length ≤ acc.length + 1 := by unfold step; split; simp; (walk_at "om"); split <;> simp
    have := ih (step acc c)
    simp only [List.foldl_cons, List.length_cons]; (walk_at "om")
theorem names_take {cs : List (List Nat)} {i : Nat} {x : List Nat} (h : cs[i]? = some x) : names (cs.take (i + 1)) = step (names (cs.take i)) x := by
  rw [List.take_add_one, h]; exact names_snoc _ _
theorem reg_j_11 : True := by
  (k_with "my same0" => (intro _ _ h3; (simp only [List.contains_cons, List.contains_nil, Bool.or_false, Bool.or_eq_false_iff, beq_eq_false_iff_ne, ne_eq] at h3); (simp [h3, kstB]; done)))
  trivial
theorem SAre.last {vs : List Value} {ls : List (List Nat)} (h : SAre vs ls) (hne : vs ≠ []) : ∃ vs' ls' x t, vs = vs' ++ [.str (sOf x) t] ∧ ls = ls' ++ [x] ∧ SAre vs' ls' := by
  have hl := StrsAre.length h
  rw [List.length_map] at hl
  obtain ⟨v, hv⟩ : ∃ v, vs[vs.length - 1]? = some v := ⟨_, List.getElem?_eq_getElem (by have := List.length_pos_iff.mpr hne; (walk_at "om"))⟩
  first | refine ex2_2 (StrsAre.item h _ v hv) fun y t e90 hy => ?_ | refine ex1_3 (StrsAre.item h _ v hv) fun y t e90 hy => ?_ | obtain ⟨y, t, e90, hy⟩ := StrsAre.item h _ v hv
  subst e90
  rw [List.getElem?_map, Option.map_eq_some_iff] at hy
  first | refine ex2_1 hy fun x hx e90 => ?_ | refine ex1_2 hy fun x hx e90 => ?_ | refine ex0_3 hy fun x hx e90 => ?_ | obtain ⟨x, hx, e90⟩ := hy
  subst e90
  try clear hy
  have e1 : vs = vs.take (vs.length - 1) ++ [.str (sOf x) t] := by
    conv => lhs; rw [← List.take_append_drop (vs.length - 1) vs]
    rw [List.drop_eq_getElem?_toList_append, hv, List.drop_eq_nil_of_le (by have := List.length_pos_iff.mpr hne; (walk_at "om"))]; rfl
  have e2 : ls = ls.take (vs.length - 1) ++ [x] := by
    conv => lhs; rw [← List.take_append_drop (vs.length - 1) ls]
    rw [List.drop_eq_getElem?_toList_append, hx, List.drop_eq_nil_of_le (by have := List.length_pos_iff.mpr hne; (walk_at "om"))]; rfl
  refine ⟨_, _, x, t, e1, e2, ?_⟩
  unfold SAre
  rw [List.map_take]
  exact StrsAre.take' h _
section
variable {prog : Program} {w : World} {A : Around} {E : Value → Shared → Prop} {s : Shared} {h₀ : Heap} {L : Addr} {m : Str → Option Value}
theorem app_own {a : Addr} {vs : List Value} {n : Nat} {x : Value} {rest : List (Addr × Obj)} {Q : Value → Shared → Prop} (F : Fr h₀ L s.heap m) (N : News h₀ L s.heap ((a, PySem.W.listOf vs.toArray n) :: rest)) (hoff : ∀ p ∈ rest, p.1 ≠ a) (hsz : vs.length < 1000000)
    (hQ : ∀ h', Fr h₀ L h' m → News h₀ L h' ((a, PySem.W.listOf (vs ++ [x]).toArray (n + 1)) :: rest) → Q .none { s with heap := h' }) : wpAny (model prog w) A (call (.builtin "list.append") [.ref a, x]) Q E s :=
  append_K F N (.head hoff) (fun h' F' N' => hQ h' F' (by rw [List.push_toArray] at N'; exact N')) (by simp [sizeLine_eq]; (walk_at "om"))
theorem pop_own {a : Addr} {vs : List Value} {n : Nat} {x : Value} {rest : List (Addr × Obj)} {Q : Value → Shared → Prop} (F : Fr h₀ L s.heap m) (N : News h₀ L s.heap ((a, PySem.W.listOf (vs ++ [x]).toArray n) :: rest)) (hoff : ∀ p ∈ rest, p.1 ≠ a) (hsz : (vs ++ [x]).length < 1000000)
    (hQ : ∀ h', Fr h₀ L h' m → News h₀ L h' ((a, PySem.W.listOf vs.toArray (n + 1)) :: rest) → Q x { s with heap := h' }) : wpAny (model prog w) A (call (.builtin "list.pop") [.ref a]) Q E s :=
  kl_pop F N (p := vs) (y := x) (by simpa using kpa_last x vs) (.head hoff) (by simp [sizeLine_eq] at hsz ⊢; (walk_at "om")) hQ
end
theorem rest_off {a b : Addr} {x o : Obj} {own : List (Addr × Obj)} (h : b < a) (hoff : OwnOff own (List.map (·.1) [(a, x), (b, o)])) : ∀ p ∈ (b, o) :: own, p.1 ≠ a := fun p hp => by
  rcases List.mem_cons.mp hp with rfl | hp
  · exact Nat.ne_of_lt h
  · exact hoff p hp _ (.head _)
theorem reg_j_12 : True := by
  (k_with "call builtin:list.append" => (k_here; (with_reducible rename Fr _ _ _ _ => kF); (with_reducible rename News _ _ _ _ => kN); refine app_own kF kN ?hoff ?hsz ?_; (case hoff => assumption); (case hsz => (walk_at "om")); intro _ _ _))
  (k_with "call builtin:list.pop" => (k_here; (with_reducible rename Fr _ _ _ _ => kF); (with_reducible rename News _ _ _ _ => kN); refine pop_own kF kN ?hoff ?hsz ?_; (case hoff => assumption); (case hsz => (walk_at "om")); intro _ _ _))
  trivial
theorem tot_names (cs : List (List Nat)) : tot (names cs) ≤ tot cs := by
  suffices ∀ (cs acc : List (List Nat)), tot (cs.foldl step acc) ≤ tot acc + tot cs by simpa [names, tot] using this cs []
  intro cs
  induction cs with
  | nil => intro acc; simp [tot]
  | cons c r ih =>
    intro acc
    have h1 : tot (step acc c) ≤ tot acc + c.length + 1 := by
      unfold step
      split
      · have : tot acc.dropLast ≤ tot acc := by
          rcases List.eq_nil_or_concat acc with rfl | ⟨a, x, rfl⟩
          · simp
          · rw [List.concat_eq_append, List.dropLast_concat, tot_append]; (walk_at "om")
        (walk_at "om")
      · split
        · (walk_at "om")
        · rw [tot_append, tot_cons, tot_nil]; (walk_at "om")
    have := ih (step acc c)
    rw [List.foldl_cons, tot_cons]; (walk_at "om")
theorem tot_splitL (c : Nat) : ∀ l : List Nat, tot (splitL c l) = l.length + 1
  | [] => by simp [splitL, tot]
  | y :: r => by
    have := tot_splitL c r
    unfold splitL
    split
    · rw [tot_cons, this]; simp; (walk_at "om")
    · split
      · rename_i e; exact absurd e (splitL_ne c r)
      · rename_i e; rw [e, tot_cons] at this; rw [tot_cons]; simp; (walk_at "om")
theorem joinL_len : ∀ ls : List (List Nat), (joinL [47] ls).length ≤ tot ls
  | [] => by simp [joinL]
  | [x] => by simp [joinL, tot]
  | x :: y :: r => by have := joinL_len (y :: r); rw [joinL, tot_cons]; simp; (walk_at "om")
noncomputable def nLed (a b : Addr) (o : Obj) (c : List Value × Nat) : List (Addr × Obj) := [(a, PySem.W.listOf c.1.toArray c.2), (b, o)]
theorem nled {a b : Addr} {o : Obj} {vs : List Value} {n : Nat} {news : List (Addr × Obj)} (h : ∀ p ∈ [(a, PySem.W.listOf vs.toArray n), (b, o)], p ∈ news) : ∀ p ∈ nLed a b o (vs, n), p ∈ news := h
theorem normpath {w : World} (l : List Nat) (hl : l.head? ≠ some 47) (hlen : l.length ≤ 1000) (ta : Tok) : Fun w 3 198 [.str (sOf (47 :: l)) ta] tt0 (fun _ v _ => ∃ t, v = .str (sOf (47 :: joinL [47] (names (splitL 47 l)))) t) := by
  intro mean mg mb dp un fr gd hq0 gq0 dq0 tq0 oq0 Q E X T hpre hdp hun ret
  refine wpAny_call ?_
  refine' enter (binds := [(Str.ofString "path", .str (sOf (47 :: l)) ta)]) X T ?ho ⟨?hcd, ?h1, ?h2, ?h3⟩ ?hroom ?h4 ?hbind ?hloc ?_
  case ho => k_is
  case hcd => k_is
  case hroom => exact om18 hdp
  case hbind => exact BindsTo.of_eq rfl
  case hloc => exact locs rfl
  case h1 => exact rfl
  case h2 => exact rfl
  case h3 => exact rfl
  case h4 => decide
  intro L h₁ F N
  dsimp only [BodyOf, List.reverse_cons, List.reverse_nil, List.nil_append, List.cons_append, List.length_cons, List.length_nil] at F ⊢
  k_fold
  walk_at "my steps"
  rename Fr _ _ _ _ => F8
  rename News _ _ _ _ => N8
  refine Fun.use (splitroot l hl hlen _) F8 N8 (by assumption) (by assumption) trivial (by dsimp only [Ar]; (walk_at "om")) (by dsimp only [Ar]; (walk_at "om")) ?_
  intro _ h' tk' k1 F9 _ q9
  first | refine ex4_3 q9 fun D t1 t2 t3 e90 k2 k3 => ?_ | refine ex3_4 q9 fun D t1 t2 t3 e90 k2 k3 => ?_ | refine ex2_5 q9 fun D t1 t2 t3 e90 k2 k3 => ?_ | obtain ⟨D, t1, t2, t3, e90, k2, k3⟩ := q9
  subst e90
  try clear q9
  have N9 := news_new F8 N8 k1 k2 k3
  clear F8 N8
  unfold tup at N9
  walk_at "my steps"
  rename StrsAre (strValues _) _ => hS
  rename _ < _ ∧ _ < _ => l9
  walk_at "exec For"
  walk1
  rename Fr _ _ _ _ => F8
  rename News _ _ _ _ => N8
  refine for_list (σ := List Value × Nat) (nLed _ _ _) (fun _ => []) ["comp"] (fun i c => SAre c.1 (names ((splitL 47 l).take i))) rfl rfl ⟨0, rfl⟩ (fun c h m F N => (N _ (.tail _ (.head _))).1) (Ne.symm (N8 _ (.tail _ (.head _))).2.1) ?hled F8 ⟨([], _), fun p hp => N8 p (by rcases List.mem_cons.mp hp with rfl | hp; exact .head _; exact .tail _ (by rw [List.mem_singleton.mp hp]; exact .head _)), trivial, StrsAre.nil⟩ ?_ ?_ PassesOwn.never
  case hled => intro c p hp; rcases List.mem_cons.mp hp with rfl | hp; rfl; rw [List.mem_singleton.mp hp]; rfl
  · intro i v q9 u h tk own hv hvs hoff F'' N''
    first | refine ex1_1 q9 fun vs nv => ?_ | refine ex0_2 q9 fun vs nv => ?_ | obtain ⟨vs, nv⟩ := q9
    try clear q9
    dsimp only [nLed, kstB] at F'' N'' hvs hoff
    obtain ⟨y, t, rfl, hy⟩ := StrsAre.item hS i v (by simpa using hv)
    rw [List.getElem?_map, Option.map_eq_some_iff] at hy
    first | refine ex2_1 hy fun x hx e90 => ?_ | refine ex1_2 hy fun x hx e90 => ?_ | refine ex0_3 hy fun x hx e90 => ?_ | obtain ⟨x, hx, e90⟩ := hy
    subst e90
    try clear hy
    have hxl : x.length ≤ 1000 := Nat.le_trans (splitL_short (List.mem_of_getElem? hx)) hlen
    have hn := names_take hx
    have hvl : vs.length ≤ 1001 := by
      have h1 := StrsAre.length hvs
      have h2 := names_len ((splitL 47 l).take i)
      have h3 := splitL_len (c := 47) l
      simp at h1 h2; (walk_at "om")
    have F3 : Fr hq0 L h _ := F''
    have N3 : News hq0 L h _ := N''
    have hrest := rest_off l9.1 hoff
    have hne := names_ne ((splitL 47 l).take i)
    generalize names ((splitL 47 l).take i) = nm at hvs hn hne
    clear F8 N8 F'' N'' k1 k2 k3 hv hx
    by_cases h1 : x = []
    · subst h1
      rw [step_empty] at hn
      walk_at "my steps"
      rename Fr _ _ _ _ => F9
      rename News _ _ _ _ => N9
      refine fcont2 F9 N9 ⟨(vs, nv), nled (fun p hp => List.mem_append_left _ hp), fun p hp => List.mem_append_right _ hp, trivial, ?_, by rw [hn]; exact hvs⟩
      walk_at "my same0"
    by_cases h2 : x = [46]
    · subst h2
      rw [show step nm [46] = nm by simp [step]] at hn
      walk_at "my steps"
      rename Fr _ _ _ _ => F9
      rename News _ _ _ _ => N9
      refine fcont2 F9 N9 ⟨(vs, nv), nled (fun p hp => List.mem_append_left _ hp), fun p hp => List.mem_append_right _ hp, trivial, ?_, by rw [hn]; exact hvs⟩
      walk_at "my same0"
    by_cases h3 : x = [46, 46]
    · subst h3
      rw [show step nm [46, 46] = nm.dropLast by simp [step]] at hn
      by_cases hv0 : vs = []
      · subst hv0
        have hnm : nm = [] := by have := StrsAre.length hvs; simpa using this.symm
        subst hnm
        walk_at "my steps"
        rename Fr _ _ _ _ => F9
        rename News _ _ _ _ => N9
        refine fnext ([], nv) F9 N9 (nled (fun p hp => List.mem_append_left _ hp)) (fun p hp => List.mem_append_right _ hp) trivial ?_ (by rw [hn]; exact hvs)
        walk_at "my same0"
      first | refine ex4_3 (SAre.last hvs hv0) fun vs' nm' z t9 e90 e91 hvs' => ?_ | refine ex3_4 (SAre.last hvs hv0) fun vs' nm' z t9 e90 e91 hvs' => ?_ | refine ex2_5 (SAre.last hvs hv0) fun vs' nm' z t9 e90 e91 hvs' => ?_ | obtain ⟨vs', nm', z, t9, e90, e91, hvs'⟩ := SAre.last hvs hv0
      subst e90
      subst e91
      have hz : (sOf z == sOf [46, 46]) = false := by simpa using (hne z (by simp)).1
      rw [List.dropLast_concat] at hn
      have g0 : ((vs' ++ [Value.str (sOf z) t9]).isEmpty) = false := by simp
      walk_at "my steps"
      rename Fr _ _ _ _ => F7
      rename News _ _ _ _ => N7
      refine fnext (vs', _) F7 N7 (nled (fun p hp => List.mem_append_left own hp)) (fun p hp => .tail _ (.tail _ hp)) trivial ?_ (by rw [hn]; exact hvs')
      walk_at "my same0"
    rw [show step nm x = nm ++ [x] by simp [step, h1, h2, h3]] at hn
    have g2 : (sOf x == sOf [46]) = false := by simpa using h2
    have g3 : (sOf x != sOf [46, 46]) = true := by simpa using h3
    obtain ⟨c, r, rfl⟩ : ∃ c r, x = c :: r := by cases x with | nil => exact absurd rfl h1 | cons c r => exact ⟨c, r, rfl⟩
    walk_at "my steps"
    rename Fr _ _ _ _ => F7
    rename News _ _ _ _ => N7
    refine fnext (vs ++ [Value.str (sOf (c :: r)) t], nv + 1) F7 N7 (nled (fun p hp => List.mem_append_left own hp)) (fun p hp => .tail _ (.tail _ hp)) trivial ?_ (by rw [hn]; exact sare_snoc hvs)
    walk_at "my same0"
  · rintro ⟨vs, nv⟩ u h tk hvs F'' N''
    have hsz := StrsAre.length hS
    rw [List.length_map] at hsz
    dsimp only at hvs
    rw [List.size_toArray, hsz, List.take_length] at hvs
    have F3 : Fr hq0 L h _ := F''
    have N3 : News hq0 L h _ := N''
    dsimp only [nLed, kstB] at F3 N3
    clear F8 N8 F'' N'' k1 k2 k3
    have ht : tot (names (splitL 47 l)) ≤ 1001 := Nat.le_trans (tot_names _) (by rw [tot_splitL]; (walk_at "om"))
    generalize names (splitL 47 l) = nm at hvs ht ret
    have ht2 : tot nm ≤ 100000 := by (walk_at "om")
    have hjl := joinL_len nm
    walk_at "my steps"
    rw [List.singleton_append]
    walk_at "my steps"
    exact ret _ _ _ (Fr.keep (by assumption)) ⟨_, rfl⟩
theorem reg_none_C20 : True := by
  k_with_none
  trivial
theorem reg_j_13 : True := by
  (k_with "call builtin:issubclass" => (k_here; (rename News _ _ _ _ => kN); refine isub _ _ _ _ _ _ ((kN _ (by k_mem)).1) ?_; intro _))
  (k_with "exec For" => (refine wpAny_For ?_ (by intro _; rfl)))
  (k_with "my steps" => repeat' (first | (k_unfold; (try dsimp only)) | ((fail_if_success (with_reducible show wpAny _ _ (exec (Stmt.While _ _ _ _) _) _ _ _)); (fail_if_success (with_reducible show wpAny _ _ (exec (Stmt.For _ _ _ _ _) _) _ _ _)); (fail_if_success (with_reducible show wpAny _ _ (exec (Stmt.Assign _ (Expr.ListComp _ _ _ _) _) _) _ _ _)); (fail_if_success (with_reducible show wpAny _ _ (eval (Expr.ListComp _ _ _ _) _) _ _ _)); walk1) | fail "no step"))
  (k_with "om" => (first | with_reducible assumption | with_unfolding_all exact Nat.le_of_ble_eq_true rfl | ((with_reducible apply om1); (focus with_reducible assumption); with_unfolding_all exact rfl) | ((with_reducible apply om3); (focus with_reducible assumption); with_unfolding_all exact rfl) | ((with_reducible apply om2); (focus with_reducible assumption); with_unfolding_all exact rfl) | ((with_reducible apply om4); (focus with_reducible assumption); with_unfolding_all exact rfl) | ((with_reducible apply om5); (focus with_reducible assumption); with_unfolding_all exact rfl) | ((with_reducible apply om6); (focus with_reducible assumption); with_unfolding_all exact rfl) | ((with_reducible apply om7); (focus with_reducible assumption); with_unfolding_all exact rfl) | ((with_reducible apply om8); (focus with_reducible assumption); with_unfolding_all exact rfl) | with_reducible exact Int.natCast_nonneg _ | with_reducible exact om9 | ((with_reducible apply om10); (focus with_reducible assumption); with_unfolding_all exact rfl) | ((with_reducible apply om11); (focus with_reducible assumption); with_unfolding_all exact rfl) | ((with_reducible apply Nat.le_of_lt); with_reducible assumption) | ((with_reducible apply Nat.succ_le_of_lt); with_reducible assumption) | ((with_reducible apply om12); (focus with_reducible assumption); with_unfolding_all exact rfl) | ((with_reducible apply om13); (focus with_reducible assumption); with_unfolding_all exact rfl) | ((with_reducible apply om14); (focus with_reducible assumption); with_unfolding_all exact rfl) | ((with_reducible apply om15); (focus with_reducible assumption); with_unfolding_all exact rfl) | ((with_reducible apply om16); (focus with_reducible assumption); with_unfolding_all exact rfl) | ((with_reducible apply om17); (focus with_reducible assumption); with_unfolding_all exact rfl) | ((with_reducible apply om19); (focus with_reducible assumption); with_unfolding_all exact rfl) | ((with_reducible apply om20); (focus with_reducible assumption); with_unfolding_all exact rfl) | ((with_reducible apply om18); with_reducible assumption) | ((with_reducible show (_ : Int) = _); with_unfolding_all exact rfl) | ((with_reducible apply om21); (focus with_reducible assumption); with_unfolding_all exact rfl) | ((with_reducible apply om22); with_unfolding_all exact rfl) | ((with_reducible apply om25); with_unfolding_all exact rfl) | ((with_reducible apply om24); with_unfolding_all exact rfl) | ((with_reducible apply om23); with_unfolding_all exact rfl) | decide | omega))
  (k_with "execs cons" => ((with_reducible refine exec_seq ?_); (try dsimp only)))
  (k_with "Seq" => (first | with_reducible refine seq_next ?_ | with_reducible refine seq_ret ?_ | with_reducible refine seq_brk ?_ | with_reducible refine seq_cont ?_))
  (k_with "exec If" => (with_reducible refine exec_if ?_))
  (k_with "IfQ" => (first | with_reducible refine ifq_t ?_ | with_reducible refine ifq_f ?_ | with_reducible refine ifq ?_))
  (k_with "call ref" => (k_here; (first | apply Fun.useE (fspath _ _) | apply Fun.useX (get_sep _ _) | apply Fun.useX (law_stem _ _) | apply Fun.useX (strcoll _ _ _ _) | apply Fun.useH (fun h => escape _ h _) | apply Fun.useE (strxfrm _ _)); (iterate 3 with_reducible assumption); assumption; trivial; (first | (apply room_d; assumption; exact rfl) | (dsimp only [Ar]; (walk_at "om"))); (first | (apply room_u; assumption; exact rfl) | (dsimp only [Ar]; (walk_at "om"))); intros))
  (k_with "my item" => (k_here; first | refine item_my (j := 0) (by (walk_at "om")) rfl (by (walk_at "om")) ?_ | refine item_my (j := 1) (by (walk_at "om")) rfl (by (walk_at "om")) ?_ | refine item_my (j := 2) (by (walk_at "om")) rfl (by (walk_at "om")) ?_ | refine item_my (j := 3) (by (walk_at "om")) rfl (by (walk_at "om")) ?_))
  (k_with "subscriptTail Name Name str int" => walk_at "my item")
  (k_with "subscriptTail Name BinOp str int" => walk_at "my item")
  (k_with "subscriptTail Name Constant str int" => walk_at "my item")
  (k_with "subscriptTail Name UnaryOp str int" => walk_at "my item")
  (k_with "call builtin:len" => (k_here; refine len_sOf (by first | ((simp only [List.length_append, List.length_cons, List.length_nil]); exact rfl) | exact rfl) (by (walk_at "om")) ?_))
  (k_with "my same" => (first | (intro z h2 h3; (repeat (refine sm_step ?hne ?_; (case hne => first | exact h2 _ (.head _) | exact h2 _ (.tail _ (.head _)) | exact h2 _ (.tail _ (.tail _ (.head _))) | exact sm_stored h3 (by decide +kernel)))); first | exact sm_last h3 | exact rfl) | (intro z h2 h3; (simp only [List.forall_mem_cons, List.not_mem_nil, false_implies, implies_true, and_true, ne_eq] at h2); (simp only [List.contains_cons, List.contains_nil, Bool.or_false, Bool.or_eq_false_iff, beq_eq_false_iff_ne, ne_eq] at h3); (simp [h2, h3, kstB]; done))))
  (k_with "binaryOp Add str str" => (k_here; refine add_sOf (by (simp only [List.length_append, List.length_cons, List.length_nil]); (walk_at "om")) ?_; intro _ _))
  (k_with "ite" => (k_closed; first | refine ite_pos (by decide +kernel) ?_ | refine ite_neg (by decide +kernel) ?_))
  (k_with "eval Name" => (k_here; (with_reducible show wpAny _ _ (eval _ (compEnvC _ _ _ _)) _ _ _); (with_reducible rename Fr _ _ _ _ => kF); first | refine ev_loc kF rfl ?_ rfl rfl (by decide) | refine ev_cell kF rfl (by assumption) ?_ rfl rfl (by decide)))
  (k_with "call builtin:str.join" => (k_here; (with_reducible rename News _ _ _ _ => kN); refine join_my (News.isListX kN (by k_mem)) (by assumption) (by first | assumption | (simp only [tot_append, tot_cons, tot_nil]; (walk_at "om"))) (by simp) ?_; intro _ _))
  (k_with "eval Constant str" => (with_reducible refine const_my (by first | exact cst0 | exact cst1 | exact cst2 | exact cst3 | exact cst4 | exact cst5 | exact cst6 | exact cst7 | exact cst8 | exact cst9 | exact cst10 | exact cst11 | exact cst12 | exact cst13 | exact cst14 | exact cst15 | exact cst16 | exact cst17 | exact cst18 | exact cst19 | exact cst20 | exact cst21 | exact cst22 | exact cst23 | exact cst24 | exact cst25 | exact cst26 | exact cst27) ?_))
  (k_with "getAttr ref" => (k_here; (with_reducible show wpAny _ _ (getAttr (Value.ref _) (PySem.Str.ofString "append") _) _ _ _); (with_reducible rename Fr _ _ _ _ => kF); (with_reducible rename News _ _ _ _ => kN); refine' attr_append_N kF kN ?ha ?_; (case ha => k_mem); intro _ _ _ _ _))
  (k_with "callWith ref" => (k_here; (with_reducible rename News _ _ _ _ => kN); refine' bound_call kN ?hq ?_; (case hq => k_mem)))
  (k_with "call ref" => (k_here; (with_reducible rename Fr _ _ _ _ => kF); (with_reducible rename News _ _ _ _ => kN); refine' bound_append_L kF kN ?hq ?hl ?hs ?_; (case hq => k_mem); (case hl => k_mem); (case hs => ((try simp only [List.length_append, List.length_cons, List.length_nil]); (walk_at "om"))); intro _ _ _))
  (k_with "truthy ref" => (k_here; (with_reducible rename News _ _ _ _ => kN); refine' truthy_L kN ?hl ?hs ?_; (case hl => k_mem); (case hs => ((try simp only [List.length_append, List.length_cons, List.length_nil]); (walk_at "om"))); (try simp only [List.isEmpty_append, List.isEmpty_cons, Bool.and_false, Bool.not_false])))
  (k_with "subscriptTail Name UnaryOp ref int" => (k_here; (with_reducible rename News _ _ _ _ => kN); refine' item_last (News.isListX kN ?hl) ?_ ?hs ?hg; (case hl => k_mem); (case hs => with_unfolding_all rfl); (case hg => (intro _; with_unfolding_all rfl))))
  (k_with "compareOp IsNot str ref" => (k_here; refine wpAny_isNot_other (by rfl) (by intro x; cases x) ?_))
  (k_with "And" => ((with_reducible show Heap.get? _ _ = _ ∧ _); (with_reducible rename News _ _ _ _ => kN); refine' ⟨boundAt kN ?hq, ?_⟩; (case hq => with_unfolding_all k_mem); (try dsimp only)))
  (k_with "getAttr ref" => (k_here; (apply attr_append_T (P := 78)); (iterate 2 with_reducible assumption); (iterate 2 k_mem); intros))
  (k_with "call ref" => (k_here; (apply bound_append_T (P := 78)); (iterate 2 with_reducible assumption); (iterate 3 k_mem); (focus (try simp only [List.length_append, List.length_cons, List.length_nil]); (walk_at "om")); intros))
  (k_with "eval Lambda" => (k_here; (with_reducible rename Fr _ _ _ _ => kF); (with_reducible rename News _ _ _ _ => kN); (with_reducible rename Frag.In _ _ => kX); (with_reducible rename Top _ _ _ _ _ _ => kT); (with_reducible rename TabOk _ => kO); refine' lam_T kF kN kX kT ?hq ?hl ?hT kO rfl ?hc ⟨rfl, rfl⟩ ?_; (case hq => k_mem); (case hl => k_mem); (case hT => k_mem); (case hc => rfl); intro _ _ _ _ _ _ _ _))
  (k_with "getMethod ref" => (k_here; (with_reducible show wpAny _ _ (getMethod _ (PySem.Str.ofString "sub") _) _ _ _); (apply gm_sub); (iterate 2 with_reducible assumption)))
  (k_with "call builtin:str.replace" => (k_here; (first | apply rep42 | apply rep91); intros))
  (k_with "call builtin:re.Pattern.sub" => (k_here; (first | apply resub42N | apply resub91N); (iterate 3 with_reducible assumption); intros))
  (k_with "subscriptTail Name UnaryOp str int" => (k_here; refine item_plain (j := 0) rfl rfl (by (walk_at "om")) ?_))
  (k_with "subscriptTail Name Constant str int" => (k_here; refine item_plain (j := 0) rfl rfl (by (walk_at "om")) ?_))
  trivial
section
variable {w : World} {A : Around} {hs : Heap} {gs : Array GenState} {ds : Drawn} {ts : Nat} {os : OsState} {R : Result → Shared → Prop} {mean : ExcName → Option Value} {mg mb : Str → Option Value} {K : Frag} {name qual : Str} {params : Arguments} {body : List Stmt} {scope : Scope}
  {d1 d2 doc mo code ct cl : Value} {an di : Option Addr} {sl : Array (Option Value)} {f : Addr} {args : Args}
/-- a def with *p: the binding makes the tuple of what is left over, and no more -/
theorem enterV {vs : List Value} {binds : Value → List (Str × Value)} (X : K.In hs) (T : TopV mean mg mb hs) (def_ : K.lookup f = some ⟨cl, di, .func (fnOf name qual params body scope d1 d2 doc mo an code ct), sl⟩) (D : DefAt K qual scope code) (room : A.depth < recursionLimit) (nocell : ∀ x ∈ scope.names, x.2 ≠ .cell)
    (bind : bindArgs (fnOf name qual params body scope d1 d2 doc mo an code ct) args = newTuple vs >>= fun D => pure (binds D)) (few : vs.length ≤ sizeLine) (loc : ∀ D, ∀ y ∈ binds D, scope.names.lookup y.1 = some .local)
    (run : ∀ D L h, Fr hs L h (fun y => (binds (.ref D)).reverse.lookup y) → News hs L h [(D, tup vs)] → BodyOf w A (envOf qual scope L f code) body R ⟨h, gs, ds, ts + (binds (.ref D)).length, os⟩) : codeAny (model PySem.Challenge.pw_rx0087_01 w) A (.call (.ref f) args) R ⟨hs, gs, ds, ts, os⟩ := by
  first | refine ex2_2 D fun c co gn fn => ?_ | refine ex1_3 D fun c co gn fn => ?_ | obtain ⟨c, co, gn, fn⟩ := D
  try clear D
  refine codeAny_call_function room (X _ _ def_) rfl co gn rfl (codeRec_of X c) ?_
  rw [bind]
  refine wpAny_bind (wpAny_newTuple (wpAny_pure (wpAny_newFunctionEnv nocell (loc _) (fun h ns sb => ?_) fn)) few)
  have k : ∀ b x, (hs.push (tup vs)).get? b = some x → h.get? b = some x := fun b x e => (sb.2 b (Nat.ne_of_lt (Heap.lt_size e))).trans (Heap.get?_push_of_some _ e)
  have k0 : Keeps hs h := fun b x e => k b x (Heap.get?_push_of_some _ e)
  have lt : hs.objs.size < (hs.push (tup vs)).objs.size := by rw [size_push']; exact Nat.lt_succ_self _
  refine ⟨T.nolimit.keeps k0, codeAny_func (wpAny_noRaise (run hs.objs.size _ h ⟨ns, k0, Nat.le_of_lt lt⟩ fun p hp => ?_))⟩
  obtain rfl := List.mem_singleton.mp hp
  exact ⟨k _ _ (Heap.get?_push_size _ rfl), Nat.ne_of_lt lt, Heap.get?_none_of_le (Nat.le_refl _)⟩
end
section
variable {prog : Program} {w : World} {A : Around} {E : Value → Shared → Prop} {Q : Flow → Shared → Prop} {s : Shared} {env : Env} {h₀ : Heap}
/-- a for over a tuple that stands, its target a name -/
theorem for_tup {σ : Type} {x : Str} {px : Pos} {body : List Stmt} {l : Addr} {items : Array Value} {ol : Obj} {m₀ : Str → Option Value}
    (Led : σ → List (Addr × Obj)) (ps : σ → List (Str × Value)) (stored : List Str) (P : Nat → σ → Prop) 
    (hh : A.handled = none) (hol : ol.cls = .type "tuple") (hod : ∃ nl, ol.data = .seq items nl)
    (hfix : ∀ c h m, Fr h₀ env.locals h m → News h₀ env.locals h (Led c) → h.get? l = some ol) (hlL : env.locals ≠ l)
    (hled : ∀ c, ∀ p ∈ Led c, noF p.2 = true)
    (F : Fr h₀ env.locals s.heap m₀) (h0 : ∃ c₀, News h₀ env.locals s.heap (Led c₀) ∧ AllAt m₀ (ps c₀) ∧ P 0 c₀)
    (turn : ∀ i v (c : σ) (u : Str → Option Value) h tk own, items[i]? = some v → P i c → OwnOff own ((Led c).map (·.1)) →
      Fr h₀ env.locals h (kstB (fun z => if stored.contains z then u z else m₀ z) (ps c)) → News h₀ env.locals h (Led c ++ own) →
      wpAny (model prog w) A (assign (.Name x px) env v) (fun _ s₂ => wpAny (model prog w) A (execs body env) (FPost h₀ env.locals Led ps stored m₀ (P (i + 1)) own s Q) E s₂) E { s with heap := h, toks := tk })
    (done : ∀ (c : σ) (u : Str → Option Value) h tk, P items.size c → Fr h₀ env.locals h (kstB (fun z => if stored.contains z then u z else m₀ z) (ps c)) → News h₀ env.locals h (Led c) → Q .next { s with heap := h, toks := tk })
    (hE : PassesOwn (model prog w) A env E) :
    wpAny (model prog w) A (pyIter (.ref l)) (fun it s₂ => codeAny (model prog w) A (.forLoop (.Name x px) it body [] env) (fun r s' => match r with | .ok f => Q f s' | .error e => cameBackBy (model prog w) A env E e s') s₂) E s := by
  first | refine ex2_2 h0 fun c₀ N hk hp => ?_ | refine ex1_3 h0 fun c₀ N hk hp => ?_ | obtain ⟨c₀, N, hk, hp⟩ := h0
  try clear h0
  replace hk := hk.all
  have hl0 := hfix c₀ _ _ F N
  have hlt := Heap.lt_size hl0
  have hls : s.heap.IsTuple l items := let ⟨nl, hd⟩ := hod; ⟨ol, hl0, hol, nl, hd⟩
  refine wpAny_pyIter_tuple hls ?_
  have hne : l ≠ s.heap.objs.size := Nat.ne_of_lt hlt
  have hI0 : h₀.get? s.heap.objs.size = none := Heap.get?_none_of_le (Nat.le_trans F.above (Nat.le_of_lt F.ns.lt))
  refine for_core (s := { s with heap := s.heap.push _ }) (Walks.tuple hh s.heap.objs.size l hne items) Led ps stored P c₀ ?_ hI0 (fun i h st => ?_) (fun _ _ _ _ _ hQ => wpAny_pure hQ) (fun b hb hbI => ?_) hled ⟨⟨_, Heap.get?_push_size _ rfl, rfl, rfl⟩, hls.at fun o e => Heap.get?_push_of_some _ e⟩ (F.push _)
    (fun p hp => ⟨Heap.get?_push_of_some _ (N p hp).1, (N p hp).2⟩) hk hp (fun i v c u h tk own hi hv => turn i v c u h tk own hv) (fun c u h tk => done c u h tk) hE
  · intro hm
    rcases List.mem_cons.mp hm with e | hm
    · exact absurd F.ns.lt (e ▸ Nat.lt_irrefl _)
    · exact hlL (List.mem_singleton.mp hm)
  · obtain ⟨⟨o, ho, hc, hd⟩, _⟩ := st
    exact ⟨o, ho, by unfold noF; rw [hd]⟩
  · rcases List.mem_cons.mp hb with e | hb
    · exact absurd e hbI
    · rw [List.mem_singleton.mp hb]
      exact ⟨ol, fun c h m F N => hfix c h m F N⟩
end
theorem reg_j_14 : True := by
  (k_with "truthy str" => (k_here; refine truthy_sOf ?hl ?_; (case hl => first | assumption | (walk_at "om") | (simp only [List.length_cons]; (walk_at "om"))); intro _; (try dsimp only [List.isEmpty, Bool.not_false, Bool.not_true])))
  (k_with "call builtin:str.split" => (k_here; (with_reducible rename Fr _ _ _ _ => kF); (with_reducible rename News _ _ _ _ => kN); refine splitN1 (hsz := ?hsz) kF kN rfl ?_; (case hsz => (rw [sizeLine_eq, sOf_len]; (walk_at "om"))); intro kl _ _ ke _ _; (rw [split_sOf] at ke); (have kS := strValues_are kl); (rw [ke] at kS)))
  (k_with "my same0" => (first | (intro z h2 h3; (repeat (refine sm_step ?hne ?_; (case hne => first | exact h2 _ (.head _) | exact h2 _ (.tail _ (.head _)) | exact h2 _ (.tail _ (.tail _ (.head _))) | exact sm_stored h3 (by decide +kernel)))); first | exact sm_last h3 | exact rfl) | (intro z _ h3; (simp only [List.contains_cons, List.contains_nil, Bool.or_false, Bool.or_eq_false_iff, beq_eq_false_iff_ne, ne_eq] at h3); (simp [h3, kstB]; done))))
  (k_with "call builtin:list.append" => (k_here; (with_reducible rename Fr _ _ _ _ => kF); (with_reducible rename News _ _ _ _ => kN); refine app_own kF kN ?hoff ?hsz ?_; (case hoff => assumption); (case hsz => (walk_at "om")); intro _ _ _))
  (k_with "call builtin:list.pop" => (k_here; (with_reducible rename Fr _ _ _ _ => kF); (with_reducible rename News _ _ _ _ => kN); refine pop_own kF kN ?hoff ?hsz ?_; (case hoff => assumption); (case hsz => (walk_at "om")); intro _ _ _))
  trivial
section
variable {prog : Program} {w : World} {A : Around} {E : Value → Shared → Prop} {s : Shared}
theorem starts_my {x y : Str} {t u : Tok} {r : Bool} {Q : Value → Shared → Prop} (e : Txt.startswith x y = r) (h : Q (.bool r) s) : wpAny (model prog w) A (call (.builtin "str.startswith") [.str x t, .str y u]) Q E s := SC.startswith (by rw [e]; exact h)
theorem iadd_sOf {a b : List Nat} {t u : Tok} {Q : Value → Shared → Prop} (hb : a.length + b.length < 1000000) (h : ∀ t' tk, Q (.str (sOf (a ++ b)) t') { s with toks := tk }) : wpAny (model prog w) A (inplaceOp .Add (.str (sOf a) t) (.str (sOf b) u)) Q E s :=
  iadd_str (fun t' tk => by rw [sOf_append]; exact h t' tk) (by rw [sOf_len, sOf_len, sizeLine_eq]; (walk_at "om"))
theorem ends_my {x y : Str} {t u : Tok} {r : Bool} {Q : Value → Shared → Prop} (e : Txt.endswith x y = r) (h : Q (.bool r) s) : wpAny (model prog w) A (call (.builtin "str.endswith") [.str x t, .str y u]) Q E s := SC.endswith (by rw [e]; exact h)
end
theorem reg_j_15 : True := by
  (k_with "call builtin:str.startswith" => (k_here; refine starts_my (by assumption) ?_))
  (k_with "call builtin:str.endswith" => (k_here; refine ends_my (by assumption) ?_))
  (k_with "inplaceOp Add str str" => (k_here; refine iadd_sOf (by (simp only [List.length_append, List.length_cons, List.length_nil]); first | (walk_at "om") | ((simp only [List.length_cons] at *); (walk_at "om"))) ?_; intro _ _))
  trivial
theorem starts47 {b : List Nat} (h : b.head? ≠ some 47) : Txt.startswith (sOf b) (sOf [47]) = false := by
  unfold Txt.startswith
  rw [StrLaws.subAt_eq]
  cases b with
  | nil => rfl
  | cons x r =>
    simp at h
    simp [sOf_len, h]
theorem ends47 (p : List Nat) : Txt.endswith (sOf p) (sOf [47]) = decide (p.getLast? = some 47) := by
  unfold Txt.endswith
  rw [StrLaws.subAt_eq, sOf_len, sOf_len]
  rcases List.eq_nil_or_concat p with rfl | ⟨q, x, rfl⟩
  · rfl
  · rw [List.concat_eq_append]
    by_cases h : x = 47
    · subst h; simp
    · simp [h]
theorem join2_len (p b : List Nat) : (join2 p b).length ≤ p.length + b.length + 1 := by
  unfold join2
  split
  · (walk_at "om")
  · split <;> simp <;> (walk_at "om")
theorem foldl_len : ∀ (ps : List (List Nat)) (p : List Nat), (ps.foldl join2 p).length ≤ p.length + tot ps
  | [], p => by simp [tot]
  | b :: r, p => by
    have h1 := foldl_len r (join2 p b)
    have h2 := join2_len p b
    rw [List.foldl_cons, tot_cons]; (walk_at "om")
theorem tot_take (ps : List (List Nat)) (i : Nat) : tot (ps.take i) ≤ tot ps := by
  have := tot_append (ps.take i) (ps.drop i)
  rw [List.take_append_drop] at this; (walk_at "om")
theorem join_w {w : World} (ps : List (List Nat)) (hps : ∀ b ∈ ps, b.head? ≠ some 47) (hl4 : ps.length ≤ 4) (ht : tot ps ≤ 900) (vs : List Value) (hvs : SAre vs ps) (ta : Tok) : Fun w 2 184 (.str (sOf [47]) ta :: vs) tt0 (fun _ v _ => ∃ t, v = .str (sOf (joinAll ps)) t) := by
  have hvl : vs = [] ∨ (∃ v1, vs = [v1]) ∨ (∃ v1 v2, vs = [v1, v2]) ∨ (∃ v1 v2 v3, vs = [v1, v2, v3]) ∨ (∃ v1 v2 v3 v4, vs = [v1, v2, v3, v4]) := by
    have := StrsAre.length hvs
    rw [List.length_map] at this
    match vs, this with
    | [], _ => exact .inl rfl
    | [a], _ => exact .inr (.inl ⟨a, rfl⟩)
    | [a, b], _ => exact .inr (.inr (.inl ⟨a, b, rfl⟩))
    | [a, b, c], _ => exact .inr (.inr (.inr (.inl ⟨a, b, c, rfl⟩)))
    | [a, b, c, d], _ => exact .inr (.inr (.inr (.inr ⟨a, b, c, d, rfl⟩)))
    | a :: b :: c :: d :: e :: r, h => simp at h; (walk_at "om")
  intro mean mg mb dp un fr gd hq0 gq0 dq0 tq0 oq0 Q E X T hpre hdp hun ret
  refine wpAny_call ?_
  refine' enterV (vs := vs) (binds := fun D => [(Str.ofString "a", .str (sOf [47]) ta), (Str.ofString "p", D)]) X T ?ho ⟨?hcd, ?h1, ?h2, ?h3⟩ ?hroom ?h4 ?hp ?few ?hloc ?_
  case ho => k_is
  case hcd => k_is
  case hroom => exact om18 hdp
  case hp => (clear ret; (rcases hvl with rfl | ⟨v1, rfl⟩ | ⟨v1, v2, rfl⟩ | ⟨v1, v2, v3, rfl⟩ | ⟨v1, v2, v3, v4, rfl⟩ <;> exact rfl))
  case few => (clear ret; (rcases hvl with rfl | ⟨v1, rfl⟩ | ⟨v1, v2, rfl⟩ | ⟨v1, v2, v3, rfl⟩ | ⟨v1, v2, v3, v4, rfl⟩ <;> exact Nat.le_of_ble_eq_true rfl))
  case hloc => exact fun _ => locs rfl
  case h1 => exact rfl
  case h2 => exact rfl
  case h3 => exact rfl
  case h4 => decide
  intro D L h₁ F N
  dsimp only [BodyOf, List.reverse_cons, List.reverse_nil, List.nil_append, List.cons_append, List.length_cons, List.length_nil] at F ⊢
  unfold tup at N
  k_fold
  walk_at "my steps"
  refine wpAny_noRaise ?_
  walk_at "exec For"
  walk1
  rename Fr _ _ _ _ => F8
  rename News _ _ _ _ => N8
  rw [show Str.ofString "/" = sOf [47] from rfl] at F8
  refine for_tup (σ := List Nat × Tok) (fun _ => [(_, _)]) (fun c => [("path", .str (sOf c.1) c.2)]) ["b"] (fun i c => c.1 = (ps.take i).foldl join2 [47]) rfl rfl ⟨0, rfl⟩ (fun c h m F N => (N _ (.head _)).1) (Ne.symm (N8 _ (.head _)).2.1) ?hled F8 ⟨([47], _), N8, ⟨rfl, trivial⟩, rfl⟩ ?_ ?_ PassesOwn.never
  case hled => intro c p hp; rw [List.mem_singleton.mp hp]; rfl
  · intro i v q9 u h tk own hv hp hoff F'' N''
    first | refine ex1_1 q9 fun p tp => ?_ | refine ex0_2 q9 fun p tp => ?_ | obtain ⟨p, tp⟩ := q9
    try clear q9
    dsimp only [kstB] at F'' N'' hp hoff
    obtain ⟨y, t, rfl, hy⟩ := StrsAre.item hvs i v (by simpa using hv)
    rw [List.getElem?_map, Option.map_eq_some_iff] at hy
    first | refine ex2_1 hy fun b hb e90 => ?_ | refine ex1_2 hy fun b hb e90 => ?_ | refine ex0_3 hy fun b hb e90 => ?_ | obtain ⟨b, hb, e90⟩ := hy
    subst e90
    try clear hy
    have hb47 := hps b (List.mem_of_getElem? hb)
    have hn : (ps.take (i + 1)).foldl join2 [47] = join2 p b := by rw [List.take_add_one, hb, List.foldl_append, ← hp]; rfl
    have hs := starts47 hb47
    have hpl : p.length + b.length + 2 ≤ 1000 := by
      have h1 := foldl_len (ps.take i) [47]
      have h2 := tot_append (ps.take i) [b]
      have h3 := tot_take ps (i + 1)
      rw [List.take_add_one, hb] at h3
      rw [← hp] at h1
      simp [tot_cons, tot_nil] at h1 h2 h3
      (walk_at "om")
    obtain ⟨p', rfl, _⟩ : one47 p := by rw [hp]; exact joinAll_one _ (fun x hx => hps x (List.mem_of_mem_take hx)) _ ⟨[], rfl, by simp⟩
    have F3 : Fr hq0 L h _ := F''
    have N3 : News hq0 L h _ := N''
    simp only [List.length_cons] at hpl
    clear F8 N8 F'' N'' hv hp hvs hps
    by_cases he : (47 :: p').getLast? = some 47
    · have hj : join2 (47 :: p') b = 47 :: p' ++ b := by unfold join2; rw [if_neg (by simp [hb47]), if_pos he]
      have he2 := ends47 (47 :: p')
      rw [decide_eq_true he] at he2
      walk_at "my steps"
      rename Fr _ _ _ _ => F9
      rename News _ _ _ _ => N9
      refine fnext (_, _) F9 N9 (fun p hp => List.mem_append_left own hp) (fun p hp => List.mem_append_right _ hp) ⟨at_sOf hj.symm, trivial⟩ ?_ (hn.symm)
      walk_at "my same"
    · have hj : join2 (47 :: p') b = 47 :: p' ++ 47 :: b := by unfold join2; rw [if_neg (by simp [hb47]), if_neg he]
      have he2 := ends47 (47 :: p')
      rw [decide_eq_false he] at he2
      walk_at "my steps"
      rename Fr _ _ _ _ => F9
      rename News _ _ _ _ => N9
      refine fnext (_, _) F9 N9 (fun p hp => List.mem_append_left own hp) (fun p hp => List.mem_append_right _ hp) ⟨at_sOf hj.symm, trivial⟩ ?_ (hn.symm)
      walk_at "my same"
  · rintro ⟨p, tp⟩ u h tk hp F'' N''
    have hsz := StrsAre.length hvs
    rw [List.length_map] at hsz
    dsimp only at hp
    rw [List.size_toArray, hsz, List.take_length] at hp
    subst hp
    have F3 : Fr hq0 L h _ := F''
    have N3 : News hq0 L h _ := N''
    dsimp only [kstB] at F3
    clear F8 N8 F'' N''
    walk_at "my steps"
    exact ret _ _ _ (Fr.keep (by assumption)) ⟨_, rfl⟩
theorem reg_none_C22 : True := by
  k_with_none
  trivial
theorem reg_j_16 : True := by
  (k_with "call builtin:issubclass" => (k_here; (rename News _ _ _ _ => kN); refine isub _ _ _ _ _ _ ((kN _ (by k_mem)).1) ?_; intro _))
  (k_with "exec For" => (refine wpAny_For ?_ (by intro _; rfl)))
  (k_with "my steps" => repeat' (first | (k_unfold; (try dsimp only)) | ((fail_if_success (with_reducible show wpAny _ _ (exec (Stmt.While _ _ _ _) _) _ _ _)); (fail_if_success (with_reducible show wpAny _ _ (exec (Stmt.For _ _ _ _ _) _) _ _ _)); (fail_if_success (with_reducible show wpAny _ _ (exec (Stmt.Assign _ (Expr.ListComp _ _ _ _) _) _) _ _ _)); (fail_if_success (with_reducible show wpAny _ _ (eval (Expr.ListComp _ _ _ _) _) _ _ _)); walk1) | fail "no step"))
  (k_with "om" => (first | with_reducible assumption | with_unfolding_all exact Nat.le_of_ble_eq_true rfl | ((with_reducible apply om1); (focus with_reducible assumption); with_unfolding_all exact rfl) | ((with_reducible apply om3); (focus with_reducible assumption); with_unfolding_all exact rfl) | ((with_reducible apply om2); (focus with_reducible assumption); with_unfolding_all exact rfl) | ((with_reducible apply om4); (focus with_reducible assumption); with_unfolding_all exact rfl) | ((with_reducible apply om5); (focus with_reducible assumption); with_unfolding_all exact rfl) | ((with_reducible apply om6); (focus with_reducible assumption); with_unfolding_all exact rfl) | ((with_reducible apply om7); (focus with_reducible assumption); with_unfolding_all exact rfl) | ((with_reducible apply om8); (focus with_reducible assumption); with_unfolding_all exact rfl) | with_reducible exact Int.natCast_nonneg _ | with_reducible exact om9 | ((with_reducible apply om10); (focus with_reducible assumption); with_unfolding_all exact rfl) | ((with_reducible apply om11); (focus with_reducible assumption); with_unfolding_all exact rfl) | ((with_reducible apply Nat.le_of_lt); with_reducible assumption) | ((with_reducible apply Nat.succ_le_of_lt); with_reducible assumption) | ((with_reducible apply om12); (focus with_reducible assumption); with_unfolding_all exact rfl) | ((with_reducible apply om13); (focus with_reducible assumption); with_unfolding_all exact rfl) | ((with_reducible apply om14); (focus with_reducible assumption); with_unfolding_all exact rfl) | ((with_reducible apply om15); (focus with_reducible assumption); with_unfolding_all exact rfl) | ((with_reducible apply om16); (focus with_reducible assumption); with_unfolding_all exact rfl) | ((with_reducible apply om17); (focus with_reducible assumption); with_unfolding_all exact rfl) | ((with_reducible apply om19); (focus with_reducible assumption); with_unfolding_all exact rfl) | ((with_reducible apply om20); (focus with_reducible assumption); with_unfolding_all exact rfl) | ((with_reducible apply om18); with_reducible assumption) | ((with_reducible show (_ : Int) = _); with_unfolding_all exact rfl) | ((with_reducible apply om21); (focus with_reducible assumption); with_unfolding_all exact rfl) | ((with_reducible apply om22); with_unfolding_all exact rfl) | ((with_reducible apply om25); with_unfolding_all exact rfl) | ((with_reducible apply om24); with_unfolding_all exact rfl) | ((with_reducible apply om23); with_unfolding_all exact rfl) | decide | omega))
  (k_with "execs cons" => ((with_reducible refine exec_seq ?_); (try dsimp only)))
  (k_with "Seq" => (first | with_reducible refine seq_next ?_ | with_reducible refine seq_ret ?_ | with_reducible refine seq_brk ?_ | with_reducible refine seq_cont ?_))
  (k_with "exec If" => (with_reducible refine exec_if ?_))
  (k_with "IfQ" => (first | with_reducible refine ifq_t ?_ | with_reducible refine ifq_f ?_ | with_reducible refine ifq ?_))
  (k_with "call ref" => (k_here; (first | apply Fun.useE (fspath _ _) | apply Fun.useX (get_sep _ _) | apply Fun.useX (law_stem _ _) | apply Fun.useX (strcoll _ _ _ _) | apply Fun.useH (fun h => escape _ h _) | apply Fun.useE (strxfrm _ _)); (iterate 3 with_reducible assumption); assumption; trivial; (first | (apply room_d; assumption; exact rfl) | (dsimp only [Ar]; (walk_at "om"))); (first | (apply room_u; assumption; exact rfl) | (dsimp only [Ar]; (walk_at "om"))); intros))
  (k_with "my item" => (k_here; first | refine item_my (j := 0) (by (walk_at "om")) rfl (by (walk_at "om")) ?_ | refine item_my (j := 1) (by (walk_at "om")) rfl (by (walk_at "om")) ?_ | refine item_my (j := 2) (by (walk_at "om")) rfl (by (walk_at "om")) ?_ | refine item_my (j := 3) (by (walk_at "om")) rfl (by (walk_at "om")) ?_))
  (k_with "subscriptTail Name Name str int" => walk_at "my item")
  (k_with "subscriptTail Name BinOp str int" => walk_at "my item")
  (k_with "subscriptTail Name Constant str int" => walk_at "my item")
  (k_with "subscriptTail Name UnaryOp str int" => walk_at "my item")
  (k_with "call builtin:len" => (k_here; refine len_sOf (by first | ((simp only [List.length_append, List.length_cons, List.length_nil]); exact rfl) | exact rfl) (by (walk_at "om")) ?_))
  (k_with "my same" => (first | (intro z h2 h3; (repeat (refine sm_step ?hne ?_; (case hne => first | exact h2 _ (.head _) | exact h2 _ (.tail _ (.head _)) | exact h2 _ (.tail _ (.tail _ (.head _))) | exact sm_stored h3 (by decide +kernel)))); first | exact sm_last h3 | exact rfl) | (intro z h2 h3; (simp only [List.forall_mem_cons, List.not_mem_nil, false_implies, implies_true, and_true, ne_eq] at h2); (simp only [List.contains_cons, List.contains_nil, Bool.or_false, Bool.or_eq_false_iff, beq_eq_false_iff_ne, ne_eq] at h3); (simp [h2, h3, kstB]; done))))
  (k_with "binaryOp Add str str" => (k_here; refine add_sOf (by (simp only [List.length_append, List.length_cons, List.length_nil]); (walk_at "om")) ?_; intro _ _))
  (k_with "ite" => (k_closed; first | refine ite_pos (by decide +kernel) ?_ | refine ite_neg (by decide +kernel) ?_))
  (k_with "eval Name" => (k_here; (with_reducible show wpAny _ _ (eval _ (compEnvC _ _ _ _)) _ _ _); (with_reducible rename Fr _ _ _ _ => kF); first | refine ev_loc kF rfl ?_ rfl rfl (by decide) | refine ev_cell kF rfl (by assumption) ?_ rfl rfl (by decide)))
  (k_with "call builtin:str.join" => (k_here; (with_reducible rename News _ _ _ _ => kN); refine join_my (News.isListX kN (by k_mem)) (by assumption) (by first | assumption | (simp only [tot_append, tot_cons, tot_nil]; (walk_at "om"))) (by simp) ?_; intro _ _))
  (k_with "eval Constant str" => (with_reducible refine const_my (by first | exact cst0 | exact cst1 | exact cst2 | exact cst3 | exact cst4 | exact cst5 | exact cst6 | exact cst7 | exact cst8 | exact cst9 | exact cst10 | exact cst11 | exact cst12 | exact cst13 | exact cst14 | exact cst15 | exact cst16 | exact cst17 | exact cst18 | exact cst19 | exact cst20 | exact cst21 | exact cst22 | exact cst23 | exact cst24 | exact cst25 | exact cst26 | exact cst27) ?_))
  (k_with "getAttr ref" => (k_here; (with_reducible show wpAny _ _ (getAttr (Value.ref _) (PySem.Str.ofString "append") _) _ _ _); (with_reducible rename Fr _ _ _ _ => kF); (with_reducible rename News _ _ _ _ => kN); refine' attr_append_N kF kN ?ha ?_; (case ha => k_mem); intro _ _ _ _ _))
  (k_with "callWith ref" => (k_here; (with_reducible rename News _ _ _ _ => kN); refine' bound_call kN ?hq ?_; (case hq => k_mem)))
  (k_with "call ref" => (k_here; (with_reducible rename Fr _ _ _ _ => kF); (with_reducible rename News _ _ _ _ => kN); refine' bound_append_L kF kN ?hq ?hl ?hs ?_; (case hq => k_mem); (case hl => k_mem); (case hs => ((try simp only [List.length_append, List.length_cons, List.length_nil]); (walk_at "om"))); intro _ _ _))
  (k_with "truthy ref" => (k_here; (with_reducible rename News _ _ _ _ => kN); refine' truthy_L kN ?hl ?hs ?_; (case hl => k_mem); (case hs => ((try simp only [List.length_append, List.length_cons, List.length_nil]); (walk_at "om"))); (try simp only [List.isEmpty_append, List.isEmpty_cons, Bool.and_false, Bool.not_false])))
  (k_with "subscriptTail Name UnaryOp ref int" => (k_here; (with_reducible rename News _ _ _ _ => kN); refine' item_last (News.isListX kN ?hl) ?_ ?hs ?hg; (case hl => k_mem); (case hs => with_unfolding_all rfl); (case hg => (intro _; with_unfolding_all rfl))))
  (k_with "compareOp IsNot str ref" => (k_here; refine wpAny_isNot_other (by rfl) (by intro x; cases x) ?_))
  (k_with "And" => ((with_reducible show Heap.get? _ _ = _ ∧ _); (with_reducible rename News _ _ _ _ => kN); refine' ⟨boundAt kN ?hq, ?_⟩; (case hq => with_unfolding_all k_mem); (try dsimp only)))
  (k_with "getAttr ref" => (k_here; (apply attr_append_T (P := 78)); (iterate 2 with_reducible assumption); (iterate 2 k_mem); intros))
  (k_with "call ref" => (k_here; (apply bound_append_T (P := 78)); (iterate 2 with_reducible assumption); (iterate 3 k_mem); (focus (try simp only [List.length_append, List.length_cons, List.length_nil]); (walk_at "om")); intros))
  (k_with "eval Lambda" => (k_here; (with_reducible rename Fr _ _ _ _ => kF); (with_reducible rename News _ _ _ _ => kN); (with_reducible rename Frag.In _ _ => kX); (with_reducible rename Top _ _ _ _ _ _ => kT); (with_reducible rename TabOk _ => kO); refine' lam_T kF kN kX kT ?hq ?hl ?hT kO rfl ?hc ⟨rfl, rfl⟩ ?_; (case hq => k_mem); (case hl => k_mem); (case hT => k_mem); (case hc => rfl); intro _ _ _ _ _ _ _ _))
  (k_with "getMethod ref" => (k_here; (with_reducible show wpAny _ _ (getMethod _ (PySem.Str.ofString "sub") _) _ _ _); (apply gm_sub); (iterate 2 with_reducible assumption)))
  (k_with "call builtin:str.replace" => (k_here; (first | apply rep42 | apply rep91); intros))
  (k_with "call builtin:re.Pattern.sub" => (k_here; (first | apply resub42N | apply resub91N); (iterate 3 with_reducible assumption); intros))
  (k_with "subscriptTail Name UnaryOp str int" => (k_here; refine item_plain (j := 0) rfl rfl (by (walk_at "om")) ?_))
  (k_with "subscriptTail Name Constant str int" => (k_here; refine item_plain (j := 0) rfl rfl (by (walk_at "om")) ?_))
  (k_with "truthy str" => (k_here; refine truthy_sOf ?hl ?_; (case hl => first | assumption | (walk_at "om") | (simp only [List.length_cons]; (walk_at "om"))); intro _; (try dsimp only [List.isEmpty, Bool.not_false, Bool.not_true])))
  (k_with "call builtin:str.split" => (k_here; (with_reducible rename Fr _ _ _ _ => kF); (with_reducible rename News _ _ _ _ => kN); refine splitN1 (hsz := ?hsz) kF kN rfl ?_; (case hsz => (rw [sizeLine_eq, sOf_len]; (walk_at "om"))); intro kl _ _ ke _ _; (rw [split_sOf] at ke); (have kS := strValues_are kl); (rw [ke] at kS)))
  (k_with "my same0" => (first | (intro z h2 h3; (repeat (refine sm_step ?hne ?_; (case hne => first | exact h2 _ (.head _) | exact h2 _ (.tail _ (.head _)) | exact h2 _ (.tail _ (.tail _ (.head _))) | exact sm_stored h3 (by decide +kernel)))); first | exact sm_last h3 | exact rfl) | (intro z _ h3; (simp only [List.contains_cons, List.contains_nil, Bool.or_false, Bool.or_eq_false_iff, beq_eq_false_iff_ne, ne_eq] at h3); (simp [h3, kstB]; done))))
  (k_with "call builtin:list.append" => (k_here; (with_reducible rename Fr _ _ _ _ => kF); (with_reducible rename News _ _ _ _ => kN); refine app_own kF kN ?hoff ?hsz ?_; (case hoff => assumption); (case hsz => (walk_at "om")); intro _ _ _))
  (k_with "call builtin:list.pop" => (k_here; (with_reducible rename Fr _ _ _ _ => kF); (with_reducible rename News _ _ _ _ => kN); refine pop_own kF kN ?hoff ?hsz ?_; (case hoff => assumption); (case hsz => (walk_at "om")); intro _ _ _))
  (k_with "call builtin:str.startswith" => (k_here; refine starts_my (by assumption) ?_))
  (k_with "call builtin:str.endswith" => (k_here; refine ends_my (by assumption) ?_))
  (k_with "inplaceOp Add str str" => (k_here; refine iadd_sOf (by (simp only [List.length_append, List.length_cons, List.length_nil]); first | (walk_at "om") | ((simp only [List.length_cons] at *); (walk_at "om"))) ?_; intro _ _))
  trivial
section
variable {prog : Program} {w : World} {A : Around} {E : Value → Shared → Prop} {s : Shared} {h₀ : Heap} {L : Addr} {m : Str → Option Value}
theorem join_base {D : Addr} {vs : List Value} {n : Nat} {sep : List Nat} {ls : List (List Nat)} {t : Tok} {Q : Value → Shared → Prop} (F : Fr h₀ L s.heap m) (hl : h₀.get? D = some (PySem.W.listOf vs.toArray n)) (hi : SAre vs ls) (ht : tot ls ≤ 100000) (hsep : sep.length ≤ 16)
    (h : ∀ t' tk, Q (.str (sOf (joinL sep ls)) t') { s with toks := tk }) : wpAny (model prog w) A (call (.builtin "str.join") [.str (sOf sep) t, .ref D]) Q E s :=
  join_my (items := vs.toArray) ⟨_, F.keep _ _ hl, rfl, n, rfl⟩ hi ht hsep h
end
theorem reg_j_17 : True := by
  (k_with "call builtin:str.join" => (k_here; (with_reducible show wpAny _ _ (call (Value.builtin "str.join") [Value.str _ _, Value.ref _]) _ _ _); (with_reducible rename Fr _ _ _ _ => kF); refine join_base (sep := [47]) kF (by assumption) (by assumption) (by assumption) (by decide) ?_; intro _ _))
  trivial
theorem pick_droplast (vs : List Value) : slicePick vs.toArray none (some (-1)) none = vs.dropLast.toArray := by
  rw [kms_pick_eq]
  show (List.take _ (List.drop 0 vs)).toArray = _
  rw [List.drop_zero, List.dropLast_eq_take]
  rfl
theorem sare_droplast {vs : List Value} {ls : List (List Nat)} (h : SAre vs ls) : SAre vs.dropLast ls.dropLast := by
  have hl := StrsAre.length h
  rw [List.length_map] at hl
  unfold SAre
  rw [List.dropLast_eq_take, List.dropLast_eq_take, List.map_take, hl]
  exact StrsAre.take' h _
noncomputable def mLed (b : Addr) (o : Obj) (c : Addr × List Value × Nat) : List (Addr × Obj) := [(b, o), (c.1, PySem.W.listOf c.2.1.toArray c.2.2)]
theorem law_names {w : World} (ps : List (List Nat)) (hne : ps ≠ []) (ht : tot ps ≤ 900) (vs : List Value) (n : Nat) (a : Addr) (hvs : SAre vs ps) : Fun w 2 210 [.ref a] (fun h => h.get? a = some (PySem.W.listOf vs.toArray n)) (fun h v h' => ∃ D vs' n', v = .ref D ∧ h.get? D = none ∧ h'.get? D = some (PySem.W.listOf vs'.toArray n') ∧ SAre vs' (names (splitL 47 (joinL [47] ps)))) := by
  intro mean mg mb dp un fr gd hq0 gq0 dq0 tq0 oq0 Q E X T hpre hdp hun ret
  refine wpAny_call ?_
  refine' enter (binds := [(Str.ofString "pieces", .ref a)]) X T ?ho ⟨?hcd, ?h1, ?h2, ?h3⟩ ?hroom ?h4 ?hbind ?hloc ?_
  case ho => k_is
  case hcd => k_is
  case hroom => exact om18 hdp
  case hbind => exact BindsTo.of_eq rfl
  case hloc => exact locs rfl
  case h1 => exact rfl
  case h2 => exact rfl
  case h3 => exact rfl
  case h4 => decide
  intro L h₁ F N
  dsimp only [BodyOf, List.reverse_cons, List.reverse_nil, List.nil_append, List.cons_append, List.length_cons, List.length_nil] at F ⊢
  k_fold
  have ht2 : tot ps ≤ 100000 := by (walk_at "om")
  have hjl := joinL_len ps
  replace hpre : hq0.get? a = some (PySem.W.listOf vs.toArray n) := hpre
  walk_at "my steps"
  walk_at "exec For"
  walk_at "my steps"
  rename Fr _ _ _ _ => F8
  rename News _ _ _ _ => N8
  rename StrsAre (strValues _) _ => hS
  generalize joinL [47] ps = l at *
  have hlen : l.length ≤ 900 := by (walk_at "om")
  refine for_list (σ := Addr × List Value × Nat) (mLed _ _) (fun c => [("names", .ref c.1)]) ["piece"] (fun i c => SAre c.2.1 (names ((splitL 47 l).take i))) rfl rfl ⟨0, rfl⟩ (fun c h m F N => (N _ (.head _)).1) (Ne.symm (N8 _ (.head _)).2.1) ?hled F8 ⟨(_, [], _), N8, ⟨rfl, trivial⟩, StrsAre.nil⟩ ?_ ?_ PassesOwn.never
  case hled => intro c p hp; rcases List.mem_cons.mp hp with rfl | hp; rfl; rw [List.mem_singleton.mp hp]; rfl
  · intro i v q9 u h tk own hv hvs hoff F'' N''
    first | refine ex2_1 q9 fun aN vs nv => ?_ | refine ex1_2 q9 fun aN vs nv => ?_ | refine ex0_3 q9 fun aN vs nv => ?_ | obtain ⟨aN, vs, nv⟩ := q9
    try clear q9
    dsimp only [mLed, kstB] at F'' N'' hvs hoff
    obtain ⟨y, t, rfl, hy⟩ := StrsAre.item hS i v (by simpa using hv)
    rw [List.getElem?_map, Option.map_eq_some_iff] at hy
    first | refine ex2_1 hy fun x hx e90 => ?_ | refine ex1_2 hy fun x hx e90 => ?_ | refine ex0_3 hy fun x hx e90 => ?_ | obtain ⟨x, hx, e90⟩ := hy
    subst e90
    try clear hy
    have hxl : x.length ≤ 1000 := Nat.le_trans (splitL_short (List.mem_of_getElem? hx)) (by (walk_at "om"))
    have hn := names_take hx
    have hvl : vs.length ≤ 1001 := by
      have h1 := StrsAre.length hvs
      have h2 := names_len ((splitL 47 l).take i)
      have h3 := splitL_len (c := 47) l
      simp at h1 h2; (walk_at "om")
    have F3 : Fr hq0 L h _ := F''
    have N3 : News hq0 L h _ := N''
    generalize names ((splitL 47 l).take i) = nm at hvs hn
    clear F8 N8 F'' N'' hv hx
    by_cases h3 : x = [46, 46]
    · subst h3
      rw [show step nm [46, 46] = nm.dropLast by simp [step]] at hn
      walk_at "my steps"
      rename Fr _ _ _ _ => F9
      rename News _ _ _ _ => N9
      rw [pick_droplast] at N9
      refine fnext (_, vs.dropLast, 0) F9 N9 (fun p hp => ?_) (fun p hp => .tail _ (.tail _ (.tail _ hp))) ⟨rfl, trivial⟩ ?_ (by rw [hn]; exact sare_droplast hvs)
      · rcases List.mem_cons.mp hp with rfl | hp
        · exact .tail _ (.head _)
        · rw [List.mem_singleton.mp hp]; exact .head _
      · walk_at "my same"
    by_cases h1 : x = []
    · subst h1
      rw [step_empty] at hn
      walk_at "my steps"
      rename Fr _ _ _ _ => F9
      rename News _ _ _ _ => N9
      refine fnext (aN, vs, nv) F9 N9 (fun p hp => List.mem_append_left own hp) (fun p hp => List.mem_append_right _ hp) ⟨rfl, trivial⟩ ?_ (by rw [hn]; exact hvs)
      walk_at "my same"
    by_cases h2 : x = [46]
    · subst h2
      rw [show step nm [46] = nm by simp [step]] at hn
      walk_at "my steps"
      rename Fr _ _ _ _ => F9
      rename News _ _ _ _ => N9
      refine fnext (aN, vs, nv) F9 N9 (fun p hp => List.mem_append_left own hp) (fun p hp => List.mem_append_right _ hp) ⟨rfl, trivial⟩ ?_ (by rw [hn]; exact hvs)
      walk_at "my same"
    rw [show step nm x = nm ++ [x] by simp [step, h1, h2, h3]] at hn
    have g1 : (sOf x == sOf [46, 46]) = false := by simpa using h3
    have g2 : (sOf x != sOf []) = true := by simpa using h1
    have g3 : (sOf x != sOf [46]) = true := by simpa using h2
    walk_at "my steps"
    rename Fr _ _ _ _ => F9
    rename News _ _ _ _ => N9
    rename StrsAre _ _ => hvs9
    refine fnext (_, vs ++ [.str (sOf x) t], 0) F9 N9 (fun p hp => ?_) (fun p hp => .tail _ (.tail _ (.tail _ (.tail _ hp)))) ⟨rfl, trivial⟩ ?_ (by rw [hn]; exact sare_snoc hvs9)
    · rcases List.mem_cons.mp hp with rfl | hp
      · exact .tail _ (.tail _ (.head _))
      · rw [List.mem_singleton.mp hp]; exact .head _
    · walk_at "my same"
  · refine pi3 ?_
    intro aN vs nv u h tk hvs F'' N''
    have hsz := StrsAre.length hS
    rw [List.length_map] at hsz
    dsimp only at hvs
    rw [List.size_toArray, hsz, List.take_length] at hvs
    have F3 : Fr hq0 L h _ := F''
    have N3 : News hq0 L h _ := N''
    dsimp only [mLed, kstB] at F3 N3
    clear F8 N8 F'' N''
    walk_at "my steps"
    exact ret _ _ _ (Fr.keep (by assumption)) ⟨_, vs, nv, rfl, (N3 _ (.tail _ (.head _))).2.2, (N3 _ (.tail _ (.head _))).1, hvs⟩
theorem reg_none_C23 : True := by
  k_with_none
  trivial
theorem reg_j_18 : True := by
  (k_with "call builtin:issubclass" => (k_here; (rename News _ _ _ _ => kN); refine isub _ _ _ _ _ _ ((kN _ (by k_mem)).1) ?_; intro _))
  (k_with "exec For" => (refine wpAny_For ?_ (by intro _; rfl)))
  (k_with "my steps" => repeat' (first | (k_unfold; (try dsimp only)) | ((fail_if_success (with_reducible show wpAny _ _ (exec (Stmt.While _ _ _ _) _) _ _ _)); (fail_if_success (with_reducible show wpAny _ _ (exec (Stmt.For _ _ _ _ _) _) _ _ _)); (fail_if_success (with_reducible show wpAny _ _ (exec (Stmt.Assign _ (Expr.ListComp _ _ _ _) _) _) _ _ _)); (fail_if_success (with_reducible show wpAny _ _ (eval (Expr.ListComp _ _ _ _) _) _ _ _)); walk1) | fail "no step"))
  (k_with "om" => (first | with_reducible assumption | with_unfolding_all exact Nat.le_of_ble_eq_true rfl | ((with_reducible apply om1); (focus with_reducible assumption); with_unfolding_all exact rfl) | ((with_reducible apply om3); (focus with_reducible assumption); with_unfolding_all exact rfl) | ((with_reducible apply om2); (focus with_reducible assumption); with_unfolding_all exact rfl) | ((with_reducible apply om4); (focus with_reducible assumption); with_unfolding_all exact rfl) | ((with_reducible apply om5); (focus with_reducible assumption); with_unfolding_all exact rfl) | ((with_reducible apply om6); (focus with_reducible assumption); with_unfolding_all exact rfl) | ((with_reducible apply om7); (focus with_reducible assumption); with_unfolding_all exact rfl) | ((with_reducible apply om8); (focus with_reducible assumption); with_unfolding_all exact rfl) | with_reducible exact Int.natCast_nonneg _ | with_reducible exact om9 | ((with_reducible apply om10); (focus with_reducible assumption); with_unfolding_all exact rfl) | ((with_reducible apply om11); (focus with_reducible assumption); with_unfolding_all exact rfl) | ((with_reducible apply Nat.le_of_lt); with_reducible assumption) | ((with_reducible apply Nat.succ_le_of_lt); with_reducible assumption) | ((with_reducible apply om12); (focus with_reducible assumption); with_unfolding_all exact rfl) | ((with_reducible apply om13); (focus with_reducible assumption); with_unfolding_all exact rfl) | ((with_reducible apply om14); (focus with_reducible assumption); with_unfolding_all exact rfl) | ((with_reducible apply om15); (focus with_reducible assumption); with_unfolding_all exact rfl) | ((with_reducible apply om16); (focus with_reducible assumption); with_unfolding_all exact rfl) | ((with_reducible apply om17); (focus with_reducible assumption); with_unfolding_all exact rfl) | ((with_reducible apply om19); (focus with_reducible assumption); with_unfolding_all exact rfl) | ((with_reducible apply om20); (focus with_reducible assumption); with_unfolding_all exact rfl) | ((with_reducible apply om18); with_reducible assumption) | ((with_reducible show (_ : Int) = _); with_unfolding_all exact rfl) | ((with_reducible apply om21); (focus with_reducible assumption); with_unfolding_all exact rfl) | ((with_reducible apply om22); with_unfolding_all exact rfl) | ((with_reducible apply om25); with_unfolding_all exact rfl) | ((with_reducible apply om24); with_unfolding_all exact rfl) | ((with_reducible apply om23); with_unfolding_all exact rfl) | decide | omega))
  (k_with "execs cons" => ((with_reducible refine exec_seq ?_); (try dsimp only)))
  (k_with "Seq" => (first | with_reducible refine seq_next ?_ | with_reducible refine seq_ret ?_ | with_reducible refine seq_brk ?_ | with_reducible refine seq_cont ?_))
  (k_with "exec If" => (with_reducible refine exec_if ?_))
  (k_with "IfQ" => (first | with_reducible refine ifq_t ?_ | with_reducible refine ifq_f ?_ | with_reducible refine ifq ?_))
  (k_with "call ref" => (k_here; (first | apply Fun.useE (fspath _ _) | apply Fun.useX (get_sep _ _) | apply Fun.useX (law_stem _ _) | apply Fun.useX (strcoll _ _ _ _) | apply Fun.useH (fun h => escape _ h _) | apply Fun.useE (strxfrm _ _)); (iterate 3 with_reducible assumption); assumption; trivial; (first | (apply room_d; assumption; exact rfl) | (dsimp only [Ar]; (walk_at "om"))); (first | (apply room_u; assumption; exact rfl) | (dsimp only [Ar]; (walk_at "om"))); intros))
  (k_with "my item" => (k_here; first | refine item_my (j := 0) (by (walk_at "om")) rfl (by (walk_at "om")) ?_ | refine item_my (j := 1) (by (walk_at "om")) rfl (by (walk_at "om")) ?_ | refine item_my (j := 2) (by (walk_at "om")) rfl (by (walk_at "om")) ?_ | refine item_my (j := 3) (by (walk_at "om")) rfl (by (walk_at "om")) ?_))
  (k_with "subscriptTail Name Name str int" => walk_at "my item")
  (k_with "subscriptTail Name BinOp str int" => walk_at "my item")
  (k_with "subscriptTail Name Constant str int" => walk_at "my item")
  (k_with "subscriptTail Name UnaryOp str int" => walk_at "my item")
  (k_with "call builtin:len" => (k_here; refine len_sOf (by first | ((simp only [List.length_append, List.length_cons, List.length_nil]); exact rfl) | exact rfl) (by (walk_at "om")) ?_))
  (k_with "my same" => (first | (intro z h2 h3; (repeat (refine sm_step ?hne ?_; (case hne => first | exact h2 _ (.head _) | exact h2 _ (.tail _ (.head _)) | exact h2 _ (.tail _ (.tail _ (.head _))) | exact sm_stored h3 (by decide +kernel)))); first | exact sm_last h3 | exact rfl) | (intro z h2 h3; (simp only [List.forall_mem_cons, List.not_mem_nil, false_implies, implies_true, and_true, ne_eq] at h2); (simp only [List.contains_cons, List.contains_nil, Bool.or_false, Bool.or_eq_false_iff, beq_eq_false_iff_ne, ne_eq] at h3); (simp [h2, h3, kstB]; done))))
  (k_with "binaryOp Add str str" => (k_here; refine add_sOf (by (simp only [List.length_append, List.length_cons, List.length_nil]); (walk_at "om")) ?_; intro _ _))
  (k_with "ite" => (k_closed; first | refine ite_pos (by decide +kernel) ?_ | refine ite_neg (by decide +kernel) ?_))
  (k_with "eval Name" => (k_here; (with_reducible show wpAny _ _ (eval _ (compEnvC _ _ _ _)) _ _ _); (with_reducible rename Fr _ _ _ _ => kF); first | refine ev_loc kF rfl ?_ rfl rfl (by decide) | refine ev_cell kF rfl (by assumption) ?_ rfl rfl (by decide)))
  (k_with "call builtin:str.join" => (k_here; (with_reducible rename News _ _ _ _ => kN); refine join_my (News.isListX kN (by k_mem)) (by assumption) (by first | assumption | (simp only [tot_append, tot_cons, tot_nil]; (walk_at "om"))) (by simp) ?_; intro _ _))
  (k_with "eval Constant str" => (with_reducible refine const_my (by first | exact cst0 | exact cst1 | exact cst2 | exact cst3 | exact cst4 | exact cst5 | exact cst6 | exact cst7 | exact cst8 | exact cst9 | exact cst10 | exact cst11 | exact cst12 | exact cst13 | exact cst14 | exact cst15 | exact cst16 | exact cst17 | exact cst18 | exact cst19 | exact cst20 | exact cst21 | exact cst22 | exact cst23 | exact cst24 | exact cst25 | exact cst26 | exact cst27) ?_))
  (k_with "getAttr ref" => (k_here; (with_reducible show wpAny _ _ (getAttr (Value.ref _) (PySem.Str.ofString "append") _) _ _ _); (with_reducible rename Fr _ _ _ _ => kF); (with_reducible rename News _ _ _ _ => kN); refine' attr_append_N kF kN ?ha ?_; (case ha => k_mem); intro _ _ _ _ _))
  (k_with "callWith ref" => (k_here; (with_reducible rename News _ _ _ _ => kN); refine' bound_call kN ?hq ?_; (case hq => k_mem)))
  (k_with "call ref" => (k_here; (with_reducible rename Fr _ _ _ _ => kF); (with_reducible rename News _ _ _ _ => kN); refine' bound_append_L kF kN ?hq ?hl ?hs ?_; (case hq => k_mem); (case hl => k_mem); (case hs => ((try simp only [List.length_append, List.length_cons, List.length_nil]); (walk_at "om"))); intro _ _ _))
  (k_with "truthy ref" => (k_here; (with_reducible rename News _ _ _ _ => kN); refine' truthy_L kN ?hl ?hs ?_; (case hl => k_mem); (case hs => ((try simp only [List.length_append, List.length_cons, List.length_nil]); (walk_at "om"))); (try simp only [List.isEmpty_append, List.isEmpty_cons, Bool.and_false, Bool.not_false])))
  (k_with "subscriptTail Name UnaryOp ref int" => (k_here; (with_reducible rename News _ _ _ _ => kN); refine' item_last (News.isListX kN ?hl) ?_ ?hs ?hg; (case hl => k_mem); (case hs => with_unfolding_all rfl); (case hg => (intro _; with_unfolding_all rfl))))
  (k_with "compareOp IsNot str ref" => (k_here; refine wpAny_isNot_other (by rfl) (by intro x; cases x) ?_))
  (k_with "And" => ((with_reducible show Heap.get? _ _ = _ ∧ _); (with_reducible rename News _ _ _ _ => kN); refine' ⟨boundAt kN ?hq, ?_⟩; (case hq => with_unfolding_all k_mem); (try dsimp only)))
  (k_with "getAttr ref" => (k_here; (apply attr_append_T (P := 78)); (iterate 2 with_reducible assumption); (iterate 2 k_mem); intros))
  (k_with "call ref" => (k_here; (apply bound_append_T (P := 78)); (iterate 2 with_reducible assumption); (iterate 3 k_mem); (focus (try simp only [List.length_append, List.length_cons, List.length_nil]); (walk_at "om")); intros))
  (k_with "eval Lambda" => (k_here; (with_reducible rename Fr _ _ _ _ => kF); (with_reducible rename News _ _ _ _ => kN); (with_reducible rename Frag.In _ _ => kX); (with_reducible rename Top _ _ _ _ _ _ => kT); (with_reducible rename TabOk _ => kO); refine' lam_T kF kN kX kT ?hq ?hl ?hT kO rfl ?hc ⟨rfl, rfl⟩ ?_; (case hq => k_mem); (case hl => k_mem); (case hT => k_mem); (case hc => rfl); intro _ _ _ _ _ _ _ _))
  (k_with "getMethod ref" => (k_here; (with_reducible show wpAny _ _ (getMethod _ (PySem.Str.ofString "sub") _) _ _ _); (apply gm_sub); (iterate 2 with_reducible assumption)))
  (k_with "call builtin:str.replace" => (k_here; (first | apply rep42 | apply rep91); intros))
  (k_with "call builtin:re.Pattern.sub" => (k_here; (first | apply resub42N | apply resub91N); (iterate 3 with_reducible assumption); intros))
  (k_with "subscriptTail Name UnaryOp str int" => (k_here; refine item_plain (j := 0) rfl rfl (by (walk_at "om")) ?_))
  (k_with "subscriptTail Name Constant str int" => (k_here; refine item_plain (j := 0) rfl rfl (by (walk_at "om")) ?_))
  (k_with "truthy str" => (k_here; refine truthy_sOf ?hl ?_; (case hl => first | assumption | (walk_at "om") | (simp only [List.length_cons]; (walk_at "om"))); intro _; (try dsimp only [List.isEmpty, Bool.not_false, Bool.not_true])))
  (k_with "call builtin:str.split" => (k_here; (with_reducible rename Fr _ _ _ _ => kF); (with_reducible rename News _ _ _ _ => kN); refine splitN1 (hsz := ?hsz) kF kN rfl ?_; (case hsz => (rw [sizeLine_eq, sOf_len]; (walk_at "om"))); intro kl _ _ ke _ _; (rw [split_sOf] at ke); (have kS := strValues_are kl); (rw [ke] at kS)))
  (k_with "my same0" => (first | (intro z h2 h3; (repeat (refine sm_step ?hne ?_; (case hne => first | exact h2 _ (.head _) | exact h2 _ (.tail _ (.head _)) | exact h2 _ (.tail _ (.tail _ (.head _))) | exact sm_stored h3 (by decide +kernel)))); first | exact sm_last h3 | exact rfl) | (intro z _ h3; (simp only [List.contains_cons, List.contains_nil, Bool.or_false, Bool.or_eq_false_iff, beq_eq_false_iff_ne, ne_eq] at h3); (simp [h3, kstB]; done))))
  (k_with "call builtin:list.append" => (k_here; (with_reducible rename Fr _ _ _ _ => kF); (with_reducible rename News _ _ _ _ => kN); refine app_own kF kN ?hoff ?hsz ?_; (case hoff => assumption); (case hsz => (walk_at "om")); intro _ _ _))
  (k_with "call builtin:list.pop" => (k_here; (with_reducible rename Fr _ _ _ _ => kF); (with_reducible rename News _ _ _ _ => kN); refine pop_own kF kN ?hoff ?hsz ?_; (case hoff => assumption); (case hsz => (walk_at "om")); intro _ _ _))
  (k_with "call builtin:str.startswith" => (k_here; refine starts_my (by assumption) ?_))
  (k_with "call builtin:str.endswith" => (k_here; refine ends_my (by assumption) ?_))
  (k_with "inplaceOp Add str str" => (k_here; refine iadd_sOf (by (simp only [List.length_append, List.length_cons, List.length_nil]); first | (walk_at "om") | ((simp only [List.length_cons] at *); (walk_at "om"))) ?_; intro _ _))
  trivial
open PySem.Spec PySem.SeqAt PyProof.V
/-- every sign of every text is a sign -/
noncomputable def okc (ls : List (List Nat)) : Prop := ∀ l ∈ ls, ∀ c ∈ l, c < 1114112
theorem canLayAll0_strs : ∀ {ns : List (List Nat)}, okc ns → PyData.canLayAll0 ((ns.map sOf).map PyData.str) = true
  | [], _ => by simp [PyData.canLayAll0]
  | n :: r, h => by
    have h1 : PyData.strOk (sOf n) = true := by
      unfold PyData.strOk
      rw [← Array.all_toList, List.all_eq_true]
      intro c hc
      exact decide_eq_true (h n (.head _) c (by simpa using hc))
    simp only [List.map_cons, PyData.canLayAll0, PyData.canLay0, h1, Bool.true_and]
    exact canLayAll0_strs fun l hl => h l (.tail _ hl)
theorem depthAll_strs : ∀ ns : List Str, PyData.depthAll (ns.map PyData.str) ≤ 1
  | [] => by simp [PyData.depthAll]
  | n :: r => by
    have := depthAll_strs r
    simp only [List.map_cons, PyData.depthAll, PyData.depth]
    (walk_at "om")
theorem shaped_strs {ns : List (List Nat)} (h : okc ns) : shaped (.list ((ns.map sOf).map PyData.str)) = true := by
  have h1 := depthAll_strs (ns.map sOf)
  have h2 : PyData.depth (.list ((ns.map sOf).map PyData.str)) ≤ 64 := by simp only [PyData.depth]; (walk_at "om")
  show (PyData.canLay0 (.list ((ns.map sOf).map PyData.str)) && decide (PyData.depth (.list ((ns.map sOf).map PyData.str)) ≤ 64)) = true
  rw [Bool.and_eq_true]
  exact ⟨by simp only [PyData.canLay0]; exact canLayAll0_strs h, decide_eq_true h2⟩
/-- a list of texts of plain signs stands at a -/
noncomputable def TextsAt (h : Heap) (a : Addr) (ls : List (List Nat)) : Prop := okc ls ∧ ∃ vs : List Value, h.IsList a vs.toArray ∧ SAre vs ls
theorem TextsAt.reads {h : Heap} {a : Addr} {ls : List (List Nat)} (x : TextsAt h a ls) : Reads h (.ref a) (.list ((ls.map sOf).map PyData.str)) [a] := by
  obtain ⟨_, vs, ⟨o, ho, hc, _, hd⟩, S⟩ := x
  exact Reads.list ho hc hd (StrsAre.reads h S)
theorem texts_same (ls ms : List (List Nat)) : PySem.Spec.same (.list ((ls.map sOf).map PyData.str)) (.list ((ms.map sOf).map PyData.str)) = decide (ls = ms) := by
  rw [List.map_map, List.map_map]
  exact sameAll_map (enc := PyData.str ∘ sOf) (fun a b => by
    show (sOf a == sOf b) = decide (a = b)
    by_cases e : a = b
    · subst e; simp
    · rw [decide_eq_false e]; exact beq_eq_false_iff_ne.mpr fun q => e (by simpa using congrArg (fun s : Str => s.cps.toList) q)) ls ms
theorem texts_mix (ls ms : List (List Nat)) : noMix (.list ((ls.map sOf).map PyData.str)) (.list ((ms.map sOf).map PyData.str)) = true := by
  have all : ∀ (ls : List (List Nat)), ∀ d ∈ (ls.map sOf).map PyData.str, ∃ x, d = PyData.str x := fun ls d hd => let ⟨x, _, e⟩ := List.mem_map.mp hd; ⟨x, e.symm⟩
  simp only [noMix]
  exact noMixAll_of_all (P := fun d => ∃ x, d = PyData.str x) (by rintro _ _ ⟨x, rfl⟩ ⟨y, rfl⟩; simp [noMix]) _ _ (all ls) (all ms)
section
variable {prog : Program} {w : World} {A : Around} {E : Value → Shared → Prop} {s : Shared} {a b : Addr} {ls ms : List (List Nat)} {Q : Value → Shared → Prop}
theorem eq_texts (x : TextsAt s.heap a ls) (y : TextsAt s.heap b ms) (room : A.units + 64 < cLine) (k : Q (.bool (decide (ls = ms))) s) : wpAny (model prog w) A (compareOp .Eq (.ref a) (.ref b)) Q E s :=
  eq_dataH_same x.reads y.reads (shaped_strs x.1) (shaped_strs y.1) room (texts_mix ls ms) ((texts_same ls ms).symm ▸ k)
theorem ne_texts (x : TextsAt s.heap a ls) (y : TextsAt s.heap b ms) (room : A.units + 64 < cLine) (k : Q (.bool (!decide (ls = ms))) s) : wpAny (model prog w) A (compareOp .NotEq (.ref a) (.ref b)) Q E s :=
  ne_dataH_same x.reads y.reads (shaped_strs x.1) (shaped_strs y.1) room (texts_mix ls ms) ((texts_same ls ms).symm ▸ k)
end
open PySem.SeqAt
noncomputable abbrev Mark := List Nat × List Nat × Bool
noncomputable def pileStep (t : List Nat) (st : Option (List (List Nat))) (mk : Mark) : Option (List (List Nat)) :=
  match st with
  | none => none
  | some p => if t < mk.1 then some p else if mk.2.2 then some (p ++ [mk.2.1]) else if p.getLast? = some mk.2.1 then some p.dropLast else none
noncomputable def pileF (ms : List Mark) (t : List Nat) : Option (List (List Nat)) := ms.foldl (pileStep t) (some [])
theorem pile_none (t : List Nat) : ∀ ms : List Mark, ms.foldl (pileStep t) none = none
  | [] => rfl
  | m :: r => pile_none t r
theorem pile_take {ms : List Mark} {t : List Nat} {P : List (List Nat)} (h : pileF ms t = some P) (i : Nat) : ∃ p, (ms.take i).foldl (pileStep t) (some []) = some p := by
  cases e : (ms.take i).foldl (pileStep t) (some []) with
  | some p => exact ⟨p, rfl⟩
  | none =>
    unfold pileF at h
    rw [← List.take_append_drop i ms, List.foldl_append, e, pile_none] at h
    cases h
theorem pile_next {ms : List Mark} {t : List Nat} {i : Nat} {mk : Mark} (h : ms[i]? = some mk) : (ms.take (i + 1)).foldl (pileStep t) (some []) = pileStep t ((ms.take i).foldl (pileStep t) (some [])) mk := by
  rw [List.take_add_one, h, List.foldl_append]; rfl
noncomputable def MarksAt (h : Heap) (items : List Value) (ms : List Mark) : Prop := items.length = ms.length ∧ ∀ (i : Nat) (m f : List Nat) (o : Bool), ms[i]? = some (m, f, o) → ∃ D t1 t2, items[i]? = some (Value.ref D) ∧ h.get? D = some (tup [Value.str (sOf m) t1, Value.str (sOf f) t2, Value.bool o])
theorem reg_j_19 : True := by
  (k_with "assign Tuple" => (k_here; (with_reducible show wpAny _ _ (assign (Expr.Tuple _ _ _) _ (Value.ref _)) _ _ _); (with_reducible rename Fr _ _ _ _ => kF); (with_reducible rename News _ _ _ _ => kN); refine unpackN_ kF kN ⟨_, kF.keep _ _ (by assumption), rfl, _, rfl⟩ (by rfl) (by rfl) (by rfl) ?_; intro _ _ _))
  trivial
theorem pileStep_len {t : List Nat} {p q : List (List Nat)} {m : Mark} (h : pileStep t (some p) m = some q) : q.length ≤ p.length + 1 := by
  unfold pileStep at h
  dsimp only at h
  split at h
  · cases h; (walk_at "om")
  · split at h
    · cases h; simp
    · split at h
      · cases h; simp; (walk_at "om")
      · cases h
theorem pile_len0 {t : List Nat} : ∀ {ms : List Mark} {q p : List (List Nat)}, ms.foldl (pileStep t) (some q) = some p → p.length ≤ q.length + ms.length
  | [], q, p, h => by cases h; simp
  | m :: r, q, p, h => by
    rw [List.foldl_cons] at h
    cases e : pileStep t (some q) m with
    | none => rw [e, pile_none] at h; cases h
    | some q2 =>
      rw [e] at h
      have h1 := pileStep_len e
      have h2 := pile_len0 h
      simp; (walk_at "om")
theorem pile_len {t : List Nat} {ms : List Mark} {p : List (List Nat)} (h : ms.foldl (pileStep t) (some []) = some p) : p.length ≤ ms.length := by
  have := pile_len0 h
  simpa using this
theorem coll_lt {t m : List Nat} : (b2i (decide (lt01 (sOf t) (sOf m))) - b2i (decide (lt01 (sOf m) (sOf t))) < 1) ↔ ¬ t < m := by
  have e1 : lt01 (sOf t) (sOf m) ↔ t < m := Iff.rfl
  have e2 : lt01 (sOf m) (sOf t) ↔ m < t := Iff.rfl
  by_cases h : t < m
  · have h2 : ¬ m < t := List.lt_asymm h
    simp [e1, e2, h, h2, b2i]
  · by_cases h2 : m < t <;> simp [e1, e2, h, h2, b2i]
theorem pick_last1 (vs : List Value) : slicePick vs.toArray (some (-1)) none none = (vs.drop (vs.length - 1)).toArray := by
  rw [kms_pick_eq]
  show (List.take (vs.length - (vs.length - 1)) (List.drop (vs.length - 1) vs)).toArray = _
  rw [List.take_of_length_le (by simp)]
theorem drop_last1 {p : List (List Nat)} {f : List Nat} (h : p.getLast? = some f) : p.drop (p.length - 1) = [f] := by
  obtain ⟨q, rfl⟩ := List.getLast?_eq_some_iff.mp h
  simp
noncomputable def kLed (c : Addr × List Value × Nat) : List (Addr × Obj) := [(c.1, PySem.W.listOf c.2.1.toArray c.2.2)]
theorem law_pile {w : World} (ms : List Mark) (hl6 : ms.length ≤ 6) (t : List Nat) (P : List (List Nat)) (hP : pileF ms t = some P) (hok : ∀ m ∈ ms, ∀ c ∈ m.2.1, c < 1114112) (items : List Value) (n : Nat) (a : Addr) (tt : Tok) : Fun w 8 236 [.ref a, .str (sOf t) tt] (fun h => h.get? a = some (PySem.W.listOf items.toArray n) ∧ MarksAt h items ms)
    (fun h v h' => ∃ D vs' n', v = .ref D ∧ h.get? D = none ∧ h'.get? D = some (PySem.W.listOf vs'.toArray n') ∧ SAre vs' P) := by
  intro mean mg mb dp un fr gd hq0 gq0 dq0 tq0 oq0 Q E X T hpre hdp hun ret
  refine wpAny_call ?_
  refine' enter (binds := [(Str.ofString "marks", .ref a), (Str.ofString "text", .str (sOf t) tt)]) X T ?ho ⟨?hcd, ?h1, ?h2, ?h3⟩ ?hroom ?h4 ?hbind ?hloc ?_
  case ho => k_is
  case hcd => k_is
  case hroom => exact om18 hdp
  case hbind => exact BindsTo.of_eq rfl
  case hloc => exact locs rfl
  case h1 => exact rfl
  case h2 => exact rfl
  case h3 => exact rfl
  case h4 => decide
  intro L h₁ F N
  dsimp only [BodyOf, List.reverse_cons, List.reverse_nil, List.nil_append, List.cons_append, List.length_cons, List.length_nil] at F ⊢
  k_fold
  first | refine ex2_1 hpre fun hp1 hp2 hp3 => ?_ | refine ex1_2 hpre fun hp1 hp2 hp3 => ?_ | refine ex0_3 hpre fun hp1 hp2 hp3 => ?_ | obtain ⟨hp1, hp2, hp3⟩ := hpre
  try clear hpre
  walk_at "my steps"
  walk_at "exec For"
  walk1
  rename Fr _ _ _ _ => F8
  rename News _ _ _ _ => N8
  have haL : a < L := Nat.lt_of_lt_of_le (Heap.lt_size hp1) F8.above
  refine for_listT (σ := Addr × List Value × Nat) kLed (fun c => [("pile", .ref c.1)]) ["mark", "folder", "opens"] (fun i c => ∃ p, (ms.take i).foldl (pileStep t) (some []) = some p ∧ SAre c.2.1 p ∧ okc p) rfl rfl ⟨n, rfl⟩ (fun c h m F N => F.keep _ _ hp1) (Nat.ne_of_gt haL) ?hled F8 ⟨(_, [], _), N8, ⟨rfl, trivial⟩, [], rfl, StrsAre.nil, fun _ h => nomatch h⟩ ?_ ?_ PassesOwn.never
  case hled => intro c p hp; rw [List.mem_singleton.mp hp]; rfl
  · rintro i v ⟨aN, vs, nv⟩ u h tk own hv ⟨p, hvp, hvs, hpo⟩ hoff F'' N''
    dsimp only [kLed, kstB] at F'' N'' hvs hoff
    have F3 : Fr hq0 L h _ := F''
    have N3 : News hq0 L h _ := N''
    clear F8 N8 F'' N''
    obtain ⟨⟨mk, fo, op⟩, hmi⟩ : ∃ m, ms[i]? = some m := ⟨_, List.getElem?_eq_getElem (by rw [← hp2]; exact (List.getElem?_eq_some_iff.mp (by simpa using hv)).1)⟩
    first | refine ex3_2 (hp3 i mk fo op hmi) fun D t1 t2 hv' hD => ?_ | refine ex2_3 (hp3 i mk fo op hmi) fun D t1 t2 hv' hD => ?_ | refine ex0_5 (hp3 i mk fo op hmi) fun D t1 t2 hv' hD => ?_ | obtain ⟨D, t1, t2, hv', hD⟩ := hp3 i mk fo op hmi
    have hv2 : items[i]? = some v := by simpa using hv
    rw [hv'] at hv2
    obtain rfl := Option.some.inj hv2
    have hn := pile_next (t := t) hmi
    rw [hvp] at hn
    first | refine ex1_1 (pile_take hP (i + 1)) fun p2 hp2' => ?_ | refine ex0_2 (pile_take hP (i + 1)) fun p2 hp2' => ?_ | obtain ⟨p2, hp2'⟩ := pile_take hP (i + 1)
    rw [hp2'] at hn
    have hfo : ∀ c ∈ fo, c < 1114112 := hok _ (List.mem_of_getElem? hmi)
    unfold tup at hD
    have hvl : vs.length ≤ 1000 := by
      have h1 := StrsAre.length hvs
      have h2 := pile_len hvp
      rw [List.length_map] at h1
      rw [List.length_take] at h2
      (walk_at "om")
    clear hv hv' hv2 hmi
    walk_at "my steps"
    · rename b2i _ - b2i _ < 1 => hcol
      rename op = true => hop
      rename Fr _ _ _ _ => F9
      rename News _ _ _ _ => N9
      rename StrsAre _ _ => hvs9
      have hnl := coll_lt.mp hcol
      subst hop
      rw [show pileStep t (some p) (mk, fo, true) = some (p ++ [fo]) by simp [pileStep, hnl]] at hn
      refine fnext (_, vs ++ [.str (sOf fo) t2], 0) F9 N9 (fun p hp => ?_) (fun p hp => .tail _ (.tail _ (.tail _ hp))) ⟨rfl, trivial⟩ ?_ ⟨p2, hp2', ?_, ?_⟩
      · rw [List.mem_singleton.mp hp]; exact .head _
      · walk_at "my same"
      · rw [Option.some.inj hn]; exact sare_snoc hvs9
      · rw [Option.some.inj hn]
        intro l hl
        rcases List.mem_append.mp hl with hl | hl
        · exact hpo l hl
        · rw [List.mem_singleton.mp hl]; exact hfo
    · rename b2i _ - b2i _ < 1 => hcol
      rename op = false => hop
      rename Fr _ _ _ _ => F9
      rename News _ _ _ _ => N9
      have hnl := coll_lt.mp hcol
      subst hop
      rw [pick_last1] at N9
      by_cases hg : p.getLast? = some fo
      · rw [show pileStep t (some p) (mk, fo, false) = some p.dropLast by simp [pileStep, hnl, hg]] at hn
        have hvl2 : vs.length = p.length := by have := StrsAre.length hvs; rwa [List.length_map] at this
        have hs9 : SAre (vs.drop (vs.length - 1)) [fo] := by
          have := StrsAre.drop' hvs (vs.length - 1)
          rw [← List.map_drop, hvl2, drop_last1 hg] at this
          rw [hvl2]; exact this
        have hc9 : okc [fo] := fun l hl => by rw [List.mem_singleton.mp hl]; exact hfo
        refine ne_texts ⟨hc9, _, News.isListX N9 (.tail _ (.head _)), hs9⟩ ⟨hc9, [.str (sOf fo) t2], News.isListX N9 (.head _), StrsAre.cons _ _ StrsAre.nil⟩ (by show un + _ + 64 < _; (walk_at "om")) ?_
        rw [decide_eq_true rfl]
        clear hs9
        walk_at "my steps"
        rename Fr _ _ _ _ => F9
        rename News _ _ _ _ => N9
        rw [pick_droplast] at N9
        refine fnext (_, vs.dropLast, 0) F9 N9 (fun p hp => ?_) (fun p hp => .tail _ (.tail _ (.tail _ (.tail _ hp)))) ⟨rfl, trivial⟩ ?_ ⟨p2, hp2', ?_, ?_⟩
        · rw [List.mem_singleton.mp hp]; exact .head _
        · walk_at "my same"
        · rw [Option.some.inj hn]; exact sare_droplast hvs
        · rw [Option.some.inj hn]
          exact fun l hl => hpo l (List.dropLast_subset _ hl)
      · rw [show pileStep t (some p) (mk, fo, false) = none by simp [pileStep, hnl, hg]] at hn
        cases hn
    · rename Fr _ _ _ _ => F9
      rename News _ _ _ _ => N9
      have hnl : t < mk := by
        by_cases h : t < mk
        · exact h
        · exact absurd (coll_lt.mpr h) (by first | assumption | (walk_at "om"))
      rw [show pileStep t (some p) (mk, fo, op) = some p by simp [pileStep, hnl]] at hn
      refine fnext (aN, vs, nv) F9 N9 (fun p hp => List.mem_append_left own hp) (fun p hp => List.mem_append_right _ hp) ⟨rfl, trivial⟩ ?_ ⟨p2, hp2', ?_, ?_⟩
      · walk_at "my same"
      · rw [Option.some.inj hn]; exact hvs
      · rw [Option.some.inj hn]; exact hpo
  · refine pi3 ?_
    intro aN vs nv u h tk q8 F'' N''
    first | refine ex2_2 q8 fun p hvp hvs _ => ?_ | refine ex1_3 q8 fun p hvp hvs _ => ?_ | obtain ⟨p, hvp, hvs, _⟩ := q8
    try clear q8
    dsimp only at hvs
    rw [List.size_toArray, hp2, List.take_length] at hvp
    obtain rfl : p = P := Option.some.inj (hvp.symm.trans hP)
    have F3 : Fr hq0 L h _ := F''
    have N3 : News hq0 L h _ := N''
    dsimp only [kLed, kstB] at F3 N3
    clear F8 N8 F'' N''
    walk_at "my steps"
    exact ret _ _ _ (Fr.keep (by assumption)) ⟨_, vs, nv, rfl, (N3 _ (.head _)).2.2, (N3 _ (.head _)).1, hvs⟩
theorem reg_none_C25 : True := by
  k_with_none
  trivial
theorem reg_j_20 : True := by
  (k_with "call builtin:issubclass" => (k_here; (rename News _ _ _ _ => kN); refine isub _ _ _ _ _ _ ((kN _ (by k_mem)).1) ?_; intro _))
  (k_with "exec For" => (refine wpAny_For ?_ (by intro _; rfl)))
  (k_with "my steps" => repeat' (first | (k_unfold; (try dsimp only)) | ((fail_if_success (with_reducible show wpAny _ _ (exec (Stmt.While _ _ _ _) _) _ _ _)); (fail_if_success (with_reducible show wpAny _ _ (exec (Stmt.For _ _ _ _ _) _) _ _ _)); (fail_if_success (with_reducible show wpAny _ _ (exec (Stmt.Assign _ (Expr.ListComp _ _ _ _) _) _) _ _ _)); (fail_if_success (with_reducible show wpAny _ _ (eval (Expr.ListComp _ _ _ _) _) _ _ _)); walk1) | fail "no step"))
  (k_with "om" => (first | with_reducible assumption | with_unfolding_all exact Nat.le_of_ble_eq_true rfl | ((with_reducible apply om1); (focus with_reducible assumption); with_unfolding_all exact rfl) | ((with_reducible apply om3); (focus with_reducible assumption); with_unfolding_all exact rfl) | ((with_reducible apply om2); (focus with_reducible assumption); with_unfolding_all exact rfl) | ((with_reducible apply om4); (focus with_reducible assumption); with_unfolding_all exact rfl) | ((with_reducible apply om5); (focus with_reducible assumption); with_unfolding_all exact rfl) | ((with_reducible apply om6); (focus with_reducible assumption); with_unfolding_all exact rfl) | ((with_reducible apply om7); (focus with_reducible assumption); with_unfolding_all exact rfl) | ((with_reducible apply om8); (focus with_reducible assumption); with_unfolding_all exact rfl) | with_reducible exact Int.natCast_nonneg _ | with_reducible exact om9 | ((with_reducible apply om10); (focus with_reducible assumption); with_unfolding_all exact rfl) | ((with_reducible apply om11); (focus with_reducible assumption); with_unfolding_all exact rfl) | ((with_reducible apply Nat.le_of_lt); with_reducible assumption) | ((with_reducible apply Nat.succ_le_of_lt); with_reducible assumption) | ((with_reducible apply om12); (focus with_reducible assumption); with_unfolding_all exact rfl) | ((with_reducible apply om13); (focus with_reducible assumption); with_unfolding_all exact rfl) | ((with_reducible apply om14); (focus with_reducible assumption); with_unfolding_all exact rfl) | ((with_reducible apply om15); (focus with_reducible assumption); with_unfolding_all exact rfl) | ((with_reducible apply om16); (focus with_reducible assumption); with_unfolding_all exact rfl) | ((with_reducible apply om17); (focus with_reducible assumption); with_unfolding_all exact rfl) | ((with_reducible apply om19); (focus with_reducible assumption); with_unfolding_all exact rfl) | ((with_reducible apply om20); (focus with_reducible assumption); with_unfolding_all exact rfl) | ((with_reducible apply om18); with_reducible assumption) | ((with_reducible show (_ : Int) = _); with_unfolding_all exact rfl) | ((with_reducible apply om21); (focus with_reducible assumption); with_unfolding_all exact rfl) | ((with_reducible apply om22); with_unfolding_all exact rfl) | ((with_reducible apply om25); with_unfolding_all exact rfl) | ((with_reducible apply om24); with_unfolding_all exact rfl) | ((with_reducible apply om23); with_unfolding_all exact rfl) | decide | omega))
  (k_with "execs cons" => ((with_reducible refine exec_seq ?_); (try dsimp only)))
  (k_with "Seq" => (first | with_reducible refine seq_next ?_ | with_reducible refine seq_ret ?_ | with_reducible refine seq_brk ?_ | with_reducible refine seq_cont ?_))
  (k_with "exec If" => (with_reducible refine exec_if ?_))
  (k_with "IfQ" => (first | with_reducible refine ifq_t ?_ | with_reducible refine ifq_f ?_ | with_reducible refine ifq ?_))
  (k_with "call ref" => (k_here; (first | apply Fun.useE (fspath _ _) | apply Fun.useX (get_sep _ _) | apply Fun.useX (law_stem _ _) | apply Fun.useX (strcoll _ _ _ _) | apply Fun.useH (fun h => escape _ h _) | apply Fun.useE (strxfrm _ _)); (iterate 3 with_reducible assumption); assumption; trivial; (first | (apply room_d; assumption; exact rfl) | (dsimp only [Ar]; (walk_at "om"))); (first | (apply room_u; assumption; exact rfl) | (dsimp only [Ar]; (walk_at "om"))); intros))
  (k_with "my item" => (k_here; first | refine item_my (j := 0) (by (walk_at "om")) rfl (by (walk_at "om")) ?_ | refine item_my (j := 1) (by (walk_at "om")) rfl (by (walk_at "om")) ?_ | refine item_my (j := 2) (by (walk_at "om")) rfl (by (walk_at "om")) ?_ | refine item_my (j := 3) (by (walk_at "om")) rfl (by (walk_at "om")) ?_))
  (k_with "subscriptTail Name Name str int" => walk_at "my item")
  (k_with "subscriptTail Name BinOp str int" => walk_at "my item")
  (k_with "subscriptTail Name Constant str int" => walk_at "my item")
  (k_with "subscriptTail Name UnaryOp str int" => walk_at "my item")
  (k_with "call builtin:len" => (k_here; refine len_sOf (by first | ((simp only [List.length_append, List.length_cons, List.length_nil]); exact rfl) | exact rfl) (by (walk_at "om")) ?_))
  (k_with "my same" => (first | (intro z h2 h3; (repeat (refine sm_step ?hne ?_; (case hne => first | exact h2 _ (.head _) | exact h2 _ (.tail _ (.head _)) | exact h2 _ (.tail _ (.tail _ (.head _))) | exact sm_stored h3 (by decide +kernel)))); first | exact sm_last h3 | exact rfl) | (intro z h2 h3; (simp only [List.forall_mem_cons, List.not_mem_nil, false_implies, implies_true, and_true, ne_eq] at h2); (simp only [List.contains_cons, List.contains_nil, Bool.or_false, Bool.or_eq_false_iff, beq_eq_false_iff_ne, ne_eq] at h3); (simp [h2, h3, kstB]; done))))
  (k_with "binaryOp Add str str" => (k_here; refine add_sOf (by (simp only [List.length_append, List.length_cons, List.length_nil]); (walk_at "om")) ?_; intro _ _))
  (k_with "ite" => (k_closed; first | refine ite_pos (by decide +kernel) ?_ | refine ite_neg (by decide +kernel) ?_))
  (k_with "eval Name" => (k_here; (with_reducible show wpAny _ _ (eval _ (compEnvC _ _ _ _)) _ _ _); (with_reducible rename Fr _ _ _ _ => kF); first | refine ev_loc kF rfl ?_ rfl rfl (by decide) | refine ev_cell kF rfl (by assumption) ?_ rfl rfl (by decide)))
  (k_with "call builtin:str.join" => (k_here; (with_reducible rename News _ _ _ _ => kN); refine join_my (News.isListX kN (by k_mem)) (by assumption) (by first | assumption | (simp only [tot_append, tot_cons, tot_nil]; (walk_at "om"))) (by simp) ?_; intro _ _))
  (k_with "eval Constant str" => (with_reducible refine const_my (by first | exact cst0 | exact cst1 | exact cst2 | exact cst3 | exact cst4 | exact cst5 | exact cst6 | exact cst7 | exact cst8 | exact cst9 | exact cst10 | exact cst11 | exact cst12 | exact cst13 | exact cst14 | exact cst15 | exact cst16 | exact cst17 | exact cst18 | exact cst19 | exact cst20 | exact cst21 | exact cst22 | exact cst23 | exact cst24 | exact cst25 | exact cst26 | exact cst27) ?_))
  (k_with "getAttr ref" => (k_here; (with_reducible show wpAny _ _ (getAttr (Value.ref _) (PySem.Str.ofString "append") _) _ _ _); (with_reducible rename Fr _ _ _ _ => kF); (with_reducible rename News _ _ _ _ => kN); refine' attr_append_N kF kN ?ha ?_; (case ha => k_mem); intro _ _ _ _ _))
  (k_with "callWith ref" => (k_here; (with_reducible rename News _ _ _ _ => kN); refine' bound_call kN ?hq ?_; (case hq => k_mem)))
  (k_with "call ref" => (k_here; (with_reducible rename Fr _ _ _ _ => kF); (with_reducible rename News _ _ _ _ => kN); refine' bound_append_L kF kN ?hq ?hl ?hs ?_; (case hq => k_mem); (case hl => k_mem); (case hs => ((try simp only [List.length_append, List.length_cons, List.length_nil]); (walk_at "om"))); intro _ _ _))
  (k_with "truthy ref" => (k_here; (with_reducible rename News _ _ _ _ => kN); refine' truthy_L kN ?hl ?hs ?_; (case hl => k_mem); (case hs => ((try simp only [List.length_append, List.length_cons, List.length_nil]); (walk_at "om"))); (try simp only [List.isEmpty_append, List.isEmpty_cons, Bool.and_false, Bool.not_false])))
  (k_with "subscriptTail Name UnaryOp ref int" => (k_here; (with_reducible rename News _ _ _ _ => kN); refine' item_last (News.isListX kN ?hl) ?_ ?hs ?hg; (case hl => k_mem); (case hs => with_unfolding_all rfl); (case hg => (intro _; with_unfolding_all rfl))))
  (k_with "compareOp IsNot str ref" => (k_here; refine wpAny_isNot_other (by rfl) (by intro x; cases x) ?_))
  (k_with "And" => ((with_reducible show Heap.get? _ _ = _ ∧ _); (with_reducible rename News _ _ _ _ => kN); refine' ⟨boundAt kN ?hq, ?_⟩; (case hq => with_unfolding_all k_mem); (try dsimp only)))
  (k_with "getAttr ref" => (k_here; (apply attr_append_T (P := 78)); (iterate 2 with_reducible assumption); (iterate 2 k_mem); intros))
  (k_with "call ref" => (k_here; (apply bound_append_T (P := 78)); (iterate 2 with_reducible assumption); (iterate 3 k_mem); (focus (try simp only [List.length_append, List.length_cons, List.length_nil]); (walk_at "om")); intros))
  (k_with "eval Lambda" => (k_here; (with_reducible rename Fr _ _ _ _ => kF); (with_reducible rename News _ _ _ _ => kN); (with_reducible rename Frag.In _ _ => kX); (with_reducible rename Top _ _ _ _ _ _ => kT); (with_reducible rename TabOk _ => kO); refine' lam_T kF kN kX kT ?hq ?hl ?hT kO rfl ?hc ⟨rfl, rfl⟩ ?_; (case hq => k_mem); (case hl => k_mem); (case hT => k_mem); (case hc => rfl); intro _ _ _ _ _ _ _ _))
  (k_with "getMethod ref" => (k_here; (with_reducible show wpAny _ _ (getMethod _ (PySem.Str.ofString "sub") _) _ _ _); (apply gm_sub); (iterate 2 with_reducible assumption)))
  (k_with "call builtin:str.replace" => (k_here; (first | apply rep42 | apply rep91); intros))
  (k_with "call builtin:re.Pattern.sub" => (k_here; (first | apply resub42N | apply resub91N); (iterate 3 with_reducible assumption); intros))
  (k_with "subscriptTail Name UnaryOp str int" => (k_here; refine item_plain (j := 0) rfl rfl (by (walk_at "om")) ?_))
  (k_with "subscriptTail Name Constant str int" => (k_here; refine item_plain (j := 0) rfl rfl (by (walk_at "om")) ?_))
  (k_with "truthy str" => (k_here; refine truthy_sOf ?hl ?_; (case hl => first | assumption | (walk_at "om") | (simp only [List.length_cons]; (walk_at "om"))); intro _; (try dsimp only [List.isEmpty, Bool.not_false, Bool.not_true])))
  (k_with "call builtin:str.split" => (k_here; (with_reducible rename Fr _ _ _ _ => kF); (with_reducible rename News _ _ _ _ => kN); refine splitN1 (hsz := ?hsz) kF kN rfl ?_; (case hsz => (rw [sizeLine_eq, sOf_len]; (walk_at "om"))); intro kl _ _ ke _ _; (rw [split_sOf] at ke); (have kS := strValues_are kl); (rw [ke] at kS)))
  (k_with "my same0" => (first | (intro z h2 h3; (repeat (refine sm_step ?hne ?_; (case hne => first | exact h2 _ (.head _) | exact h2 _ (.tail _ (.head _)) | exact h2 _ (.tail _ (.tail _ (.head _))) | exact sm_stored h3 (by decide +kernel)))); first | exact sm_last h3 | exact rfl) | (intro z _ h3; (simp only [List.contains_cons, List.contains_nil, Bool.or_false, Bool.or_eq_false_iff, beq_eq_false_iff_ne, ne_eq] at h3); (simp [h3, kstB]; done))))
  (k_with "call builtin:list.append" => (k_here; (with_reducible rename Fr _ _ _ _ => kF); (with_reducible rename News _ _ _ _ => kN); refine app_own kF kN ?hoff ?hsz ?_; (case hoff => assumption); (case hsz => (walk_at "om")); intro _ _ _))
  (k_with "call builtin:list.pop" => (k_here; (with_reducible rename Fr _ _ _ _ => kF); (with_reducible rename News _ _ _ _ => kN); refine pop_own kF kN ?hoff ?hsz ?_; (case hoff => assumption); (case hsz => (walk_at "om")); intro _ _ _))
  (k_with "call builtin:str.startswith" => (k_here; refine starts_my (by assumption) ?_))
  (k_with "call builtin:str.endswith" => (k_here; refine ends_my (by assumption) ?_))
  (k_with "inplaceOp Add str str" => (k_here; refine iadd_sOf (by (simp only [List.length_append, List.length_cons, List.length_nil]); first | (walk_at "om") | ((simp only [List.length_cons] at *); (walk_at "om"))) ?_; intro _ _))
  trivial
section
variable {w : World} {A : Around} {hs : Heap} {gs : Array GenState} {ds : Drawn} {ts : Nat} {os : OsState} {R : Result → Shared → Prop} {mean : ExcName → Option Value} {mg mb : Str → Option Value} {K : Frag} {name qual : Str} {params : Arguments} {body : List Stmt} {scope : Scope}
  {d1 d2 doc mo code ct cl : Value} {an di : Option Addr} {sl : Array (Option Value)} {f : Addr} {args : Args} {binds : List (Str × Value)}
/-- a def some of whose names are cells -/
theorem enterC (X : K.In hs) (T : TopV mean mg mb hs) (def_ : K.lookup f = some ⟨cl, di, .func (fnOf name qual params body scope d1 d2 doc mo an code ct), sl⟩) (D : DefAt K qual scope code) (room : A.depth < recursionLimit) (once : ((cellsFrom 0 scope.names []).map (·.1)).Nodup)
    (bind : BindsTo ⟨hs, gs, ds, ts, os⟩ (fnOf name qual params body scope d1 d2 doc mo an code ct) args binds) (kinds : (binds.all fun y => scope.names.lookup y.1 == some .local || scope.names.lookup y.1 == some .cell) = true)
    (run : ∀ L h tk cells, Fr hs L h (bindL (envOfC qual scope L f code).kindOf binds fun _ => none) → News hs L h cells → CellsAre (bindC (envOfC qual scope L f code).kindOf binds fun _ => none) (cellsFrom (L + 1) scope.names []) cells →
      BodyOf w A (envOfC qual scope L f code) body R ⟨h, gs, ds, tk, os⟩) : codeAny (model PySem.Challenge.pw_rx0087_01 w) A (.call (.ref f) args) R ⟨hs, gs, ds, ts, os⟩ := by
  first | refine ex2_2 D fun c co gn fn => ?_ | refine ex1_3 D fun c co gn fn => ?_ | obtain ⟨c, co, gn, fn⟩ := D
  try clear D
  refine codeAny_call_function room (X _ _ def_) rfl co gn rfl (codeRec_of X c) (bind _ _ _ _ (wpAny_newFunctionEnv_cells fn (kindsX kinds _) fun env e s x => ?_))
  subst e
  have keep := x.toInCall.keep
  first | refine ex2_2 x.done fun h tk e90 _ => ?_ | refine ex1_3 x.done fun h tk e90 _ => ?_ | obtain ⟨h, tk, e90, _⟩ := x.done
  subst e90
  have at_ : ∀ n c, (n, c) ∈ cellsFrom (hs.objs.size + 1) scope.names [] → (cellsFrom (hs.objs.size + 1) scope.names []).lookup n = some c := fun n c m =>
    lookup_of_mem_nodup (cellsFrom_names scope.names 0 (hs.objs.size + 1) [] [] rfl ▸ once) m
  first | refine ex2_1 (Cl.news (h₀ := hs) (Nat.le_refl _) fun n c m => ⟨x.cell n c (at_ n c m), x.above n c m⟩) fun cells N Y => ?_ | refine ex1_2 (Cl.news (h₀ := hs) (Nat.le_refl _) fun n c m => ⟨x.cell n c (at_ n c m), x.above n c m⟩) fun cells N Y => ?_ | refine ex0_3 (Cl.news (h₀ := hs) (Nat.le_refl _) fun n c m => ⟨x.cell n c (at_ n c m), x.above n c m⟩) fun cells N Y => ?_ | obtain ⟨cells, N, Y⟩ := Cl.news (h₀ := hs) (Nat.le_refl _) fun n c m => ⟨x.cell n c (at_ n c m), x.above n c m⟩
  exact ⟨T.nolimit.keeps keep, codeAny_func (wpAny_noRaise (run hs.objs.size h tk cells ⟨x.toInCall.ns, keep, Nat.le_refl _⟩ N Y))⟩
end
theorem slot_map_next : Slot "map" "__next__" "map.__next__" :=
  .of (owner := "map") (n := "__next__") (by rw [typeLookup_type, builtinLookup_eq_fast]; kernel_rfl) (by decide +kernel) (by decide +kernel) (by decide +kernel)
    (by first | exact .inl (by decide +kernel) | exact .inr (by decide +kernel)) (by rw [isSubtype_type]; kernel_rfl)
theorem slot_map_iter : Slot "map" "__iter__" "map.__iter__" :=
  .of (owner := "map") (n := "__iter__") (by rw [typeLookup_type, builtinLookup_eq_fast]; kernel_rfl) (by decide +kernel) (by decide +kernel) (by decide +kernel)
    (by first | exact .inl (by decide +kernel) | exact .inr (by decide +kernel)) (by rw [isSubtype_type]; kernel_rfl)
theorem entry_map_next : entryFor table "map.__next__" = some Builtin.«map.__next__» := entryFor_of_fast (by kernel_rfl)
theorem args_map_next (a : Value) : argsOk "map.__next__" ⟨[a], []⟩ := by unfold argsOk; kernel_rfl
theorem args_map_iter (a : Value) : argsOk "map.__iter__" ⟨[a], []⟩ := by unfold argsOk; kernel_rfl
theorem entry_map_iter : entryFor table "map.__iter__" = some Builtin.«dict_keyiterator.__iter__» :=
  entryFor_alias (id' := "dict_keyiterator.__iter__") (by kernel_rfl) rfl (by decide +kernel) (by kernel_rfl)
theorem map_no_len : typeLookup (.type "map") "__len__" = pure none := by rw [typeLookup_type, builtinLookup_eq_fast]; kernel_rfl
theorem map_no_hint : typeLookup (.type "map") "__length_hint__" = pure none := by rw [typeLookup_type, builtinLookup_eq_fast]; kernel_rfl
noncomputable def mapO (T : Addr) (f : Value) : Obj := ⟨.type "map", none, .fields #[.ref T, f], #[]⟩
section
variable {prog : Program} {w : World} {A : Around} {E : Value → Shared → Prop} {s : Shared}
/-- the next of a map: the next of its one iterator, then the call; its iterator's end is its own -/
theorem map_next {I T J : Addr} {f : Value} {Q : Option Value → Shared → Prop} (hI : s.heap.get? I = some (mapO T f)) (hT : s.heap.get? T = some ⟨.type "tuple", none, .seq #[.ref J], #[]⟩)
    (k : wpAny (model prog w) A.in1 (Builtin.SmallTypes.nextOf (.ref J)) (fun x s₁ => s₁.heap.get? I = some (mapO T f) ∧ wpAny (model prog w) A.in1 (call f [x]) (fun v => Q (some v)) (fun _ _ => False) s₁)
      (fun e s₁ => (∃ a o, e = .ref a ∧ s₁.heap.get? a = some o ∧ o.cls = .type "StopIteration") ∧ Q none s₁) s) : wpAny (model prog w) A (pyNext (.ref I)) Q E s := by
  have ty : s.TypeIs (.ref I) "map" := ⟨_, hI, rfl⟩
  unfold pyNext
  refine wpAny_bind (wpAny_attempt (wpAny_callSpecial?_slot ty slot_map_next (wpAny_call_entry slot_map_next ty entry_map_next ?_ (args_map_next _))))
  unfold Builtin.«map.__next__»
  refine wpAny_bind (wpAny_pure (wpAny_bind (wpAny_field hI rfl (x := .ref T) rfl (wpAny_bind (wpAny_seqItems hT rfl ?_)))))
  simp only [← Array.forIn_toList, List.forIn_cons, List.forIn_nil, bind_assoc, pure_bind]
  refine wpAny_bind (wpAny_holding (wpAny_mono k (fun x s₁ a => ?_) fun e s₁ a => ?_))
  · exact wpAny_bind (wpAny_field a.1 rfl (x := f) rfl (wpAny_bind (wpAny_holding (wpAny_mono a.2 (fun v _ b => wpAny_bind (wpAny_letGo (wpAny_pure ⟨v, rfl, wpAny_pure b⟩))) fun _ _ e => e.elim))))
  · obtain ⟨⟨a, o, rfl, ho, hc⟩, q⟩ := a
    exact wpAny_bind (wpAny_isInstance (T := "StopIteration") ⟨o, ho, hc⟩ isSubtype_stop (wpAny_pure q))
theorem map_next_item {I T J ax : Addr} {i : Nat} {f x : Value} {items : Array Value} {Q : Option Value → Shared → Prop} (hI : s.heap.get? I = some (mapO T f)) (hT : s.heap.get? T = some ⟨.type "tuple", none, .seq #[.ref J], #[]⟩) (hJ : s.heap.IsListIter J ax i) (hl : s.heap.IsList ax items) (hx : items[i]? = some x) (ne : I ≠ J)
    (k : ∀ h', h'.IsListIter J ax (i + 1) → Heap.SameBut J s.heap h' → wpAny (model prog w) A.in1 (call f [x]) (fun v => Q (some v)) (fun _ _ => False) { s with heap := h' }) : wpAny (model prog w) A (pyNext (.ref I)) Q E s :=
  map_next hI hT (wpAny_nextOf_list_item hJ hl hx fun h' it sb => ⟨(sb.2 I ne).trans hI, k h' it sb⟩)
theorem map_next_end {I T J ax : Addr} {i : Nat} {f : Value} {items : Array Value} {Q : Option Value → Shared → Prop} (hh : A.handled = none) (hI : s.heap.get? I = some (mapO T f)) (hT : s.heap.get? T = some ⟨.type "tuple", none, .seq #[.ref J], #[]⟩) (hJ : s.heap.IsListIter J ax i) (hl : s.heap.IsList ax items) (hx : items[i]? = none)
    (k : ∀ h', Heap.ExtBut J s.heap h' → Q none { s with heap := h' }) : wpAny (model prog w) A (pyNext (.ref I)) Q E s :=
  map_next hI hT (wpAny_nextOf_list_end hh hJ hl hx fun h' e eb o => ⟨o.elim fun o h => ⟨e, o, rfl, h⟩, k h' eb⟩)
theorem map_iter {I T : Addr} {f : Value} {Q : Value → Shared → Prop} (hI : s.heap.get? I = some (mapO T f)) (h : Q (.ref I) s) : wpAny (model prog w) A (pyIter (.ref I)) Q E s := by
  have hTy : s.TypeIs (.ref I) "map" := ⟨_, hI, rfl⟩
  refine wpAny_pyIter_slot hTy slot_map_iter (wpAny_call_entry slot_map_iter hTy entry_map_iter ?_ (args_map_iter _))
  exact wpAny_pure ⟨_, rfl, "map", _, hTy, slot_map_next.lookup, h⟩
end
/-- a map over a list, its function a contract over the base heap h₀ -/
theorem Walks.map {prog : Program} {w : World} {A : Around} (hh : A.handled = none) (h₀ : Heap) (I T J ax : Addr) (hIJ : I ≠ J) (hTJ : T ≠ J) (haJ : ax ≠ J) (hJ0 : h₀.get? J = none) (f : Value) (items : Array Value) (P : Nat → Value → Prop)
    (hf : ∀ i x (s : Shared) (Q E : Value → Shared → Prop), items[i]? = some x → Keeps h₀ s.heap → (∀ v h' tk, P i v → Keeps s.heap h' → Q v { s with heap := h', toks := tk }) → wpAny (model prog w) A.in1 (call f [x]) Q E s) :
    Walks prog w A I (I :: T :: J :: ax :: List.range h₀.objs.size) [J] items.size P
      (fun i h => h.get? I = some (mapO T f) ∧ h.get? T = some ⟨.type "tuple", none, .seq #[.ref J], #[]⟩ ∧ h.IsListIter J ax i ∧ h.IsList ax items ∧ Keeps h₀ h) where
  sub := fun b hb => by rw [List.mem_singleton.mp hb]; simp
  frame := fun i h h' st hk => by
    first | refine ex3_2 st fun a b c d e => ?_ | refine ex2_3 st fun a b c d e => ?_ | refine ex0_5 st fun a b c d e => ?_ | obtain ⟨a, b, c, d, e⟩ := st
    try clear st
    exact ⟨hk I (by simp) _ a, hk T (by simp) _ b, c.at fun o x => hk J (by simp) o x, d.at fun o x => hk ax (by simp) o x,
      fun q o x => hk q (by simp [Heap.lt_size x]) o (e q o x)⟩
  item := fun i s Q E hi st hQ => by
    first | refine ex3_2 st fun a b c d e => ?_ | refine ex2_3 st fun a b c d e => ?_ | refine ex0_5 st fun a b c d e => ?_ | obtain ⟨a, b, c, d, e⟩ := st
    try clear st
    have hx : items[i]? = some items[i] := by simp [hi]
    refine map_next_item a b c d hx hIJ fun h' hJ' hs' => ?_
    have e' : Keeps h₀ h' := fun q o x => (hs'.2 q (by rintro rfl; rw [hJ0] at x; cases x)).trans (e q o x)
    refine hf i _ { s with heap := h' } _ _ hx e' fun v h₂ tk hP hk => hQ v h₂ tk hP ⟨hk _ _ ((hs'.2 I hIJ).trans a), hk _ _ ((hs'.2 T hTJ).trans b), hJ'.at fun o x => hk _ _ x, (d.extBut hs'.extBut haJ).at fun o x => hk _ _ x, fun q o x => hk _ _ (e' q o x)⟩ fun q o hq x => hk _ _ ((hs'.2 q (by simpa using hq)).trans x)
  done := fun s Q E st hQ => by
    first | refine ex3_2 st fun a b c d e => ?_ | refine ex2_3 st fun a b c d e => ?_ | refine ex0_5 st fun a b c d e => ?_ | obtain ⟨a, b, c, d, e⟩ := st
    try clear st
    exact map_next_end hh a b c d (by simp) fun h' he => hQ h' s.toks fun q o hq x => he q o (by simpa using hq) x
  self := fun i s Q E st hQ => map_iter st.1 hQ
section
variable {prog : Program} {w : World} {A : Around} {E : Value → Shared → Prop} {s : Shared} {I : Addr} {fp wr : List Addr} {G : Array GenState → Array GenState → Prop} {n : Nat} {P : Nat → Value → Prop} {St : Nat → Shared → Prop}
/-- a map tells no length -/
theorem map_hint {Q : Bool → Shared → Prop} (t : s.TypeIs (.ref I) "map") (h : Q true s) : wpAny (model prog w) A (Builtin.List.listLengthHint (.ref I)) Q E s := by
  unfold Builtin.List.listLengthHint
  wp_walk using wpAny_specialOf t map_no_len, wpAny_specialOf t map_no_hint
  exact h
/-- room is made in an empty list -/
theorem touch_empty {S : Addr} {c : Nat} {Q : Unit → Shared → Prop} (hS : s.heap.get? S = some (PySem.W.listOf #[] c)) (h : ∀ h' c', Heap.SameBut S s.heap h' → h'.get? S = some (PySem.W.listOf #[] c') → Q () { s with heap := h' }) :
    wpAny (model prog w) A (Builtin.List.listTouch (.ref S)) Q E s := by
  have a := get?_update_seq hS (·.push Value.none)
  refine wpAny_bind (listUpdate_at hS rfl (listUpdate_at a rfl (h _ _ ?_ (get?_update_seq a (·.pop)))))
  exact (Heap.SameBut.update ..).trans (Heap.SameBut.update ..)
/-- extending an empty list S by a map comes to the loop -/
theorem map_into {S : Addr} {res : Value} {c : Nat} {Q : PySem.Fin → Shared → Prop} (t : s.TypeIs (.ref I) "map") (ne : S ≠ I) (hS : s.heap.get? S = some (PySem.W.listOf #[] c)) (self : ∀ Q : Value → Shared → Prop, Q (.ref I) s → wpAny (model prog w) A (pyIter (.ref I)) Q E s)
    (k : ∀ h' c', Heap.SameBut S s.heap h' → h'.get? S = some (PySem.W.listOf #[] c') → Q (.again (.builtin "list.extend.loop" ⟨[.ref S, .ref I, res], []⟩)) { s with heap := h' }) :
    wpAny (model prog w) A (Builtin.List.listExtendWith (.ref S) (.ref I) res) Q E s := by
  unfold Builtin.List.listExtendWith
  refine wpAny_bind (wpAny_typeOf t ?_)
  rw [show (Builtin.List.listSameRef (.ref S) (.ref I) || Value.type "map" == Value.type "list" || Value.type "map" == Value.type "tuple") = false from by show (S == I || _ || _) = false; rw [beq_eq_false_iff_ne.mpr ne]; decide]
  exact wpAny_bind (self _ (wpAny_bind (wpAny_holding (map_hint t (wpAny_bind (wpAny_rule (wpAny_bind (touch_empty hS fun h' c' sb g => wpAny_pure (k h' c' sb g)))))))))
/-- tuple(m), m a map -/
theorem tuple_map {Q : Value → Shared → Prop} (W : WalksS prog w A.in1.in1.in1 I fp wr G n P St) (ty : ∀ i s, St i s → s.TypeIs (.ref I) "map") (st : St 0 s) (hlt : ∀ b ∈ fp, b < s.heap.objs.size) (hI : I ∈ fp) (hn : n ≤ sizeLine)
    (k : ∀ (s' : Shared) (acc : Array Value), (∀ b o, b ∉ wr → s.heap.get? b = some o → s'.heap.get? b = some o) → G s.gens s'.gens → s'.drawn = s.drawn → s'.os = s.os → ItemsOf P acc n → Q (.ref s'.heap.objs.size) { s' with heap := s'.heap.push (tup acc.toList) }) :
    wpAny (model prog w) A (call (.type "tuple") [.ref I]) Q E s := by
  have new : s.heap.objs.size ∉ fp := fun m => Nat.lt_irrefl _ (hlt _ m)
  have all : ∀ {Q' : List Value → Shared → Prop} {E' : Value → Shared → Prop}, (∀ (s' : Shared) (acc : Array Value), Moved (s.heap.objs.size :: wr) G { s with heap := s.heap.push (PySem.W.listOf #[] 0) } s' → ItemsOf P acc n → Q' acc.toList s') → wpAny (model prog w) A.in1.in1 (collect (.ref I)) Q' E' s := fun {Q' E'} q => by
    unfold collect
    refine wpAny_bind (wpAny_runValue (codeAny_builtin F.entry_proto_collect (wpAny_bind (wpAny_newObj_type (wpAny_pure ⟨plainId_quiet F.plain_list_iadd _, codeAny_builtin F.entry_list_iadd ?_⟩)))))
    rw [Around.under_plainId F.plain_list_iadd]
    have up : ∀ (h : Heap) b o, s.heap.get? b = some o → Heap.SameBut s.heap.objs.size (s.heap.push (PySem.W.listOf #[] 0)) h → h.get? b = some o := fun h b o e sb => (sb.2 b (Nat.ne_of_lt (Heap.lt_size e))).trans (Heap.get?_push_of_some _ e)
    have st' := fun h (sb : Heap.SameBut s.heap.objs.size (s.heap.push (PySem.W.listOf #[] 0)) h) => W.frame 0 s h s.toks st (Nat.le_refl _) fun b _ o e => up h b o e sb
    have st1 := W.frame 0 s (s.heap.push (PySem.W.listOf #[] 0)) s.toks st (Nat.le_refl _) fun b _ o e => Heap.get?_push_of_some _ e
    refine map_into (ty 0 _ st1) (fun e => new (e ▸ hI)) (Heap.get?_push_size _ rfl) (fun Q q => W.self 0 _ Q _ st1 q) fun h c sb g => ⟨plainId_quiet F.plain_extend_loop _, ?_⟩
    refine codeAny_extend_loopS (A := A.in1.in1) W hn _ new _ n 0 _ #[] c (Nat.sub_zero n) (Nat.zero_le n) (st' h sb) g (ItemsOf.nil P) fun s' acc c' mv g' it => wpAny_bind (wpAny_load g' (wpAny_pure (q s' acc ?_ it)))
    exact ⟨fun b o hb e => mv.heap b o hb ((sb.2 b fun x => hb (x ▸ .head _)).trans e), mv.gens, mv.drawn, mv.os, mv.toks⟩
  refine callType_codes (Q₁ := fun v s' => s'.TypeIs v "tuple" ∧ Q v s') F.called_tuple (F.typeCall_tuple_1 _) F.entry_object_init (codeAny_of_tree (wpAny_bind (wpAny_of_eq (F.newCall_tuple_1 _) (wpAny_pure ⟨plainId_quiet F.plain_tuple_new _, codeAny_builtin F.entry_tuple_new ?_⟩)))) fun v s' h => ⟨h.1, F.args_object_init_2 v _, object_init_meets F.called_tuple.init.lookup F.called_tuple.made (by decide) prog w _ _ s' ⟨h.1, rfl, h.2⟩⟩
  rw [Around.under_plainId F.plain_tuple_new]
  have t1 := sub_tuple_self
  have t2 := init_tuple_lookup
  have t3 := madeHere_tuple
  have t4 := ty 0 s st
  wp_walk using wpAny_typeOf t4, all
  intro s' acc mv it
  have sz : acc.toList.toArray.size ≤ sizeLine := by rw [Array.toArray_toList, it.1]; exact hn
  refine wpAny_bind (wpAny_pure ?_)
  have up : ∀ b o, b ∉ wr → s.heap.get? b = some o → s'.heap.get? b = some o := fun b o hb e => mv.heap b o (fun m => (List.mem_cons.mp m).elim (fun q => by rw [q] at e; exact Nat.lt_irrefl _ (Heap.lt_size e)) hb) (Heap.get?_push_of_some _ e)
  refine wpAny_bind (wpAny_newObj_type ?_ ?_)
  · exact wpAny_pure (show _ ∧ _ from ⟨⟨_, Heap.get?_push_size _ rfl, rfl⟩, k s' acc up mv.gens mv.drawn mv.os it⟩)
  · exact sz
end
theorem closeMap {h₀ h : Heap} {q T J a : Addr} {f : Value} {G : Prop} (D : PySem.W.X.Mem h₀ h [] [(q, { cls := Value.type "map", data := Data.fields { toList := [Value.ref T, f] } }), (T, { cls := Value.type "tuple", data := Data.seq { toList := [Value.ref J] } }), (J, { cls := Value.type "list_iterator", data := Data.fields { toList := [Value.ref a, Value.int 0 0] } })])
   (k : Keeps h₀ h → (∀ p ∈ [(q, mapO T f), (T, ⟨.type "tuple", none, .seq #[.ref J], #[]⟩), (J, ⟨.type "list_iterator", none, .fields #[.ref a, .int 0 0], #[]⟩)], h.get? p.1 = some p.2 ∧ h₀.get? p.1 = none) → G) : G :=
  k (keeps0 D) D.nw
local macro_rules | `(tactic| x_close) => `(tactic| (rename PySem.W.X.Mem _ _ _ _ => kD; refine closeMap kD ?_; (rename (∀ (_ : Heap) (_ : Nat) (_ _ _ : Addr), Keeps _ _ → _) => kq); exact kq _ _ _ _ _))
theorem mapmk {w : World} {dp un : Nat} {fr : Option (List Env)} {gd : Option (List Code)} {Q E : Value → Shared → Prop} (h : Heap) (g : Array GenState) (d : Drawn) (t : Nat) (os : OsState) (a : Addr) (x y : Value) (n : Nat)
   (ha : h.get? a = some ⟨.type "list", none, .seq #[x, y] n, #[]⟩)
   (hq : ∀ h' t' q T J, Keeps h h' → (∀ p ∈ [(q, mapO T (.ref 163)), (T, ⟨.type "tuple", none, .seq #[.ref J], #[]⟩), (J, ⟨.type "list_iterator", none, .fields #[.ref a, .int 0 0], #[]⟩)], h'.get? p.1 = some p.2 ∧ h.get? p.1 = none) → Q (.ref q) ⟨h', g, d, t', os⟩) :
   wpAny (model PySem.Challenge.pw_rx0087_01 w) (Ar dp un fr gd) (call (.type "map") [.ref 163, .ref a]) Q E ⟨h, g, d, t, os⟩ := by
  x_run
theorem news_app {h₀ h h' : Heap} {L : Addr} {m : Str → Option Value} {more news : List (Addr × Obj)} (F : Fr h₀ L h m) (N : News h₀ L h news) (hk : Keeps h h') (hn : ∀ p ∈ more, h'.get? p.1 = some p.2 ∧ h.get? p.1 = none) : News h₀ L h' (more ++ news) := fun p hp => by
  rcases List.mem_append.mp hp with hp | hp
  · first | refine ex1_1 (hn p hp) fun h1 h2 => ?_ | refine ex0_2 (hn p hp) fun h1 h2 => ?_ | obtain ⟨h1, h2⟩ := hn p hp
    refine ⟨h1, ?_, ?_⟩
    · intro e
      first | refine ex3_2 F.ns fun o _ _ ho _ => ?_ | refine ex2_3 F.ns fun o _ _ ho _ => ?_ | refine ex0_5 F.ns fun o _ _ ho _ => ?_ | obtain ⟨o, _, _, ho, _⟩ := F.ns
      rw [e, ho] at h2; cases h2
    · cases e : h₀.get? p.1 with
      | none => rfl
      | some o => have := F.keep _ _ e; rw [h2] at this; cases this
  · exact ⟨hk _ _ (N _ hp).1, (N _ hp).2⟩
noncomputable abbrev mapLed (I T J a : Addr) : List (Addr × Obj) := [(I, mapO T (.ref 163)), (T, ⟨.type "tuple", none, .seq #[.ref J], #[]⟩), (J, ⟨.type "list_iterator", none, .fields #[.ref a, .int 0 0], #[]⟩)]
theorem map_N {w : World} {dp un : Nat} {fr : Option (List Env)} {gd : Option (List Code)} {Q E : Value → Shared → Prop} {s : Shared} {h₀ : Heap} {L : Addr} {m : Str → Option Value} {news : List (Addr × Obj)} {a : Addr} {x y : Value} {n : Nat}
   (F : Fr h₀ L s.heap m) (N : News h₀ L s.heap news) (ha : h₀.get? a = some (PySem.W.listOf [x, y].toArray n))
   (h : ∀ h' tk I T J, Fr h₀ L h' m → News h₀ L h' (mapLed I T J a ++ news) → I ≠ J → T ≠ J → (∀ p ∈ news, p.1 ≠ J) → Q (.ref I) { s with heap := h', toks := tk }) :
   wpAny (model PySem.Challenge.pw_rx0087_01 w) (Ar dp un fr gd) (call (.type "map") [.ref 163, .ref a]) Q E s := by
  first | refine ex3_2 s fun hp g d t os => ?_ | refine ex2_3 s fun hp g d t os => ?_ | refine ex0_5 s fun hp g d t os => ?_ | obtain ⟨hp, g, d, t, os⟩ := s
  try clear s
  refine mapmk hp g d t os a x y n (F.keep _ _ ha) ?_
  intro h' t' I T J k1 k2
  refine h h' t' I T J (F.after k1) (news_app F N k1 k2) ?_ ?_ ?_
  · rintro rfl
    have e1 := (k2 _ (.head _)).1
    have e2 := (k2 _ (.tail _ (.tail _ (.head _)))).1
    dsimp only at e1 e2
    rw [e1] at e2
    have e3 := congrArg Obj.cls (Option.some.inj e2)
    simp [mapO] at e3
  · rintro rfl
    have e1 := (k2 _ (.tail _ (.head _))).1
    have e2 := (k2 _ (.tail _ (.tail _ (.head _)))).1
    dsimp only at e1 e2
    rw [e1] at e2
    have e3 := congrArg Obj.cls (Option.some.inj e2)
    simp [mapO] at e3
  · intro p hp e
    have e1 := (N p hp).1
    have e2 := (k2 _ (.tail _ (.tail _ (.head _)))).2
    dsimp only at e2 e1
    rw [e, e2] at e1; cases e1
theorem tuple_N {w : World} {mean : ExcName → Option Value} {mg mb : Str → Option Value} {dp un : Nat} {fr : Option (List Env)} {gd : Option (List Code)} {Q E : Value → Shared → Prop} {s : Shared} {h₀ : Heap} {L : Addr} {m : Str → Option Value} {news : List (Addr × Obj)} {I T J a : Addr} {x y : Str} {tx ty : Tok} {n : Nat}
   (F : Fr h₀ L s.heap m) (N : News h₀ L s.heap (mapLed I T J a ++ news)) (hIJ : I ≠ J) (hTJ : T ≠ J) (hJn : ∀ p ∈ news, p.1 ≠ J) (X : (Mine.K39.heap_1 w.params).In h₀) (V : TopV mean mg mb h₀)
   (ha : h₀.get? a = some (PySem.W.listOf [Value.str x tx, Value.str y ty].toArray n)) (hd : dp + 1 < recursionLimit) (hu : un + 20 < cLine)
   (h : ∀ h' tk D, Fr h₀ L h' m → News h₀ L h' ((D, ⟨.type "tuple", none, .seq [Value.str x tx, Value.str y ty].toArray, #[]⟩) :: news) → Q (.ref D) { s with heap := h', toks := tk }) :
   wpAny (model PySem.Challenge.pw_rx0087_01 w) (Ar dp un fr gd) (call (.type "tuple") [.ref I]) Q E s := by
  have NI := N _ (.head _)
  have NT := N _ (.tail _ (.head _))
  have NJ := N _ (.tail _ (.tail _ (.head _)))
  have haJ : a ≠ J := by
    rintro rfl
    have := NJ.2.2
    dsimp only at this
    rw [ha] at this; cases this
  have W := (Walks.map (prog := PySem.Challenge.pw_rx0087_01) (w := w) (A := (Ar dp un fr gd).in1.in1.in1) rfl h₀ I T J a hIJ hTJ haJ NJ.2.2 (.ref 163) [Value.str x tx, Value.str y ty].toArray (fun i v => [Value.str x tx, Value.str y ty].toArray[i]? = some v) fun i v s Q E hi hk hq => by
    obtain ⟨z, tz, rfl⟩ : ∃ z tz, v = Value.str z tz := by
      match i, hi with
      | 0, hi => exact ⟨x, tx, by simpa using hi.symm⟩
      | 1, hi => exact ⟨y, ty, by simpa using hi.symm⟩
    exact fspath z tz mean mg mb dp (un + 4) fr gd s.heap s.gens s.drawn s.toks s.os Q E (X.keeps hk) (V.keeps hk) trivial hd (by (walk_at "om")) fun v h' tk hk' hv => hq v h' tk (by rw [hv]; exact hi) hk').toS
  refine tuple_map W (fun i s st => ⟨_, st.1, rfl⟩) ⟨NI.1, NT.1, ⟨_, NJ.1, rfl, rfl⟩, ⟨_, F.keep _ _ ha, rfl, n, rfl⟩, F.keep⟩ ?_ (.head _) (by rw [sizeLine_eq]; simp) ?_
  · intro b hb
    rcases List.mem_cons.mp hb with rfl | hb
    · exact Heap.lt_size NI.1
    rcases List.mem_cons.mp hb with rfl | hb
    · exact Heap.lt_size NT.1
    rcases List.mem_cons.mp hb with rfl | hb
    · exact Heap.lt_size NJ.1
    rcases List.mem_cons.mp hb with rfl | hb
    · exact Heap.lt_size (F.keep _ _ ha)
    · exact Nat.lt_of_lt_of_le (List.mem_range.mp hb) (Nat.le_of_lt (Nat.lt_of_le_of_lt F.above F.ns.lt))
  · rintro ⟨h₁, g₁, d₁, t₁, o₁⟩ acc c1 c2 c3 c4 hacc
    dsimp only at c1 c2 c3 c4 ⊢
    subst c2 c3 c4
    have hacc2 : acc = [Value.str x tx, Value.str y ty].toArray := by
      apply Array.ext_getElem?
      intro i
      by_cases hi : i < acc.size
      · rw [Array.getElem?_eq_getElem hi]
        exact (hacc.2 i _ (Array.getElem?_eq_getElem hi)).symm
      · rw [Array.getElem?_eq_none (by (walk_at "om")), Array.getElem?_eq_none (by have := hacc.1; simp at this ⊢; (walk_at "om"))]
    subst hacc2
    have hk : ∀ b o, b ≠ J → s.heap.get? b = some o → (h₁.push { cls := .type "tuple", data := .seq [Value.str x tx, Value.str y ty].toArray }).get? b = some o := fun b o hb e => Heap.get?_push_of_some _ (c1 b o (by simpa using hb) e)
    have hLJ : L ≠ J := Ne.symm NJ.2.1
    have hk0 : ∀ b o, h₀.get? b = some o → (h₁.push { cls := .type "tuple", data := .seq [Value.str x tx, Value.str y ty].toArray }).get? b = some o := fun b o e => hk b o (by rintro rfl; have := NJ.2.2; dsimp only at this; rw [this] at e; cases e) (F.keep b o e)
    have F' : Fr h₀ L (h₁.push { cls := .type "tuple", data := .seq [Value.str x tx, Value.str y ty].toArray }) m := ⟨F.ns.at' fun o e => hk _ _ hLJ e, hk0, F.above⟩
    have hs1 : h₁.get? h₁.objs.size = none := Heap.get?_none_of_le (Nat.le_refl _)
    refine h _ t₁ h₁.objs.size F' fun p hp => ?_
    rcases List.mem_cons.mp hp with rfl | hp
    · refine ⟨Heap.get?_push_size _ rfl, ?_, ?_⟩
      · intro e
        first | refine ex3_2 F.ns fun o _ _ ho _ => ?_ | refine ex2_3 F.ns fun o _ _ ho _ => ?_ | refine ex0_5 F.ns fun o _ _ ho _ => ?_ | obtain ⟨o, _, _, ho, _⟩ := F.ns
        have := c1 L o (by simpa using hLJ) ho
        dsimp only at e
        rw [← e, hs1] at this; cases this
      · cases e : h₀.get? h₁.objs.size with
        | none => rfl
        | some o =>
          have := c1 _ _ (by have := NJ.2.2; intro q; rw [List.mem_singleton.mp q] at e; dsimp only at this; rw [this] at e; cases e) (F.keep _ _ e)
          rw [hs1] at this; cases this
    · have := N p (List.mem_append_right _ hp)
      exact ⟨hk _ _ (hJn p hp) this.1, this.2⟩
theorem reg_j_21 : True := by
  (k_with "call type:map" => (k_here; (with_reducible rename Fr _ _ _ _ => kF); (with_reducible rename News _ _ _ _ => kN); refine map_N kF kN (by assumption) ?_; intro _ _ _ _ _ _ _ _ _ _))
  (k_with "call type:tuple" => (k_here; (with_reducible rename Fr _ _ _ _ => kF); (with_reducible rename News _ _ _ _ => kN); (with_reducible rename Frag.In _ _ => kX); (with_reducible rename Top _ _ _ _ _ _ => kT); refine tuple_N kF kN (by assumption) (by assumption) (by assumption) kX kT (by assumption) (by dsimp only [Ar]; (walk_at "om")) (by dsimp only [Ar]; (walk_at "om")) ?_; intro _ _ _ _ _))
  (k_with "my tidy" => ((with_reducible rename Fr _ _ _ _ => kF); (with_reducible rename News _ _ _ _ => kN); revert kF kN; (repeat ((with_reducible rename Fr _ _ _ _ => kZ); clear kZ)); (repeat ((with_reducible rename News _ _ _ _ => kZ); clear kZ)); intro _ _))
  (k_with "eval Name" => (k_here; (with_reducible show wpAny _ _ (eval _ (compEnvC _ _ _ _)) _ _ _); (with_reducible rename Fr _ _ _ _ => kF); refine ev_cell kF rfl (by with_reducible assumption) ?_ rfl rfl (by decide)))
  trivial
theorem entry_set_iter : entryFor table "set.__iter__" = some Builtin.«frozenset.__iter__» :=
  entryFor_alias (id' := "frozenset.__iter__") (by kernel_rfl) rfl (by decide +kernel) (by kernel_rfl)
theorem slot_seti_next : Slot "set_iterator" "__next__" "set_iterator.__next__" :=
  .of (owner := "set_iterator") (n := "__next__") (by rw [typeLookup_type, builtinLookup_eq_fast]; kernel_rfl) (by decide +kernel) (by decide +kernel) (by decide +kernel)
    (by first | exact .inl (by decide +kernel) | exact .inr (by decide +kernel)) (by rw [isSubtype_type]; kernel_rfl)
theorem entry_seti_next : entryFor table "set_iterator.__next__" = some Builtin.«set_iterator.__next__» := entryFor_of_fast (by kernel_rfl)
theorem args_seti_next (a : Value) : argsOk "set_iterator.__next__" ⟨[a], []⟩ := by unfold argsOk; kernel_rfl
section
variable {prog : Program} {w : World} {A : Around} {E : Value → Shared → Prop} {s : Shared}
theorem hash_true {Q : Int → Shared → Prop} (h : Q 1 { s with toks := s.toks + 1 }) : wpAny (model prog w) A (pyHash (.bool true)) Q E s := by
  have ty : s.TypeIs (.bool true) "bool" := rfl
  have look := F.slot_bool_hash.lookup
  have one : ∀ {Q' : Option Value → Shared → Prop} {r : Sem Value}, Q' (some (.int 1 s.toks)) { s with toks := s.toks + 1 } → wpAny (model prog w) A (callSpecialIfBoundUnlessNone? (.bool true) (Str.ofString "__hash__") r) Q' E s := fun q =>
    wpAny_callSpecialIfBoundUnlessNone?_slot ty F.slot_bool_hash (wpAny_call_entry F.slot_bool_hash ty F.entry_int_hash (show wpAny _ _ (do ret (← mkInt 1)) _ _ s from wpAny_ret_mkInt q) (F.args_int_hash_1 _))
  unfold pyHash
  wp_walk using wpAny_cRoomFor_byValue rfl, wpAny_specialOf ty look, one
  exact h
theorem eq_true2 {Q : Bool → Shared → Prop} (h : Q true s) : wpAny (model prog w) A (eqBool (.bool true) (.bool true)) Q E s := by
  unfold eqBool
  exact wpAny_bind (wpAny_rule (wpAny_pure h))
noncomputable def tab1 (led : Bool) : SetTable := { SetTable.fresh 0 0 led with place := #[1] }
noncomputable def setE (ep : Nat) (led : Bool) : Obj := ⟨.type "set", none, .set #[] ep (.fresh 0 0 led), #[]⟩
noncomputable def setT (ep : Nat) (led : Bool) : Obj := ⟨.type "set", none, .set #[(1, .bool true)] ep (tab1 led), #[]⟩
theorem add_first {a : Addr} {ep : Nat} {led : Bool} {Q : Value → Shared → Prop} (ho : s.heap.get? a = some (setE ep led))
    (h : ∀ h' ep', Heap.SameBut a s.heap h' → h'.get? a = some (setT ep' led) → Q .none { s with heap := h', toks := s.toks + 1 }) :
    wpAny (model prog w) A (call (.builtin "set.add") [.ref a, .bool true]) Q E s := by
  have hT : s.TypeIs (.ref a) "set" := ⟨_, ho, rfl⟩
  refine wpAny_call_entry F.slot_set_add hT F.entry_set_add ?_ (F.args_set_add_2 _ _)
  unfold Builtin.«set.add» Builtin.Frozenset.oneOther
  simp only [List.isEmpty_nil, bind_assoc]
  unfold Builtin.Frozenset.addrOf setAdd
  refine wpAny_bind (wpAny_pure ?_)
  try dsimp only
  refine wpAny_bind (wpAny_pure ?_)
  try dsimp only
  refine wpAny_bind ?_
  refine wpAny_holding ?_
  refine wpAny_bind (hash_true ?_)
  unfold setAddHashed setAddHashedIn
  refine wpAny_holding (wpAny_bind (wpAny_setState_of (s := { s with toks := s.toks + 1 }) ho rfl (by rfl) ?_))
  dsimp only
  rw [show byScan (.bool true) #[] = true by decide +kernel]
  simp only [↓reduceIte]
  unfold setAddByScan
  refine wpAny_bind (wpAny_bind (wpAny_rule ?_))
  refine wpAny_bind (m := setScan a (.bool true) 1 true #[]) (wpAny_pure ?_)
  dsimp only
  have hl : layNew (SetTable.fresh 0 0 led) #[] 1 (.bool true) = (#[(1, .bool true)], tab1 led, false, false) := by cases led <;> decide +kernel
  rw [hl]
  dsimp only
  refine wpAny_bind (wpAny_pure ?_)
  rw [if_pos (show (tab1 led).plain = true from rfl)]
  refine wpAny_bind (wpAny_pure ?_)
  simp only [if_true]
  refine wpAny_bind (wpAny_storeSet_of (s := { s with toks := s.toks + 1 }) (hz := by rw [sizeLine_eq]; decide) ho rfl ?_)
  rw [if_neg (by cases led <;> decide +kernel)]
  refine wpAny_pure ?_
  exact wpAny_pure (wpAny_pure ⟨_, rfl, h _ (ep + 1) (Heap.SameBut.update ..) (by have := Heap.get?_update_self (Obj.putSet #[(1, .bool true)] (tab1 led)) ho rfl; exact this)⟩)
theorem add_again {a : Addr} {ep : Nat} {led : Bool} {Q : Value → Shared → Prop} (ho : s.heap.get? a = some (setT ep led))
    (h : Q .none { s with toks := s.toks + 1 }) :
    wpAny (model prog w) A (call (.builtin "set.add") [.ref a, .bool true]) Q E s := by
  have hT : s.TypeIs (.ref a) "set" := ⟨_, ho, rfl⟩
  refine wpAny_call_entry F.slot_set_add hT F.entry_set_add ?_ (F.args_set_add_2 _ _)
  unfold Builtin.«set.add» Builtin.Frozenset.oneOther
  simp only [List.isEmpty_nil, bind_assoc]
  unfold Builtin.Frozenset.addrOf setAdd
  refine wpAny_bind (wpAny_pure ?_)
  try dsimp only
  refine wpAny_bind (wpAny_pure ?_)
  try dsimp only
  refine wpAny_bind ?_
  refine wpAny_holding ?_
  refine wpAny_bind (hash_true ?_)
  have hf : (tab1 led).fits (#[(1, Value.bool true)] : Array (Int × Value)).size = true := by cases led <;> decide +kernel
  unfold setAddHashed setAddHashedIn
  refine wpAny_holding (wpAny_bind (wpAny_setState_of (s := { s with toks := s.toks + 1 }) ho rfl hf ?_))
  dsimp only
  rw [show byScan (.bool true) #[(1, Value.bool true)] = true by decide +kernel]
  simp only [↓reduceIte]
  unfold setAddByScan
  refine wpAny_bind (wpAny_bind (wpAny_rule ?_))
  show wpAny _ _ (setScanFrom a (.bool true) 1 true [(1, .bool true)] 0 >>= _) _ _ _
  unfold setScanFrom
  rw [if_pos (by decide)]
  refine wpAny_bind (wpAny_bind (wpAny_setEpoch_of (s := { s with toks := s.toks + 1 }) ho rfl hf ?_))
  refine wpAny_bind (eq_true2 ?_)
  simp only [Bool.and_self, ↓reduceIte]
  refine wpAny_pure (wpAny_pure (wpAny_pure (wpAny_pure ⟨_, rfl, h⟩)))
noncomputable def setI (a : Addr) (slot i ep : Nat) : Obj := ⟨.type "set_iterator", none, .fields #[.int slot 0, .int i 0, .ref a, .int 1 0, .int ep 0], #[]⟩
theorem iter_set {a : Addr} {ep : Nat} {led : Bool} {Q : Value → Shared → Prop} (ho : s.heap.get? a = some (setT ep led))
    (h : Q (.ref s.heap.objs.size) { s with heap := s.heap.push (setI a 0 0 ep) }) : wpAny (model prog w) A (pyIter (.ref a)) Q E s := by
  have hT : s.TypeIs (.ref a) "set" := ⟨_, ho, rfl⟩
  have hf : (tab1 led).fits (#[(1, Value.bool true)] : Array (Int × Value)).size = true := by cases led <;> decide +kernel
  refine wpAny_pyIter_slot hT F.slot_set_iter (wpAny_call_entry F.slot_set_iter hT entry_set_iter ?_ (F.args_set_iter_1 _))
  unfold Builtin.«frozenset.__iter__» Builtin.Frozenset.slot0 slotArgs
  simp only [List.isEmpty_nil, Bool.not_true, Bool.false_eq_true, ↓reduceIte, bind_assoc, List.length_nil, bne_self_eq_false]
  unfold Builtin.Frozenset.addrOf Builtin.Frozenset.sizeOf
  refine wpAny_bind (wpAny_pure ?_)
  try dsimp only
  refine wpAny_bind (wpAny_pure ?_)
  refine wpAny_bind (wpAny_bind (wpAny_setEntries_of ho rfl hf (wpAny_pure ?_)))
  unfold setDrawn setsByText
  refine wpAny_bind (wpAny_bind (wpAny_setState_of ho rfl hf ?_))
  refine wpAny_bind (wpAny_bind (wpAny_askSetting (wpAny_pure (wpAny_pure ?_))))
  rw [if_neg (by cases led <;> simp <;> intro _ <;> rfl)]
  refine wpAny_bind (wpAny_pure ?_)
  refine wpAny_bind (wpAny_setEpoch_of ho rfl hf ?_)
  unfold newFields
  refine wpAny_bind (wpAny_newObj_type (wpAny_pure ⟨_, rfl, "set_iterator", _, ⟨_, Heap.get?_push_size _ rfl, rfl⟩, slot_seti_next.lookup, ?_⟩))
  exact h
noncomputable def nx (w : World) : Nat := if w.params.followText "set-order" = true then 0 else 2
theorem setNext_1 {a : Addr} {ep : Nat} {led : Bool} {Q : Option (Value × Nat) → Shared → Prop} (hl : led = !(w.params.followText "set-order")) (ho : s.heap.get? a = some (setT ep led))
    (h : Q (some (.bool true, nx w)) s) : wpAny (model prog w) A (setNext a 0 0 ep) Q E s := by
  have hf : (tab1 led).fits (#[(1, Value.bool true)] : Array (Int × Value)).size = true := by cases led <;> decide +kernel
  unfold setNext setsByText
  refine wpAny_bind (wpAny_setState_of ho rfl hf ?_)
  dsimp only
  refine wpAny_bind (wpAny_bind (wpAny_askSetting (wpAny_pure ?_)))
  unfold nx at h
  subst hl
  cases hb : w.params.followText "set-order" with
  | true =>
    rw [hb] at ho h
    rw [if_pos (show (model prog w).w.params.followText "set-order" = true from hb), if_neg (by simp)]
    unfold setWalk setsByText
    refine wpAny_bind (wpAny_bind (wpAny_setState_of ho rfl (by rfl) ?_))
    dsimp only
    refine wpAny_bind (wpAny_bind (wpAny_askSetting (wpAny_pure ?_)))
    rw [if_pos (show (model prog w).w.params.followText "set-order" = true from hb)]
    refine wpAny_bind (wpAny_askSetting (wpAny_pure (wpAny_pure ?_)))
    have e : ∀ nxt : Nat → Nat, pickOrder nxt (#[(1, Value.bool true)] : Array (Int × Value)) = #[(1, Value.bool true)] := fun nxt => by
      show pickOrder.go nxt 1 0 [(1, Value.bool true)] #[] = _
      unfold pickOrder.go
      simp [Nat.mod_one]
      unfold pickOrder.go
      rfl
    rw [e]
    exact h
  | false =>
    rw [hb] at ho h
    rw [if_neg (show ¬ (model prog w).w.params.followText "set-order" = true from by rw [show (model prog w).w.params.followText "set-order" = false from hb]; decide)]
    show wpAny _ _ (if false = true then _ else _) _ _ _
    rw [if_neg (by decide)]
    refine wpAny_bind (wpAny_pure ?_)
    refine wpAny_pure ?_
    have e1 : SetTable.below (tab1 !false).place 0 = 0 := by decide +kernel
    rw [e1]
    exact h
theorem setNext_2 {a : Addr} {ep : Nat} {led : Bool} {Q : Option (Value × Nat) → Shared → Prop} (hl : led = !(w.params.followText "set-order")) (ho : s.heap.get? a = some (setT ep led))
    (h : Q none s) : wpAny (model prog w) A (setNext a (nx w) 1 ep) Q E s := by
  have hf : (tab1 led).fits (#[(1, Value.bool true)] : Array (Int × Value)).size = true := by cases led <;> decide +kernel
  unfold setNext setsByText
  refine wpAny_bind (wpAny_setState_of ho rfl hf ?_)
  dsimp only
  refine wpAny_bind (wpAny_bind (wpAny_askSetting (wpAny_pure ?_)))
  unfold nx
  subst hl
  cases hb : w.params.followText "set-order" with
  | true =>
    rw [hb] at ho
    rw [if_pos (show (model prog w).w.params.followText "set-order" = true from hb), if_neg (by simp)]
    unfold setWalk setsByText
    refine wpAny_bind (wpAny_bind (wpAny_setState_of ho rfl (by rfl) ?_))
    dsimp only
    refine wpAny_bind (wpAny_bind (wpAny_askSetting (wpAny_pure ?_)))
    rw [if_pos (show (model prog w).w.params.followText "set-order" = true from hb)]
    refine wpAny_bind (wpAny_askSetting (wpAny_pure (wpAny_pure ?_)))
    have e : ∀ nxt : Nat → Nat, pickOrder nxt (#[(1, Value.bool true)] : Array (Int × Value)) = #[(1, Value.bool true)] := fun nxt => by
      show pickOrder.go nxt 1 0 [(1, Value.bool true)] #[] = _
      unfold pickOrder.go
      simp [Nat.mod_one]
      unfold pickOrder.go
      rfl
    rw [e]
    exact h
  | false =>
    rw [hb] at ho
    rw [if_neg (show ¬ (model prog w).w.params.followText "set-order" = true from by rw [show (model prog w).w.params.followText "set-order" = false from hb]; decide)]
    show wpAny _ _ (if false = true then _ else _) _ _ _
    rw [if_neg (by decide)]
    refine wpAny_bind (wpAny_pure ?_)
    refine wpAny_pure ?_
    have e1 : SetTable.below (tab1 !false).place (if false = true then 0 else 2) = 1 := by decide +kernel
    rw [e1]
    exact h
theorem next_set {a I : Addr} {ep : Nat} {led : Bool} {Q : Option Value → Shared → Prop} (hl : led = !(w.params.followText "set-order")) (ho : s.heap.get? a = some (setT ep led)) (hI : s.heap.get? I = some (setI a 0 0 ep))
    (h : ∀ h', Heap.SameBut I s.heap h' → h'.get? I = some (setI a (nx w) 1 ep) → Q (some (.bool true)) { s with heap := h' }) : wpAny (model prog w) A (pyNext (.ref I)) Q E s := by
  have ty : s.TypeIs (.ref I) "set_iterator" := ⟨_, hI, rfl⟩
  have fits : (tab1 led).fits (#[(1, Value.bool true)] : Array (Int × Value)).size = true := by cases led <;> decide +kernel
  have sn : ∀ {Q : Option (Value × Nat) → Shared → Prop} {E}, Q (some (.bool true, nx w)) s → wpAny (model prog w) A.in1 (setNext a ((0 : Nat) : Int).toNat ((0 : Nat) : Int).toNat (ep : Int).toNat) Q E s := fun q => setNext_1 hl ho q
  unfold pyNext
  refine wpAny_bind (wpAny_attempt (wpAny_callSpecial?_slot ty slot_seti_next (wpAny_call_entry slot_seti_next ty entry_seti_next ?_ (args_seti_next _))))
  wp_walk using sn
  exact ⟨_, rfl, wpAny_pure (h _ ((Heap.SameBut.update ..).trans (Heap.SameBut.update ..)) (Heap.get?_update_self _ (Heap.get?_update_self _ hI rfl) rfl))⟩
theorem next_set_end {a I : Addr} {ep : Nat} {led : Bool} {Q : Option Value → Shared → Prop} (hh : A.handled = none) (hl : led = !(w.params.followText "set-order")) (ho : s.heap.get? a = some (setT ep led)) (hI : s.heap.get? I = some (setI a (nx w) 1 ep))
    (h : ∀ h', Heap.ExtBut I s.heap h' → Q none { s with heap := h' }) : wpAny (model prog w) A (pyNext (.ref I)) Q E s := by
  have ty : s.TypeIs (.ref I) "set_iterator" := ⟨_, hI, rfl⟩
  have fits : (tab1 led).fits (#[(1, Value.bool true)] : Array (Int × Value)).size = true := by cases led <;> decide +kernel
  have sn : ∀ {Q : Option (Value × Nat) → Shared → Prop} {E}, Q none s → wpAny (model prog w) A.in1 (setNext a (nx w : Int).toNat ((1 : Nat) : Int).toNat (ep : Int).toNat) Q E s := fun q => setNext_2 hl ho q
  unfold pyNext
  refine wpAny_bind (wpAny_attempt (wpAny_callSpecial?_slot ty slot_seti_next (wpAny_call_entry slot_seti_next ty entry_seti_next ?_ (args_seti_next _))))
  wp_walk using sn, wpAny_raiseNew_none (A := A.in1) hh
  exact wpAny_of_eq isSubtype_stop (wpAny_pure (h _ (((Heap.SameBut.update ..).extBut.push _).push _)))
end
theorem all_nil {P : Addr × Obj → Prop} : ∀ p ∈ ([] : List (Addr × Obj)), P p := fun _ h => nomatch h
theorem all_cons {P : Addr × Obj → Prop} {x : Addr × Obj} {r : List (Addr × Obj)} (h : P x) (t : ∀ p ∈ r, P p) : ∀ p ∈ x :: r, P p := fun p hp => (List.mem_cons.mp hp).elim (fun e => e ▸ h) (t p)
theorem all_app {P : Addr × Obj → Prop} {a b : List (Addr × Obj)} (h : ∀ p ∈ a, P p) (t : ∀ p ∈ b, P p) : ∀ p ∈ a ++ b, P p := fun p hp => (List.mem_append.mp hp).elim (h p) (t p)
section
variable {prog : Program} {w : World} {A : Around} {E : Value → Shared → Prop} {s : Shared} {env : Env}
theorem unpack_set {x : Str} {px : Pos} {k : Nat} {pos : Pos} {a : Addr} {ep : Nat} {led : Bool} {Q : Unit → Shared → Prop} (hh : A.handled = none) (hl : led = !(w.params.followText "set-order")) (ho : s.heap.get? a = some (setT ep led))
    (h : ∀ h', Heap.ExtBut s.heap.objs.size s.heap h' → wpAny (model prog w) A (assign (.Name x px) env (.bool true)) Q E { s with heap := h' }) :
    wpAny (model prog w) A (assign (.Tuple [.Name x px] k pos) env (.ref a)) Q E s := by
  have hT : s.TypeIs (.ref a) "set" := ⟨_, ho, rfl⟩
  rw [assign_Tuple]
  refine wpAny_bind (wpAny_standAt ?_)
  unfold unpack
  refine wpAny_bind (wpAny_holding ?_)
  show wpAny _ _ (unpackItems (.ref a) 1 none) _ _ _
  unfold unpackItems notIterableAtAll
  refine wpAny_bind (wpAny_bind (wpAny_specialOf hT F.slot_set_iter.lookup ?_))
  refine wpAny_pure ?_
  rw [if_neg (by decide)]
  refine wpAny_bind (wpAny_holding (iter_set ho ?_))
  have hne : a ≠ s.heap.objs.size := Nat.ne_of_lt (Heap.lt_size ho)
  refine wpAny_bind (wpAny_holding ?_)
  unfold draw
  refine wpAny_bind (next_set (s := { s with heap := s.heap.push (setI a 0 0 ep) }) hl (Heap.get?_push_of_some _ ho) (Heap.get?_push_size _ rfl) fun h1 hs1 hI1 => ?_)
  dsimp only
  unfold draw
  refine wpAny_bind (wpAny_holding (wpAny_pure (wpAny_pure ?_)))
  rw [if_neg (by simp)]
  have ho1 : h1.get? a = some (setT ep led) := (hs1.2 a hne).trans (Heap.get?_push_of_some _ ho)
  refine wpAny_bind (wpAny_holding (next_set_end (s := { s with heap := h1 }) hh hl ho1 hI1 fun h2 hs2 => ?_))
  rw [if_neg (by decide)]
  refine wpAny_pure ?_
  show wpAny _ _ (assignInOrder [assign (.Name x px) env] [.bool true]) _ _ _
  unfold assignInOrder
  refine wpAny_bind (wpAny_holding (wpAny_mono (h h2 fun b o hb e => hs2 b o hb ((hs1.2 b hb).trans (Heap.get?_push_of_some _ e))) (fun _ _ hq => ?_) fun _ _ e => e))
  unfold assignInOrder
  exact wpAny_pure hq
/-- a set comprehension's turn: what comes, its name bound, the element, its adding, then J -/
noncomputable def SetTurn (prog : Program) (w : World) (A : Around) (elt target : Expr) (it acc : Value) (env : Env) (R : Result → Shared → Prop) (J : Shared → Prop) (s : Shared) : Prop :=
  let W := fun {α : Type} (t : Sem α) (Q : α → Shared → Prop) s => wpAny (model prog w) A t Q (fun _ _ => False) s
  W (pyNext it) (fun r s => match r with | none => R (.ok .next) s | some v => W (assign target env v) (fun _ => W (eval elt env) fun x => W (call (.builtin "set.add") [acc, x]) fun _ => J) s) s
theorem set_step {R : Result → Shared → Prop} {elt iter : Expr} {x : Str} {px pos : Pos} {scope : Scope} {it acc : Value} (h : SetTurn prog w A elt (.Name x px) it acc env R (codeAny (model prog w) A (.compLoop (.SetComp elt [⟨.Name x px, iter, [], 0⟩] scope pos) 0 it acc env) R) s) :
    codeAny (model prog w) A (.compLoop (.SetComp elt [⟨.Name x px, iter, [], 0⟩] scope pos) 0 it acc env) R s := by
  refine codeAny_of_tree (wpAny_noted ?_)
  show wpAny _ _ (standAt iter.pos >>= fun _ => pyNext it >>= _) _ _ s
  refine wpAny_bind (wpAny_standAt (wpAny_bind (wpAny_mono h (fun r s₁ a => ?_) fun _ _ e => e.elim)))
  match r, a with
  | none, a => exact wpAny_pure a
  | some v, a =>
    refine wpAny_bind (wpAny_pure (wpAny_bind (wpAny_mono a (fun _ s₂ b => ?_) fun _ _ e => e.elim)))
    show wpAny _ _ (pure true >>= _) _ _ s₂
    refine wpAny_bind (wpAny_pure (wpAny_bind (wpAny_bind (wpAny_mono b (fun y s₃ c => ?_) fun _ _ e => e.elim))))
    exact wpAny_bind (wpAny_standAt (wpAny_bind (wpAny_mono c (fun _ _ d => wpAny_pure (wpAny_pure ⟨rfl, d⟩)) fun _ _ e => e.elim)))
/-- what a set of True holds behind i addings -/
noncomputable def Full (led : Bool) (i : Nat) (o : Obj) : Prop := (i = 0 ∧ o = setE 0 led) ∨ (0 < i ∧ ∃ ep, o = setT ep led)
theorem add_true {D : Addr} {i : Nat} {o : Obj} {led : Bool} {Q : Value → Shared → Prop} (hD : s.heap.get? D = some o) (f : Full led i o)
    (h : ∀ h' o', Heap.SameBut D s.heap h' → h'.get? D = some o' → Full led (i + 1) o' → Q .none { s with heap := h', toks := s.toks + 1 }) : wpAny (model prog w) A (call (.builtin "set.add") [.ref D, .bool true]) Q E s := by
  rcases f with ⟨_, rfl⟩ | ⟨_, ep, rfl⟩
  · exact add_first hD fun h' ep sb g => h h' _ sb g (.inr ⟨Nat.succ_pos _, ep, rfl⟩)
  · exact add_again hD (h _ _ (Heap.SameBut.refl _ _) hD (.inr ⟨Nat.succ_pos _, ep, rfl⟩))
/-- the loop from the i-th value on, k still to come -/
theorem set_core {R : Result → Shared → Prop} {elt iter : Expr} {x : Str} {px : Pos} {scope : Scope} {pos : Pos} {I D : Addr} {cenv : Env} {h₁ : Heap} {fp : List Addr} {n : Nat} {Pv : Nat → Value → Prop} {St : Nat → Heap → Prop} {led : Bool}
    (W : Walks prog w A I fp [I] n Pv St) (hn : 0 < n) (loc : ∀ m v (Q : Unit → Shared → Prop) (s : Shared), s.heap.Ns cenv.locals m → (∀ h', h'.Ns cenv.locals (fun y => if y = x then some v else m y) → Heap.SameBut cenv.locals s.heap h' → Q () { s with heap := h', toks := s.toks + 1 }) → wpAny (model prog w) A (assign (.Name x px) cenv v) Q (fun _ _ => False) s)
    (old : ∀ b ∈ fp, b ≠ I → ∃ o, h₁.get? b = some o) (hC : cenv.locals ∉ fp) (hDf : D ∉ fp) (hDC : D ≠ cenv.locals) (hI0 : h₁.get? I = none) (hD0 : h₁.get? D = none) (hIt : ∀ i h, St i h → ∃ o, h.get? I = some o)
    (turn : ∀ i v (u : Str → Option Value) h tk own, i < n → Pv i v → Fr h₁ cenv.locals h (fun y => if y = x then some v else u y) → News h₁ cenv.locals h own →
      wpAny (model prog w) A (eval elt cenv) (fun y s₄ => y = .bool true ∧ CEnd h₁ cenv.locals (fun _ : Unit => []) (fun _ => True) own s s₄) (fun _ _ => False) { s with heap := h, toks := tk })
    (done : ∀ m h tk ep, Fr h₁ cenv.locals h m → News h₁ cenv.locals h [(D, setT ep led)] → R (.ok .next) { s with heap := h, toks := tk }) :
    ∀ (k i : Nat) (h : Heap) (tk : Nat) (m : Str → Option Value) (o : Obj), i + k = n → St i h → Fr h₁ cenv.locals h m → h.get? D = some o → Full led i o →
      codeAny (model prog w) A (.compLoop (.SetComp elt [⟨.Name x px, iter, [], 0⟩] scope pos) 0 (.ref I) (.ref D) cenv) R { s with heap := h, toks := tk } := by
  have hIf : I ∈ fp := W.sub I (List.mem_singleton.mpr rfl)
  have hCI : cenv.locals ≠ I := fun e => hC (e ▸ hIf)
  have hDI : D ≠ I := fun e => hDf (e ▸ hIf)
  have but : ∀ {a : Addr} {h h' : Heap} {m : Str → Option Value}, Fr h₁ cenv.locals h m → (∀ b o, b ≠ a → h.get? b = some o → h'.get? b = some o) → cenv.locals ≠ a → h₁.get? a = none → Fr h₁ cenv.locals h' m := fun F k ne no =>
    ⟨F.ns.at' fun o e => k _ o ne e, fun b o e => k b o (fun q => by rw [q, no] at e; cases e) (F.keep b o e), F.above⟩
  intro k
  induction k with
  | zero =>
    intro i h tk m o e st F hD f
    obtain rfl : i = n := e
    rcases f with ⟨e0, _⟩ | ⟨_, ep, rfl⟩
    · exact absurd e0 (Nat.ne_of_gt hn)
    refine set_step (W.done _ _ _ st fun h₂ tk₂ k₂ => done m h₂ tk₂ ep (but F (fun b o ne e => k₂ b o (by simpa using ne) e) hCI hI0) fun p hp => ?_)
    rw [List.mem_singleton.mp hp]
    exact ⟨k₂ _ _ (by simpa using hDI) hD, hDC, hD0⟩
  | succ k ih =>
    intro i h tk m o e st F hD f
    have lt : i < n := by (walk_at "om")
    refine set_step (W.item i _ _ _ lt st fun v h₂ tk₂ pv st₂ k₂ => ?_)
    have F₂ := but F (fun b o ne e => k₂ b o (by simpa using ne) e) hCI hI0
    refine loc m v _ _ F₂.ns fun h₃ n₃ s₃ => ?_
    have F₃ : Fr h₁ cenv.locals h₃ _ := F₂.set n₃ s₃
    have D₃ : h₃.get? D = some o := (s₃.2 D hDC).trans (k₂ _ _ (by simpa using hDI) hD)
    have st₃ : St (i + 1) h₃ := W.frame _ _ _ st₂ fun b hb o e => (s₃.2 b fun q => hC (q ▸ hb)).trans e
    first | refine ex1_1 (hIt _ _ st₃) fun oI hoI => ?_ | refine ex0_2 (hIt _ _ st₃) fun oI hoI => ?_ | obtain ⟨oI, hoI⟩ := hIt _ _ st₃
    refine wpAny_mono (turn i v m h₃ _ [(I, oI), (D, o)] lt pv F₃ (all_cons ⟨hoI, hCI.symm, hI0⟩ (all_cons ⟨D₃, hDC, hD0⟩ fun _ q => nomatch q))) (fun y s₄ a => ?_) fun _ _ q => q
    obtain ⟨rfl, _, h₄, tk₄, m₄, news₄, F₄, N₄, _, g2, _, _⟩ := a
    have I₄ := (N₄ _ (g2 _ (.head _))).1
    have st₄ : St (i + 1) h₄ := W.frame _ _ _ st₃ fun b hb o' e' => by
      by_cases q : b = I
      · subst q; exact (hoI.symm.trans e') ▸ I₄
      · first | refine ex1_1 (old b hb q) fun ob hob => ?_ | refine ex0_2 (old b hb q) fun ob hob => ?_ | obtain ⟨ob, hob⟩ := old b hb q
        exact ((F₃.keep b ob hob).symm.trans e') ▸ F₄.keep b ob hob
    refine add_true (s := { s with heap := h₄, toks := tk₄ }) (N₄ _ (g2 _ (.tail _ (.head _)))).1 f fun h₅ o₅ s₅ D₅ f₅ => ih (i + 1) h₅ _ m₄ o₅ (by (walk_at "om")) ?_ (but F₄ (fun b o ne e => (s₅.2 b ne).trans e) (Ne.symm hDC) hD0) D₅ f₅
    exact W.frame _ _ _ st₄ fun b hb o e => (s₅.2 b fun q => hDf (q ▸ hb)).trans e
end
section
variable {prog : Program} {w : World} {A : Around} {E : Value → Shared → Prop} {s : Shared} {env : Env} {R : Result → Shared → Prop}
theorem newSet_E {Q : Value → Shared → Prop} (h : Q (.ref s.heap.objs.size) { s with heap := s.heap.push (setE 0 (!(w.params.followText "set-order"))) }) : wpAny (model prog w) A (newSet (.type "set")) Q E s := by
  wp_walk using wpAny_askSetting
  exact h
/-- the loop begins: its iterator may first be asked for its own iterator, which it is -/
theorem set_begin {elt target iter : Expr} {scope : Scope} {pos : Pos} {it acc : Value} (self : ∀ (Q E : Value → Shared → Prop), Q it s → wpAny (model prog w) A (pyIter it) Q E s)
    (go : codeAny (model prog w) A (.compLoop (.SetComp elt [⟨target, iter, [], 0⟩] scope pos) 0 it acc env) R s) : codeAny (model prog w) A (.compStart (.SetComp elt [⟨target, iter, [], 0⟩] scope pos) 0 it acc env) R s := by
  refine codeAny_of_tree (wpAny_notedAt ?_)
  unfold compStart
  wp_walk using wpAny_askSetting
  refine wpAny_ite ?_
  split
  · exact wpAny_pure ⟨rfl, go⟩
  · show wpAny _ _ (rule _ >>= fun _ => standAt iter.pos >>= fun _ => pyIter it >>= _) _ _ s
    exact wpAny_bind (wpAny_rule (wpAny_bind (wpAny_standAt (wpAny_bind (self _ _ (wpAny_pure ⟨rfl, go⟩))))))
/-- a set comprehension over a tuple, every value True -/
theorem eval_setcomp {elt iter : Expr} {x : Str} {px pos : Pos} {scope : Scope} {cl : List (Str × Addr)} {Q : Value → Shared → Prop} (hh : A.handled = none) (ok : CompOk env scope cl) (hx : scope.names.lookup x = some .local)
    (h : wpAny (model prog w) A (eval iter env) (fun xv s₁ => ∃ t items, xv = .ref t ∧ s₁.heap.IsTuple t items ∧ 0 < items.size ∧
      (∀ (C : Addr) (i : Nat) (v : Value) (u : Str → Option Value) (h : Heap) (tk : Nat) (own : List (Addr × Obj)), items[i]? = some v → Fr s₁.heap C h (fun y => if y = x then some v else u y) → News s₁.heap C h own →
        wpAny (model prog w) A (eval elt (compEnvC scope cl C env)) (fun y s₄ => y = .bool true ∧ CEnd s₁.heap C (fun _ : Unit => []) (fun _ => True) own s₁ s₄) (fun _ _ => False) { s₁ with heap := h, toks := tk }) ∧
      (∀ D C m h tk ep, Fr s₁.heap C h m → News s₁.heap C h [(D, setT ep (!(w.params.followText "set-order")))] → ∀ h'', Heap.SameBut C h h'' → Q (.ref D) { s₁ with heap := h'', toks := tk })) E s)
    (set : ∀ x, foldedSetIterable iter env x = pure x := by intro _; rfl) : wpAny (model prog w) A (eval (.SetComp elt [⟨.Name x px, iter, [], 0⟩] scope pos) env) Q E s := by
  rw [arm_eval_SetComp]
  refine wpAny_comprehension_free (use := none) rfl set ok.clos ok.kind ok.at_ (wpAny_mono h (fun _ s₁ a => ?_) fun _ _ e => e)
  first | refine ex4_3 a fun t items e90 hT some_ turn done => ?_ | refine ex3_4 a fun t items e90 hT some_ turn done => ?_ | refine ex2_5 a fun t items e90 hT some_ turn done => ?_ | obtain ⟨t, items, e90, hT, some_, turn, done⟩ := a
  subst e90
  try clear a
  have tup_ := hT
  first | refine ex2_1 tup_ fun ot hot _ => ?_ | refine ex1_2 tup_ fun ot hot _ => ?_ | refine ex0_3 tup_ fun ot hot _ => ?_ | obtain ⟨ot, hot, _⟩ := tup_
  try clear tup_
  have lt : t < s₁.heap.objs.size := Heap.lt_size hot
  refine wpAny_pyIter_tuple hT (newSet_E (s := { s₁ with heap := s₁.heap.push _ }) (wpAny_newFunctionEnv ok.cell (fun _ q => nomatch q) (fun h ns sb => ?_) ok.kind))
  have G := comp_ground rfl sb
  have z : (s₁.heap.push (⟨.type "tuple_iterator", none, .fields #[.ref t, .int 0 0], #[]⟩ : Obj)).objs.size = s₁.heap.objs.size + 1 := Heap.size_push ..
  have k : Keeps s₁.heap h := fun b o e => G.1 b o (Heap.get?_push_of_some _ e)
  have two : ∀ b ∈ [s₁.heap.objs.size, t], _ := fun b q => G.2.2.1 b (by
    rw [z]
    rcases List.mem_cons.mp q with rfl | q
    · exact Nat.lt_succ_self _
    · rw [List.mem_singleton.mp q]; exact Nat.lt_succ_of_lt lt)
  have W := Walks.tuple (prog := prog) (w := w) hh s₁.heap.objs.size t (Nat.ne_of_lt lt) items
  have st : h.IsTupleIter s₁.heap.objs.size t 0 ∧ h.IsTuple t items := ⟨⟨_, G.1 _ _ (Heap.get?_push_size _ rfl), rfl, rfl⟩, let ⟨o, ho, r⟩ := hT; ⟨o, k _ _ ho, r⟩⟩
  refine set_begin (fun Q E q => W.self 0 _ Q E st q) ?_
  refine set_core (s := s₁) (cenv := compEnvC scope cl _ env) (h₁ := s₁.heap) W some_ (fun m v Q s n q => wpAny_assign_Name (wpAny_storeName_local (lookup_relabel_local hx) n q (by simp [compEnvC, relabel, ok.kind]))) (fun b q ne => ?_) (fun q => (two _ q).2 rfl) (fun q => (two _ q).1 rfl) (Nat.ne_of_lt G.2.2.2)
    (Heap.get?_none_of_le (Nat.le_refl _)) (Heap.get?_none_of_le (Nat.le_trans (Nat.le_succ _) (Nat.le_of_eq z.symm))) (fun _ _ st => let ⟨⟨o, ho, _⟩, _⟩ := st; ⟨o, ho⟩) (fun i v u h tk own _ hv => turn _ i v u h tk own hv) (fun m h tk ep F N => ⟨m, F.ns, done _ _ m h tk ep F N⟩)
    items.size 0 h _ _ _ (Nat.zero_add _) st ⟨ns, k, Nat.le_trans (Nat.le_trans (Nat.le_succ _) (Nat.le_of_eq z.symm)) (Nat.le_of_lt G.2.2.2)⟩ G.2.1 (.inl ⟨rfl, rfl⟩)
  rcases List.mem_cons.mp q with e | q
  · exact absurd e ne
  · exact ⟨ot, (List.mem_singleton.mp q) ▸ hot⟩
end
/-- the order of two rows of texts -/
noncomputable def ltP : List (List Nat) → List (List Nat) → Bool
  | [], [] => false
  | [], _ :: _ => true
  | _ :: _, [] => false
  | x :: a, y :: b => if x = y then ltP a b else decide (x < y)
noncomputable def cmpP (g : Bool) (a b : List (List Nat)) : Bool := if g then ltP b a else ltP a b
theorem cmpP_cons (g : Bool) (x y : List Nat) (a b : List (List Nat)) : cmpP g (x :: a) (y :: b) = if x = y then cmpP g a b else decide (if g then y < x else x < y) := by
  cases g
  · rfl
  · simp only [cmpP, ltP, if_true]
    by_cases h : x = y
    · subst h; simp
    · rw [if_neg h, if_neg (Ne.symm h)]
theorem sare_at {vs : List Value} {ns : List (List Nat)} (h : SAre vs ns) {i : Nat} {x : List Nat} {r : List (List Nat)} (e : ns.drop i = x :: r) : ∃ t, vs[i]? = some (.str (sOf x) t) := by
  have hx : ns[i]? = some x := by rw [← List.head?_drop, e]; rfl
  have hi : i < vs.length := by
    have h1 := StrsAre.length h
    rw [List.length_map] at h1
    have := (List.getElem?_eq_some_iff.mp hx).1
    (walk_at "om")
  obtain ⟨y, t, hv, hy⟩ := StrsAre.item h i _ (List.getElem?_eq_getElem hi)
  rw [List.getElem?_map, hx] at hy
  refine ⟨t, ?_⟩
  rw [List.getElem?_eq_getElem hi, hv, ← Option.some.inj hy]
theorem drop_tail {α : Type} {l : List α} {i : Nat} {x : α} {r : List α} (e : l.drop i = x :: r) : l.drop (i + 1) = r ∧ i < l.length := by
  have h : l.drop (i + 1) = r := by rw [← List.tail_drop, e]; rfl
  refine ⟨h, ?_⟩
  rcases Nat.lt_or_ge i l.length with h | h
  · exact h
  · rw [List.drop_eq_nil_of_le h] at e; cases e
section
variable {prog : Program} {w : World} {A : Around} {s : Shared} {R : Result → Shared → Prop} {l b : Addr} {vs us : Array Value} {n n2 : Nat} {i : Int} {x y : List Nat} {t u : Tok}
/-- the code that orders two lists from the place i on: < or, with g, > -/
noncomputable def ordC (g : Bool) (l b : Addr) (i : Int) : Code := .builtin "list.__eq__.loop" ⟨[.ref l, .ref b, rawInt i, rawInt (if g then 4 else 0)], []⟩
open PySem.SeqAt AutoSeq1 MeetsSeq MeetsSeq2 MeetsSeq3 in
theorem ord_code (g : Bool) (h : wpAny (model prog w) A.in1 (Builtin.«list.__eq__.loop» ⟨[.ref l, .ref b, rawInt i, rawInt (if g then 4 else 0)], []⟩) (fun fin s' => match fin with | .done f => R (.ok f) s' | .again c' => c'.quiet = true ∧ codeAny (model prog w) A c' R s') (fun e s' => R (.error e) s') s) : (ordC g l b i).quiet = true ∧ codeAny (model prog w) A (ordC g l b i) R s :=
  ⟨plainId_quiet plain_eq_loop _, codeAny_builtin entry_eq_loop (by rw [Around.under_plainId plain_eq_loop _]; exact h)⟩
/-- one row ends -/
theorem ord_out (g : Bool) (hl : s.heap.get? l = some (PySem.W.listOf vs n)) (hb : s.heap.get? b = some (PySem.W.listOf us n2)) (e : vs[i.toNat]? = none ∨ us[i.toNat]? = none)
    (k : R (.ok (.ret (.bool (if g then decide (us.size < vs.size) else decide (vs.size < us.size))))) s) : (ordC g l b i).quiet = true ∧ codeAny (model prog w) A (ordC g l b i) R s := by
  refine ord_code g ?_
  unfold PySem.W.listOf at hl hb
  cases g
  all_goals
    wp_walk using wpAny_loadPart' hl, wpAny_loadPart' hb
    revert e
    cases vs[i.toNat]? <;> cases us[i.toNat]? <;> intro e
    case some.some => exact e.elim (fun h => nomatch h) fun h => nomatch h
    all_goals wp_walk using wpAny_loadPart' hl, wpAny_loadPart' hb
    all_goals exact k
open PySem.SeqAt AutoSeq1 MeetsSeq MeetsSeq2 MeetsSeq3 in
/-- the two texts at i are one -/
theorem ord_on (g : Bool) (hl : s.heap.get? l = some (PySem.W.listOf vs n)) (hb : s.heap.get? b = some (PySem.W.listOf us n2)) (e1 : vs[i.toNat]? = some (.str (sOf x) t)) (e2 : us[i.toNat]? = some (.str (sOf x) u))
    (k : (ordC g l b (i + 1)).quiet = true ∧ codeAny (model prog w) A (ordC g l b (i + 1)) R s) : (ordC g l b i).quiet = true ∧ codeAny (model prog w) A (ordC g l b i) R s := by
  refine ord_code g ?_
  unfold PySem.W.listOf at hl hb
  have same : decide (sOf x = sOf x) = true := decide_eq_true rfl
  cases g
  all_goals
    wp_walk using wpAny_loadPart' hl, wpAny_loadPart' hb
    rw [e1, e2]
    wp_walk using wpAny_eqBool_str
    exact k
open PySem.SeqAt AutoSeq1 MeetsSeq MeetsSeq2 MeetsSeq3 in
/-- they are not -/
theorem ord_off (g : Bool) (hl : s.heap.get? l = some (PySem.W.listOf vs n)) (hb : s.heap.get? b = some (PySem.W.listOf us n2)) (e1 : vs[i.toNat]? = some (.str (sOf x) t)) (e2 : us[i.toNat]? = some (.str (sOf y) u)) (ne : x ≠ y)
    (k : R (.ok (.ret (.bool (decide (if g then y < x else x < y))))) s) : (ordC g l b i).quiet = true ∧ codeAny (model prog w) A (ordC g l b i) R s := by
  refine ord_code g ?_
  unfold PySem.W.listOf at hl hb
  have diff : decide (sOf x = sOf y) = false := decide_eq_false fun e => ne (by simpa using congrArg (fun s : Str => s.cps.toList) e)
  cases g
  all_goals
    wp_walk using wpAny_loadPart' hl, wpAny_loadPart' hb
    rw [e1, e2]
    wp_walk using wpAny_eqBool_str, wpAny_loadPart' hl, wpAny_loadPart' hb
    rw [e1, e2]
  · exact wpAny_bind (richCompare_gives (op := .Lt) rfl rfl F.slot_str_lt F.entry_str_lt (F.args_str_lt_2 _ _) (gives_str_lt _ _ _ _) (fun e => nomatch e) (wpAny_pure k))
  · exact wpAny_bind (richCompare_gives (op := .Gt) rfl rfl F.slot_str_gt F.entry_str_gt (F.args_str_gt_2 _ _) (gives_str_gt _ _ _ _) (fun e => nomatch e) (wpAny_pure k))
theorem cmpP_end (g : Bool) {a c : List (List Nat)} (h : a = [] ∨ c = []) : cmpP g a c = if g then decide (c.length < a.length) else decide (a.length < c.length) := by
  cases g <;> cases a <;> cases c <;> simp [cmpP, ltP] at h ⊢
theorem ord_run (g : Bool) {vs us : List Value} {ns ms : List (List Nat)} (hv : SAre vs ns) (hu : SAre us ms) (hl : s.heap.get? l = some (PySem.W.listOf vs.toArray n)) (hb : s.heap.get? b = some (PySem.W.listOf us.toArray n2)) :
    ∀ (a c : List (List Nat)) (i : Nat), ns.drop i = a → ms.drop i = c → i ≤ ns.length → i ≤ ms.length → R (.ok (.ret (.bool (cmpP g a c)))) s → (ordC g l b i).quiet = true ∧ codeAny (model prog w) A (ordC g l b i) R s := by
  have lv : vs.toArray.size = ns.length := by simpa using StrsAre.length hv
  have lu : us.toArray.size = ms.length := by simpa using StrsAre.length hu
  have fin : ∀ (a c : List (List Nat)) (i : Nat), ns.drop i = a → ms.drop i = c → i ≤ ns.length → i ≤ ms.length → a = [] ∨ c = [] → R (.ok (.ret (.bool (cmpP g a c)))) s → (ordC g l b i).quiet = true ∧ codeAny (model prog w) A (ordC g l b i) R s := by
    intro a c i e1 e2 h1 h2 o k
    have z1 := congrArg List.length e1
    have z2 := congrArg List.length e2
    rw [List.length_drop] at z1 z2
    refine ord_out g hl hb (o.imp (fun h => Array.getElem?_eq_none ?_) fun h => Array.getElem?_eq_none ?_) ?_
    · subst h; rw [lv, Int.toNat_natCast]; exact Nat.le_of_sub_eq_zero z1
    · subst h; rw [lu, Int.toNat_natCast]; exact Nat.le_of_sub_eq_zero z2
    · rw [cmpP_end g o] at k
      rw [lv, lu, show decide (ms.length < ns.length) = decide (c.length < a.length) from decide_eq_decide.mpr (by (walk_at "om")), show decide (ns.length < ms.length) = decide (a.length < c.length) from decide_eq_decide.mpr (by (walk_at "om"))]
      exact k
  intro a
  induction a with
  | nil => exact fun c i e1 e2 h1 h2 k => fin [] c i e1 e2 h1 h2 (.inl rfl) k
  | cons x a ih =>
    intro c i e1 e2 h1 h2 k
    cases c with
    | nil => exact fin _ _ i e1 e2 h1 h2 (.inr rfl) k
    | cons y c =>
      first | refine ex1_1 (sare_at hv e1) fun t1 q1 => ?_ | refine ex0_2 (sare_at hv e1) fun t1 q1 => ?_ | obtain ⟨t1, q1⟩ := sare_at hv e1
      first | refine ex1_1 (sare_at hu e2) fun t2 q2 => ?_ | refine ex0_2 (sare_at hu e2) fun t2 q2 => ?_ | obtain ⟨t2, q2⟩ := sare_at hu e2
      rw [cmpP_cons] at k
      by_cases e : x = y
      · subst e
        rw [if_pos rfl] at k
        have r := ih c (i + 1) (drop_tail e1).1 (drop_tail e2).1 (drop_tail e1).2 (drop_tail e2).2 k
        exact ord_on g hl hb (by simpa using q1) (by simpa using q2) r
      · rw [if_neg e] at k
        exact ord_off g hl hb (by simpa using q1) (by simpa using q2) e k
end
open PySem.SeqAt AutoSeq1 MeetsSeq MeetsSeq2 MeetsSeq3 in
theorem list_cmp (l b : Addr) (vs us : List Value) (n n2 : Nat) (ns ms : List (List Nat)) (hv : SAre vs ns) (hu : SAre us ms) :
    Meets (Builtin.«list.__lt__» ⟨[.ref l, .ref b], []⟩) (fun _ R s => s.heap.get? l = some (PySem.W.listOf vs.toArray n) ∧ s.heap.get? b = some (PySem.W.listOf us.toArray n2) ∧ R (.ok (.ret (.bool (ltP ns ms)))) s) ∧
    Meets (Builtin.«list.__gt__» ⟨[.ref l, .ref b], []⟩) (fun _ R s => s.heap.get? l = some (PySem.W.listOf vs.toArray n) ∧ s.heap.get? b = some (PySem.W.listOf us.toArray n2) ∧ R (.ok (.ret (.bool (ltP ms ns)))) s) := by
  have sub := AutoSeq1.sub_list_list
  constructor
  all_goals
    intro prog w A R s ⟨hl, hb, h⟩
    have el := hl
    have eb := hb
    unfold PySem.W.listOf at el eb
    wp_walk using wpAny_loadPart' el, wpAny_loadPart' eb
  · exact ord_run false hv hu hl hb ns ms 0 rfl rfl (Nat.zero_le _) (Nat.zero_le _) h
  · exact ord_run true hv hu hl hb ns ms 0 rfl rfl (Nat.zero_le _) (Nat.zero_le _) h
section
variable {prog : Program} {w : World} {A : Around} {E : Value → Shared → Prop} {s : Shared}
theorem rich_lt {l b : Addr} {vs us : List Value} {n n2 : Nat} {ns ms : List (List Nat)} {Q : Value → Shared → Prop} (hv : SAre vs ns) (hu : SAre us ms) (hl : s.heap.get? l = some (PySem.W.listOf vs.toArray n)) (hb : s.heap.get? b = some (PySem.W.listOf us.toArray n2)) (hc : A.units < cLine)
    (h : Q (.bool (ltP ns ms)) s) : wpAny (model prog w) A (richCompare .Lt (.ref l) (.ref b)) Q E s :=
  richCompare_meets_room (T := "list") ⟨_, hl, rfl⟩ ⟨_, hb, rfl⟩ F.slot_list_lt F.entry_list_lt (F.args_list_lt_2 _ _) (list_cmp l b vs us n n2 ns ms hv hu).1 ⟨hl, hb, ⟨(fun e => nomatch e), h⟩⟩ hc
theorem rich_gt {l b : Addr} {vs us : List Value} {n n2 : Nat} {ns ms : List (List Nat)} {Q : Value → Shared → Prop} (hv : SAre vs ns) (hu : SAre us ms) (hl : s.heap.get? l = some (PySem.W.listOf vs.toArray n)) (hb : s.heap.get? b = some (PySem.W.listOf us.toArray n2)) (hc : A.units < cLine)
    (h : Q (.bool (ltP ms ns)) s) : wpAny (model prog w) A (richCompare .Gt (.ref l) (.ref b)) Q E s :=
  richCompare_meets_room (T := "list") ⟨_, hl, rfl⟩ ⟨_, hb, rfl⟩ F.slot_list_gt F.entry_list_gt (F.args_list_gt_2 _ _) (list_cmp l b vs us n n2 ns ms hv hu).2 ⟨hl, hb, ⟨(fun e => nomatch e), h⟩⟩ hc
end
section
variable {prog : Program} {w : World} {A : Around} {E : Value → Shared → Prop} {s : Shared} {I S D : Addr} {items : Array Value} {i n : Nat} {R : Result → Shared → Prop}
theorem wp_try {α : Type} {M : Model} {t : Sem α} {f : Value → Sem α} {Q : α → Shared → Prop} (h : wpAny M A t Q (fun e s' => wpAny M A (f e) Q E s') s) : wpAny M A (t.tryCatch f) Q E s := wpAny_tryCatch h
/-- the code of the loop of max (g) or min over the iterator I, its record in S -/
noncomputable def bestC : Bool → Addr → Addr → Code
  | true, I, S => .builtin "max.loop" ⟨[.ref I, .none, .ref S], []⟩
  | false, I, S => .builtin "min.loop" ⟨[.ref I, .none, .ref S], []⟩
noncomputable def bestB : Bool → Builtin
  | true => Builtin.«max.loop»
  | false => Builtin.«min.loop»
noncomputable def bestO : Bool → CmpOp
  | true => .Gt
  | false => .Lt
theorem best_quiet : ∀ g I S, (bestC g I S).quiet = true
  | true, _, _ => plainId_quiet F.plain_max_loop _
  | false, _, _ => plainId_quiet F.plain_min_loop _
theorem best_code : ∀ (g : Bool), wpAny (model prog w) A.in1 (bestB g ⟨[.ref I, .none, .ref S], []⟩) (fun fin s' => match fin with | .done f => R (.ok f) s' | .again c' => c'.quiet = true ∧ codeAny (model prog w) A c' R s') (fun e s' => R (.error e) s') s → codeAny (model prog w) A (bestC g I S) R s
  | true, h => codeAny_builtin F.entry_max_loop (by rw [Around.under_plainId F.plain_max_loop _]; exact h)
  | false, h => codeAny_builtin F.entry_min_loop (by rw [Around.under_plainId F.plain_min_loop _]; exact h)
/-- what a turn leaves: the iterator a place further, its list, the record r, all else as it was -/
noncomputable def Turned (s : Shared) (I S D : Addr) (items : Array Value) (i : Nat) (r : Array Value) (h : Heap) : Prop :=
  h.IsListIter I D i ∧ h.IsList D items ∧ (∃ n, h.get? S = some (PySem.W.listOf r n)) ∧ ∀ b o, b ≠ I → b ≠ S → s.heap.get? b = some o → h.get? b = some o
theorem Turned.put {r r' : Array Value} {h : Heap} (t : Turned s I S D items i r h) (iS : I ≠ S) (dS : D ≠ S) : Turned s I S D items i r' (h.update S (Obj.mapSeq fun _ => r')) := by
  obtain ⟨⟨a, a1, a2⟩, ⟨b, b1, b2⟩, ⟨n, c⟩, d⟩ := t
  have o : ∀ x, x ≠ S → (h.update S (Obj.mapSeq fun _ => r')).get? x = h.get? x := fun x e => Heap.get?_update_other _ _ e.symm
  exact ⟨⟨a, (o I iS).trans a1, a2⟩, ⟨b, (o D dS).trans b1, b2⟩, ⟨_, get?_update_seq c fun _ => r'⟩, fun b x e1 e2 e => (o b e2).trans (d b x e1 e2 e)⟩
theorem Turned.got {r : Array Value} {h : Heap} (hL : s.heap.IsList D items) (hS : s.heap.get? S = some (PySem.W.listOf r n)) (iS : I ≠ S) (dI : D ≠ I) (it : h.IsListIter I D i) (sb : Heap.SameBut I s.heap h) : Turned s I S D items i r h :=
  ⟨it, hL.extBut sb.extBut dI, ⟨n, (sb.2 S iS.symm).trans hS⟩, fun b _ e _ x => (sb.2 b e).trans x⟩
theorem best_first (g : Bool) {v : Value} (hI : s.heap.IsListIter I D i) (hL : s.heap.IsList D items) (hx : items[i]? = some v) (hS : s.heap.get? S = some (PySem.W.listOf #[] n)) (iS : I ≠ S) (dS : D ≠ S) (dI : D ≠ I)
    (k : ∀ h, Turned s I S D items (i + 1) #[v, v] h → codeAny (model prog w) A (bestC g I S) R { s with heap := h }) : codeAny (model prog w) A (bestC g I S) R s := by
  refine best_code g ?_
  cases g
  all_goals
    wp_walk using wp_try, wpAny_pyNext_list_item hI hL hx
    intro h it sb
    have t := Turned.got hL hS iS dI it sb
    first | refine ex1_1 t.2.2.1 fun _ hS' => ?_ | refine ex0_2 t.2.2.1 fun _ hS' => ?_ | obtain ⟨_, hS'⟩ := t.2.2.1
    wp_walk
    first | exact ⟨best_quiet false I S, k _ (t.put iS dS)⟩ | exact ⟨best_quiet true I S, k _ (t.put iS dS)⟩
theorem best_next (g c : Bool) {v x : Value} (hI : s.heap.IsListIter I D i) (hL : s.heap.IsList D items) (hx : items[i]? = some x) (hS : s.heap.get? S = some (PySem.W.listOf #[v, v] n)) (iS : I ≠ S) (dS : D ≠ S) (dI : D ≠ I)
    (cmp : ∀ h (Q E : Value → Shared → Prop), Turned s I S D items (i + 1) #[v, v] h → Q (.bool c) { s with heap := h } → wpAny (model prog w) A.in1 (richCompare (bestO g) x v) Q E { s with heap := h })
    (k : ∀ h, Turned s I S D items (i + 1) #[if c then x else v, if c then x else v] h → codeAny (model prog w) A (bestC g I S) R { s with heap := h }) : codeAny (model prog w) A (bestC g I S) R s := by
  refine best_code g ?_
  cases g <;> dsimp only [bestO] at cmp
  all_goals
    wp_walk using wp_try, wpAny_pyNext_list_item hI hL hx
    intro h it sb
    have t := Turned.got hL hS iS dI it sb
    first | refine ex1_1 t.2.2.1 fun _ hS' => ?_ | refine ex0_2 t.2.2.1 fun _ hS' => ?_ | obtain ⟨_, hS'⟩ := t.2.2.1
    cases c
    all_goals wp_walk using wp_try, cmp h _ _ t, wpAny_truthy_bool
    · first | exact ⟨best_quiet false I S, k _ t⟩ | exact ⟨best_quiet true I S, k _ t⟩
    · first | exact ⟨best_quiet false I S, k _ (t.put iS dS)⟩ | exact ⟨best_quiet true I S, k _ (t.put iS dS)⟩
theorem best_last (g : Bool) {v : Value} (hh : A.handled = none) (hI : s.heap.IsListIter I D i) (hL : s.heap.IsList D items) (hx : items[i]? = none) (hS : s.heap.get? S = some (PySem.W.listOf #[v, v] n)) (iS : I ≠ S)
    (k : ∀ h, (∀ b o, b ≠ I → b ≠ S → s.heap.get? b = some o → h.get? b = some o) → R (.ok (.ret v)) { s with heap := h }) : codeAny (model prog w) A (bestC g I S) R s := by
  have at_ : ∀ h', Heap.ExtBut I s.heap h' → (∀ b o, b ≠ I → b ≠ S → s.heap.get? b = some o → (h'.update S (Obj.mapSeq fun _ => #[])).get? b = some o) := fun h' eb b o e1 e2 e => (Heap.get?_update_other _ _ (Ne.symm e2)).trans (eb b o e1 e)
  refine best_code g ?_
  cases g
  all_goals
    wp_walk using wp_try, wpAny_pyNext_list_end (A := A.in1) hh hI hL hx
    intro h eb
    have hS' := eb S _ iS.symm hS
    wp_walk
    exact k _ (at_ h eb)
/-- min or max of one list: its iterator and an empty record are made, the loop begins -/
theorem best_start (g : Bool) {Q : Value → Shared → Prop} (hL : s.heap.IsList D items)
    (go : codeAny (model prog w) A (bestC g s.heap.objs.size (s.heap.push ⟨.type "list_iterator", none, .fields #[.ref D, .int 0 0], #[]⟩).objs.size) (wants Q E) { s with heap := (s.heap.push ⟨.type "list_iterator", none, .fields #[.ref D, .int 0 0], #[]⟩).push (PySem.W.listOf #[] 0) }) :
    wpAny (model prog w) A (call (.builtin (if g then "max" else "min")) [.ref D]) Q E s := by
  cases g
  · refine call_function_tree F.kind_min F.plain_min F.entry_min (F.args_min1 _) ?_
    wp_walk using wpAny_pyIter_list hL
    exact ⟨best_quiet false _ _, go⟩
  · refine call_function_tree F.kind_max F.plain_max F.entry_max (F.args_max1 _) ?_
    wp_walk using wpAny_pyIter_list hL
    exact ⟨best_quiet true _ _, go⟩
/-- the better one of two -/
theorem best_two (g c : Bool) {v1 v2 : Value} {Q : Value → Shared → Prop} (hh : A.handled = none) (hD : s.heap.get? D = some (PySem.W.listOf [v1, v2].toArray n))
    (cmp : ∀ (s' : Shared) (Q E : Value → Shared → Prop), Keeps s.heap s'.heap → Q (.bool c) s' → wpAny (model prog w) A.in1 (richCompare (bestO g) v2 v1) Q E s')
    (k : ∀ h' tk, Keeps s.heap h' → Q (if c then v2 else v1) { s with heap := h', toks := tk }) : wpAny (model prog w) A (call (.builtin (if g then "max" else "min")) [.ref D]) Q E s := by
  have hL : s.heap.IsList D [v1, v2].toArray := ⟨_, hD, rfl, n, rfl⟩
  have dI : D ≠ s.heap.objs.size := Nat.ne_of_lt (Heap.lt_size hD)
  let h1 := s.heap.push ⟨.type "list_iterator", none, .fields #[.ref D, .int 0 0], #[]⟩
  have k1 : Keeps s.heap h1 := fun b o e => Heap.get?_push_of_some _ e
  have k2 : Keeps s.heap (h1.push (PySem.W.listOf #[] 0)) := fun b o e => Heap.get?_push_of_some _ (k1 b o e)
  have z : h1.objs.size = s.heap.objs.size + 1 := Heap.size_push ..
  have iS : s.heap.objs.size ≠ h1.objs.size := by rw [z]; exact Nat.ne_of_lt (Nat.lt_succ_self _)
  have dS : D ≠ h1.objs.size := by rw [z]; exact Nat.ne_of_lt (Nat.lt_succ_of_lt (Heap.lt_size hD))
  have go : codeAny (model prog w) A (bestC g s.heap.objs.size h1.objs.size) (wants Q E) { s with heap := h1.push (PySem.W.listOf #[] 0) } := by
    have old : ∀ {h : Heap}, (∀ b o, b ≠ s.heap.objs.size → b ≠ h1.objs.size → (h1.push (PySem.W.listOf #[] 0)).get? b = some o → h.get? b = some o) → Keeps s.heap h := fun {h} a b o e =>
      a b o (Nat.ne_of_lt (Heap.lt_size e)) (by rw [z]; exact Nat.ne_of_lt (Nat.lt_succ_of_lt (Heap.lt_size e))) (k2 b o e)
    refine best_first g (i := 0) (v := v1) ⟨_, Heap.get?_push_of_some _ (Heap.get?_push_size _ rfl), rfl, rfl⟩ ⟨_, k2 _ _ hD, rfl, n, rfl⟩ rfl (Heap.get?_push_size _ rfl) iS dS dI fun h ⟨a1, a2, ⟨_, a3⟩, a4⟩ => ?_
    refine best_next g c (s := { s with heap := h }) (x := v2) a1 a2 rfl a3 iS dS dI (fun h' Q E t q => cmp _ Q E (old fun b o e1 e2 e => t.2.2.2 b o e1 e2 (a4 b o e1 e2 e)) q) fun h' ⟨b1, b2, ⟨_, b3⟩, b4⟩ => ?_
    exact best_last g (s := { s with heap := h' }) hh b1 b2 rfl b3 iS fun h'' e4 => k h'' _ (old fun b o e1 e2 e => e4 b o e1 e2 (b4 b o e1 e2 (a4 b o e1 e2 e)))
  exact best_start g hL go
end
theorem cons_lt {a b : Nat} {x y : List Nat} : a :: x < b :: y ↔ a < b ∨ (a = b ∧ x < y) := List.cons_lt_cons_iff
/-- the strings between folder/ and folder0 are those that begin with folder/ -/
theorem between (f : List Nat) : ∀ t : List Nat, (¬ t < f ++ [47] ∧ t < f ++ [48]) ↔ (f ++ [47]) <+: t := by
  induction f with
  | nil =>
    intro t
    cases t with
    | nil => simp
    | cons c r =>
      simp only [List.nil_append, cons_lt, List.not_lt_nil, and_false, or_false, List.cons_prefix_cons, List.nil_prefix, and_true]
      (walk_at "om")
  | cons x f ih =>
    intro t
    cases t with
    | nil => simp
    | cons c r =>
      simp only [List.cons_append, cons_lt, List.cons_prefix_cons]
      rw [← ih r]
      constructor
      · rintro ⟨h1, h2⟩
        have hc : c = x := by
          rcases h2 with h2 | h2
          · exact absurd (.inl h2) h1
          · exact h2.1
        subst hc
        refine ⟨rfl, fun h => h1 (.inr ⟨rfl, h⟩), ?_⟩
        rcases h2 with h2 | h2
        · exact absurd h2 (Nat.lt_irrefl _)
        · exact h2.2
      · rintro ⟨rfl, h1, h2⟩
        refine ⟨?_, .inr ⟨rfl, h2⟩⟩
        rintro (h | h)
        · exact absurd h (Nat.lt_irrefl _)
        · exact h1 h.2
theorem lt_tr {a b c : List Nat} (h : a < b) (h' : b < c) : a < c := List.lt_trans h h'
theorem lt_47_48 (s : List Nat) : s ++ [47] < s ++ [48] := by
  induction s with
  | nil => decide
  | cons x s ih => exact cons_lt.mpr (.inr ⟨rfl, ih⟩)
theorem lt_ir {a : List Nat} : ¬ a < a := List.lt_irrefl a
noncomputable def closedIn (st : List Nat → List Nat) (l : List Mark) (m : Mark) : Bool := l.any (fun c => c.1 == st m.2.1 ++ [48])
noncomputable def actP (st : List Nat → List Nat) (l : List Mark) (m : Mark) : Bool := m.2.2 && !closedIn st l m
noncomputable def act (st : List Nat → List Nat) (l : List Mark) : List (List Nat) := (l.filter (actP st l)).map (·.2.1)
theorem snoc_inj {a b : List Nat} {x y : Nat} (h : a ++ [x] = b ++ [y]) : a = b ∧ x = y := by
  have := List.append_inj' h rfl
  exact ⟨this.1, by simpa using this.2⟩
theorem act_open {st : List Nat → List Nat} {l : List Mark} {m : Mark} (hs : ∀ c ∈ l, c.1 < m.1) (ho : m.2.2 = true) (hk : m.1 = st m.2.1 ++ [47]) : act st (l ++ [m]) = act st l ++ [m.2.1] := by
  have e1 : ∀ a : Mark, actP st (l ++ [m]) a = actP st l a := fun a => by
    unfold actP closedIn
    rw [List.any_append]
    have : (m.1 == st a.2.1 ++ [48]) = false := by
      rw [hk]
      refine beq_eq_false_iff_ne.mpr fun h => ?_
      exact absurd (snoc_inj h).2 (by decide)
    simp [this]
  have e2 : actP st l m = true := by
    unfold actP closedIn
    rw [ho, Bool.true_and, Bool.not_eq_true', List.any_eq_false]
    intro c hc h
    have h1 := hs c hc
    rw [eq_of_beq h, hk] at h1
    exact lt_ir (lt_tr h1 (lt_47_48 _))
  unfold act
  rw [show actP st (l ++ [m]) = actP st l from funext e1, List.filter_append, List.filter_cons_of_pos e2]
  simp
theorem act_close {st : List Nat → List Nat} {l1 l2 : List Mark} {o m : Mark} (hm : m.2.2 = false) (hmk : m.1 = st m.2.1 ++ [48]) (ho : o.2.2 = true) (hof : o.2.1 = m.2.1) (hok : o.1 = st m.2.1 ++ [47])
    (hs : (l1 ++ o :: l2).Pairwise (fun a b => a.1 < b.1)) (hsm : ∀ c ∈ l1 ++ o :: l2, c.1 < m.1) (hkey : ∀ c ∈ l1 ++ o :: l2, c.2.2 = true → c.1 = st c.2.1 ++ [47])
    (hcl : ∀ g ∈ l2, g.2.2 = true → ∃ c ∈ l1 ++ o :: l2, c.1 = st g.2.1 ++ [48]) :
    act st (l1 ++ o :: l2) = (l1.filter (actP st (l1 ++ o :: l2))).map (·.2.1) ++ [m.2.1] ∧ act st (l1 ++ o :: l2 ++ [m]) = (l1.filter (actP st (l1 ++ o :: l2))).map (·.2.1) := by
  have hs1 := List.pairwise_append.mp hs
  have e2 : l2.filter (actP st (l1 ++ o :: l2)) = [] := by
    rw [List.filter_eq_nil_iff]
    intro g hg h
    unfold actP closedIn at h
    rw [Bool.and_eq_true, Bool.not_eq_true', List.any_eq_false] at h
    first | refine ex2_1 (hcl g hg h.1) fun c hc e => ?_ | refine ex1_2 (hcl g hg h.1) fun c hc e => ?_ | refine ex0_3 (hcl g hg h.1) fun c hc e => ?_ | obtain ⟨c, hc, e⟩ := hcl g hg h.1
    exact h.2 c hc (by rw [e]; exact beq_self_eq_true _)
  have e3 : actP st (l1 ++ o :: l2) o = true := by
    unfold actP closedIn
    rw [ho, Bool.true_and, Bool.not_eq_true', List.any_eq_false]
    intro c hc h
    have h1 := hsm c hc
    rw [eq_of_beq h, hof, ← hmk] at h1
    exact lt_ir h1
  constructor
  · unfold act
    rw [List.filter_append, List.filter_cons_of_pos e3, e2, List.map_append, List.map_cons, hof]; rfl
  · unfold act
    rw [List.filter_append, List.filter_append]
    have f1 : [m].filter (actP st (l1 ++ o :: l2 ++ [m])) = [] := by
      rw [List.filter_eq_nil_iff]
      intro g hg h
      rw [List.mem_singleton.mp hg] at h
      simp [actP, hm] at h
    have f2 : actP st (l1 ++ o :: l2 ++ [m]) o = false := by
      have : closedIn st (l1 ++ o :: l2 ++ [m]) o = true := by
        unfold closedIn
        rw [List.any_append]
        simp [hof, hmk]
      unfold actP
      rw [this]; simp
    have f3 : l2.filter (actP st (l1 ++ o :: l2 ++ [m])) = [] := by
      rw [List.filter_eq_nil_iff]
      intro g hg h
      have h0 := List.filter_eq_nil_iff.mp e2 g hg
      refine h0 ?_
      unfold actP closedIn at h ⊢
      rw [List.any_append] at h
      simp only [Bool.and_eq_true, Bool.not_eq_true', Bool.or_eq_false_iff] at h ⊢
      exact ⟨h.1, h.2.1⟩
    have f4 : l1.filter (actP st (l1 ++ o :: l2 ++ [m])) = l1.filter (actP st (l1 ++ o :: l2)) := by
      refine List.filter_congr fun a ha => ?_
      unfold actP closedIn
      rw [List.any_append (xs := l1 ++ o :: l2)]
      cases hao : a.2.2 with
      | false => simp
      | true =>
        have h1 : a.1 < o.1 := hs1.2.2 a ha o (.head _)
        have : (m.1 == st a.2.1 ++ [48]) = false := by
          refine beq_eq_false_iff_ne.mpr fun h => ?_
          rw [hmk] at h
          have hk := hkey a (List.mem_append_left _ ha) hao
          rw [← (snoc_inj h).1, ← hok] at hk
          rw [hk] at h1
          exact lt_ir h1
        simp [this]
    rw [f1, f4, List.filter_cons_of_neg (by rw [f2]; decide), f3]
    simp
/-- the pile after a sorted stretch of marks that all stand at or before the text -/
theorem pile_act {st : List Nat → List Nat} {ms : List Mark} {t : List Nat} (hs : ms.Pairwise (fun a b => a.1 < b.1)) (hopen : ∀ m ∈ ms, m.2.2 = true → m.1 = st m.2.1 ++ [47]) (hclose : ∀ m ∈ ms, m.2.2 = false → m.1 = st m.2.1 ++ [48])
    (hco : ∀ m ∈ ms, (m.1.dropLast ++ [47], m.2.1, true) ∈ ms) (hoc : ∀ m ∈ ms, m.2.2 = true → (st m.2.1 ++ [48], m.2.1, false) ∈ ms) :
    ∀ (l r : List Mark), ms = l ++ r → (∀ m ∈ l, ¬ t < m.1) → l.foldl (pileStep t) (some []) = some (act st l) := by
  intro l
  generalize hn : l.length = n
  induction n generalizing l with
  | zero => intro r _ _; rw [List.length_eq_zero_iff.mp hn]; rfl
  | succ n ih =>
    intro r he ht
    rcases List.eq_nil_or_concat l with rfl | ⟨l', m, rfl⟩
    · simp at hn
    rw [List.concat_eq_append] at hn he ht ⊢
    have hl' : l'.length = n := by simpa using hn
    have hmm : m ∈ ms := by rw [he]; simp
    have hsub : ∀ x ∈ l', x ∈ ms := fun x hx => by rw [he]; simp [hx]
    have hP : (l' ++ [m] ++ r).Pairwise (fun a b => a.1 < b.1) := he ▸ hs
    have hlt : ∀ c ∈ l', c.1 < m.1 := fun c hc => (List.pairwise_append.mp (List.pairwise_append.mp hP).1).2.2 c hc m (.head _)
    have hgt : ∀ c ∈ r, m.1 < c.1 := fun c hc => (List.pairwise_append.mp hP).2.2 m (by simp) c hc
    have hwhere : ∀ x ∈ ms, x.1 < m.1 → x ∈ l' := fun x hx hlx => by
      rw [he] at hx
      rcases List.mem_append.mp hx with hx | hx
      · rcases List.mem_append.mp hx with hx | hx
        · exact hx
        · rw [List.mem_singleton.mp hx] at hlx; exact absurd hlx lt_ir
      · exact absurd (lt_tr hlx (hgt x hx)) lt_ir
    rw [List.foldl_append, ih l' hl' ([m] ++ r) (by rw [he]; simp) fun x hx => ht x (by simp [hx])]
    have htm := ht m (by simp)
    show pileStep t (some (act st l')) m = _
    cases hm : m.2.2 with
    | true =>
      rw [act_open hlt hm (hopen m hmm hm)]
      simp [pileStep, htm, hm]
    | false =>
      have hmk := hclose m hmm hm
      have ho := hco m hmm
      rw [hmk, List.dropLast_concat] at ho
      have hol : (st m.2.1 ++ [47], m.2.1, true) ∈ l' := hwhere _ ho (by rw [hmk]; exact lt_47_48 _)
      first | refine ex2_1 (List.append_of_mem hol) fun l1 l2 e90 => ?_ | refine ex1_2 (List.append_of_mem hol) fun l1 l2 e90 => ?_ | refine ex0_3 (List.append_of_mem hol) fun l1 l2 e90 => ?_ | obtain ⟨l1, l2, e90⟩ := List.append_of_mem hol
      subst e90
      have hpl := (List.pairwise_append.mp (List.pairwise_append.mp hP).1).1
      obtain ⟨a1, a2⟩ := act_close (st := st) (l1 := l1) (l2 := l2) (o := (st m.2.1 ++ [47], m.2.1, true)) hm hmk rfl rfl rfl hpl hlt (fun c hc h => hopen c (hsub c hc) h) (fun g hg hgo => by
        have hgl : g ∈ l1 ++ (st m.2.1 ++ [47], m.2.1, true) :: l2 := by simp [hg]
        refine ⟨_, hwhere _ (hoc g (hsub g hgl) hgo) ?_, rfl⟩
        have hog : st m.2.1 ++ [47] < g.1 := (List.pairwise_cons.mp (List.pairwise_append.mp hpl).2.1).1 g hg
        have hgm : g.1 < m.1 := hlt g hgl
        rw [hopen g (hsub g hgl) hgo] at hog hgm
        rw [hmk] at hgm ⊢
        have hpre := (between (st m.2.1) _).mp ⟨fun h => lt_ir (lt_tr h hog), hgm⟩
        refine ((between (st m.2.1) _).mpr ?_).2
        rcases Nat.lt_or_ge (st m.2.1).length (st g.2.1).length with hln | hln
        · have := (List.prefix_of_prefix_length_le hpre (List.prefix_append (st g.2.1) [47]) (by simp; (walk_at "om")))
          exact this.trans (List.prefix_append _ _)
        · exfalso
          have hle := hpre.length_le
          have e := hpre.eq_of_length (by simp at hle ⊢; (walk_at "om"))
          rw [e] at hog
          exact lt_ir hog)
      rw [a1, a2]
      simp [pileStep, htm, hm]
theorem foldl_skip {t : List Nat} : ∀ (r : List Mark) (st : Option (List (List Nat))), (∀ m ∈ r, t < m.1) → r.foldl (pileStep t) st = st
  | [], _, _ => rfl
  | m :: r, st, h => by
    rw [List.foldl_cons]
    have : pileStep t st m = st := by
      cases st with
      | none => rfl
      | some p => simp [pileStep, h m (.head _)]
    rw [this]
    exact foldl_skip r st fun x hx => h x (.tail _ hx)
theorem mem_tw {α : Type} {q : α → Bool} : ∀ {l : List α} {m : α}, m ∈ l.takeWhile q → q m = true
  | x :: r, m, h => by
    rw [List.takeWhile_cons] at h
    cases e : q x with
    | true =>
      rw [e] at h
      rcases List.mem_cons.mp h with rfl | h
      · exact e
      · exact mem_tw h
    | false => rw [e] at h; cases h
theorem dw_head {α : Type} {q : α → Bool} : ∀ {l : List α} {a : α} {r : List α}, l.dropWhile q = a :: r → q a = false
  | x :: l, a, r, h => by
    rw [List.dropWhile_cons] at h
    cases e : q x with
    | true => rw [e] at h; exact dw_head h
    | false => rw [e] at h; cases h; exact e
/-- the pile is the folders whose key with a mark behind is a prefix of the text, in the order of their keys -/
theorem pile_due {st : List Nat → List Nat} {ms : List Mark} (hs : ms.Pairwise (fun a b => a.1 < b.1)) (hopen : ∀ m ∈ ms, m.2.2 = true → m.1 = st m.2.1 ++ [47]) (hclose : ∀ m ∈ ms, m.2.2 = false → m.1 = st m.2.1 ++ [48])
    (hco : ∀ m ∈ ms, (m.1.dropLast ++ [47], m.2.1, true) ∈ ms) (hoc : ∀ m ∈ ms, m.2.2 = true → (st m.2.1 ++ [48], m.2.1, false) ∈ ms) (t : List Nat) :
    pileF ms t = some ((ms.filter (fun m => m.2.2 && m.1.isPrefixOf t)).map (·.2.1)) := by
  let q : Mark → Bool := fun m => !decide (t < m.1)
  have hsplit : ms = ms.takeWhile q ++ ms.dropWhile q := (List.takeWhile_append_dropWhile).symm
  have hl : ∀ m ∈ ms.takeWhile q, ¬ t < m.1 := fun m hm => by
    have := mem_tw hm
    simpa [q] using this
  have hP : (ms.takeWhile q ++ ms.dropWhile q).Pairwise (fun a b => a.1 < b.1) := hsplit ▸ hs
  have hr : ∀ m ∈ ms.dropWhile q, t < m.1 := by
    have hp2 := (List.pairwise_append.mp hP).2.1
    cases e : ms.dropWhile q with
    | nil => intro m hm; cases hm
    | cons a r =>
      have ha : q a = false := dw_head e
      have ha' : t < a.1 := by simpa [q] using ha
      intro m hm
      rcases List.mem_cons.mp hm with rfl | hm
      · exact ha'
      · rw [e] at hp2
        exact lt_tr ha' ((List.pairwise_cons.mp hp2).1 m hm)
  have h1 := pile_act hs hopen hclose hco hoc _ _ hsplit hl
  unfold pileF
  conv => lhs; rw [hsplit]
  rw [List.foldl_append, h1, foldl_skip _ _ hr]
  congr 1
  unfold act
  congr 1
  conv => rhs; rw [hsplit]
  rw [List.filter_append]
  have e2 : (ms.dropWhile q).filter (fun m => m.2.2 && m.1.isPrefixOf t) = [] := by
    rw [List.filter_eq_nil_iff]
    intro m hm h
    rw [Bool.and_eq_true] at h
    have hmm : m ∈ ms := by rw [hsplit]; exact List.mem_append_right _ hm
    have hk := hopen m hmm h.1
    have hp : m.1 <+: t := List.isPrefixOf_iff_prefix.mp h.2
    rw [hk] at hp
    have := ((between _ _).mpr hp).1
    rw [← hk] at this
    exact this (hr m hm)
  rw [e2, List.append_nil]
  refine List.filter_congr fun m hm => ?_
  have hmm : m ∈ ms := by rw [hsplit]; exact List.mem_append_left _ hm
  unfold actP
  cases ho : m.2.2 with
  | false => rfl
  | true =>
    rw [Bool.true_and, Bool.true_and]
    have hk := hopen m hmm ho
    have hle := hl m hm
    have hc := hoc m hmm ho
    cases hx : m.1.isPrefixOf t with
    | true =>
      have hp : m.1 <+: t := List.isPrefixOf_iff_prefix.mp hx
      rw [hk] at hp
      have h2 := ((between _ _).mpr hp).2
      rw [Bool.not_eq_true']
      unfold closedIn
      rw [List.any_eq_false]
      intro c hcm h
      rw [← eq_of_beq h] at h2
      exact hl c hcm h2
    | false =>
      rw [Bool.not_eq_false']
      unfold closedIn
      rw [List.any_eq_true]
      rw [hsplit] at hc
      rcases List.mem_append.mp hc with hc | hc
      · exact ⟨_, hc, beq_self_eq_true _⟩
      · exfalso
        have h3 := hr _ hc
        have hp := (between (st m.2.1) t).mp ⟨by rw [← hk]; exact hle, h3⟩
        rw [← hk] at hp
        rw [List.isPrefixOf_iff_prefix.mpr hp] at hx
        cases hx
/-- the names behind each other, each behind its mark -/
noncomputable def body (ns : List (List Nat)) : List Nat := ns.flatMap (fun x => 47 :: x)
theorem body_cons (x : List Nat) (ns : List (List Nat)) : body (x :: ns) = 47 :: (x ++ body ns) := by simp [body]
theorem body_snoc47 (ns : List (List Nat)) : ∃ u, body ns ++ [47] = 47 :: u := by
  cases ns with
  | nil => exact ⟨[], rfl⟩
  | cons x r => exact ⟨x ++ body r ++ [47], by rw [body_cons]; simp⟩
theorem cut47 : ∀ {x y u v : List Nat}, 47 ∉ x → 47 ∉ y → ((x ++ 47 :: u) <+: (y ++ 47 :: v) ↔ x = y ∧ u <+: v)
  | [], [], u, v, _, _ => by simp
  | [], b :: y, u, v, _, hy => by
    have : (47 : Nat) ≠ b := fun e => hy (e ▸ List.mem_cons_self)
    simp [this]
  | a :: x, [], u, v, hx, _ => by
    have : a ≠ 47 := fun e => hx (e ▸ List.mem_cons_self)
    simp [this]
  | a :: x, b :: y, u, v, hx, hy => by
    have ih := cut47 (x := x) (y := y) (u := u) (v := v) (fun h => hx (List.mem_cons_of_mem _ h)) (fun h => hy (List.mem_cons_of_mem _ h))
    rw [List.cons_append, List.cons_append, List.cons_prefix_cons, ih, List.cons.injEq, and_assoc]
/-- a folder's text with a mark behind begins a place's text exactly when its names begin the place's names -/
theorem body_prefix : ∀ {a b : List (List Nat)}, (∀ x ∈ a, 47 ∉ x) → (∀ x ∈ b, 47 ∉ x) → ((body a ++ [47]) <+: (body b ++ [47]) ↔ a <+: b)
  | [], b, _, _ => by
    first | refine ex1_1 (body_snoc47 b) fun u hu => ?_ | refine ex0_2 (body_snoc47 b) fun u hu => ?_ | obtain ⟨u, hu⟩ := body_snoc47 b
    rw [hu]; simp [body]
  | x :: a, [], _, _ => by
    rw [body_cons]
    first | refine ex1_1 (body_snoc47 a) fun u hu => ?_ | refine ex0_2 (body_snoc47 a) fun u hu => ?_ | obtain ⟨u, hu⟩ := body_snoc47 a
    constructor
    · intro h
      have := h.length_le
      simp [body] at this
    · intro h; simp at h
  | x :: a, y :: b, ha, hb => by
    have ih := body_prefix (a := a) (b := b) (fun z h => ha z (List.mem_cons_of_mem _ h)) (fun z h => hb z (List.mem_cons_of_mem _ h))
    rw [body_cons, body_cons, List.cons_append, List.cons_append, List.cons_prefix_cons, List.append_assoc, List.append_assoc, List.cons_prefix_cons]
    first | refine ex1_1 (body_snoc47 a) fun u hu => ?_ | refine ex0_2 (body_snoc47 a) fun u hu => ?_ | obtain ⟨u, hu⟩ := body_snoc47 a
    first | refine ex1_1 (body_snoc47 b) fun v hv => ?_ | refine ex0_2 (body_snoc47 b) fun v hv => ?_ | obtain ⟨v, hv⟩ := body_snoc47 b
    rw [hu, hv] at ih ⊢
    rw [cut47 (ha x (.head _)) (hb y (.head _)), ← ih, List.cons_prefix_cons]
    simp
theorem joinL_body : ∀ ns : List (List Nat), ns ≠ [] → 47 :: joinL [47] ns = body ns
  | [], h => absurd rfl h
  | [x], _ => by simp [joinL, body]
  | x :: y :: r, _ => by
    have := joinL_body (y :: r) (by simp)
    rw [body_cons, ← this, joinL]; simp
/-- a place, straightened: its names joined behind a mark -/
noncomputable def spotL (ns : List (List Nat)) : List Nat := 47 :: joinL [47] ns
theorem body_ne {ns : List (List Nat)} (h : ns ≠ []) (hx : ∀ x ∈ ns, x ≠ []) : body ns ≠ [47] := by
  cases ns with
  | nil => exact absurd rfl h
  | cons x r =>
    rw [body_cons]
    intro e
    have := (List.cons.inj e).2
    exact hx x (.head _) (List.append_eq_nil_iff.mp this).1
theorem stem_spot {ns : List (List Nat)} (hx : ∀ x ∈ ns, x ≠ []) : stemS (sOf (spotL ns)) = sOf (body ns) := by
  unfold stemS spotL
  by_cases h : ns = []
  · subst h; exact if_pos rfl
  · rw [joinL_body ns h, if_neg]
    intro e
    have e2 : body ns = [47] := by simpa using congrArg (fun s : Str => s.cps.toList) (show sOf (body ns) = sOf [47] from e)
    exact body_ne h hx e2
theorem spot_inj {a b : List (List Nat)} (ha : ∀ x ∈ a, x ≠ [] ∧ 47 ∉ x) (hb : ∀ x ∈ b, x ≠ [] ∧ 47 ∉ x) (h : spotL a = spotL b) : a = b := by
  have hs : ∀ ns : List (List Nat), (∀ x ∈ ns, x ≠ [] ∧ 47 ∉ x) → body ns = if spotL ns = [47] then [] else spotL ns := fun ns hn => by
    by_cases h : ns = []
    · subst h; rfl
    · have e : spotL ns = body ns := joinL_body ns h
      rw [e, if_neg (body_ne h fun x hx => (hn x hx).1)]
  have e : body a = body b := by rw [hs a ha, hs b hb, h]
  have h1 := (body_prefix (fun x hx => (ha x hx).2) fun x hx => (hb x hx).2).mp (by rw [e]; exact List.prefix_refl _)
  have h2 := (body_prefix (fun x hx => (hb x hx).2) fun x hx => (ha x hx).2).mp (by rw [e]; exact List.prefix_refl _)
  exact h1.eq_of_length (Nat.le_antisymm h1.length_le h2.length_le)
theorem splitL_mem {c : Nat} : ∀ {l x : List Nat}, x ∈ splitL c l → c ∉ x
  | [], x, h => by rw [List.mem_singleton.mp h]; simp
  | y :: r, x, h => by
    unfold splitL at h
    split at h
    · rcases List.mem_cons.mp h with rfl | h
      · simp
      · exact splitL_mem h
    · rename_i hy
      split at h
      · rename_i e; exact absurd e (splitL_ne c r)
      · rename_i hd tl e
        rcases List.mem_cons.mp h with rfl | h
        · have := splitL_mem (x := hd) (l := r) (c := c) (by rw [e]; exact .head _)
          intro hc
          rcases List.mem_cons.mp hc with e2 | hc
          · exact hy e2.symm
          · exact this hc
        · exact splitL_mem (x := x) (l := r) (c := c) (by rw [e]; exact .tail _ h)
theorem names_sub (cs : List (List Nat)) : ∀ x ∈ names cs, x ∈ cs := by
  suffices ∀ (cs acc : List (List Nat)), ∀ x ∈ cs.foldl step acc, x ∈ acc ∨ x ∈ cs from fun x hx => (this cs [] x hx).resolve_left (fun h => nomatch h)
  intro cs
  induction cs with
  | nil => intro acc x h; exact .inl h
  | cons c r ih =>
    intro acc x h
    rcases ih _ x h with h | h
    · unfold step at h
      split at h
      · exact .inl (List.dropLast_subset _ h)
      · split at h
        · exact .inl h
        · rcases List.mem_append.mp h with h | h
          · exact .inl h
          · exact .inr (by rw [List.mem_singleton.mp h]; exact .head _)
    · exact .inr (.tail _ h)
theorem names_ok (l : List Nat) : ∀ x ∈ names (splitL 47 l), x ≠ [] ∧ 47 ∉ x := fun x hx => ⟨(names_ne _ x hx).2.1, splitL_mem (names_sub _ x hx)⟩
/-- two strictly sorted lists with the same members are the same -/
theorem eq_of_strict {α : Type} {R : α → α → Prop} (hi : ∀ x, ¬ R x x) (ht : ∀ x y z, R x y → R y z → R x z) : ∀ {a b : List α}, a.Pairwise R → b.Pairwise R → (∀ x, x ∈ a ↔ x ∈ b) → a = b
  | [], [], _, _, _ => rfl
  | [], y :: b, _, _, h => nomatch (h y).mpr (.head _)
  | x :: a, [], _, _, h => nomatch (h x).mp (.head _)
  | x :: a, y :: b, ha, hb, h => by
    first | refine ex1_1 (List.pairwise_cons.mp ha) fun ha1 ha2 => ?_ | refine ex0_2 (List.pairwise_cons.mp ha) fun ha1 ha2 => ?_ | obtain ⟨ha1, ha2⟩ := List.pairwise_cons.mp ha
    first | refine ex1_1 (List.pairwise_cons.mp hb) fun hb1 hb2 => ?_ | refine ex0_2 (List.pairwise_cons.mp hb) fun hb1 hb2 => ?_ | obtain ⟨hb1, hb2⟩ := List.pairwise_cons.mp hb
    have e : x = y := by
      rcases List.mem_cons.mp ((h x).mp (.head _)) with e | hx
      · exact e
      · rcases List.mem_cons.mp ((h y).mpr (.head _)) with e | hy
        · exact e.symm
        · exact absurd (ht _ _ _ (ha1 y hy) (hb1 x hx)) (hi x)
    subst e
    rw [eq_of_strict hi ht ha2 hb2 fun z => ?_]
    constructor
    · intro hz
      rcases List.mem_cons.mp ((h z).mp (.tail _ hz)) with rfl | hz2
      · exact absurd (ha1 _ hz) (hi _)
      · exact hz2
    · intro hz
      rcases List.mem_cons.mp ((h z).mpr (.tail _ hz)) with rfl | hz2
      · exact absurd (hb1 _ hz) (hi _)
      · exact hz2
/-- a proper beginning stands before -/
theorem lt_of_prefix : ∀ {a b : List Nat}, a <+: b → a ≠ b → a < b
  | [], [], _, h => absurd rfl h
  | [], y :: b, _, _ => List.nil_lt_cons _ _
  | x :: a, [], h, _ => by simp at h
  | x :: a, y :: b, h, hne => by
    rw [List.cons_prefix_cons] at h
    obtain ⟨rfl, h⟩ := h
    exact cons_lt.mpr (.inr ⟨rfl, lt_of_prefix h fun e => hne (by rw [e])⟩)
/-- a row of names that stand in a straightened place -/
noncomputable def okN (ns : List (List Nat)) : Prop := ∀ x ∈ ns, x ≠ [] ∧ 47 ∉ x
theorem okN_take {ns : List (List Nat)} (h : okN ns) (k : Nat) : okN (ns.take k) := fun x hx => h x (List.mem_of_mem_take hx)
theorem okN_pre {a b : List (List Nat)} (h : okN b) (hp : a <+: b) : okN a := fun x hx => h x (hp.subset hx)
noncomputable def stL (l : List Nat) : List Nat := if l = [47] then [] else l
theorem stL_spot {ns : List (List Nat)} (h : okN ns) : stL (spotL ns) = body ns := by
  have e := stem_spot (fun x hx => (h x hx).1) (ns := ns)
  unfold stemS at e
  unfold stL
  by_cases h2 : spotL ns = [47]
  · rw [if_pos h2]
    rw [h2, if_pos (show sOf [47] = Str.ofString "/" from rfl)] at e
    have := congrArg (fun s : Str => s.cps.toList) (show sOf [] = sOf (body ns) from e)
    simpa using this
  · rw [if_neg h2]
    rw [if_neg (fun q => h2 (by simpa using congrArg (fun s : Str => s.cps.toList) (show sOf (spotL ns) = sOf [47] from q)))] at e
    have := congrArg (fun s : Str => s.cps.toList) e
    simpa using this
theorem body_app (a b : List (List Nat)) : body (a ++ b) = body a ++ body b := by simp [body]
theorem body_len2 : ∀ {b : List (List Nat)}, okN b → 2 * b.length ≤ (body b).length
  | [], _ => by simp [body]
  | x :: r, h => by
    have h1 := body_len2 (b := r) fun y hy => h y (.tail _ hy)
    have h2 : 0 < x.length := List.length_pos_iff.mpr (h x (.head _)).1
    rw [body_cons]; simp only [List.length_cons, List.length_append]; (walk_at "om")
theorem spotL_len {ns : List (List Nat)} (h : okN ns) : (spotL ns).length = max 1 (body ns).length := by
  by_cases e : ns = []
  · subst e; rfl
  · rw [show spotL ns = body ns from joinL_body ns e]
    have : 0 < ns.length := List.length_pos_iff.mpr e
    exact (Nat.max_eq_right (Nat.le_trans (Nat.le_trans this (Nat.le_mul_of_pos_left _ (by decide))) (body_len2 h))).symm
/-- a proper beginning has a shorter text -/
theorem spot_shorter {a b : List (List Nat)} (hb : okN b) (hp : a <+: b) (hne : a ≠ b) : (spotL a).length < (spotL b).length := by
  have ha := okN_pre hb hp
  rw [spotL_len ha, spotL_len hb]
  first | refine ex1_1 hp fun c e90 => ?_ | refine ex0_2 hp fun c e90 => ?_ | obtain ⟨c, e90⟩ := hp
  subst e90
  try clear hp
  have hc : c ≠ [] := by rintro rfl; exact hne (by simp)
  have h1 : okN c := fun x hx => hb x (List.mem_append_right _ hx)
  have h2 := body_len2 h1
  have : 0 < c.length := List.length_pos_iff.mpr hc
  rw [body_app, List.length_append]; (walk_at "om")
/-- the beginnings of a row of names -/
noncomputable def pres (N : List (List Nat)) : List (List (List Nat)) := (List.range (N.length + 1)).map N.take
theorem mem_pres {N a : List (List Nat)} : a ∈ pres N ↔ a <+: N := by
  unfold pres
  rw [List.mem_map]
  constructor
  · rintro ⟨k, _, rfl⟩; exact List.take_prefix _ _
  · intro h
    exact ⟨a.length, List.mem_range.mpr (by have := h.length_le; (walk_at "om")), (List.prefix_iff_eq_take.mp h).symm⟩
theorem pres_lt (N : List (List Nat)) : (pres N).Pairwise (fun a b => a <+: b ∧ a ≠ b) := by
  unfold pres
  rw [List.pairwise_map]
  refine List.Pairwise.imp_of_mem ?_ (List.pairwise_lt_range (n := N.length + 1))
  intro i j hi hj hij
  have hi := List.mem_range.mp hi
  have hj := List.mem_range.mp hj
  refine ⟨?_, fun e => ?_⟩
  · have : N.take i = (N.take j).take i := by rw [List.take_take, Nat.min_eq_left (by (walk_at "om"))]
    rw [this]; exact List.take_prefix _ _
  · have := congrArg List.length e
    rw [List.length_take, List.length_take, Nat.min_eq_left (Nat.le_of_lt_succ hi), Nat.min_eq_left (Nat.le_of_lt_succ hj)] at this
    exact Nat.ne_of_lt hij this
noncomputable def dueF (F : List (List (List Nat))) (N : List (List Nat)) : List (List Nat) := ((pres N).filter (fun a => decide (a ∈ F))).map spotL
theorem mem_dueF {F : List (List (List Nat))} {N : List (List Nat)} {t : List Nat} : t ∈ dueF F N ↔ ∃ f ∈ F, f <+: N ∧ spotL f = t := by
  unfold dueF
  rw [List.mem_map]
  constructor
  · rintro ⟨f, hf, rfl⟩
    rw [List.mem_filter, mem_pres] at hf
    exact ⟨f, of_decide_eq_true hf.2, hf.1, rfl⟩
  · rintro ⟨f, hf, hp, rfl⟩
    exact ⟨f, List.mem_filter.mpr ⟨mem_pres.mpr hp, decide_eq_true hf⟩, rfl⟩
theorem dueF_len {F : List (List (List Nat))} {N : List (List Nat)} (hN : okN N) : (dueF F N).Pairwise (fun a b => a.length < b.length) := by
  unfold dueF
  rw [List.pairwise_map]
  refine List.Pairwise.imp_of_mem ?_ ((pres_lt N).filter _)
  intro a b _ hb h
  exact spot_shorter (okN_pre hN (mem_pres.mp (List.mem_filter.mp hb).1)) h.1 h.2
theorem nodup_map_spot {F : List (List (List Nat))} (hF : ∀ f ∈ F, okN f) (h : F.Nodup) : (F.map spotL).Nodup := by
  unfold List.Nodup
  rw [List.pairwise_map]
  refine List.Pairwise.imp_of_mem ?_ h
  intro a b ha hb hne e
  exact hne (spot_inj (hF a ha) (hF b hb) e)
/-- the folders that are beginnings, put in order by length, are the due ones -/
theorem by_len {F : List (List (List Nat))} {N : List (List Nat)} (hF : ∀ f ∈ F, okN f) (hn : F.Nodup) (hN : okN N) {p : List (List Nat) → Bool} (hp : ∀ f ∈ F, p f = true ↔ f <+: N)
    {L : List (List Nat)} (hL : L.Perm ((F.filter p).map spotL)) (hs : L.Pairwise (fun a b => a.length ≤ b.length)) : L = dueF F N := by
  have hmem : ∀ t, t ∈ L ↔ ∃ f ∈ F, f <+: N ∧ spotL f = t := fun t => by
    rw [hL.mem_iff, List.mem_map]
    constructor
    · rintro ⟨f, hf, rfl⟩
      have hf := List.mem_filter.mp hf
      exact ⟨f, hf.1, (hp f hf.1).mp hf.2, rfl⟩
    · rintro ⟨f, hf, h, rfl⟩
      exact ⟨f, List.mem_filter.mpr ⟨hf, (hp f hf).mpr h⟩, rfl⟩
  have hnd : L.Nodup := by
    rw [hL.nodup_iff]
    exact nodup_map_spot (fun f hf => hF f (List.mem_filter.mp hf).1) (hn.filter _)
  refine eq_of_strict (R := fun a b : List Nat => a.length < b.length) (fun x => Nat.lt_irrefl _) (fun x y z => Nat.lt_trans) ?_ (dueF_len hN) fun t => by rw [hmem, mem_dueF]
  refine List.Pairwise.imp_of_mem ?_ (hs.and hnd)
  intro a b ha hb q9
  first | refine ex1_1 q9 fun hle hne => ?_ | refine ex0_2 q9 fun hle hne => ?_ | obtain ⟨hle, hne⟩ := q9
  try clear q9
  first | refine ex2_2 ((hmem a).mp ha) fun f hf hfp e90 => ?_ | refine ex1_3 ((hmem a).mp ha) fun f hf hfp e90 => ?_ | obtain ⟨f, hf, hfp, e90⟩ := (hmem a).mp ha
  subst e90
  first | refine ex2_2 ((hmem b).mp hb) fun g hg hgp e90 => ?_ | refine ex1_3 ((hmem b).mp hb) fun g hg hgp e90 => ?_ | obtain ⟨g, hg, hgp, e90⟩ := (hmem b).mp hb
  subst e90
  rcases Nat.lt_or_ge f.length g.length with h | h
  · exact spot_shorter (hF g hg) (List.prefix_of_prefix_length_le hfp hgp (Nat.le_of_lt h)) (by rintro rfl; exact Nat.lt_irrefl _ h)
  · exfalso
    have hgf := List.prefix_of_prefix_length_le hgp hfp h
    have := spot_shorter (hF f hf) hgf (by rintro rfl; exact hne rfl)
    (walk_at "om")
noncomputable def openM (f : List (List Nat)) : Mark := (body f ++ [47], spotL f, true)
noncomputable def closeM (f : List (List Nat)) : Mark := (body f ++ [48], spotL f, false)
noncomputable def marksF (F : List (List (List Nat))) : List Mark := F.map openM ++ F.map closeM
theorem mem_marks {F : List (List (List Nat))} {m : Mark} : m ∈ marksF F ↔ ∃ f ∈ F, m = openM f ∨ m = closeM f := by
  unfold marksF
  rw [List.mem_append, List.mem_map, List.mem_map]
  constructor
  · rintro (⟨f, hf, rfl⟩ | ⟨f, hf, rfl⟩)
    · exact ⟨f, hf, .inl rfl⟩
    · exact ⟨f, hf, .inr rfl⟩
  · rintro ⟨f, hf, rfl | rfl⟩
    · exact .inl ⟨f, hf, rfl⟩
    · exact .inr ⟨f, hf, rfl⟩
theorem body_inj {a b : List (List Nat)} (ha : okN a) (hb : okN b) (h : body a = body b) : a = b := by
  have h1 := (body_prefix (fun x hx => (ha x hx).2) fun x hx => (hb x hx).2).mp (by rw [h]; exact List.prefix_refl _)
  have h2 := (body_prefix (fun x hx => (hb x hx).2) fun x hx => (ha x hx).2).mp (by rw [h]; exact List.prefix_refl _)
  exact h1.eq_of_length (Nat.le_antisymm h1.length_le h2.length_le)
/-- no two marks have one key -/
theorem marks_keys {F : List (List (List Nat))} (hF : ∀ f ∈ F, okN f) (hn : F.Nodup) : (marksF F).Pairwise (fun a b => a.1 ≠ b.1) := by
  unfold marksF
  rw [List.pairwise_append, List.pairwise_map, List.pairwise_map]
  refine ⟨List.Pairwise.imp_of_mem ?_ hn, List.Pairwise.imp_of_mem ?_ hn, ?_⟩
  · intro a b ha hb hne e
    exact hne (body_inj (hF a ha) (hF b hb) (snoc_inj e).1)
  · intro a b ha hb hne e
    exact hne (body_inj (hF a ha) (hF b hb) (snoc_inj e).1)
  · intro a ha b hb e
    first | refine ex2_1 (List.mem_map.mp ha) fun f _ e90 => ?_ | refine ex1_2 (List.mem_map.mp ha) fun f _ e90 => ?_ | refine ex0_3 (List.mem_map.mp ha) fun f _ e90 => ?_ | obtain ⟨f, _, e90⟩ := List.mem_map.mp ha
    subst e90
    first | refine ex2_1 (List.mem_map.mp hb) fun g _ e90 => ?_ | refine ex1_2 (List.mem_map.mp hb) fun g _ e90 => ?_ | refine ex0_3 (List.mem_map.mp hb) fun g _ e90 => ?_ | obtain ⟨g, _, e90⟩ := List.mem_map.mp hb
    subst e90
    exact absurd (snoc_inj e).2 (by decide)
section
variable {F : List (List (List Nat))} {ms : List Mark}
theorem pile_marks (hF : ∀ f ∈ F, okN f) (hp : ms.Perm (marksF F)) (hs : ms.Pairwise (fun a b => a.1 < b.1)) (t : List Nat) :
    pileF ms t = some ((ms.filter (fun m => m.2.2 && m.1.isPrefixOf t)).map (·.2.1)) := by
  have hm : ∀ m, m ∈ ms ↔ ∃ f ∈ F, m = openM f ∨ m = closeM f := fun m => by rw [hp.mem_iff, mem_marks]
  refine pile_due (st := stL) hs ?_ ?_ ?_ ?_ t
  · intro m h ho
    obtain ⟨f, hf, rfl | rfl⟩ := (hm m).mp h
    · show body f ++ [47] = stL (spotL f) ++ [47]; rw [stL_spot (hF f hf)]
    · cases ho
  · intro m h ho
    obtain ⟨f, hf, rfl | rfl⟩ := (hm m).mp h
    · cases ho
    · show body f ++ [48] = stL (spotL f) ++ [48]; rw [stL_spot (hF f hf)]
  · intro m h
    obtain ⟨f, hf, rfl | rfl⟩ := (hm m).mp h
    · exact (hm _).mpr ⟨f, hf, .inl (by simp [openM])⟩
    · exact (hm _).mpr ⟨f, hf, .inl (by simp [openM, closeM])⟩
  · intro m h _
    obtain ⟨f, hf, rfl | rfl⟩ := (hm m).mp h
    · exact (hm _).mpr ⟨f, hf, .inr (by show (stL (spotL f) ++ [48], spotL f, false) = _; rw [stL_spot (hF f hf)]; rfl)⟩
    · exact (hm _).mpr ⟨f, hf, .inr (by show (stL (spotL f) ++ [48], spotL f, false) = _; rw [stL_spot (hF f hf)]; rfl)⟩
theorem pile_is_due (hF : ∀ f ∈ F, okN f) (hp : ms.Perm (marksF F)) (hs : ms.Pairwise (fun a b => a.1 < b.1)) {N : List (List Nat)} (hN : okN N) :
    pileF ms (body N ++ [47]) = some (dueF F N) := by
  have hm : ∀ m, m ∈ ms ↔ ∃ f ∈ F, m = openM f ∨ m = closeM f := fun m => by rw [hp.mem_iff, mem_marks]
  have hpre : ∀ f ∈ F, (body f ++ [47]).isPrefixOf (body N ++ [47]) = true ↔ f <+: N := fun f hf => by
    rw [List.isPrefixOf_iff_prefix]; exact body_prefix (fun x hx => (hF f hf x hx).2) fun x hx => (hN x hx).2
  rw [pile_marks hF hp hs]
  congr 1
  have key : ∀ m ∈ ms.filter (fun m => m.2.2 && m.1.isPrefixOf (body N ++ [47])), ∃ f ∈ F, m = openM f ∧ f <+: N := fun m h => by
    have h := List.mem_filter.mp h
    obtain ⟨f, hf, rfl | rfl⟩ := (hm m).mp h.1
    · exact ⟨f, hf, rfl, (hpre f hf).mp (by simpa [openM] using h.2)⟩
    · simp [closeM] at h
  refine eq_of_strict (R := fun a b : List Nat => stL a ++ [47] < stL b ++ [47]) (fun x => lt_ir) (fun x y z => lt_tr) ?_ ?_ fun t => ?_
  · rw [List.pairwise_map]
    refine List.Pairwise.imp_of_mem ?_ (hs.filter _)
    intro a b ha hb h
    first | refine ex2_2 (key a ha) fun f hf e90 _ => ?_ | refine ex1_3 (key a ha) fun f hf e90 _ => ?_ | obtain ⟨f, hf, e90, _⟩ := key a ha
    subst e90
    first | refine ex2_2 (key b hb) fun g hg e90 _ => ?_ | refine ex1_3 (key b hb) fun g hg e90 _ => ?_ | obtain ⟨g, hg, e90, _⟩ := key b hb
    subst e90
    show stL (spotL f) ++ [47] < stL (spotL g) ++ [47]
    rw [stL_spot (hF f hf), stL_spot (hF g hg)]; exact h
  · unfold dueF
    rw [List.pairwise_map]
    refine List.Pairwise.imp_of_mem ?_ ((pres_lt N).filter _)
    intro a b ha hb h
    have hbN := okN_pre hN (mem_pres.mp (List.mem_filter.mp hb).1)
    have haN := okN_pre hbN h.1
    rw [stL_spot haN, stL_spot hbN]
    refine lt_of_prefix ((body_prefix (fun x hx => (haN x hx).2) fun x hx => (hbN x hx).2).mpr h.1) fun e => h.2 (body_inj haN hbN (snoc_inj e).1)
  · rw [mem_dueF, List.mem_map]
    constructor
    · rintro ⟨m, h, rfl⟩
      first | refine ex2_2 (key m h) fun f hf e90 hp => ?_ | refine ex1_3 (key m h) fun f hf e90 hp => ?_ | obtain ⟨f, hf, e90, hp⟩ := key m h
      subst e90
      exact ⟨f, hf, hp, rfl⟩
    · rintro ⟨f, hf, h, rfl⟩
      exact ⟨openM f, List.mem_filter.mpr ⟨(hm _).mpr ⟨f, hf, .inl rfl⟩, by rw [Bool.and_eq_true]; exact ⟨rfl, (hpre f hf).mpr h⟩⟩, rfl⟩
theorem pile_end (hF : ∀ f ∈ F, okN f) (hp : ms.Perm (marksF F)) (hs : ms.Pairwise (fun a b => a.1 < b.1)) : pileF ms [48] = some [] := by
  have hm : ∀ m, m ∈ ms ↔ ∃ f ∈ F, m = openM f ∨ m = closeM f := fun m => by rw [hp.mem_iff, mem_marks]
  rw [pile_marks hF hp hs]
  congr 1
  rw [List.map_eq_nil_iff, List.filter_eq_nil_iff]
  intro m h
  obtain ⟨f, hf, rfl | rfl⟩ := (hm m).mp h
  · first | refine ex1_1 (body_snoc47 f) fun u hu => ?_ | refine ex0_2 (body_snoc47 f) fun u hu => ?_ | obtain ⟨u, hu⟩ := body_snoc47 f
    simp [openM, hu]
  · simp [closeM]
end
/-- what the names of two rows have in common at their beginning -/
noncomputable def lcp : List (List Nat) → List (List Nat) → List (List Nat)
  | x :: a, y :: b => if x = y then x :: lcp a b else []
  | _, _ => []
theorem lcp_eq : ∀ {a b : List (List Nat)}, lcp a b = a ↔ a <+: b
  | [], b => by simp [lcp]
  | x :: a, [] => by simp [lcp]
  | x :: a, y :: b => by
    have ih := lcp_eq (a := a) (b := b)
    unfold lcp
    by_cases h : x = y
    · subst h; simp [ih]
    · simp [h]
theorem lcp_comm : ∀ a b : List (List Nat), lcp a b = lcp b a
  | [], [] => rfl
  | [], _ :: _ => rfl
  | _ :: _, [] => rfl
  | x :: a, y :: b => by
    unfold lcp
    by_cases h : x = y
    · subst h; simp [lcp_comm a b]
    · simp [h, Ne.symm h]
theorem lcp_pre : ∀ a b : List (List Nat), lcp a b <+: a
  | [], b => by simp [lcp]
  | x :: a, [] => by simp [lcp]
  | x :: a, y :: b => by
    unfold lcp
    split
    · rw [List.cons_prefix_cons]; exact ⟨rfl, lcp_pre a b⟩
    · exact List.nil_prefix
theorem common_is {f N : List (List Nat)} (hf : okN f) : spotL (lcp f N) = spotL f ↔ f <+: N := by
  rw [← lcp_eq]
  constructor
  · intro h; exact spot_inj (okN_pre hf (lcp_pre f N)) hf h
  · intro h; rw [h]
section
variable {prog : Program} {w : World} {A : Around} {E : Value → Shared → Prop} {s : Shared} {h₀ : Heap} {L : Addr} {m : Str → Option Value} {news : List (Addr × Obj)}
theorem min_N {D b1 b2 : Addr} {w1 w2 : List Value} {l1 l2 nn : Nat} {ns ms : List (List Nat)} {Q : Value → Shared → Prop} (F : Fr h₀ L s.heap m) (N : News h₀ L s.heap news) (hh : A.handled = none)
    (h1 : (D, PySem.W.listOf [Value.ref b1, Value.ref b2].toArray nn) ∈ news) (h2 : (b1, PySem.W.listOf w1.toArray l1) ∈ news) (h3 : (b2, PySem.W.listOf w2.toArray l2) ∈ news) (hs1 : SAre w1 ns) (hs2 : SAre w2 ms) (hu : A.units + 1 < cLine)
    (h : ∀ h' tk, Fr h₀ L h' m → News h₀ L h' news → Q (.ref (if ltP ms ns = true then b2 else b1)) { s with heap := h', toks := tk }) : wpAny (model prog w) A (call (.builtin "min") [.ref D]) Q E s :=
  best_two false (ltP ms ns) hh (N _ h1).1 (fun s' Q E hk hq => rich_lt hs2 hs1 (hk _ _ (N _ h3).1) (hk _ _ (N _ h2).1) hu hq) fun h' tk hk => by
    have := h h' tk (F.after hk) (News.keepsAll N hk)
    cases e : ltP ms ns <;> simpa [e] using this
theorem max_N {D b1 b2 : Addr} {w1 w2 : List Value} {l1 l2 nn : Nat} {ns ms : List (List Nat)} {Q : Value → Shared → Prop} (F : Fr h₀ L s.heap m) (N : News h₀ L s.heap news) (hh : A.handled = none)
    (h1 : (D, PySem.W.listOf [Value.ref b1, Value.ref b2].toArray nn) ∈ news) (h2 : (b1, PySem.W.listOf w1.toArray l1) ∈ news) (h3 : (b2, PySem.W.listOf w2.toArray l2) ∈ news) (hs1 : SAre w1 ns) (hs2 : SAre w2 ms) (hu : A.units + 1 < cLine)
    (h : ∀ h' tk, Fr h₀ L h' m → News h₀ L h' news → Q (.ref (if ltP ns ms = true then b2 else b1)) { s with heap := h', toks := tk }) : wpAny (model prog w) A (call (.builtin "max") [.ref D]) Q E s :=
  best_two true (ltP ns ms) hh (N _ h1).1 (fun s' Q E hk hq => rich_gt hs2 hs1 (hk _ _ (N _ h3).1) (hk _ _ (N _ h2).1) hu hq) fun h' tk hk => by
    have := h h' tk (F.after hk) (News.keepsAll N hk)
    cases e : ltP ns ms <;> simpa [e] using this
theorem ltP_not : ∀ {a b : List (List Nat)}, ltP a b = false → ltP b a = false → a = b
  | [], [], _, _ => rfl
  | [], _ :: _, h, _ => by simp [ltP] at h
  | _ :: _, [], _, h => by simp [ltP] at h
  | x :: a, y :: b, h1, h2 => by
    unfold ltP at h1 h2
    by_cases e : x = y
    · subst e
      rw [if_pos rfl] at h1 h2
      rw [ltP_not h1 h2]
    · rw [if_neg e] at h1
      rw [if_neg (Ne.symm e)] at h2
      exact absurd (List.le_antisymm (of_decide_eq_false h2) (of_decide_eq_false h1)) e
theorem ltP_asym : ∀ {a b : List (List Nat)}, ltP a b = true → ltP b a = false
  | [], [], h => by simp [ltP] at h
  | [], _ :: _, _ => rfl
  | _ :: _, [], h => by simp [ltP] at h
  | x :: a, y :: b, h => by
    unfold ltP at h ⊢
    by_cases e : x = y
    · subst e
      rw [if_pos rfl] at h ⊢
      exact ltP_asym h
    · rw [if_neg e] at h
      rw [if_neg (Ne.symm e)]
      exact decide_eq_false (List.lt_asymm (of_decide_eq_true h))
/-- the lesser row is not longer than the common part asks -/
theorem ltP_get : ∀ {a b : List (List Nat)} {i : Nat}, ltP b a = false → a.take i = b.take i → i < a.length → i < b.length
  | [], _, _, _, _, h => by simp at h
  | x :: a, [], i, h, _, _ => by simp [ltP] at h
  | x :: a, y :: b, 0, _, _, _ => by simp
  | x :: a, y :: b, i + 1, h, ht, hi => by
    simp only [List.take_succ_cons, List.cons.injEq] at ht
    obtain ⟨rfl, ht⟩ := ht
    unfold ltP at h
    rw [if_pos rfl] at h
    have := ltP_get h ht (by simpa using hi)
    simpa using this
theorem lcp_stop : ∀ {a b : List (List Nat)} {i : Nat} {x y : List Nat}, a.take i = b.take i → a[i]? = some x → b[i]? = some y → x ≠ y → lcp a b = a.take i
  | [], _, i, _, _, _, h, _, _ => by simp at h
  | _ :: _, [], i, _, _, _, _, h, _ => by simp at h
  | u :: a, v :: b, 0, x, y, _, h1, h2, hne => by
    simp at h1 h2
    subst h1 h2
    simp [lcp, hne]
  | u :: a, v :: b, i + 1, x, y, ht, h1, h2, hne => by
    simp only [List.take_succ_cons, List.cons.injEq] at ht
    obtain ⟨rfl, ht⟩ := ht
    simp only [List.getElem?_cons_succ] at h1 h2
    simp [lcp, lcp_stop ht h1 h2 hne]
theorem lcp_all {a b : List (List Nat)} (h : a = b.take a.length) : lcp a b = a := lcp_eq.mpr (by rw [h]; exact List.take_prefix _ _)
end
section
variable {prog : Program} {w : World} {A : Around} {E : Value → Shared → Prop} {s : Shared} {env : Env} {h₀ : Heap} {Q : Flow → Shared → Prop} {body : List Stmt}
noncomputable def EEnd (h₀ : Heap) (L : Addr) (news : List (Addr × Obj)) (J : (Str → Option Value) → Prop) (s s₄ : Shared) : Prop := ∃ h' tk m₂, s₄ = { s with heap := h', toks := tk } ∧ Fr h₀ L h' m₂ ∧ News h₀ L h' news ∧ J m₂
/-- a for over enumerate of a list, by an invariant over the frame -/
theorem enum_turns {elts : List Expr} {k : Nat} {pos : Pos} {l : Addr} {vs : List Value} {n : Nat} {m₀ : Str → Option Value} {news : List (Addr × Obj)}
    (hh : A.handled = none) (F : Fr h₀ env.locals s.heap m₀) (N : News h₀ env.locals s.heap news) (hm : (l, PySem.W.listOf vs.toArray n) ∈ news) (J : Nat → (Str → Option Value) → Prop) (h0 : J 0 m₀)
    (step : ∀ (i : Nat) (x : Value) (T : Addr) (t : Tok) (m₁ : Str → Option Value) (h₁ : Heap) (tk₁ : Nat) (own : List (Addr × Obj)), vs[i]? = some x → J i m₁ → Fr h₀ env.locals h₁ m₁ → News h₀ env.locals h₁ (own ++ news) → IsTup h₁ T #[.int i t, x] →
      wpAny (model prog w) A (assign (.Tuple elts k pos) env (.ref T)) (fun _ s₃ => wpAny (model prog w) A (execs body env)
        (fun f s₄ => match f with
          | .ret v => Q (.ret v) s₄
          | .brk => Q .next s₄
          | _ => EEnd h₀ env.locals (own ++ news) (J (i + 1)) s s₄) E s₃) E { s with heap := h₁, toks := tk₁ })
    (done : ∀ h tk m', J vs.length m' → Fr h₀ env.locals h m' → News h₀ env.locals h news → Q .next { s with heap := h, toks := tk }) :
    wpAny (model prog w) A (call (.type "enumerate") [.ref l]) (fun xv s₁ => wpAny (model prog w) A (pyIter xv) (fun it s₂ => TurnsAt prog w A h₀ env (.Tuple elts k pos) body Q E it s₂) E s₁) E s := by
  have at_ := N _ hm
  have hl : s.heap.IsList l vs.toArray := ⟨_, at_.1, rfl, n, rfl⟩
  have two : ∀ b : Addr, b < s.heap.objs.size → b ≠ s.heap.objs.size + 1 ∧ b ≠ s.heap.objs.size := fun b h => ⟨ktu_ne 1 h, Nat.ne_of_lt h⟩
  have l2 := two l (Heap.lt_size at_.1)
  have L2 := two env.locals F.ns.lt
  refine call_enumerate_list hl fun h' hE hI hsz hk => wpAny_pyIter_enum hE ?_
  have W := KTurns.ofWalksU (elts := elts) (k := k) (pos := pos) (WalksT.enumerate (prog := prog) (w := w) (A := A) hh (s.heap.objs.size + 1) s.heap.objs.size l (Nat.succ_ne_self _) l2.1 l2.2 vs.toArray).toU
  have hwr : ∀ p ∈ news, p.1 ∉ [s.heap.objs.size + 1, s.heap.objs.size] := fun p hp q => by
    have := two p.1 (Heap.lt_size (N p hp).1)
    rcases List.mem_cons.mp q with e | q
    · exact this.1 e
    · exact this.2 (List.mem_singleton.mp q)
  refine ⟨s.heap.objs.size + 1, _, _, _, _, _, _, m₀, news, fun i m n' => n' = news ∧ J i m, rfl, W, fun q => ?_, fun b q => ?_, hwr, ⟨⟨.none, hE⟩, hI, hl.at fun o e => hk l o e⟩, F.keeps hk, N.grown hk, ⟨rfl, h0⟩, ?_, ?_⟩
  · rcases List.mem_cons.mp q with e | q
    · exact L2.1 e
    rcases List.mem_cons.mp q with e | q
    · exact L2.2 e
    · exact at_.2.1 (List.mem_singleton.mp q).symm
  · rcases List.mem_cons.mp q with e | q
    · exact e ▸ ktu_new F (Nat.le_add_right _ _)
    · exact (List.mem_singleton.mp q) ▸ ktu_new F (Nat.le_refl _)
  · rintro i v m₁ news₁ h₁ tk₁ own hi ⟨T, vals, rfl, ⟨t, x, hx, rfl⟩, hT⟩ ⟨rfl, hJ⟩ _ _ _ _ _ F₁ N₁
    refine wpAny_mono (step i x T t m₁ h₁ tk₁ own (by simpa using hx) hJ F₁ N₁ hT) (fun _ s₃ h₃ => wpAny_mono h₃ (fun f s₄ h₄ => ?_) fun _ _ e => e) fun _ _ e => e
    cases f with
    | ret v => exact h₄
    | brk => exact h₄
    | cont =>
      first | refine ex4_3 h₄ fun h' tk m₂ e90 F₂ N₂ hJ₂ => ?_ | refine ex3_4 h₄ fun h' tk m₂ e90 F₂ N₂ hJ₂ => ?_ | refine ex2_5 h₄ fun h' tk m₂ e90 F₂ N₂ hJ₂ => ?_ | obtain ⟨h', tk, m₂, e90, F₂, N₂, hJ₂⟩ := h₄
      subst e90
      try clear h₄
      exact ⟨rfl, h', tk, m₂, _, rfl, F₂, N₂, hwr, rfl, hJ₂⟩
    | next =>
      first | refine ex4_3 h₄ fun h' tk m₂ e90 F₂ N₂ hJ₂ => ?_ | refine ex3_4 h₄ fun h' tk m₂ e90 F₂ N₂ hJ₂ => ?_ | refine ex2_5 h₄ fun h' tk m₂ e90 F₂ N₂ hJ₂ => ?_ | obtain ⟨h', tk, m₂, e90, F₂, N₂, hJ₂⟩ := h₄
      subst e90
      try clear h₄
      exact ⟨rfl, h', tk, m₂, _, rfl, F₂, N₂, hwr, rfl, hJ₂⟩
  · intro h' tk m' news' F' N' _ q9
    first | refine ex1_1 q9 fun e90 hJ => ?_ | refine ex0_2 q9 fun e90 hJ => ?_ | obtain ⟨e90, hJ⟩ := q9
    subst e90
    try clear q9
    exact done h' tk m' (by simpa using hJ) F' N'
end
theorem News.below {h₀ h : Heap} {L : Addr} {news : List (Addr × Obj)} (N : News h₀ L h news) : ∀ p ∈ news, p.1 < h.objs.size := fun p hp => Heap.lt_size (N p hp).1
theorem reg_j_22 : True := by
  (k_with "exec Try" => ((with_reducible show wpAny _ _ (exec (Stmt.Try _ (_ :: _) _ [] _) (envOfC _ _ _ _ _)) _ _ _); refine wpAny_Try_except (wpAny_noRaise ?_)))
  (k_with "call builtin:str.split" => (k_here; (with_reducible rename Fr _ _ _ _ => kF); (with_reducible rename News _ _ _ _ => kN); (have kz := News.below kN); refine splitN1 (hsz := ?hsz) kF kN rfl ?_; (case hsz => (rw [sizeLine_eq, sOf_len]; (walk_at "om"))); intro kl _ _ ke _ _; (rw [split_sOf] at ke); (have kS := strValues_are kl); (rw [ke] at kS)))
  trivial
theorem cell_of {h₀ h : Heap} {L c : Addr} {o : Obj} {v : Option Value} {news : List (Addr × Obj)} (N : News h₀ L h news) (hm : (c, o) ∈ news) (hd : o.data = .cell v) : h.IsCell c v := ⟨o, (N _ hm).1, hd⟩
theorem starts47t (z : List Nat) : Txt.startswith (sOf (47 :: z)) (sOf [47]) = true := by
  unfold Txt.startswith
  rw [StrLaws.subAt_eq]
  simp [sOf_len]
noncomputable def kept (ls : List (List Nat)) : List (List Nat) := ls.filter fun c => !c.isEmpty && c != [46]
theorem kept_take {ls : List (List Nat)} {i : Nat} {x : List Nat} (h : ls[i]? = some x) : kept (ls.take (i + 1)) = kept (ls.take i) ++ (if !x.isEmpty && x != [46] then [x] else []) := by
  unfold kept
  rw [List.take_add_one, h, List.filter_append]
  cases hp : (!x.isEmpty && x != [46]) <;> simp [hp]
theorem pick2 {h₀ h : Heap} {L b1 b2 : Addr} {w1 w2 : List Value} {l1 l2 : Nat} {ns ms : List (List Nat)} (h1 : SAre w1 ns) (h2 : SAre w2 ms)
    (n1 : h.get? b1 = some (PySem.W.listOf w1.toArray l1) ∧ b1 ≠ L ∧ h₀.get? b1 = none) (n2 : h.get? b2 = some (PySem.W.listOf w2.toArray l2) ∧ b2 ≠ L ∧ h₀.get? b2 = none) :
    ∃ c1 c2 u1 u2 r1 r2 p q, (if ltP ms ns = true then b2 else b1) = c1 ∧ (if ltP ns ms = true then b2 else b1) = c2 ∧
      (h.get? c1 = some (PySem.W.listOf u1.toArray r1) ∧ c1 ≠ L ∧ h₀.get? c1 = none) ∧ (h.get? c2 = some (PySem.W.listOf u2.toArray r2) ∧ c2 ≠ L ∧ h₀.get? c2 = none) ∧ SAre u1 p ∧ SAre u2 q ∧ ltP q p = false ∧ lcp p q = lcp ns ms ∧ q.length ≤ ns.length + ms.length ∧ p.length ≤ ns.length + ms.length := by
  cases e1 : ltP ms ns with
  | true =>
    have e2 := ltP_asym e1
    exact ⟨b2, b1, w2, w1, l2, l1, ms, ns, rfl, by simp [e2], n2, n1, h2, h1, e2, lcp_comm _ _, Nat.le_add_right _ _, Nat.le_add_left _ _⟩
  | false =>
    cases e2 : ltP ns ms with
    | true => exact ⟨b1, b2, w1, w2, l1, l2, ns, ms, rfl, by simp, n1, n2, h1, h2, e1, rfl, Nat.le_add_left _ _, Nat.le_add_right _ _⟩
    | false =>
      have e := ltP_not e1 e2
      subst e
      exact ⟨b1, b1, w1, w1, l1, l1, _, _, rfl, by simp, n1, n1, h1, h1, e1, rfl, Nat.le_add_left _ _, Nat.le_add_left _ _⟩
theorem news_two {h₀ h : Heap} {L c1 c2 : Addr} {o1 o2 : Obj} {news : List (Addr × Obj)} (h1 : h.get? c1 = some o1 ∧ c1 ≠ L ∧ h₀.get? c1 = none) (h2 : h.get? c2 = some o2 ∧ c2 ≠ L ∧ h₀.get? c2 = none) (N : News h₀ L h news) : News h₀ L h ((c1, o1) :: (c2, o2) :: news) := fun r hr => by
  rcases List.mem_cons.mp hr with rfl | hr
  · exact h1
  · rcases List.mem_cons.mp hr with rfl | hr
    · exact h2
    · exact N r hr
noncomputable def cpMap (cA : Addr) (m : Str → Option Value) : Str → Option Value := fun z => if z = Str.ofString "common" then some (.ref cA) else if z = Str.ofString "isabs" then some (.bool true) else m z
noncomputable def cpMid (h₀ : Heap) (L : Addr) (p q : List (List Nat)) (s : Shared) (f : Flow) (s' : Shared) : Prop :=
  f = .next ∧ ∃ h tk m cA u r o tt, s' = { s with heap := h, toks := tk } ∧ Fr h₀ L h (cpMap cA m) ∧ News h₀ L h [(cA, PySem.W.listOf u.toArray r), (L + 1, o)] ∧ o.data = Data.cell (some (.str (sOf [47]) tt)) ∧ SAre u (lcp p q)
noncomputable def cpJ (c1 c2 : Addr) (p q : List (List Nat)) (i : Nat) (m : Str → Option Value) : Prop :=
  m (Str.ofString "common") = some (.ref c1) ∧ m (Str.ofString "isabs") = some (.bool true) ∧ m (Str.ofString "s1") = some (.ref c1) ∧ m (Str.ofString "s2") = some (.ref c2) ∧ p.take i = q.take i
noncomputable def cpMap2 (c1 c2 : Addr) (m : Str → Option Value) : Str → Option Value := fun z => if z = Str.ofString "common" then some (.ref c1) else if z = Str.ofString "isabs" then some (.bool true) else if z = Str.ofString "s1" then some (.ref c1) else if z = Str.ofString "s2" then some (.ref c2) else m z
theorem cpJ_map {c1 c2 : Addr} {p q : List (List Nat)} {i : Nat} {m : Str → Option Value} (h : cpJ c1 c2 p q i m) : m = cpMap2 c1 c2 m := by
  funext z
  unfold cpMap2
  first | refine ex3_2 h fun h1 h2 h3 h4 _ => ?_ | refine ex2_3 h fun h1 h2 h3 h4 _ => ?_ | refine ex0_5 h fun h1 h2 h3 h4 _ => ?_ | obtain ⟨h1, h2, h3, h4, _⟩ := h
  try clear h
  split
  · rename_i e; rw [e, h1]
  · split
    · rename_i e; rw [e, h2]
    · split
      · rename_i e; rw [e, h3]
      · split
        · rename_i e; rw [e, h4]
        · rfl
theorem cpMap_self {cA : Addr} {m : Str → Option Value} (h1 : m (Str.ofString "common") = some (.ref cA)) (h2 : m (Str.ofString "isabs") = some (.bool true)) : m = cpMap cA m := by
  funext z
  unfold cpMap
  split
  · rename_i e; rw [e, h1]
  · split
    · rename_i e; rw [e, h2]
    · rfl
theorem cpFr {h₀ h : Heap} {L cA : Addr} {m : Str → Option Value} (F : Fr h₀ L h m) (h1 : m (Str.ofString "common") = some (.ref cA)) (h2 : m (Str.ofString "isabs") = some (.bool true)) : Fr h₀ L h (cpMap cA m) := by rw [← cpMap_self h1 h2]; exact F
theorem item_list {prog : Program} {w : World} {A : Around} {E : Value → Shared → Prop} {s : Shared} {h₀ : Heap} {L : Addr} {news : List (Addr × Obj)} {value slice : Expr} {a : Addr} {vs : List Value} {n : Nat} {x : Value} {i : Nat} {u : Tok} {Q : Value → Shared → Prop} (N : News h₀ L s.heap news) (ha : (a, PySem.W.listOf vs.toArray n) ∈ news) (hx : vs[i]? = some x) (hb : vs.length < 1000000) (h : Q x s)
    (hs : subscripted slice false (.ref a) (.int i u) = operate [.ref a, .int i u] (getItem (.ref a) (.int i u)) := by with_unfolding_all rfl) :
    wpAny (model prog w) A (subscriptTail value slice (.ref a) (.int i u)) Q E s := by
  have hL : s.heap.IsList a vs.toArray := News.isListX N ha
  have := (List.getElem?_eq_some_iff.mp hx).1
  exact tail_any hL.typeIs slot_list_getitem.lookup (wpAny_getItem_list hL (by (walk_at "om")) (by (walk_at "om")) (by simpa using hx) h) hs
theorem kept_len (x : List Nat) : (kept (splitL 47 (47 :: x))).length ≤ x.length + 2 := by
  have h1 : (kept (splitL 47 (47 :: x))).length ≤ (splitL 47 (47 :: x)).length := List.length_filter_le _ _
  have h2 := splitL_len (c := 47) (47 :: x)
  simp only [List.length_cons] at h2
  (walk_at "om")
theorem tot_filter (f : List Nat → Bool) : ∀ ls : List (List Nat), tot (ls.filter f) ≤ tot ls
  | [] => by simp
  | x :: r => by
    have := tot_filter f r
    rw [List.filter_cons, tot_cons]
    split
    · rw [tot_cons]; (walk_at "om")
    · (walk_at "om")
theorem tot_pre {a b : List (List Nat)} (h : a <+: b) : tot a ≤ tot b := by
  first | refine ex1_1 h fun c e90 => ?_ | refine ex0_2 h fun c e90 => ?_ | obtain ⟨c, e90⟩ := h
  subst e90
  try clear h
  rw [tot_append]; (walk_at "om")
theorem tot_lcp (x y : List Nat) : tot (lcp (kept (splitL 47 (47 :: x))) (kept (splitL 47 (47 :: y)))) ≤ x.length + 2 := by
  have h1 := tot_pre (lcp_pre (kept (splitL 47 (47 :: x))) (kept (splitL 47 (47 :: y))))
  have h2 := tot_filter (fun c => !c.isEmpty && c != [46]) (splitL 47 (47 :: x))
  have h3 := tot_splitL 47 (47 :: x)
  unfold kept at h1 ⊢
  simp only [List.length_cons] at h3
  (walk_at "om")
noncomputable abbrev SpE := Addr × List Value × Nat
noncomputable def spLed (c : List SpE) : List (Addr × Obj) := c.map fun e => (e.1, PySem.W.listOf e.2.1.toArray e.2.2)
noncomputable def spAcc (c : List SpE) : List Value := c.map fun e => .ref e.1
theorem commonpath {w : World} (x y : List Nat) (hx : x.length ≤ 900) (hy : y.length ≤ 900) (a : Addr) (n : Nat) (tx ty : Tok) : Fun w 8 203 [.ref a] (fun h => h.get? a = some (PySem.W.listOf [Value.str (sOf (47 :: x)) tx, Value.str (sOf (47 :: y)) ty].toArray n)) (fun _ v _ => ∃ t, v = .str (sOf (47 :: joinL [47] (lcp (kept (splitL 47 (47 :: x))) (kept (splitL 47 (47 :: y)))))) t) := by
  intro mean mg mb dp un fr gd hq0 gq0 dq0 tq0 oq0 Q E X T hpre hdp hun ret
  refine wpAny_call ?_
  refine' enterC (binds := [(Str.ofString "paths", .ref a)]) X T ?ho ⟨?hcd, ?h1, ?h2, ?h3⟩ ?hroom ?hnd ?hbind ?hkind ?_
  case ho => k_is
  case hcd => k_is
  case hroom => exact om18 hdp
  case hbind => exact BindsTo.of_eq rfl
  case hkind => exact rfl
  case hnd => decide +kernel
  case h1 => exact rfl
  case h2 => exact rfl
  case h3 => exact rfl
  intro L h₁ tk0 cells F N Y
  k_cells Y
  (try simp only [List.cons_append, List.nil_append] at N)
  dsimp only [BodyOf]
  walk_at "my steps"
  walk_at "my tidy"
  rename Fr _ _ _ _ => F1
  rename News _ _ _ _ => N1
  rename (_ = Data.cell (some (Value.str (sOf [46]) _))) => c1
  rename (_ = Data.cell (some (Value.str (sOf [47]) _))) => c2
  dsimp only [List.cons_append, List.nil_append] at N1
  have hsep := cell_of N1 (.tail _ (.tail _ (.head _))) c2
  have hcur := cell_of N1 (.tail _ (.head _)) c1
  refine assign_comp (cl := [(Str.ofString "sep", L + 1)]) (by rfl) ⟨by rfl, by decide, rfl, by decide⟩ (by decide) ?_
  walk_at "my steps"
  refine comp_tuple (σ := List SpE) (items := [Value.str (sOf (47 :: x)) tx, Value.str (sOf (47 :: y)) ty].toArray) rfl ⟨_, (N1 _ (.head _)).1, rfl, 0, rfl⟩ (by rw [sizeLine_eq]; simp) spLed spAcc (fun i c => c.length = i ∧ ∀ (j : Nat) (e : SpE), c[j]? = some e → ∃ z, [47 :: x, 47 :: y][j]? = some z ∧ SAre e.2.1 (splitL 47 z)) [] rfl rfl ⟨rfl, fun j e h => by simp at h⟩ ?_ ?_
  · intro C i v c u h tk own hv q9 hoff F₂ N₂
    first | refine ex1_1 q9 fun hcl hc => ?_ | refine ex0_2 q9 fun hcl hc => ?_ | obtain ⟨hcl, hc⟩ := q9
    try clear q9
    obtain ⟨z, tz, rfl, hz, hzl⟩ : ∃ z tz, v = Value.str (sOf z) tz ∧ [47 :: x, 47 :: y][i]? = some z ∧ z.length ≤ 901 := by
      match i, hv with
      | 0, hv => exact ⟨_, tx, by simpa using hv.symm, rfl, by simp; (walk_at "om")⟩
      | 1, hv => exact ⟨_, ty, by simpa using hv.symm, rfl, by simp; (walk_at "om")⟩
    refine tests_nil ?_
    simp only [if_true]
    walk_at "my steps"
    rename Fr _ _ _ _ => F9
    rename News _ _ _ _ => N9
    rename StrsAre _ _ => kS
    rename (∀ p ∈ spLed c ++ own, _ < _) => kz
    rename List (Str × Tok) => kl
    refine cend (c ++ [(h.objs.size, strValues kl, 0)]) F9 N9 ?_ (fun p hp => .tail _ (List.mem_append_right _ hp)) ?_ ⟨?_, ?_, ?_⟩
    · intro p hp
      rw [spLed, List.map_append] at hp
      rcases List.mem_append.mp hp with hp | hp
      · exact .tail _ (List.mem_append_left _ hp)
      · rw [List.mem_singleton.mp hp]; exact .head _
    · intro p hp b hb
      rw [spLed, List.map_append, List.map_append] at hb
      rcases List.mem_append.mp hb with hb | hb
      · exact hoff p hp b hb
      · rw [List.mem_singleton.mp hb]; exact Nat.ne_of_lt (kz p (List.mem_append_right _ hp))
    · simp [spAcc]
    · simp [hcl]
    · intro j e he
      rcases Nat.lt_or_ge j c.length with hj | hj
      · rw [List.getElem?_append_left hj] at he; exact hc j e he
      · rw [List.getElem?_append_right hj] at he
        have : j = c.length := by
          rcases Nat.eq_or_lt_of_le hj with h | h
          · exact h.symm
          · rw [List.getElem?_eq_none (by simp; (walk_at "om"))] at he; cases he
        subst this
        simp at he
        subst he
        exact ⟨z, by rw [hcl]; exact hz, kS⟩
  · intro h₂ D C c m h tk nn q9 F₂ N₂
    first | refine ex1_1 q9 fun hcl hc => ?_ | refine ex0_2 q9 fun hcl hc => ?_ | obtain ⟨hcl, hc⟩ := q9
    try clear q9
    have hcl2 : c.length = 2 := hcl
    obtain ⟨⟨a1, v1, n1⟩, ⟨a2, v2, n2⟩, rfl⟩ : ∃ e1 e2, c = [e1, e2] := by
      match c, hcl2 with
      | [e1, e2], _ => exact ⟨e1, e2, rfl⟩
    first | refine ex2_1 (hc 0 _ rfl) fun z1 e1 hS1 => ?_ | refine ex1_2 (hc 0 _ rfl) fun z1 e1 hS1 => ?_ | refine ex0_3 (hc 0 _ rfl) fun z1 e1 hS1 => ?_ | obtain ⟨z1, e1, hS1⟩ := hc 0 _ rfl
    first | refine ex2_1 (hc 1 _ rfl) fun z2 e2 hS2 => ?_ | refine ex1_2 (hc 1 _ rfl) fun z2 e2 hS2 => ?_ | refine ex0_3 (hc 1 _ rfl) fun z2 e2 hS2 => ?_ | obtain ⟨z2, e2, hS2⟩ := hc 1 _ rfl
    obtain rfl := Option.some.inj e1
    obtain rfl := Option.some.inj e2
    dsimp only at hS1 hS2
    dsimp only [spLed, spAcc, List.map] at N₂
    show wpAny _ _ (storeName (envOfC _ _ _ _ _) _ _) _ _ _
    dsimp only
    refine comp_store F1 N1 F₂ N₂ rfl rfl ?_
    intro h' F₃ N₃
    dsimp only [List.cons_append, List.nil_append] at N₃
    clear hc hcl hcl2 e1 e2 F₂ N₂
    walk_at "my steps"
    rename Fr _ _ _ _ => F4
    rename News _ _ _ _ => N4
    clear hsep
    have hsep := cell_of N4 (.tail _ (.tail _ (.tail _ (.tail _ (.tail _ (.head _)))))) c2
    refine eval_setcomp (cl := [(Str.ofString "sep", L + 1)]) rfl ⟨by rfl, by decide, rfl, by decide⟩ (by decide) ?_
    walk1
    refine ⟨_, [Value.str (sOf (47 :: x)) tx, Value.str (sOf (47 :: y)) ty].toArray, rfl, ⟨_, (N4 _ (.tail _ (.tail _ (.tail _ (.head _))))).1, rfl, 0, rfl⟩, by simp, ?_, ?_⟩
    · rintro C i v u h tk own hv F₂ N₂
      obtain ⟨z, tz, rfl⟩ : ∃ z tz, v = Value.str (sOf (47 :: z)) tz := by
        match i, hv with
        | 0, hv => exact ⟨x, tx, by simpa using hv.symm⟩
        | 1, hv => exact ⟨y, ty, by simpa using hv.symm⟩
      have hst := starts47t z
      walk_at "my steps"
      exact cend () (by assumption) (by assumption) (fun _ h => nomatch h) (fun p hp => hp) (fun p hp b hb => nomatch hb) trivial
    · intro D' C' m' h'' tk' ep F₂ N₂ h₃ hs₃
      first | refine ex1_1 (comp_value F4 N4 F₂ N₂ hs₃) fun F5 N5 => ?_ | refine ex0_2 (comp_value F4 N4 F₂ N₂ hs₃) fun F5 N5 => ?_ | obtain ⟨F5, N5⟩ := comp_value F4 N4 F₂ N₂ hs₃
      dsimp only [List.cons_append, List.nil_append] at N5
      clear F4 N4 F₂ N₂
      refine unpack_set rfl rfl (N5 _ (.head _)).1 ?_
      intro h₄ he
      have F6 := F5.extBut he (Nat.le_refl _)
      have N6 := N5.extBut he (Nat.le_refl _)
      clear F5 N5
      walk_at "my steps"
      walk_at "my tidy"
      rename Fr _ _ _ _ => F7
      rename News _ _ _ _ => N7
      clear hcur hsep
      have hcur := cell_of N7 (.tail _ (.tail _ (.tail _ (.tail _ (.tail _ (.head _)))))) c1
      refine assign_comp (cl := [(Str.ofString "curdir", L + 1 + 1)]) (by rfl) ⟨by rfl, by decide, rfl, by decide⟩ (by decide) ?_
      walk1
      refine comp_list (σ := List SpE) (items := [Value.ref a1, Value.ref a2].toArray) rfl ⟨_, (N7 _ (.tail _ (.head _))).1, rfl, nn, rfl⟩ (by rw [sizeLine_eq]; simp) spLed spAcc (fun i c => c.length = i ∧ ∀ (j : Nat) (e : SpE), c[j]? = some e → ∃ z, [47 :: x, 47 :: y][j]? = some z ∧ SAre e.2.1 (kept (splitL 47 z))) [] rfl rfl ⟨rfl, fun j e h => by simp at h⟩ ?_ ?_
      · intro C i v c u h tk own hv q9 hoff F₂ N₂
        first | refine ex1_1 q9 fun hcl hc => ?_ | refine ex0_2 q9 fun hcl hc => ?_ | obtain ⟨hcl, hc⟩ := q9
        try clear q9
        obtain ⟨z, vz, nz, az, rfl, hz, hSz, haz⟩ : ∃ z vz nz az, v = Value.ref az ∧ [47 :: x, 47 :: y][i]? = some z ∧ SAre vz (splitL 47 z) ∧ h.get? az = some (PySem.W.listOf vz.toArray nz) := by
          match i, hv with
          | 0, hv => exact ⟨_, v1, n1, a1, by simpa using hv.symm, rfl, hS1, F₂.keep _ _ (N7 _ (.tail _ (.tail _ (.head _)))).1⟩
          | 1, hv => exact ⟨_, v2, n2, a2, by simpa using hv.symm, rfl, hS2, F₂.keep _ _ (N7 _ (.tail _ (.tail _ (.tail _ (.head _))))).1⟩
        have hcurh := hcur.keeps F₂.keep
        refine tests_nil ?_
        simp only [if_true]
        refine eval_comp (cl := [(Str.ofString "curdir", L + 1 + 1)]) ⟨by rfl, by decide, rfl, by decide⟩ (by decide) ?_
        walk1
        rename Fr _ C _ _ => F₂
        have hzl : z.length ≤ 901 := by
          match i, hz with
          | 0, hz => rw [← Option.some.inj hz]; simp; (walk_at "om")
          | 1, hz => rw [← Option.some.inj hz]; simp; (walk_at "om")
        have hvzl : vz.length ≤ 1000 := by
          have h1 := StrsAre.length hSz
          have h2 := splitL_len (c := 47) z
          rw [List.length_map] at h1; (walk_at "om")
        refine comp_list (σ := List Value) (items := vz.toArray) rfl ⟨_, haz, rfl, nz, rfl⟩ (by rw [sizeLine_eq, List.size_toArray]; (walk_at "om")) (fun _ => []) id (fun i acc => SAre acc (kept ((splitL 47 z).take i))) [] rfl rfl StrsAre.nil ?_ ?_
        · rintro C2 i2 v2' c2' u2 h2 tk2 own2 hv2 hP2 hoff2 F₃ N₃
          obtain ⟨yy, t, rfl, hy⟩ := StrsAre.item hSz i2 v2' (by simpa using hv2)
          rw [List.getElem?_map, Option.map_eq_some_iff] at hy
          first | refine ex2_1 hy fun w' hw e90 => ?_ | refine ex1_2 hy fun w' hw e90 => ?_ | refine ex0_3 hy fun w' hw e90 => ?_ | obtain ⟨w', hw, e90⟩ := hy
          subst e90
          try clear hy
          have hwl : w'.length ≤ 1000 := Nat.le_trans (splitL_short (List.mem_of_getElem? hw)) (by (walk_at "om"))
          have hk := kept_take hw
          refine tests_one ?_
          clear hv2
          by_cases h0 : w' = []
          · subst h0
            walk_at "my steps"
            exact cend c2' (by assumption) (by assumption) (fun _ h => nomatch h) (fun p hp => hp) hoff2 ⟨rfl, by rw [hk]; simpa using hP2⟩
          by_cases h1 : w' = [46]
          · subst h1
            walk_at "my steps"
            exact cend c2' (by assumption) (by assumption) (fun _ h => nomatch h) (fun p hp => hp) hoff2 ⟨rfl, by rw [hk]; simpa using hP2⟩
          have g2 : (sOf w' != sOf [46]) = true := by simpa using h1
          obtain ⟨hd, tl, rfl⟩ : ∃ hd tl, w' = hd :: tl := List.exists_cons_of_ne_nil h0
          walk_at "my steps"
          refine cend (c2' ++ [_]) (by assumption) (by assumption) (fun _ h => nomatch h) (fun p hp => hp) hoff2 ⟨rfl, ?_⟩
          rw [hk, if_pos (by simpa using h1)]
          exact sare_snoc hP2
        · rintro h5 D5 C5 c5 m5 h6 tk6 nn5 hP5 F₃ N₃ h7 hs7
          first | refine ex1_1 (comp_value F₂ N₂ F₃ N₃ hs7) fun F8 N8 => ?_ | refine ex0_2 (comp_value F₂ N₂ F₃ N₃ hs7) fun F8 N8 => ?_ | obtain ⟨F8, N8⟩ := comp_value F₂ N₂ F₃ N₃ hs7
          dsimp only [List.cons_append, List.nil_append, id] at N8 hP5
          rw [List.size_toArray, show vz.length = (splitL 47 z).length from by have := StrsAre.length hSz; rwa [List.length_map] at this, List.take_length] at hP5
          have hD5 := (N₃ _ (.head _)).2.2
          refine cend (c ++ [(D5, c5, nn5)]) F8 N8 ?_ (fun p hp => .tail _ (List.mem_append_right _ hp)) ?_ ⟨?_, ?_, ?_⟩
          · intro p hp
            rw [spLed, List.map_append] at hp
            rcases List.mem_append.mp hp with hp | hp
            · exact .tail _ (List.mem_append_left _ hp)
            · rw [List.mem_singleton.mp hp]; exact .head _
          · intro p hp b hb
            rw [spLed, List.map_append, List.map_append] at hb
            rcases List.mem_append.mp hb with hb | hb
            · exact hoff p hp b hb
            · rw [List.mem_singleton.mp hb]
              intro e
              have h9 := (N₂ p (List.mem_append_right _ hp)).1
              dsimp only at hD5 e
              rw [e, hD5] at h9; cases h9
          · simp [spAcc]
          · simp [hcl]
          · intro j e he
            rcases Nat.lt_or_ge j c.length with hj | hj
            · rw [List.getElem?_append_left hj] at he; exact hc j e he
            · rw [List.getElem?_append_right hj] at he
              have : j = c.length := by
                rcases Nat.eq_or_lt_of_le hj with h | h
                · exact h.symm
                · rw [List.getElem?_eq_none (by simp; (walk_at "om"))] at he; cases he
              subst this
              simp at he
              subst he
              exact ⟨z, by rw [hcl]; exact hz, hP5⟩
      · intro h₂ D2 C c m h tk nn2 q9 F₂ N₂
        first | refine ex1_1 q9 fun hcl hc => ?_ | refine ex0_2 q9 fun hcl hc => ?_ | obtain ⟨hcl, hc⟩ := q9
        try clear q9
        have hcl2 : c.length = 2 := hcl
        obtain ⟨⟨b1, w1, l1⟩, ⟨b2, w2, l2⟩, rfl⟩ : ∃ e1 e2, c = [e1, e2] := by
          match c, hcl2 with
          | [e1, e2], _ => exact ⟨e1, e2, rfl⟩
        first | refine ex2_1 (hc 0 _ rfl) fun z1 e1 hK1 => ?_ | refine ex1_2 (hc 0 _ rfl) fun z1 e1 hK1 => ?_ | refine ex0_3 (hc 0 _ rfl) fun z1 e1 hK1 => ?_ | obtain ⟨z1, e1, hK1⟩ := hc 0 _ rfl
        first | refine ex2_1 (hc 1 _ rfl) fun z2 e2 hK2 => ?_ | refine ex1_2 (hc 1 _ rfl) fun z2 e2 hK2 => ?_ | refine ex0_3 (hc 1 _ rfl) fun z2 e2 hK2 => ?_ | obtain ⟨z2, e2, hK2⟩ := hc 1 _ rfl
        obtain rfl := Option.some.inj e1
        obtain rfl := Option.some.inj e2
        dsimp only at hK1 hK2
        dsimp only [spLed, spAcc, List.map] at N₂
        show wpAny _ _ (storeName (envOfC _ _ _ _ _) _ _) _ _ _
        dsimp only
        refine comp_store F7 N7 F₂ N₂ rfl rfl ?_
        intro h' F8 N8
        dsimp only [List.cons_append, List.nil_append] at N8
        clear hc hcl hcl2 e1 e2 F₂ N₂ F7 N7
        walk_at "my steps"
        walk_at "my tidy"
        rename Fr _ _ _ _ => F9
        rename News _ _ _ _ => N9
        obtain ⟨c1', c2', u1, u2, r1, r2, p, q, hc1, hc2, hm1, hm2, hp, hq, hle, hlcp, hql, hpl⟩ := pick2 (L := L) hK1 hK2 (N9 _ (.tail _ (.head _))) (N9 _ (.tail _ (.tail _ (.head _))))
        have N9a : News hq0 L _ ((c1', PySem.W.listOf u1.toArray r1) :: (c2', PySem.W.listOf u2.toArray r2) :: _) := news_two hm1 hm2 N9
        clear N9
        refine min_N F9 N9a rfl (.tail _ (.tail _ (.head _))) (.tail _ (.tail _ (.tail _ (.head _)))) (.tail _ (.tail _ (.tail _ (.tail _ (.head _))))) hK1 hK2 (by show un + _ + 1 < _; (walk_at "om")) ?_
        intro h9 tk9 F10 N10
        rw [hc1]
        walk_at "my steps"
        rename Fr _ _ _ _ => F11
        rename News _ _ _ _ => N11
        refine max_N F11 N11 rfl (.tail _ (.tail _ (.head _))) (.tail _ (.tail _ (.tail _ (.head _)))) (.tail _ (.tail _ (.tail _ (.tail _ (.head _))))) hK1 hK2 (by show un + _ + 1 < _; (walk_at "om")) ?_
        intro h10 tk10 F12 N12
        rw [hc2]
        walk_at "my steps"
        walk_at "my tidy"
        rename Fr _ _ _ _ => F13
        rename News _ _ _ _ => N13
        have hql1 : q.length ≤ 2000 := by have := kept_len x; have := kept_len y; (walk_at "om")
        have hpl1 : p.length ≤ 2000 := by have := kept_len x; have := kept_len y; (walk_at "om")
        have hul : u1.length = p.length := by have := StrsAre.length hp; rwa [List.length_map] at this
        have hu2l : u2.length = q.length := by have := StrsAre.length hq; rwa [List.length_map] at this
        refine wpAny_mono (Q := cpMid hq0 L p q ⟨hq0, gq0, dq0, tq0, oq0⟩) (E := fun _ _ => False) ?_ ?_ (fun _ _ e => e)
        · refine For_turns F13 ?_ (by intro _; rfl) PassesOwn.never
          walk1
          walk1
          walk1
          walk1
          walk1
          walk1
          refine' enum_turns (n := r1) (vs := u1) ?hh ?F ?N ?hm (cpJ c1' c2' p q) ?h0 ?step ?done
          case hh => rfl
          case F => exact F13
          case N => exact N13
          case hm => exact .head _
          case h0 => exact ⟨rfl, rfl, rfl, rfl, rfl⟩
          case step =>
            intro i xv T t m₁ h₁ tk₁ own hx hJ F₁ N₁ hT
            first | refine ex2_2 (StrsAre.item hp i xv hx) fun yy t' e90 hy => ?_ | refine ex1_3 (StrsAre.item hp i xv hx) fun yy t' e90 hy => ?_ | obtain ⟨yy, t', e90, hy⟩ := StrsAre.item hp i xv hx
            subst e90
            rw [List.getElem?_map, Option.map_eq_some_iff] at hy
            first | refine ex2_1 hy fun w1' hw e90 => ?_ | refine ex1_2 hy fun w1' hw e90 => ?_ | refine ex0_3 hy fun w1' hw e90 => ?_ | obtain ⟨w1', hw, e90⟩ := hy
            subst e90
            try clear hy
            have hip := (List.getElem?_eq_some_iff.mp hw).1
            have hiq := ltP_get hle hJ.2.2.2.2 hip
            obtain ⟨v2', hv2'⟩ : ∃ v, u2[i]? = some v := ⟨_, List.getElem?_eq_getElem (by (walk_at "om"))⟩
            first | refine ex2_2 (StrsAre.item hq i v2' hv2') fun yy t2' e90 hy => ?_ | refine ex1_3 (StrsAre.item hq i v2' hv2') fun yy t2' e90 hy => ?_ | obtain ⟨yy, t2', e90, hy⟩ := StrsAre.item hq i v2' hv2'
            subst e90
            rw [List.getElem?_map, Option.map_eq_some_iff] at hy
            first | refine ex2_1 hy fun w2' hw2 e90 => ?_ | refine ex1_2 hy fun w2' hw2 e90 => ?_ | refine ex0_3 hy fun w2' hw2 e90 => ?_ | obtain ⟨w2', hw2, e90⟩ := hy
            subst e90
            try clear hy
            have e := cpJ_map hJ
            rw [e] at F₁
            unfold cpMap2 at F₁
            clear e hc1 hc2 F13 N13
            walk_at "my steps"
            rename Fr _ _ _ _ => F14
            rename News _ _ _ _ => N14
            refine item_list N14 (List.mem_append_right own (.tail _ (.head _))) hv2' (by (walk_at "om")) ?_
            by_cases hww : w1' = w2'
            · have g1 : (sOf w1' != sOf w2') = false := by simpa using hww
              walk_at "my steps"
              rename Fr _ _ _ _ => F15
              rename News _ _ _ _ => N15
              refine ⟨_, _, _, rfl, F15, N15, rfl, rfl, rfl, rfl, ?_⟩
              rw [List.take_add_one, List.take_add_one, hJ.2.2.2.2, hw, hw2, hww]
            · have g1 : (sOf w1' != sOf w2') = true := by simpa using hww
              walk1
              walk1
              walk1
              walk1
              walk1
              walk1
              walk1
              walk1
              walk1
              walk1
              walk1
              walk1
              walk1
              rename Fr _ _ _ _ => F15
              rename News _ _ _ _ => N15
              refine kmk_slice (s := ⟨_, _, _, _, _⟩) F15 N15 (News.isListX N15 (List.mem_append_right own (.head _))) IsPart.none (IsPart.int (i : Int) t) ?_ (by with_unfolding_all rfl) (by intro _; with_unfolding_all rfl) (by rw [sizeLine_eq, List.size_toArray]; (walk_at "om"))
              intro D9 h9 F16 N16 _
              clear F15 N15
              rw [slicePick_upto', List.toList_toArray] at N16
              walk_at "my steps"
              rename Fr _ _ _ _ => F17
              rename News _ _ _ _ => N17
              refine ⟨rfl, _, _, _, D9, u1.take i, 0, _, _, rfl, cpFr F17 rfl rfl, fun r hr => ?_, c2, ?_⟩
              · rcases List.mem_cons.mp hr with rfl | hr
                · exact N17 _ (.head _)
                · rw [List.mem_singleton.mp hr]
                  exact N17 _ (.tail _ (List.mem_append_right own (.tail _ (.tail _ (.tail _ (.tail _ (.tail _ (.tail _ (.tail _ (.tail _ (.tail _ (.tail _ (.tail _ (.head _))))))))))))))
              · rw [lcp_stop hJ.2.2.2.2 hw hw2 hww, SAre, List.map_take]
                exact StrsAre.take' hp i
          case done =>
            intro h tk m' q9 F' N'
            first | refine ex3_2 q9 fun j1 j2 j3 j4 j5 => ?_ | refine ex2_3 q9 fun j1 j2 j3 j4 j5 => ?_ | refine ex0_5 q9 fun j1 j2 j3 j4 j5 => ?_ | obtain ⟨j1, j2, j3, j4, j5⟩ := q9
            try clear q9
            refine ⟨rfl, h, tk, m', c1', u1, r1, _, _, rfl, cpFr F' j1 j2, fun r hr => ?_, c2, ?_⟩
            · rcases List.mem_cons.mp hr with rfl | hr
              · exact N' _ (.head _)
              · rw [List.mem_singleton.mp hr]
                exact N' _ (.tail _ (.tail _ (.tail _ (.tail _ (.tail _ (.tail _ (.tail _ (.tail _ (.tail _ (.tail _ (.tail _ (.head _))))))))))))
            · rw [lcp_all (by rw [hul] at j5; rw [List.take_length] at j5; exact j5)]
              exact hp
        · rintro f s' ⟨rfl, h, tk, m', cA, u, r, oS, tS, rfl, F', N', hoS, hu⟩
          dsimp only
          have ht0 := tot_lcp x y
          rw [← hlcp] at ht0
          have ht : tot (lcp p q) ≤ 100000 := by (walk_at "om")
          have hjl := joinL_len (lcp p q)
          clear F13 N13 hp hq hS1 hS2 hK1 hK2
          walk_at "my steps"
          exact ret _ _ _ (Fr.keep (by assumption)) ⟨_, by rw [← hlcp]; rfl⟩
theorem reg_none_C33 : True := by
  k_with_none
  trivial
theorem reg_j_23 : True := by
  (k_with "call builtin:issubclass" => (k_here; (rename News _ _ _ _ => kN); refine isub _ _ _ _ _ _ ((kN _ (by k_mem)).1) ?_; intro _))
  (k_with "exec For" => (refine wpAny_For ?_ (by intro _; rfl)))
  (k_with "my steps" => repeat' (first | (k_unfold; (try dsimp only)) | ((fail_if_success (with_reducible show wpAny _ _ (exec (Stmt.While _ _ _ _) _) _ _ _)); (fail_if_success (with_reducible show wpAny _ _ (exec (Stmt.For _ _ _ _ _) _) _ _ _)); (fail_if_success (with_reducible show wpAny _ _ (exec (Stmt.Assign _ (Expr.ListComp _ _ _ _) _) _) _ _ _)); (fail_if_success (with_reducible show wpAny _ _ (eval (Expr.ListComp _ _ _ _) _) _ _ _)); walk1) | fail "no step"))
  (k_with "om" => (first | with_reducible assumption | with_unfolding_all exact Nat.le_of_ble_eq_true rfl | ((with_reducible apply om1); (focus with_reducible assumption); with_unfolding_all exact rfl) | ((with_reducible apply om3); (focus with_reducible assumption); with_unfolding_all exact rfl) | ((with_reducible apply om2); (focus with_reducible assumption); with_unfolding_all exact rfl) | ((with_reducible apply om4); (focus with_reducible assumption); with_unfolding_all exact rfl) | ((with_reducible apply om5); (focus with_reducible assumption); with_unfolding_all exact rfl) | ((with_reducible apply om6); (focus with_reducible assumption); with_unfolding_all exact rfl) | ((with_reducible apply om7); (focus with_reducible assumption); with_unfolding_all exact rfl) | ((with_reducible apply om8); (focus with_reducible assumption); with_unfolding_all exact rfl) | with_reducible exact Int.natCast_nonneg _ | with_reducible exact om9 | ((with_reducible apply om10); (focus with_reducible assumption); with_unfolding_all exact rfl) | ((with_reducible apply om11); (focus with_reducible assumption); with_unfolding_all exact rfl) | ((with_reducible apply Nat.le_of_lt); with_reducible assumption) | ((with_reducible apply Nat.succ_le_of_lt); with_reducible assumption) | ((with_reducible apply om12); (focus with_reducible assumption); with_unfolding_all exact rfl) | ((with_reducible apply om13); (focus with_reducible assumption); with_unfolding_all exact rfl) | ((with_reducible apply om14); (focus with_reducible assumption); with_unfolding_all exact rfl) | ((with_reducible apply om15); (focus with_reducible assumption); with_unfolding_all exact rfl) | ((with_reducible apply om16); (focus with_reducible assumption); with_unfolding_all exact rfl) | ((with_reducible apply om17); (focus with_reducible assumption); with_unfolding_all exact rfl) | ((with_reducible apply om19); (focus with_reducible assumption); with_unfolding_all exact rfl) | ((with_reducible apply om20); (focus with_reducible assumption); with_unfolding_all exact rfl) | ((with_reducible apply om18); with_reducible assumption) | ((with_reducible show (_ : Int) = _); with_unfolding_all exact rfl) | ((with_reducible apply om21); (focus with_reducible assumption); with_unfolding_all exact rfl) | ((with_reducible apply om22); with_unfolding_all exact rfl) | ((with_reducible apply om25); with_unfolding_all exact rfl) | ((with_reducible apply om24); with_unfolding_all exact rfl) | ((with_reducible apply om23); with_unfolding_all exact rfl) | decide | omega))
  (k_with "execs cons" => ((with_reducible refine exec_seq ?_); (try dsimp only)))
  (k_with "Seq" => (first | with_reducible refine seq_next ?_ | with_reducible refine seq_ret ?_ | with_reducible refine seq_brk ?_ | with_reducible refine seq_cont ?_))
  (k_with "exec If" => (with_reducible refine exec_if ?_))
  (k_with "IfQ" => (first | with_reducible refine ifq_t ?_ | with_reducible refine ifq_f ?_ | with_reducible refine ifq ?_))
  (k_with "call ref" => (k_here; (first | apply Fun.useE (fspath _ _) | apply Fun.useX (get_sep _ _) | apply Fun.useX (law_stem _ _) | apply Fun.useX (strcoll _ _ _ _) | apply Fun.useH (fun h => escape _ h _) | apply Fun.useE (strxfrm _ _)); (iterate 3 with_reducible assumption); assumption; trivial; (first | (apply room_d; assumption; exact rfl) | (dsimp only [Ar]; (walk_at "om"))); (first | (apply room_u; assumption; exact rfl) | (dsimp only [Ar]; (walk_at "om"))); intros))
  (k_with "my item" => (k_here; first | refine item_my (j := 0) (by (walk_at "om")) rfl (by (walk_at "om")) ?_ | refine item_my (j := 1) (by (walk_at "om")) rfl (by (walk_at "om")) ?_ | refine item_my (j := 2) (by (walk_at "om")) rfl (by (walk_at "om")) ?_ | refine item_my (j := 3) (by (walk_at "om")) rfl (by (walk_at "om")) ?_))
  (k_with "subscriptTail Name Name str int" => walk_at "my item")
  (k_with "subscriptTail Name BinOp str int" => walk_at "my item")
  (k_with "subscriptTail Name Constant str int" => walk_at "my item")
  (k_with "subscriptTail Name UnaryOp str int" => walk_at "my item")
  (k_with "call builtin:len" => (k_here; refine len_sOf (by first | ((simp only [List.length_append, List.length_cons, List.length_nil]); exact rfl) | exact rfl) (by (walk_at "om")) ?_))
  (k_with "my same" => (first | (intro z h2 h3; (repeat (refine sm_step ?hne ?_; (case hne => first | exact h2 _ (.head _) | exact h2 _ (.tail _ (.head _)) | exact h2 _ (.tail _ (.tail _ (.head _))) | exact sm_stored h3 (by decide +kernel)))); first | exact sm_last h3 | exact rfl) | (intro z h2 h3; (simp only [List.forall_mem_cons, List.not_mem_nil, false_implies, implies_true, and_true, ne_eq] at h2); (simp only [List.contains_cons, List.contains_nil, Bool.or_false, Bool.or_eq_false_iff, beq_eq_false_iff_ne, ne_eq] at h3); (simp [h2, h3, kstB]; done))))
  (k_with "binaryOp Add str str" => (k_here; refine add_sOf (by (simp only [List.length_append, List.length_cons, List.length_nil]); (walk_at "om")) ?_; intro _ _))
  (k_with "ite" => (k_closed; first | refine ite_pos (by decide +kernel) ?_ | refine ite_neg (by decide +kernel) ?_))
  (k_with "eval Name" => (k_here; (with_reducible show wpAny _ _ (eval _ (compEnvC _ _ _ _)) _ _ _); (with_reducible rename Fr _ _ _ _ => kF); first | refine ev_loc kF rfl ?_ rfl rfl (by decide) | refine ev_cell kF rfl (by assumption) ?_ rfl rfl (by decide)))
  (k_with "call builtin:str.join" => (k_here; (with_reducible rename News _ _ _ _ => kN); refine join_my (News.isListX kN (by k_mem)) (by assumption) (by first | assumption | (simp only [tot_append, tot_cons, tot_nil]; (walk_at "om"))) (by simp) ?_; intro _ _))
  (k_with "eval Constant str" => (with_reducible refine const_my (by first | exact cst0 | exact cst1 | exact cst2 | exact cst3 | exact cst4 | exact cst5 | exact cst6 | exact cst7 | exact cst8 | exact cst9 | exact cst10 | exact cst11 | exact cst12 | exact cst13 | exact cst14 | exact cst15 | exact cst16 | exact cst17 | exact cst18 | exact cst19 | exact cst20 | exact cst21 | exact cst22 | exact cst23 | exact cst24 | exact cst25 | exact cst26 | exact cst27) ?_))
  (k_with "getAttr ref" => (k_here; (with_reducible show wpAny _ _ (getAttr (Value.ref _) (PySem.Str.ofString "append") _) _ _ _); (with_reducible rename Fr _ _ _ _ => kF); (with_reducible rename News _ _ _ _ => kN); refine' attr_append_N kF kN ?ha ?_; (case ha => k_mem); intro _ _ _ _ _))
  (k_with "callWith ref" => (k_here; (with_reducible rename News _ _ _ _ => kN); refine' bound_call kN ?hq ?_; (case hq => k_mem)))
  (k_with "call ref" => (k_here; (with_reducible rename Fr _ _ _ _ => kF); (with_reducible rename News _ _ _ _ => kN); refine' bound_append_L kF kN ?hq ?hl ?hs ?_; (case hq => k_mem); (case hl => k_mem); (case hs => ((try simp only [List.length_append, List.length_cons, List.length_nil]); (walk_at "om"))); intro _ _ _))
  (k_with "truthy ref" => (k_here; (with_reducible rename News _ _ _ _ => kN); refine' truthy_L kN ?hl ?hs ?_; (case hl => k_mem); (case hs => ((try simp only [List.length_append, List.length_cons, List.length_nil]); (walk_at "om"))); (try simp only [List.isEmpty_append, List.isEmpty_cons, Bool.and_false, Bool.not_false])))
  (k_with "subscriptTail Name UnaryOp ref int" => (k_here; (with_reducible rename News _ _ _ _ => kN); refine' item_last (News.isListX kN ?hl) ?_ ?hs ?hg; (case hl => k_mem); (case hs => with_unfolding_all rfl); (case hg => (intro _; with_unfolding_all rfl))))
  (k_with "compareOp IsNot str ref" => (k_here; refine wpAny_isNot_other (by rfl) (by intro x; cases x) ?_))
  (k_with "And" => ((with_reducible show Heap.get? _ _ = _ ∧ _); (with_reducible rename News _ _ _ _ => kN); refine' ⟨boundAt kN ?hq, ?_⟩; (case hq => with_unfolding_all k_mem); (try dsimp only)))
  (k_with "getAttr ref" => (k_here; (apply attr_append_T (P := 78)); (iterate 2 with_reducible assumption); (iterate 2 k_mem); intros))
  (k_with "call ref" => (k_here; (apply bound_append_T (P := 78)); (iterate 2 with_reducible assumption); (iterate 3 k_mem); (focus (try simp only [List.length_append, List.length_cons, List.length_nil]); (walk_at "om")); intros))
  (k_with "eval Lambda" => (k_here; (with_reducible rename Fr _ _ _ _ => kF); (with_reducible rename News _ _ _ _ => kN); (with_reducible rename Frag.In _ _ => kX); (with_reducible rename Top _ _ _ _ _ _ => kT); (with_reducible rename TabOk _ => kO); refine' lam_T kF kN kX kT ?hq ?hl ?hT kO rfl ?hc ⟨rfl, rfl⟩ ?_; (case hq => k_mem); (case hl => k_mem); (case hT => k_mem); (case hc => rfl); intro _ _ _ _ _ _ _ _))
  (k_with "getMethod ref" => (k_here; (with_reducible show wpAny _ _ (getMethod _ (PySem.Str.ofString "sub") _) _ _ _); (apply gm_sub); (iterate 2 with_reducible assumption)))
  (k_with "call builtin:str.replace" => (k_here; (first | apply rep42 | apply rep91); intros))
  (k_with "call builtin:re.Pattern.sub" => (k_here; (first | apply resub42N | apply resub91N); (iterate 3 with_reducible assumption); intros))
  (k_with "subscriptTail Name UnaryOp str int" => (k_here; refine item_plain (j := 0) rfl rfl (by (walk_at "om")) ?_))
  (k_with "subscriptTail Name Constant str int" => (k_here; refine item_plain (j := 0) rfl rfl (by (walk_at "om")) ?_))
  (k_with "truthy str" => (k_here; refine truthy_sOf ?hl ?_; (case hl => first | assumption | (walk_at "om") | (simp only [List.length_cons]; (walk_at "om"))); intro _; (try dsimp only [List.isEmpty, Bool.not_false, Bool.not_true])))
  (k_with "call builtin:str.split" => (k_here; (with_reducible rename Fr _ _ _ _ => kF); (with_reducible rename News _ _ _ _ => kN); refine splitN1 (hsz := ?hsz) kF kN rfl ?_; (case hsz => (rw [sizeLine_eq, sOf_len]; (walk_at "om"))); intro kl _ _ ke _ _; (rw [split_sOf] at ke); (have kS := strValues_are kl); (rw [ke] at kS)))
  (k_with "my same0" => (first | (intro z h2 h3; (repeat (refine sm_step ?hne ?_; (case hne => first | exact h2 _ (.head _) | exact h2 _ (.tail _ (.head _)) | exact h2 _ (.tail _ (.tail _ (.head _))) | exact sm_stored h3 (by decide +kernel)))); first | exact sm_last h3 | exact rfl) | (intro z _ h3; (simp only [List.contains_cons, List.contains_nil, Bool.or_false, Bool.or_eq_false_iff, beq_eq_false_iff_ne, ne_eq] at h3); (simp [h3, kstB]; done))))
  (k_with "call builtin:list.append" => (k_here; (with_reducible rename Fr _ _ _ _ => kF); (with_reducible rename News _ _ _ _ => kN); refine app_own kF kN ?hoff ?hsz ?_; (case hoff => assumption); (case hsz => (walk_at "om")); intro _ _ _))
  (k_with "call builtin:list.pop" => (k_here; (with_reducible rename Fr _ _ _ _ => kF); (with_reducible rename News _ _ _ _ => kN); refine pop_own kF kN ?hoff ?hsz ?_; (case hoff => assumption); (case hsz => (walk_at "om")); intro _ _ _))
  (k_with "call builtin:str.startswith" => (k_here; refine starts_my (by assumption) ?_))
  (k_with "call builtin:str.endswith" => (k_here; refine ends_my (by assumption) ?_))
  (k_with "inplaceOp Add str str" => (k_here; refine iadd_sOf (by (simp only [List.length_append, List.length_cons, List.length_nil]); first | (walk_at "om") | ((simp only [List.length_cons] at *); (walk_at "om"))) ?_; intro _ _))
  (k_with "call type:map" => (k_here; (with_reducible rename Fr _ _ _ _ => kF); (with_reducible rename News _ _ _ _ => kN); refine map_N kF kN (by assumption) ?_; intro _ _ _ _ _ _ _ _ _ _))
  (k_with "call type:tuple" => (k_here; (with_reducible rename Fr _ _ _ _ => kF); (with_reducible rename News _ _ _ _ => kN); (with_reducible rename Frag.In _ _ => kX); (with_reducible rename Top _ _ _ _ _ _ => kT); refine tuple_N kF kN (by assumption) (by assumption) (by assumption) kX kT (by assumption) (by dsimp only [Ar]; (walk_at "om")) (by dsimp only [Ar]; (walk_at "om")) ?_; intro _ _ _ _ _))
  (k_with "my tidy" => ((with_reducible rename Fr _ _ _ _ => kF); (with_reducible rename News _ _ _ _ => kN); revert kF kN; (repeat ((with_reducible rename Fr _ _ _ _ => kZ); clear kZ)); (repeat ((with_reducible rename News _ _ _ _ => kZ); clear kZ)); intro _ _))
  (k_with "eval Name" => (k_here; (with_reducible show wpAny _ _ (eval _ (compEnvC _ _ _ _)) _ _ _); (with_reducible rename Fr _ _ _ _ => kF); refine ev_cell kF rfl (by with_reducible assumption) ?_ rfl rfl (by decide)))
  trivial
section
variable {prog : Program} {w : World} {A : Around} {E : Value → Shared → Prop} {Q : Flow → Shared → Prop} {s : Shared} {env : Env} {h₀ : Heap}
/-- a for over a range by ones, its target a name -/
theorem for_range {σ : Type} {x : Str} {px : Pos} {body : List Stmt} {r : Addr} {a b : Int} {t u v : Tok} {n : Nat} {m₀ : Str → Option Value}
    (Led : σ → List (Addr × Obj)) (ps : σ → List (Str × Value)) (stored : List Str) (P : Nat → σ → Prop)
    (hh : A.handled = none) (hr : IsRange s.heap r a b 1 t u v) (hsmall : Builtin.Range.small a b 1 = true) (hn : Builtin.Range.rangeSize a b 1 = (n : Int))
    (hled : ∀ c, ∀ p ∈ Led c, noF p.2 = true ∨ @LT.lt Nat _ p.1 env.locals)
    (F : Fr h₀ env.locals s.heap m₀) (h0 : ∃ c₀, News h₀ env.locals s.heap (Led c₀) ∧ AllAt m₀ (ps c₀) ∧ P 0 c₀)
    (turn : ∀ (i : Nat) (ti : Tok) (c : σ) (u : Str → Option Value) h tk own, i < n → P i c → OwnOff own ((Led c).map (·.1)) →
      Fr h₀ env.locals h (kstB (fun z => if stored.contains z then u z else m₀ z) (ps c)) → News h₀ env.locals h (Led c ++ own) →
      wpAny (model prog w) A (assign (.Name x px) env (.int (a + (i : Int)) ti)) (fun _ s₂ => wpAny (model prog w) A (execs body env) (FPost h₀ env.locals Led ps stored m₀ (P (i + 1)) own s Q) E s₂) E { s with heap := h, toks := tk })
    (done : ∀ (c : σ) (u : Str → Option Value) h tk, P n c → Fr h₀ env.locals h (kstB (fun z => if stored.contains z then u z else m₀ z) (ps c)) → News h₀ env.locals h (Led c) → Q .next { s with heap := h, toks := tk })
    (hE : PassesOwn (model prog w) A env E) :
    wpAny (model prog w) A (pyIter (.ref r)) (fun it s₂ => codeAny (model prog w) A (.forLoop (.Name x px) it body [] env) (fun r s' => match r with | .ok f => Q f s' | .error e => cameBackBy (model prog w) A env E e s') s₂) E s := by
  first | refine ex2_2 h0 fun c₀ N hk hp => ?_ | refine ex1_3 h0 fun c₀ N hk hp => ?_ | obtain ⟨c₀, N, hk, hp⟩ := h0
  try clear h0
  replace hk := hk.all
  refine wpAny_pyIter_range hr hsmall ?_
  have hI0 : h₀.get? s.heap.objs.size = none := Heap.get?_none_of_le (Nat.le_trans F.above (Nat.le_of_lt F.ns.lt))
  refine for_core2 (s := { s with heap := s.heap.push _ }) (Walks.range hh s.heap.objs.size a 1 n) Led ps stored P c₀ ?_ hI0 (fun i h st => ⟨_, st, rfl⟩) (fun _ _ _ _ _ hQ => wpAny_pure hQ) (fun b hb hbI => absurd (List.mem_singleton.mp hb) hbI) (fun c p hp => (hled c p hp).imp id fun h => Nat.ne_of_lt (Nat.lt_trans h F.ns.lt)) ?_ (F.push _)
    (fun p hp => ⟨Heap.get?_push_of_some _ (N p hp).1, (N p hp).2⟩) hk hp (fun i v c u h tk own hi hv hP ho F N => ?_) (fun c u h tk => done c u h tk) hE
  · intro hm
    exact absurd F.ns.lt ((List.mem_singleton.mp hm) ▸ Nat.lt_irrefl _)
  · show IsRangeIter _ _ _ _ _
    rw [hn]
    simpa using Heap.get?_push_size _ rfl
  · first | refine ex1_1 hv fun ti e90 => ?_ | refine ex0_2 hv fun ti e90 => ?_ | obtain ⟨ti, e90⟩ := hv
    subst e90
    try clear hv
    have := turn i ti c u h tk own hi hP ho F N
    rw [show a + (i : Int) * 1 = a + i by (walk_at "om")]
    exact this
end
section
variable {prog : Program} {w : World} {A : Around} {E : Value → Shared → Prop} {s : Shared} {env : Env} {scope : Scope} {cl : List (Str × Addr)} {x : Str} {ifs : List Expr} {elt : Expr}
theorem comp_range {σ : Type} {r : Addr} {a b : Int} {t u v : Tok} {n : Nat} {X : Shared → Addr → Addr → Heap → Nat → Prop}
    (hh : A.handled = none) (hr : IsRange s.heap r a b 1 t u v) (hsmall : Builtin.Range.small a b 1 = true) (hn : Builtin.Range.rangeSize a b 1 = (n : Int)) (hsz : n ≤ sizeLine)
    (Led : σ → List (Addr × Obj)) (acc : σ → List Value) (P : Nat → σ → Prop) (c₀ : σ) (hl0 : Led c₀ = []) (ha0 : acc c₀ = []) (hp0 : P 0 c₀)
    (turn : ∀ C (i : Nat) (ti : Tok) (c : σ) (u : Str → Option Value) h tk own, i < n → P i c → OwnOff own ((Led c).map (·.1)) → Fr s.heap C h (fun y => if y = x then some (.int (a + (i : Int)) ti) else u y) → News s.heap C h (Led c ++ own) →
      Tests (model prog w) A ifs (compEnvC scope cl C env) (fun ok s₃ =>
        if ok = true then wpAny (model prog w) A (eval elt (compEnvC scope cl C env)) (fun y s₄ => CEnd s.heap C Led (fun c' => acc c' = acc c ++ [y] ∧ P (i + 1) c') own s s₄) (fun _ _ => False) s₃
        else CEnd s.heap C Led (fun c' => acc c' = acc c ∧ P (i + 1) c') own s s₃) (fun _ _ => False) { s with heap := h, toks := tk })
    (done : ∀ h₂ D C (c : σ) m h tk nn, P n c → Fr s.heap C h m → News s.heap C h ((D, PySem.W.listOf (acc c).toArray nn) :: Led c) → X { s with heap := h₂ } D C h tk) :
    wpAny (model prog w) A (pyIter (.ref r)) (fun it s₂ => CompAt prog w A env scope cl x ifs elt s.heap (X s₂) it s₂) E s := by
  refine wpAny_pyIter_range hr hsmall ?_
  refine comp_push (Walks.range hh s.heap.objs.size a 1 n) hsz ?_ (fun b hb hbI => absurd (List.mem_singleton.mp hb) hbI) (fun i h st => ⟨_, st⟩) Led acc P c₀ hl0 ha0 hp0 (fun C i v c u h tk own hi hv hP ho F N => ?_) (done _)
  · show IsRangeIter _ _ _ _ _
    rw [hn]
    simpa using Heap.get?_push_size _ rfl
  · first | refine ex1_1 hv fun ti e90 => ?_ | refine ex0_2 hv fun ti e90 => ?_ | obtain ⟨ti, e90⟩ := hv
    subst e90
    try clear hv
    rw [show a + (i : Int) * 1 = a + i by (walk_at "om")] at F
    exact turn C i ti c u h tk own hi hP ho F N
end
noncomputable def tableL : List (List Nat) := [[97], [42], [46, 46], [97, 45], [97, 48], [46], [91], []]
noncomputable def headsL : List (List Nat) := [[97], [97, 47, 42], [], [97, 47, 42, 47, 97], [97, 45, 47, 91]]
/-- a row of names that the law can build -/
noncomputable def okR (N : List (List Nat)) : Prop := okN N ∧ (∀ x ∈ N, x ≠ [46] ∧ x.length ≤ 2 ∧ ∀ c ∈ x, good c) ∧ N.length ≤ 6
theorem heads_comps : ∀ p ∈ headsL, (splitL 47 p).length ≤ 3 ∧ ∀ x ∈ splitL 47 p, x ∈ tableL := by decide
theorem table_comps : ∀ p ∈ tableL, (splitL 47 p).length ≤ 1 ∧ ∀ x ∈ splitL 47 p, x ∈ tableL := by decide
theorem heads_ok : ∀ p ∈ headsL, p.head? ≠ some 47 ∧ p.length ≤ 5 := by decide
theorem table_ok : ∀ p ∈ tableL, p.head? ≠ some 47 ∧ p.length ≤ 2 := by decide
theorem comp_ok : ∀ x ∈ tableL, x ≠ [46, 46] → x ≠ [46] → x ≠ [] → x.length ≤ 2 ∧ ∀ c ∈ x, c = 97 ∨ c = 48 ∨ c = 47 ∨ c = 45 ∨ c = 42 ∨ c = 91 := by decide
theorem flat_comps : ∀ {ps : List (List Nat)}, (∀ p ∈ ps, p ∈ tableL) → (ps.flatMap (splitL 47)).length ≤ ps.length ∧ ∀ x ∈ ps.flatMap (splitL 47), x ∈ tableL
  | [], _ => by simp
  | p :: r, h => by
    first | refine ex1_1 (flat_comps (ps := r) fun q hq => h q (.tail _ hq)) fun h1 h2 => ?_ | refine ex0_2 (flat_comps (ps := r) fun q hq => h q (.tail _ hq)) fun h1 h2 => ?_ | obtain ⟨h1, h2⟩ := flat_comps (ps := r) fun q hq => h q (.tail _ hq)
    first | refine ex1_1 (table_comps p (h p (.head _))) fun h3 h4 => ?_ | refine ex0_2 (table_comps p (h p (.head _))) fun h3 h4 => ?_ | obtain ⟨h3, h4⟩ := table_comps p (h p (.head _))
    refine ⟨by rw [List.flatMap_cons, List.length_append, List.length_cons]; (walk_at "om"), fun x hx => ?_⟩
    rw [List.flatMap_cons] at hx
    rcases List.mem_append.mp hx with hx | hx
    · exact h4 x hx
    · exact h2 x hx
theorem row_ok {hd : List Nat} {ps : List (List Nat)} (hh : hd ∈ headsL) (hp : ∀ p ∈ ps, p ∈ tableL) (hl : ps.length ≤ 3) : okR (names (splitL 47 (joinL [47] (hd :: ps)))) := by
  have e := splitL_join (hd :: ps) (by simp)
  first | refine ex1_1 (flat_comps hp) fun h1 h2 => ?_ | refine ex0_2 (flat_comps hp) fun h1 h2 => ?_ | obtain ⟨h1, h2⟩ := flat_comps hp
  first | refine ex1_1 (heads_comps hd hh) fun h3 h4 => ?_ | refine ex0_2 (heads_comps hd hh) fun h3 h4 => ?_ | obtain ⟨h3, h4⟩ := heads_comps hd hh
  have hc : ∀ x ∈ splitL 47 (joinL [47] (hd :: ps)), x ∈ tableL := fun x hx => by
    rw [e, List.flatMap_cons] at hx
    rcases List.mem_append.mp hx with hx | hx
    · exact h4 x hx
    · exact h2 x hx
  have hn : (splitL 47 (joinL [47] (hd :: ps))).length ≤ 6 := by rw [e, List.flatMap_cons, List.length_append]; (walk_at "om")
  refine ⟨fun x hx => names_ok _ x hx, fun x hx => ?_, Nat.le_trans (names_len _) hn⟩
  first | refine ex2_1 (names_ne _ x hx) fun n1 n2 n3 => ?_ | refine ex1_2 (names_ne _ x hx) fun n1 n2 n3 => ?_ | refine ex0_3 (names_ne _ x hx) fun n1 n2 n3 => ?_ | obtain ⟨n1, n2, n3⟩ := names_ne _ x hx
  first | refine ex1_1 (comp_ok x (hc x (names_sub _ x hx)) n1 n3 n2) fun c1 c2 => ?_ | refine ex0_2 (comp_ok x (hc x (names_sub _ x hx)) n1 n3 n2) fun c1 c2 => ?_ | obtain ⟨c1, c2⟩ := comp_ok x (hc x (names_sub _ x hx)) n1 n3 n2
  exact ⟨n3, c1, c2⟩
theorem pieces_ok {hd : List Nat} {ps : List (List Nat)} (hh : hd ∈ headsL) (hp : ∀ p ∈ ps, p ∈ tableL) : ∀ b ∈ hd :: ps, b.head? ≠ some 47 := fun b hb => by
  rcases List.mem_cons.mp hb with rfl | hb
  · exact (heads_ok b hh).1
  · exact (table_ok b (hp b hb)).1
theorem tot_table : ∀ {ps : List (List Nat)}, (∀ p ∈ ps, p ∈ tableL) → tot ps ≤ 3 * ps.length
  | [], _ => by simp [tot]
  | p :: r, h => by
    have h1 := tot_table (ps := r) fun q hq => h q (.tail _ hq)
    have h2 := (table_ok p (h p (.head _))).2
    rw [tot_cons, List.length_cons]; (walk_at "om")
theorem tot_pieces {hd : List Nat} {ps : List (List Nat)} (hh : hd ∈ headsL) (hp : ∀ p ∈ ps, p ∈ tableL) (hl : ps.length ≤ 3) : tot (hd :: ps) ≤ 20 := by
  have h1 := tot_table hp
  have h2 := (heads_ok hd hh).2
  rw [tot_cons]; (walk_at "om")
/-- the joined pieces, straightened -/
theorem join_norm {hd : List Nat} {ps : List (List Nat)} (hh : hd ∈ headsL) (hp : ∀ p ∈ ps, p ∈ tableL) :
    ∃ l, joinAll (hd :: ps) = 47 :: l ∧ l.head? ≠ some 47 ∧ 47 :: joinL [47] (names (splitL 47 l)) = spotL (names (splitL 47 (joinL [47] (hd :: ps)))) := by
  obtain ⟨l, e, h1⟩ := joinAll_one (hd :: ps) (pieces_ok hh hp) [47] ⟨[], rfl, by simp⟩
  refine ⟨l, e, h1, ?_⟩
  have h2 := names_join_all (hd :: ps) (by simp) (pieces_ok hh hp)
  have e' : joinAll (hd :: ps) = 47 :: l := e
  rw [e'] at h2
  have h3 : splitL 47 (47 :: l) = [] :: splitL 47 l := by simp [splitL]
  rw [h3] at h2
  have h4 : names ([] :: splitL 47 l) = names (splitL 47 l) := by unfold names; rw [List.foldl_cons, step_empty]
  rw [h4] at h2
  unfold spotL
  rw [h2]
noncomputable abbrev lawEnv (L fa : Addr) : Env := envOfC lawRec.name lawRec.scope L fa (.ref 240)
noncomputable def LawEnd (h₀ : Heap) (L : Addr) (s : Shared) (f : Flow) (s' : Shared) : Prop := f = .ret (.bool true) ∧ ∃ h tk m ps ps', s' = { s with heap := h, toks := tk } ∧ Fr h₀ L h m ∧ News h₀ L h [(78, tabObj ps), (238, tabObj ps')]
noncomputable abbrev frBase {h₀ h : Heap} {L : Addr} {m : Str → Option Value} (_ : Fr h₀ L h m) : Heap := h₀
noncomputable abbrev frL {h₀ h : Heap} {L : Addr} {m : Str → Option Value} (_ : Fr h₀ L h m) : Addr := L
noncomputable def lawFor (k : Nat) : List Stmt := match lawRec.body[k]? with | some (.For _ _ body _ _) => body | _ => []
theorem reg_j_24 : True := by
  (k_with "subscriptTail Name Name ref int" => (k_here; (with_reducible rename News _ _ _ _ => kN); refine' item_list kN ?hm ?hx ?hb ?_ ?hs; (case hm => k_mem); (case hx => with_reducible assumption); (case hb => with_reducible assumption); (case hs => with_unfolding_all rfl)))
  trivial
theorem news_new2 {h₀ h h' : Heap} {L D : Addr} {m : Str → Option Value} {o : Obj} {news : List (Addr × Obj)} (F : Fr h₀ L h m) (_ : News h₀ L h news) (N' : News h₀ L h' news) (hn : h.get? D = none) (hq : h'.get? D = some o) : News h₀ L h' ((D, o) :: news) := fun p hp => by
  rcases List.mem_cons.mp hp with rfl | hp
  · refine ⟨hq, ?_, ?_⟩
    · rintro e
      first | refine ex3_2 F.ns fun o _ _ ho _ => ?_ | refine ex2_3 F.ns fun o _ _ ho _ => ?_ | refine ex0_5 F.ns fun o _ _ ho _ => ?_ | obtain ⟨o, _, _, ho, _⟩ := F.ns
      dsimp only at e
      rw [e, ho] at hn; cases hn
    · cases e : h₀.get? D with
      | none => rfl
      | some o => have := F.keep _ _ e; rw [hn] at this; cases this
  · exact N' p hp
theorem setcell {M : Model} {A : Around} {E : Value → Shared → Prop} {s : Shared} {env : Env} {h₀ : Heap} {L c : Addr} {m : Str → Option Value} {news : List (Addr × Obj)} {x : Str} {v : Value} {v₀ : Option Value} {o : Obj} {Q : Unit → Shared → Prop}
    (F : Fr h₀ L s.heap m) (N : News h₀ L s.heap news) (hm : (c, o) ∈ news) (hd : o.data = .cell v₀) (hk : env.scope.kind = .function) (hl : env.kindOf x = some .cell) (hc : env.cells.lookup x = some c)
    (h : ∀ h' o', Fr h₀ L h' m → Heap.SameBut c s.heap h' → (h'.get? c = some o' ∧ c ≠ L ∧ h₀.get? c = none) → o'.data = .cell (some v) → Q () { s with heap := h' }) : wpAny M A (storeName env x v) Q E s :=
  have ⟨g, cL, c0⟩ := N _ hm
  wpAny_storeName_cell hk hl hc ⟨o, g, hd⟩ fun h' ⟨o', g', d'⟩ sb => h h' o' (F.change sb cL c0) sb ⟨g', cL, c0⟩ d'
theorem News.cellset {h₀ h h' : Heap} {L c : Addr} {o' : Obj} {news rest : List (Addr × Obj)} (N : News h₀ L h news) (hs : Heap.SameBut c h h') (hc : h'.get? c = some o' ∧ c ≠ L ∧ h₀.get? c = none) (hr : ∀ p ∈ rest, p ∈ news ∧ p.1 ≠ c) : News h₀ L h' ((c, o') :: rest) := fun p hp => by
  rcases List.mem_cons.mp hp with rfl | hp
  · exact hc
  · first | refine ex1_1 (hr p hp) fun h1 h2 => ?_ | refine ex0_2 (hr p hp) fun h1 h2 => ?_ | obtain ⟨h1, h2⟩ := hr p hp
    exact ⟨(hs.2 _ h2).trans (N p h1).1, (N p h1).2⟩
theorem ne_cell {h₀ h : Heap} {L c : Addr} {o : Obj} {v : Option Value} {news : List (Addr × Obj)} {p : Addr × Obj} (N : News h₀ L h news) (hp : p ∈ news) (hc : (c, o) ∈ news) (hd : o.data = .cell v) (hn : ∀ v, p.2.data ≠ .cell v) : p.1 ≠ c := fun e => by
  have h1 := (N _ hp).1
  have h2 := (N _ hc).1
  dsimp only at h2
  rw [e, h2] at h1
  exact hn v (by rw [← Option.some.inj h1]; exact hd)
theorem all_sp {P : Addr × Obj → Prop} {lr : List SpE} (h : ∀ e ∈ lr, P (e.1, PySem.W.listOf e.2.1.toArray e.2.2)) : ∀ p ∈ spLed lr, P p := fun p hp => by
  first | refine ex2_1 (List.mem_map.mp hp) fun e he e90 => ?_ | refine ex1_2 (List.mem_map.mp hp) fun e he e90 => ?_ | refine ex0_3 (List.mem_map.mp hp) fun e he e90 => ?_ | obtain ⟨e, he, e90⟩ := List.mem_map.mp hp
  subst e90
  exact h e he
theorem noC_list {its : Array Value} {n : Nat} (v : Option Value) : (PySem.W.listOf its n).data ≠ .cell v := fun h => nomatch h
theorem noC_tab {ps : Array Value} (v : Option Value) : (tabObj ps).data ≠ .cell v := fun h => nomatch h
theorem le_up {L a b : Nat} (h : a ≤ b) : L + a ≤ L + b := Nat.add_le_add_left h L
theorem ne_add {L a b : Nat} (h : a ≠ b) : L + a ≠ L + b := by (walk_at "om")
theorem len_news {prog : Program} {w : World} {A : Around} {E : Value → Shared → Prop} {s : Shared} {h₀ : Heap} {L : Addr} {news : List (Addr × Obj)} {a : Addr} {vs : List Value} {n : Nat} {Q : Value → Shared → Prop} (N : News h₀ L s.heap news) (hm : (a, PySem.W.listOf vs.toArray n) ∈ news) (hb : vs.length < 1000000)
    (h : ∀ t tk, Q (.int (vs.length : Nat) t) { s with toks := tk }) : wpAny (model prog w) A (call (.builtin "len") [.ref a]) Q E s := by
  have hL : s.heap.IsList a vs.toArray := News.isListX N hm
  exact call_len_list hL (by simp; (walk_at "om")) (by simpa using h _ _)
theorem small7 {k : Nat} (h : k ≤ 6) : Builtin.Range.small 0 ((k : Int) + 1) 1 = true ∧ Builtin.Range.rangeSize 0 ((k : Int) + 1) 1 = ((k + 1 : Nat) : Int) :=
  (show ∀ k : Fin 7, Builtin.Range.small 0 ((k.val : Int) + 1) 1 = true ∧ Builtin.Range.rangeSize 0 ((k.val : Int) + 1) 1 = ((k.val + 1 : Nat) : Int) by decide +kernel) ⟨k, by (walk_at "om")⟩
theorem tot_small : ∀ {N : List (List Nat)}, (∀ x ∈ N, x.length ≤ 2) → tot N ≤ 3 * N.length
  | [], _ => by simp [tot]
  | p :: r, h => by
    have h1 := tot_small (N := r) fun q hq => h q (.tail _ hq)
    have h2 := h p (.head _)
    rw [tot_cons, List.length_cons]; (walk_at "om")
theorem tot_row {N : List (List Nat)} (h : okR N) (j : Nat) : tot (N.take j) ≤ 100 := by
  have h1 := tot_pre (List.take_prefix j N)
  have h2 := tot_small fun x hx => (h.2.1 x hx).2.1
  have := h.2.2
  (walk_at "om")
theorem item_heap {prog : Program} {w : World} {A : Around} {E : Value → Shared → Prop} {s : Shared} {value slice : Expr} {a : Addr} {vs : List Value} {n : Nat} {x : Value} {i : Nat} {u : Tok} {Q : Value → Shared → Prop} (ha : s.heap.get? a = some (PySem.W.listOf vs.toArray n)) (hx : vs[i]? = some x) (hb : vs.length < 1000000) (h : Q x s)
    (hs : subscripted slice false (.ref a) (.int i u) = operate [.ref a, .int i u] (getItem (.ref a) (.int i u)) := by with_unfolding_all rfl) :
    wpAny (model prog w) A (subscriptTail value slice (.ref a) (.int i u)) Q E s := by
  have hL : s.heap.IsList a vs.toArray := ⟨_, ha, rfl, n, rfl⟩
  have := (List.getElem?_eq_some_iff.mp hx).1
  exact tail_any hL.typeIs slot_list_getitem.lookup (wpAny_getItem_list hL (by (walk_at "om")) (by (walk_at "om")) (by simpa using hx) h) hs
theorem few3 : ∀ (n : Fin 16) (i : Fin 5), (sliceRange (sliceBounds (some ((i.val : Nat) : Int)) none (some 5) n.val).1 (sliceBounds (some ((i.val : Nat) : Int)) none (some 5) n.val).2.1 (sliceBounds (some ((i.val : Nat) : Int)) none (some 5) n.val).2.2).length ≤ 3 := by decide +kernel
theorem pick3 {ns : List Int} {i : Nat} (hn : ns.length ≤ 15) (hi : i < 5) : (pickNums ns (some (i : Int)) none (some 5)).length ≤ 3 := by
  unfold pickNums
  exact Nat.le_trans (List.length_filterMap_le _ _) (few3 ⟨ns.length, by (walk_at "om")⟩ ⟨i, hi⟩)
theorem turn1 {w : World} {mean : ExcName → Option Value} {mg mb : Str → Option Value} {h₀ h₁ : Heap} {L fa : Addr} {s : Shared} {tk : Nat} {l sA liA hA tA : Addr} {m : Str → Option Value} {is : List Value} {ns : List Int} {o1 o2 o3 o4 o5 o6 : Obj} {v4 : Option Value} {tvs hvs vs lvs : List Value} {sn ln hn tn i : Nat} {ti : Tok} {rest : List (Addr × Obj)} {hd : List Nat} {th : Tok} {Q : Flow → Shared → Prop}
    (X : (Mine.K39.heap_1 w.params).In h₀) (T : TopV mean mg mb h₀)
    (F : Fr h₀ L h₁ (fun y => if y = Str.ofString "heads" then some (.ref hA) else if y = Str.ofString "lines" then some (.ref liA) else if y = Str.ofString "script" then some (.ref l) else m y))
    (N : News h₀ L h₁ ((sA, PySem.W.listOf vs.toArray sn) :: (liA, PySem.W.listOf lvs.toArray ln) :: (hA, PySem.W.listOf hvs.toArray hn) :: (tA, PySem.W.listOf tvs.toArray tn) :: (L + 1 + 1 + 1 + 1 + 1 + 1, o6) :: (L + 1 + 1 + 1 + 1 + 1, o5) :: (L + 1 + 1 + 1 + 1, o4) :: (L + 1 + 1 + 1, o3) :: (L + 1 + 1, o2) :: (L + 1, o1) :: (78, tabObj #[]) :: (238, tabObj #[]) :: rest))
    (d4 : o4.data = .cell v4) (d3 : o3.data = .cell (some (.int (i : Int) ti))) (d2 : o2.data = .cell (some (.ref sA))) (d1 : o1.data = .cell (some (.ref tA)))
    (hl : h₀.IsList l is.toArray) (hI : IntsAre is ns) (hlen : ns.length ≤ 63) (hi : i < 5)
    (hrest : ∀ p ∈ rest, p.1 ≠ sA ∧ p.1 ≠ liA ∧ p.1 ≠ L + 1 + 1 + 1 + 1) (hdis : sA ≠ liA ∧ sA ≠ hA ∧ sA ≠ tA ∧ liA ≠ hA ∧ liA ≠ tA ∧ sA ≠ 78 ∧ sA ≠ 238 ∧ liA ≠ 78 ∧ liA ≠ 238) (hcs : @LT.lt Nat _ (L + 1 + 1 + 1 + 1 + 1 + 1) sA) (hcl : @LT.lt Nat _ (L + 1 + 1 + 1 + 1 + 1 + 1) liA) (hsl : vs.length < 1000) (hll : lvs.length < 1000)
    (ret : ∀ h' tk' m' N (D : Addr) (us : List Value) (nu : Nat) (t : Tok) (o4' : Obj) (w4 : Option Value) (n1 n2 : Nat), okR N → SAre us ((pres N).map spotL) → Fr h₀ L h' m' →
      (∀ z, z ≠ Str.ofString "pieces" → z ≠ Str.ofString "line" → z ≠ Str.ofString "spot" → m' z = if z = Str.ofString "heads" then some (.ref hA) else if z = Str.ofString "lines" then some (.ref liA) else if z = Str.ofString "script" then some (.ref l) else m z) → o4'.data = .cell w4 →
      News h₀ L h' ((liA, PySem.W.listOf (lvs ++ [Value.ref D]).toArray n2) :: (sA, PySem.W.listOf (vs ++ [Value.str (sOf (spotL N)) t]).toArray n1) :: (hA, PySem.W.listOf hvs.toArray hn) :: (tA, PySem.W.listOf tvs.toArray tn) :: (D, PySem.W.listOf us.toArray nu) :: (L + 1 + 1 + 1 + 1 + 1 + 1, o6) :: (L + 1 + 1 + 1 + 1 + 1, o5) :: (L + 1 + 1 + 1 + 1, o4') :: (L + 1 + 1 + 1, o3) :: (L + 1 + 1, o2) :: (L + 1, o1) :: (78, tabObj #[]) :: (238, tabObj #[]) :: rest) →
      (∀ p ∈ rest, p.1 ≠ D) → D ≠ sA → D ≠ liA → D ≠ L + 1 + 1 + 1 → D ≠ L + 1 + 1 + 1 + 1 → Q .next { s with heap := h', toks := tk' })
    (hhv : SAre hvs headsL) (htv : SAre tvs tableL) (hh : hvs[i]? = some (.str (sOf hd) th)) (hhl : hvs.length < 1000000) :
    wpAny (model PySem.Challenge.pw_rx0087_01 w) (callerA.deeper (lawEnv L fa)) (execs (lawFor 4) (lawEnv L fa)) Q (fun _ _ => False) { s with heap := h₁, toks := tk } := by
  have eS : lawRec.scope = { kind := _, names := _, isGenerator := _, isCoroutine := _, more := _ } := rfl
  have eN : lawRec.name = Str.ofString "law" := rfl
  unfold lawEnv
  rw [eS, eN]
  clear eS eN
  show wpAny _ _ (execs (_ :: _) _) _ _ _
  walk_at "my steps"
  walk_at "my tidy"
  rename Fr _ _ _ _ => F1
  rename News _ _ _ _ => N1
  have hct := cell_of N1 (.tail _ (.tail _ (.tail _ (.tail _ (.tail _ (.tail _ (.tail _ (.tail _ (.tail _ (.tail _ (.head _))))))))))) d1
  refine eval_comp (cl := [(Str.ofString "table", L + 1)]) ⟨by rfl, by decide, rfl, by decide⟩ (by decide) ?_
  walk1
  walk1
  walk1
  walk1
  walk1
  walk1
  walk1
  walk1
  walk1
  walk1
  rename Fr _ _ _ _ => F2
  rename News _ _ _ _ => N2
  rename IntsAre _ (List.take 15 ns) => hI15
  walk1
  walk1
  walk1
  walk1
  walk1
  rename Fr _ _ _ _ => F2
  rename News _ _ _ _ => N2
  refine kba_turn (value' := .Name (Str.ofString "x") ⟨0, 0, 0, 0⟩) (fun _ => rfl) ?_
  refine slice_list3 (s := ⟨_, _, _, _, _⟩) F2 N2 (News.isListX N2 (.head _)) (IsPart.int (i : Int) ti) IsPart.none (IsPart.int 5 _) (by decide) ?_ (by with_unfolding_all rfl) (by intro _; with_unfolding_all rfl) (by rw [sizeLine_eq, List.size_toArray, hI15.length]; simp; (walk_at "om"))
  intro h3 F3 N3
  have hI3 := hI15.pick (some (i : Int)) none (some 5)
  have hl3 : (pickNums (List.take 15 ns) (some (i : Int)) none (some 5)).length ≤ 3 := pick3 (by simp; (walk_at "om")) hi
  generalize pickNums (List.take 15 ns) (some (i : Int)) none (some 5) = ms at hI3 hl3
  generalize slicePick _ _ _ _ = arr at hI3 N3
  have harr : arr.size = ms.length := by have := hI3.length; simpa using this
  have hct3 := cell_of N3 (.tail _ (.tail _ (.tail _ (.tail _ (.tail _ (.tail _ (.tail _ (.tail _ (.tail _ (.tail _ (.tail _ (.tail _ (.head _))))))))))))) d1
  have htab := (N3 _ (.tail _ (.tail _ (.tail _ (.tail _ (.tail _ (.tail _ (.head _)))))))).1
  refine comp_list (σ := List Value) (items := arr) rfl ⟨_, (N3 _ (.head _)).1, rfl, 0, rfl⟩ (by rw [sizeLine_eq]; (walk_at "om")) (fun _ => []) id (fun i acc => acc.length = i ∧ ∃ ps, SAre acc ps ∧ ∀ p ∈ ps, p ∈ tableL) [] rfl rfl ⟨rfl, [], StrsAre.nil, fun _ h => nomatch h⟩ ?_ ?_
  · intro C i2 v c u h tk2 own hv q9 hoff F₂ N₂
    first | refine ex2_2 q9 fun hcl ps hps hpt => ?_ | refine ex1_3 q9 fun hcl ps hps hpt => ?_ | obtain ⟨hcl, ps, hps, hpt⟩ := q9
    try clear q9
    obtain ⟨x, t, rfl⟩ : ∃ x t, v = Value.int x t := by
      have hi2 : i2 < ms.length := by have := (Array.getElem?_eq_some_iff.mp hv).1; (walk_at "om")
      obtain ⟨t, ht⟩ := hI3.get i2 _ (List.getElem?_eq_getElem hi2)
      have : arr.toList[i2]? = some v := by simpa using hv
      rw [this] at ht
      exact ⟨_, t, Option.some.inj ht⟩
    refine tests_nil ?_
    simp only [if_true]
    walk1
    walk1
    walk1
    walk1
    walk1
    walk1
    rename Fr _ C _ _ => F₃
    rename News _ C _ _ => N₃
    have h0 : 0 ≤ x.fmod 8 := Int.fmod_nonneg_of_pos x (by decide)
    have h8 : x.fmod 8 < 8 := Int.fmod_lt_of_pos x (by decide)
    obtain ⟨k, hk⟩ : ∃ k : Nat, x.fmod 8 = (k : Int) := ⟨(x.fmod 8).toNat, by (walk_at "om")⟩
    have htl : tvs.length = 8 := by have := StrsAre.length htv; simpa [tableL] using this
    obtain ⟨tv, htv1⟩ : ∃ tv, tvs[k]? = some tv := ⟨_, List.getElem?_eq_getElem (by (walk_at "om"))⟩
    first | refine ex2_2 (StrsAre.item htv k tv htv1) fun yy tt e90 hy => ?_ | refine ex1_3 (StrsAre.item htv k tv htv1) fun yy tt e90 hy => ?_ | obtain ⟨yy, tt, e90, hy⟩ := StrsAre.item htv k tv htv1
    subst e90
    rw [List.getElem?_map, Option.map_eq_some_iff] at hy
    first | refine ex2_1 hy fun p0 hp0 e90 => ?_ | refine ex1_2 hy fun p0 hp0 e90 => ?_ | refine ex0_3 hy fun p0 hp0 e90 => ?_ | obtain ⟨p0, hp0, e90⟩ := hy
    subst e90
    try clear hy
    rw [hk]
    refine item_heap (F₃.keep _ _ htab) htv1 (by (walk_at "om")) ?_
    refine cend (c ++ [_]) F₃ N₃ (fun _ h => nomatch h) (fun p hp => hp) hoff ⟨rfl, by simp [hcl], ps ++ [p0], sare_snoc hps, fun p hp => ?_⟩
    rcases List.mem_append.mp hp with hp | hp
    · exact hpt p hp
    · rw [List.mem_singleton.mp hp]; exact List.mem_of_getElem? hp0
  · intro h₂ D0 C c m' h tk2 nn q9 F₂ N₂ h7 hs7
    first | refine ex2_2 q9 fun hcl0 ps hps hpt => ?_ | refine ex1_3 q9 fun hcl0 ps hps hpt => ?_ | obtain ⟨hcl0, ps, hps, hpt⟩ := q9
    try clear q9
    first | refine ex1_1 (comp_value F3 N3 F₂ N₂ hs7) fun F4 N4 => ?_ | refine ex0_2 (comp_value F3 N3 F₂ N₂ hs7) fun F4 N4 => ?_ | obtain ⟨F4, N4⟩ := comp_value F3 N3 F₂ N₂ hs7
    dsimp only [List.cons_append, List.nil_append, id] at N4
    walk_at "my steps"
    walk_at "my tidy"
    rename Fr _ _ _ _ => F5
    rename News _ _ _ _ => N5
    rename StrsAre c _ => hps
    have hhd : hd ∈ headsL := by
      first | refine ex2_2 (StrsAre.item hhv i _ hh) fun yy tt e1 hy => ?_ | refine ex1_3 (StrsAre.item hhv i _ hh) fun yy tt e1 hy => ?_ | obtain ⟨yy, tt, e1, hy⟩ := StrsAre.item hhv i _ hh
      rw [List.getElem?_map, Option.map_eq_some_iff] at hy
      first | refine ex2_1 hy fun q hq e2 => ?_ | refine ex1_2 hy fun q hq e2 => ?_ | refine ex0_3 hy fun q hq e2 => ?_ | obtain ⟨q, hq, e2⟩ := hy
      try clear hy
      have e3 : sOf hd = yy := by injection e1
      rw [← e2] at e3
      have e4 : hd = q := by simpa using congrArg (fun s : Str => s.cps.toList) e3
      rw [e4]; exact List.mem_of_getElem? hq
    have hpl : ps.length ≤ 3 := by
      have hcl : c.length = arr.size := hcl0
      have h1 := StrsAre.length hps
      rw [List.length_map] at h1
      (walk_at "om")
    have hok := row_ok hhd hpt hpl
    have htot := tot_pieces hhd hpt hpl
    have hsp : SAre (Value.str (sOf hd) th :: c) (hd :: ps) := StrsAre.cons _ _ hps
    refine Fun.use (law_names (hd :: ps) (by simp) (by (walk_at "om")) _ _ _ hsp) F5 N5 X T (N5 _ (.head _)).1 (by decide) (by decide) ?_
    intro v h8 tk8 hk8 F6 N6 q9
    first | refine ex4_3 q9 fun D vs' n' e90 hD0 hD1 hsN => ?_ | refine ex3_4 q9 fun D vs' n' e90 hD0 hD1 hsN => ?_ | refine ex2_5 q9 fun D vs' n' e90 hD0 hD1 hsN => ?_ | obtain ⟨D, vs', n', e90, hD0, hD1, hsN⟩ := q9
    subst e90
    try clear q9
    have N7 := news_new2 F5 N5 N6 hD0 hD1
    generalize hNm : names (splitL 47 (joinL [47] (hd :: ps))) = Nm at hok hsN
    refine setcell (c := L + 1 + 1 + 1 + 1) (o := o4) F6 N7 (by k_mem) d4 rfl rfl rfl ?_
    intro h9 o4' F8 hs9 hc9 d4'
    have hvN : vs'.length ≤ 6 := by
      have h1 := StrsAre.length hsN
      rw [List.length_map] at h1
      have := hok.2.2
      (walk_at "om")
    have N8 := News.cellset (rest := (D, PySem.W.listOf vs'.toArray n') :: (_, PySem.W.listOf (Value.str (sOf hd) th :: c).toArray _) :: (sA, PySem.W.listOf vs.toArray sn) :: (liA, PySem.W.listOf lvs.toArray ln) :: (hA, PySem.W.listOf hvs.toArray hn) :: (tA, PySem.W.listOf tvs.toArray tn) :: (L + 1 + 1 + 1 + 1 + 1 + 1, o6) :: (L + 1 + 1 + 1 + 1 + 1, o5) :: (L + 1 + 1 + 1, o3) :: (L + 1 + 1, o2) :: (L + 1, o1) :: (78, tabObj #[]) :: (238, tabObj #[]) :: rest) N7 hs9 hc9 (by
      refine all_cons ⟨.head _, ne_cell N7 (.head _) (by k_mem) d4 noC_list⟩ ?_
      refine all_cons ⟨.tail _ (.head _), ne_cell N7 (.tail _ (.head _)) (by k_mem) d4 noC_list⟩ ?_
      refine all_cons ⟨by k_mem, ne_cell N7 (p := (sA, _)) (by k_mem) (by k_mem) d4 noC_list⟩ ?_
      refine all_cons ⟨by k_mem, ne_cell N7 (p := (liA, _)) (by k_mem) (by k_mem) d4 noC_list⟩ ?_
      refine all_cons ⟨by k_mem, ne_cell N7 (p := (hA, _)) (by k_mem) (by k_mem) d4 noC_list⟩ ?_
      refine all_cons ⟨by k_mem, ne_cell N7 (p := (tA, _)) (by k_mem) (by k_mem) d4 noC_list⟩ ?_
      refine all_cons ⟨by k_mem, ne_add (by decide : 6 ≠ 4)⟩ ?_
      refine all_cons ⟨by k_mem, ne_add (by decide : 5 ≠ 4)⟩ ?_
      refine all_cons ⟨by k_mem, ne_add (by decide : 3 ≠ 4)⟩ ?_
      refine all_cons ⟨by k_mem, ne_add (by decide : 2 ≠ 4)⟩ ?_
      refine all_cons ⟨by k_mem, ne_add (by decide : 1 ≠ 4)⟩ ?_
      refine all_cons ⟨by k_mem, ne_cell N7 (p := (78, _)) (by k_mem) (by k_mem) d4 noC_tab⟩ ?_
      refine all_cons ⟨by k_mem, ne_cell N7 (p := (238, _)) (by k_mem) (by k_mem) d4 noC_tab⟩ ?_
      exact fun p hp => ⟨List.mem_cons_of_mem _ (.tail _ (.tail _ (.tail _ (.tail _ (.tail _ (.tail _ (.tail _ (.tail _ (.tail _ (.tail _ (.tail _ (.tail _ (.tail _ (.tail _ (.tail _ (.tail _ (.tail _ hp))))))))))))))))), (hrest p hp).2.2⟩)
    clear N5 N6 N7 F5 F6 hD0 hD1 hc9 hs9 hk8
    walk_at "my steps"
    rename Fr _ _ _ _ => F9
    rename News _ _ _ _ => N9
    have hcn := cell_of N9 (.head _) d4'
    have hvNl : vs'.length = Nm.length := by have := StrsAre.length hsN; rwa [List.length_map] at this
    refine assign_comp (cl := [(Str.ofString "names", L + 1 + 1 + 1 + 1)]) (by rfl) ⟨by rfl, by decide, rfl, by decide⟩ (by decide) ?_
    walk1
    walk1
    walk1
    walk1
    walk1
    walk1
    walk1
    walk1
    walk1
    walk1
    walk1
    refine len_news N9 (.tail _ (.head _)) (by (walk_at "om")) ?_
    intro t9 tk9
    walk1
    walk1
    walk1
    walk1
    rename IsRange _ _ _ _ _ _ _ _ => hr
    rename Fr _ _ _ _ => F10
    rename News _ _ _ _ => N10
    clear hcn
    have hcn := cell_of N10 (by k_mem) d4'
    have hDn := N10 (D, PySem.W.listOf vs'.toArray n') (by k_mem)
    first | refine ex1_1 (small7 hvN) fun hsm hsz => ?_ | refine ex0_2 (small7 hvN) fun hsm hsz => ?_ | obtain ⟨hsm, hsz⟩ := small7 hvN
    refine comp_range (σ := List Value) (n := vs'.length + 1) rfl hr hsm hsz (by rw [sizeLine_eq]; (walk_at "om")) (fun _ => []) id (fun j acc => SAre acc ((List.range j).map fun k => spotL (Nm.take k))) [] rfl rfl StrsAre.nil ?_ ?_
    · rintro C j tj c u h tk own hj hP hoff F₂ N₂
      rw [Int.zero_add] at F₂
      refine tests_nil ?_
      simp only [if_true]
      walk1
      walk1
      walk1
      walk1
      walk1
      walk1
      walk1
      walk1
      walk1
      walk1
      walk1
      walk1
      walk1
      walk1
      walk1
      rename Fr _ C _ _ => F₂
      rename News _ C _ _ => N₂
      refine kmk_slice (s := ⟨_, _, _, _, _⟩) F₂ N₂ ⟨_, F₂.keep _ _ hDn.1, rfl, n', rfl⟩ IsPart.none (IsPart.int (j : Int) tj) ?_ (by with_unfolding_all rfl) (by intro _; with_unfolding_all rfl) (by rw [sizeLine_eq, List.size_toArray]; (walk_at "om"))
      intro D9 h10 F11 N11 _
      rw [slicePick_upto', List.toList_toArray] at N11
      have hst : SAre (vs'.take j) (Nm.take j) := by rw [SAre, List.map_take]; exact StrsAre.take' hsN j
      have htt : tot (Nm.take j) ≤ 100 := tot_row hok j
      have hjl := joinL_len (Nm.take j)
      walk1
      refine join_my (sep := [47]) (items := (vs'.take j).toArray) (News.isListX N11 (.head _)) hst (by (walk_at "om")) (by decide) ?_
      intro t11 tk11
      walk1
      rename Fr _ C _ _ => F11
      rename News _ C _ _ => N11
      refine cend (c ++ [_]) F11 N11 (fun _ h => nomatch h) (fun p hp => List.mem_cons_of_mem _ (List.mem_append_right _ hp)) hoff ⟨rfl, ?_⟩
      rw [List.range_succ, List.map_append]
      exact sare_snoc hP
    · rintro h₂ D2 C c2 m2 h tk3 nn2 hP F₂ N₂
      replace hP : SAre c2 ((pres Nm).map spotL) := by
        rw [hvNl] at hP
        unfold pres
        rw [List.map_map]
        exact hP
      have hfr : ∀ p o, (p, o) ∈ _ → p ≠ D2 := fun p o hp e => by
        have h1 := (N10 (p, o) hp).1
        have h2 := (N₂ _ (.head _)).2.2
        dsimp only at h1 h2
        rw [e, h2] at h1; cases h1
      have hfr1 : sA ≠ D2 := hfr sA _ (by k_mem)
      have hfr2 : liA ≠ D2 := hfr liA _ (by k_mem)
      have hfr3 : L + 1 + 1 + 1 ≠ D2 := hfr (L + 1 + 1 + 1) _ (by k_mem)
      have hfr4 : L + 1 + 1 + 1 + 1 ≠ D2 := hfr (L + 1 + 1 + 1 + 1) _ (by k_mem)
      have hfr5 : ∀ p ∈ rest, p.1 ≠ D2 := fun p hp => hfr p.1 p.2 (by repeat (first | exact hp | refine List.mem_cons_of_mem _ ?_))
      show wpAny _ _ (storeName (envOfC _ _ _ _ _) _ _) _ _ _
      refine comp_store F10 N10 F₂ N₂ rfl rfl ?_
      intro h12 F12 N12
      dsimp only [List.cons_append, List.nil_append, id] at N12
      have hne2 : c2 ≠ [] := by
        rintro rfl
        have := StrsAre.length hP
        simp [pres] at this
      first | refine ex4_3 (SAre.last hP hne2) fun c2' ls' xx tt e90 hls _ => ?_ | refine ex3_4 (SAre.last hP hne2) fun c2' ls' xx tt e90 hls _ => ?_ | refine ex2_5 (SAre.last hP hne2) fun c2' ls' xx tt e90 hls _ => ?_ | obtain ⟨c2', ls', xx, tt, e90, hls, _⟩ := SAre.last hP hne2
      subst e90
      have hxx : xx = spotL Nm := by
        have e1 : ((pres Nm).map spotL).getLast? = some (spotL Nm) := by simp [pres, List.range_succ]
        rw [hls] at e1
        simpa using e1
      subst hxx
      clear F10 N10 F₂ N₂ hfr
      walk_at "my steps"
      rename Fr _ _ _ _ => F13
      rename News _ _ _ _ => N13
      have hcl2 : c.length ≤ 3 := by have hcl : c.length = arr.size := hcl0; (walk_at "om")
      refine star_seq (ws := Value.str (sOf hd) th :: c) F13 N13 (by k_mem) rfl rfl (.inl rfl) (by simp) (by rw [sizeLine_eq]; simp; (walk_at "om")) ?_
      intro h13 F14 N14
      clear F13 N13
      walk_at "my steps"
      rw [List.append_nil]
      rename Fr _ _ _ _ => F14
      rename News _ _ _ _ => N14
      refine Fun.use (join_w (hd :: ps) (pieces_ok hhd hpt) (by simp; (walk_at "om")) (by (walk_at "om")) _ hsp _) F14 N14 X T trivial (by decide) (by decide) ?_
      intro v h15 tk15 hk15 F15 N15 q9
      first | refine ex1_1 q9 fun tj e90 => ?_ | refine ex0_2 q9 fun tj e90 => ?_ | obtain ⟨tj, e90⟩ := q9
      subst e90
      try clear q9
      clear F14 N14 hk15
      first | refine ex2_2 (join_norm hhd hpt) fun l' el hlh hnm => ?_ | refine ex1_3 (join_norm hhd hpt) fun l' el hlh hnm => ?_ | obtain ⟨l', el, hlh, hnm⟩ := join_norm hhd hpt
      have hll' : l'.length ≤ 1000 := by
        have h1 := foldl_len (hd :: ps) [47]
        have h2 : (joinAll (hd :: ps)).length = l'.length + 1 := by rw [el]; simp
        unfold joinAll at h2
        simp only [List.length_cons, List.length_nil] at h1
        (walk_at "om")
      rw [el]
      rw [hNm] at hnm
      walk_at "my steps"
      rename Fr _ _ _ _ => F15
      rename News _ _ _ _ => N15
      refine Fun.use (normpath l' hlh hll' _) F15 N15 X T trivial (by decide) (by decide) ?_
      intro v h16 tk16 hk16 F16 N16 q9
      first | refine ex1_1 q9 fun tj2 e90 => ?_ | refine ex0_2 q9 fun tj2 e90 => ?_ | obtain ⟨tj2, e90⟩ := q9
      subst e90
      try clear q9
      clear F15 N15 hk16
      rw [hnm]
      have g1 : (sOf (spotL Nm) != sOf (spotL Nm)) = false := by simp
      walk_at "my steps"
      walk_at "my tidy"
      rename Fr _ _ _ _ => F17
      rename News _ _ _ _ => N17
      obtain ⟨q1, q2, q3, q4, q5, q6, q7, q8, q9⟩ := hdis
      have N18 : News h₀ L _ ((sA, PySem.W.listOf vs.toArray sn) :: (liA, PySem.W.listOf lvs.toArray ln) :: (hA, PySem.W.listOf hvs.toArray hn) :: (tA, PySem.W.listOf tvs.toArray tn) :: (D2, PySem.W.listOf (c2' ++ [Value.str (sOf (spotL Nm)) tt]).toArray nn2) :: (L + 1 + 1 + 1 + 1 + 1 + 1, o6) :: (L + 1 + 1 + 1 + 1 + 1, o5) :: (L + 1 + 1 + 1 + 1, o4') :: (L + 1 + 1 + 1, o3) :: (L + 1 + 1, o2) :: (L + 1, o1) :: (78, tabObj #[]) :: (238, tabObj #[]) :: rest) := KStb.news_of N17 (by
        iterate 13 refine sub_cons (by k_mem) ?_
        repeat (first | exact sub_here | refine sub_tail ?_))
      clear N17
      refine app_own F17 N18 (by
        refine all_cons (Ne.symm q1) (all_cons (Ne.symm q2) (all_cons (Ne.symm q3) (all_cons (Ne.symm hfr1) ?_)))
        refine all_cons (Nat.ne_of_lt hcs) ?_
        refine all_cons (Nat.ne_of_lt (Nat.lt_of_le_of_lt (le_up (L := L) (by decide : 5 ≤ 6)) hcs)) ?_
        refine all_cons (Nat.ne_of_lt (Nat.lt_of_le_of_lt (le_up (L := L) (by decide : 4 ≤ 6)) hcs)) ?_
        refine all_cons (Nat.ne_of_lt (Nat.lt_of_le_of_lt (le_up (L := L) (by decide : 3 ≤ 6)) hcs)) ?_
        refine all_cons (Nat.ne_of_lt (Nat.lt_of_le_of_lt (le_up (L := L) (by decide : 2 ≤ 6)) hcs)) ?_
        refine all_cons (Nat.ne_of_lt (Nat.lt_of_le_of_lt (le_up (L := L) (by decide : 1 ≤ 6)) hcs)) ?_
        exact all_cons (Ne.symm q6) (all_cons (Ne.symm q7) fun p hp => (hrest p hp).1)) (by (walk_at "om")) ?_
      intro h18 F18 N19
      clear F17 N18
      walk_at "my steps"
      walk_at "my tidy"
      rename Fr _ _ _ _ => F20
      rename News _ _ _ _ => N20
      have N21 : News h₀ L _ ((liA, PySem.W.listOf lvs.toArray ln) :: (sA, PySem.W.listOf (vs ++ [Value.str (sOf (spotL Nm)) tj2]).toArray (sn + 1)) :: (hA, PySem.W.listOf hvs.toArray hn) :: (tA, PySem.W.listOf tvs.toArray tn) :: (D2, PySem.W.listOf (c2' ++ [Value.str (sOf (spotL Nm)) tt]).toArray nn2) :: (L + 1 + 1 + 1 + 1 + 1 + 1, o6) :: (L + 1 + 1 + 1 + 1 + 1, o5) :: (L + 1 + 1 + 1 + 1, o4') :: (L + 1 + 1 + 1, o3) :: (L + 1 + 1, o2) :: (L + 1, o1) :: (78, tabObj #[]) :: (238, tabObj #[]) :: rest) := KStb.news_of N20 (by
        iterate 13 refine sub_cons (by k_mem) ?_
        repeat (first | exact sub_here | refine sub_tail ?_))
      clear N20
      refine app_own F20 N21 (by
        refine all_cons q1 (all_cons (Ne.symm q4) (all_cons (Ne.symm q5) (all_cons (Ne.symm hfr2) ?_)))
        refine all_cons (Nat.ne_of_lt hcl) ?_
        refine all_cons (Nat.ne_of_lt (Nat.lt_of_le_of_lt (le_up (L := L) (by decide : 5 ≤ 6)) hcl)) ?_
        refine all_cons (Nat.ne_of_lt (Nat.lt_of_le_of_lt (le_up (L := L) (by decide : 4 ≤ 6)) hcl)) ?_
        refine all_cons (Nat.ne_of_lt (Nat.lt_of_le_of_lt (le_up (L := L) (by decide : 3 ≤ 6)) hcl)) ?_
        refine all_cons (Nat.ne_of_lt (Nat.lt_of_le_of_lt (le_up (L := L) (by decide : 2 ≤ 6)) hcl)) ?_
        refine all_cons (Nat.ne_of_lt (Nat.lt_of_le_of_lt (le_up (L := L) (by decide : 1 ≤ 6)) hcl)) ?_
        exact all_cons (Ne.symm q8) (all_cons (Ne.symm q9) fun p hp => (hrest p hp).2.1)) (by (walk_at "om")) ?_
      intro h21 F22 N22
      clear F20 N21
      walk_at "my steps"
      refine ret _ _ _ Nm D2 _ nn2 tj2 o4' _ _ _ hok hP F22 ?_ d4' N22 hfr5 (Ne.symm hfr1) (Ne.symm hfr2) (Ne.symm hfr3) (Ne.symm hfr4)
      intro z z1 z2 z3
      simp [z1, z2, z3]
noncomputable def mkC (o : Obj) (v : Option Value) : Obj := { o with data := .cell v }
theorem mkC_eq {o : Obj} {v : Option Value} (h : o.data = .cell v) : o = mkC o v := by cases o; simp only [mkC] at *; rw [h]
theorem noF_cell {o : Obj} {v : Option Value} (h : o.data = .cell v) : noF o = true := by unfold noF; rw [h]
noncomputable abbrev L1S := Obj × Option Value × Obj × Option Value × (List Value × Nat) × (List SpE × Nat) × List (List (List Nat))
noncomputable def led1 (L sA liA hA tA : Addr) (hvs tvs : List Value) (hn tn : Nat) (o1 o2 o5 o6 : Obj) (c : L1S) : List (Addr × Obj) :=
  (sA, PySem.W.listOf c.2.2.2.2.1.1.toArray c.2.2.2.2.1.2) :: (liA, PySem.W.listOf (spAcc c.2.2.2.2.2.1.1).toArray c.2.2.2.2.2.1.2) :: (hA, PySem.W.listOf hvs.toArray hn) :: (tA, PySem.W.listOf tvs.toArray tn) :: (L + 1 + 1 + 1 + 1 + 1 + 1, o6) :: (L + 1 + 1 + 1 + 1 + 1, o5) :: (L + 1 + 1 + 1 + 1, mkC c.2.2.1 c.2.2.2.1) :: (L + 1 + 1 + 1, mkC c.1 c.2.1) :: (L + 1 + 1, o2) :: (L + 1, o1) :: (78, tabObj #[]) :: (238, tabObj #[]) :: spLed c.2.2.2.2.2.1.1
noncomputable def inv1 (L sA liA : Addr) (i : Nat) (c : L1S) : Prop :=
  c.2.2.2.2.2.2.length = i ∧ SAre c.2.2.2.2.1.1 (c.2.2.2.2.2.2.map spotL) ∧ c.2.2.2.2.2.1.1.length = i ∧ (∀ (j : Nat) (e : SpE), c.2.2.2.2.2.1.1[j]? = some e → ∃ N, c.2.2.2.2.2.2[j]? = some N ∧ SAre e.2.1 ((pres N).map spotL)) ∧ (∀ N ∈ c.2.2.2.2.2.2, okR N) ∧ (∀ e ∈ c.2.2.2.2.2.1.1, e.1 ≠ sA ∧ e.1 ≠ liA ∧ e.1 ≠ L + 1 + 1 + 1 ∧ e.1 ≠ L + 1 + 1 + 1 + 1)
theorem map3 {m : Str → Option Value} {hA liA l : Addr} (h1 : m (Str.ofString "heads") = some (.ref hA)) (h2 : m (Str.ofString "lines") = some (.ref liA)) (h3 : m (Str.ofString "script") = some (.ref l)) :
    m = fun y => if y = Str.ofString "heads" then some (.ref hA) else if y = Str.ofString "lines" then some (.ref liA) else if y = Str.ofString "script" then some (.ref l) else m y := by
  funext z
  split
  · rename_i e; rw [e, h1]
  · split
    · rename_i e; rw [e, h2]
    · split
      · rename_i e; rw [e, h3]
      · rfl
theorem adne {a b : Addr} (h : @LT.lt Nat _ a b ∨ @LT.lt Nat _ b a) : a ≠ b := by rcases h with h | h; exact Nat.ne_of_lt h; exact Nat.ne_of_gt h
theorem map3Fr {h₀ h : Heap} {L : Addr} {m : Str → Option Value} {hA liA l : Addr} (F : Fr h₀ L h m) (h1 : m (Str.ofString "heads") = some (.ref hA)) (h2 : m (Str.ofString "lines") = some (.ref liA)) (h3 : m (Str.ofString "script") = some (.ref l)) :
    Fr h₀ L h (fun y => if y = Str.ofString "heads" then some (.ref hA) else if y = Str.ofString "lines" then some (.ref liA) else if y = Str.ofString "script" then some (.ref l) else m y) := by rw [← map3 h1 h2 h3]; exact F
theorem reg_none_C36 : True := by
  k_with_none
  trivial
theorem reg_j_25 : True := by
  (k_with "call builtin:issubclass" => (k_here; (rename News _ _ _ _ => kN); refine isub _ _ _ _ _ _ ((kN _ (by k_mem)).1) ?_; intro _))
  (k_with "exec For" => (refine wpAny_For ?_ (by intro _; rfl)))
  (k_with "my steps" => repeat' (first | (k_unfold; (try dsimp only)) | ((fail_if_success (with_reducible show wpAny _ _ (exec (Stmt.While _ _ _ _) _) _ _ _)); (fail_if_success (with_reducible show wpAny _ _ (exec (Stmt.For _ _ _ _ _) _) _ _ _)); (fail_if_success (with_reducible show wpAny _ _ (exec (Stmt.Assign _ (Expr.ListComp _ _ _ _) _) _) _ _ _)); (fail_if_success (with_reducible show wpAny _ _ (eval (Expr.ListComp _ _ _ _) _) _ _ _)); walk1) | fail "no step"))
  (k_with "om" => (first | with_reducible assumption | with_unfolding_all exact Nat.le_of_ble_eq_true rfl | ((with_reducible apply om1); (focus with_reducible assumption); with_unfolding_all exact rfl) | ((with_reducible apply om3); (focus with_reducible assumption); with_unfolding_all exact rfl) | ((with_reducible apply om2); (focus with_reducible assumption); with_unfolding_all exact rfl) | ((with_reducible apply om4); (focus with_reducible assumption); with_unfolding_all exact rfl) | ((with_reducible apply om5); (focus with_reducible assumption); with_unfolding_all exact rfl) | ((with_reducible apply om6); (focus with_reducible assumption); with_unfolding_all exact rfl) | ((with_reducible apply om7); (focus with_reducible assumption); with_unfolding_all exact rfl) | ((with_reducible apply om8); (focus with_reducible assumption); with_unfolding_all exact rfl) | with_reducible exact Int.natCast_nonneg _ | with_reducible exact om9 | ((with_reducible apply om10); (focus with_reducible assumption); with_unfolding_all exact rfl) | ((with_reducible apply om11); (focus with_reducible assumption); with_unfolding_all exact rfl) | ((with_reducible apply Nat.le_of_lt); with_reducible assumption) | ((with_reducible apply Nat.succ_le_of_lt); with_reducible assumption) | ((with_reducible apply om12); (focus with_reducible assumption); with_unfolding_all exact rfl) | ((with_reducible apply om13); (focus with_reducible assumption); with_unfolding_all exact rfl) | ((with_reducible apply om14); (focus with_reducible assumption); with_unfolding_all exact rfl) | ((with_reducible apply om15); (focus with_reducible assumption); with_unfolding_all exact rfl) | ((with_reducible apply om16); (focus with_reducible assumption); with_unfolding_all exact rfl) | ((with_reducible apply om17); (focus with_reducible assumption); with_unfolding_all exact rfl) | ((with_reducible apply om19); (focus with_reducible assumption); with_unfolding_all exact rfl) | ((with_reducible apply om20); (focus with_reducible assumption); with_unfolding_all exact rfl) | ((with_reducible apply om18); with_reducible assumption) | ((with_reducible show (_ : Int) = _); with_unfolding_all exact rfl) | ((with_reducible apply om21); (focus with_reducible assumption); with_unfolding_all exact rfl) | ((with_reducible apply om22); with_unfolding_all exact rfl) | ((with_reducible apply om25); with_unfolding_all exact rfl) | ((with_reducible apply om24); with_unfolding_all exact rfl) | ((with_reducible apply om23); with_unfolding_all exact rfl) | decide | omega))
  (k_with "execs cons" => ((with_reducible refine exec_seq ?_); (try dsimp only)))
  (k_with "Seq" => (first | with_reducible refine seq_next ?_ | with_reducible refine seq_ret ?_ | with_reducible refine seq_brk ?_ | with_reducible refine seq_cont ?_))
  (k_with "exec If" => (with_reducible refine exec_if ?_))
  (k_with "IfQ" => (first | with_reducible refine ifq_t ?_ | with_reducible refine ifq_f ?_ | with_reducible refine ifq ?_))
  (k_with "call ref" => (k_here; (first | apply Fun.useE (fspath _ _) | apply Fun.useX (get_sep _ _) | apply Fun.useX (law_stem _ _) | apply Fun.useX (strcoll _ _ _ _) | apply Fun.useH (fun h => escape _ h _) | apply Fun.useE (strxfrm _ _)); (iterate 3 with_reducible assumption); assumption; trivial; (first | (apply room_d; assumption; exact rfl) | (dsimp only [Ar]; (walk_at "om"))); (first | (apply room_u; assumption; exact rfl) | (dsimp only [Ar]; (walk_at "om"))); intros))
  (k_with "my item" => (k_here; first | refine item_my (j := 0) (by (walk_at "om")) rfl (by (walk_at "om")) ?_ | refine item_my (j := 1) (by (walk_at "om")) rfl (by (walk_at "om")) ?_ | refine item_my (j := 2) (by (walk_at "om")) rfl (by (walk_at "om")) ?_ | refine item_my (j := 3) (by (walk_at "om")) rfl (by (walk_at "om")) ?_))
  (k_with "subscriptTail Name Name str int" => walk_at "my item")
  (k_with "subscriptTail Name BinOp str int" => walk_at "my item")
  (k_with "subscriptTail Name Constant str int" => walk_at "my item")
  (k_with "subscriptTail Name UnaryOp str int" => walk_at "my item")
  (k_with "call builtin:len" => (k_here; refine len_sOf (by first | ((simp only [List.length_append, List.length_cons, List.length_nil]); exact rfl) | exact rfl) (by (walk_at "om")) ?_))
  (k_with "my same" => (first | (intro z h2 h3; (repeat (refine sm_step ?hne ?_; (case hne => first | exact h2 _ (.head _) | exact h2 _ (.tail _ (.head _)) | exact h2 _ (.tail _ (.tail _ (.head _))) | exact sm_stored h3 (by decide +kernel)))); first | exact sm_last h3 | exact rfl) | (intro z h2 h3; (simp only [List.forall_mem_cons, List.not_mem_nil, false_implies, implies_true, and_true, ne_eq] at h2); (simp only [List.contains_cons, List.contains_nil, Bool.or_false, Bool.or_eq_false_iff, beq_eq_false_iff_ne, ne_eq] at h3); (simp [h2, h3, kstB]; done))))
  (k_with "binaryOp Add str str" => (k_here; refine add_sOf (by (simp only [List.length_append, List.length_cons, List.length_nil]); (walk_at "om")) ?_; intro _ _))
  (k_with "ite" => (k_closed; first | refine ite_pos (by decide +kernel) ?_ | refine ite_neg (by decide +kernel) ?_))
  (k_with "eval Name" => (k_here; (with_reducible show wpAny _ _ (eval _ (compEnvC _ _ _ _)) _ _ _); (with_reducible rename Fr _ _ _ _ => kF); first | refine ev_loc kF rfl ?_ rfl rfl (by decide) | refine ev_cell kF rfl (by assumption) ?_ rfl rfl (by decide)))
  (k_with "call builtin:str.join" => (k_here; (with_reducible rename News _ _ _ _ => kN); refine join_my (News.isListX kN (by k_mem)) (by assumption) (by first | assumption | (simp only [tot_append, tot_cons, tot_nil]; (walk_at "om"))) (by simp) ?_; intro _ _))
  (k_with "eval Constant str" => (with_reducible refine const_my (by first | exact cst0 | exact cst1 | exact cst2 | exact cst3 | exact cst4 | exact cst5 | exact cst6 | exact cst7 | exact cst8 | exact cst9 | exact cst10 | exact cst11 | exact cst12 | exact cst13 | exact cst14 | exact cst15 | exact cst16 | exact cst17 | exact cst18 | exact cst19 | exact cst20 | exact cst21 | exact cst22 | exact cst23 | exact cst24 | exact cst25 | exact cst26 | exact cst27) ?_))
  (k_with "getAttr ref" => (k_here; (with_reducible show wpAny _ _ (getAttr (Value.ref _) (PySem.Str.ofString "append") _) _ _ _); (with_reducible rename Fr _ _ _ _ => kF); (with_reducible rename News _ _ _ _ => kN); refine' attr_append_N kF kN ?ha ?_; (case ha => k_mem); intro _ _ _ _ _))
  (k_with "callWith ref" => (k_here; (with_reducible rename News _ _ _ _ => kN); refine' bound_call kN ?hq ?_; (case hq => k_mem)))
  (k_with "call ref" => (k_here; (with_reducible rename Fr _ _ _ _ => kF); (with_reducible rename News _ _ _ _ => kN); refine' bound_append_L kF kN ?hq ?hl ?hs ?_; (case hq => k_mem); (case hl => k_mem); (case hs => ((try simp only [List.length_append, List.length_cons, List.length_nil]); (walk_at "om"))); intro _ _ _))
  (k_with "truthy ref" => (k_here; (with_reducible rename News _ _ _ _ => kN); refine' truthy_L kN ?hl ?hs ?_; (case hl => k_mem); (case hs => ((try simp only [List.length_append, List.length_cons, List.length_nil]); (walk_at "om"))); (try simp only [List.isEmpty_append, List.isEmpty_cons, Bool.and_false, Bool.not_false])))
  (k_with "subscriptTail Name UnaryOp ref int" => (k_here; (with_reducible rename News _ _ _ _ => kN); refine' item_last (News.isListX kN ?hl) ?_ ?hs ?hg; (case hl => k_mem); (case hs => with_unfolding_all rfl); (case hg => (intro _; with_unfolding_all rfl))))
  (k_with "compareOp IsNot str ref" => (k_here; refine wpAny_isNot_other (by rfl) (by intro x; cases x) ?_))
  (k_with "And" => ((with_reducible show Heap.get? _ _ = _ ∧ _); (with_reducible rename News _ _ _ _ => kN); refine' ⟨boundAt kN ?hq, ?_⟩; (case hq => with_unfolding_all k_mem); (try dsimp only)))
  (k_with "getAttr ref" => (k_here; (apply attr_append_T (P := 78)); (iterate 2 with_reducible assumption); (iterate 2 k_mem); intros))
  (k_with "call ref" => (k_here; (apply bound_append_T (P := 78)); (iterate 2 with_reducible assumption); (iterate 3 k_mem); (focus (try simp only [List.length_append, List.length_cons, List.length_nil]); (walk_at "om")); intros))
  (k_with "eval Lambda" => (k_here; (with_reducible rename Fr _ _ _ _ => kF); (with_reducible rename News _ _ _ _ => kN); (with_reducible rename Frag.In _ _ => kX); (with_reducible rename Top _ _ _ _ _ _ => kT); (with_reducible rename TabOk _ => kO); refine' lam_T kF kN kX kT ?hq ?hl ?hT kO rfl ?hc ⟨rfl, rfl⟩ ?_; (case hq => k_mem); (case hl => k_mem); (case hT => k_mem); (case hc => rfl); intro _ _ _ _ _ _ _ _))
  (k_with "getMethod ref" => (k_here; (with_reducible show wpAny _ _ (getMethod _ (PySem.Str.ofString "sub") _) _ _ _); (apply gm_sub); (iterate 2 with_reducible assumption)))
  (k_with "call builtin:str.replace" => (k_here; (first | apply rep42 | apply rep91); intros))
  (k_with "call builtin:re.Pattern.sub" => (k_here; (first | apply resub42N | apply resub91N); (iterate 3 with_reducible assumption); intros))
  (k_with "subscriptTail Name UnaryOp str int" => (k_here; refine item_plain (j := 0) rfl rfl (by (walk_at "om")) ?_))
  (k_with "subscriptTail Name Constant str int" => (k_here; refine item_plain (j := 0) rfl rfl (by (walk_at "om")) ?_))
  (k_with "truthy str" => (k_here; refine truthy_sOf ?hl ?_; (case hl => first | assumption | (walk_at "om") | (simp only [List.length_cons]; (walk_at "om"))); intro _; (try dsimp only [List.isEmpty, Bool.not_false, Bool.not_true])))
  (k_with "call builtin:str.split" => (k_here; (with_reducible rename Fr _ _ _ _ => kF); (with_reducible rename News _ _ _ _ => kN); refine splitN1 (hsz := ?hsz) kF kN rfl ?_; (case hsz => (rw [sizeLine_eq, sOf_len]; (walk_at "om"))); intro kl _ _ ke _ _; (rw [split_sOf] at ke); (have kS := strValues_are kl); (rw [ke] at kS)))
  (k_with "my same0" => (first | (intro z h2 h3; (repeat (refine sm_step ?hne ?_; (case hne => first | exact h2 _ (.head _) | exact h2 _ (.tail _ (.head _)) | exact h2 _ (.tail _ (.tail _ (.head _))) | exact sm_stored h3 (by decide +kernel)))); first | exact sm_last h3 | exact rfl) | (intro z _ h3; (simp only [List.contains_cons, List.contains_nil, Bool.or_false, Bool.or_eq_false_iff, beq_eq_false_iff_ne, ne_eq] at h3); (simp [h3, kstB]; done))))
  (k_with "call builtin:list.append" => (k_here; (with_reducible rename Fr _ _ _ _ => kF); (with_reducible rename News _ _ _ _ => kN); refine app_own kF kN ?hoff ?hsz ?_; (case hoff => assumption); (case hsz => (walk_at "om")); intro _ _ _))
  (k_with "call builtin:list.pop" => (k_here; (with_reducible rename Fr _ _ _ _ => kF); (with_reducible rename News _ _ _ _ => kN); refine pop_own kF kN ?hoff ?hsz ?_; (case hoff => assumption); (case hsz => (walk_at "om")); intro _ _ _))
  (k_with "call builtin:str.startswith" => (k_here; refine starts_my (by assumption) ?_))
  (k_with "call builtin:str.endswith" => (k_here; refine ends_my (by assumption) ?_))
  (k_with "inplaceOp Add str str" => (k_here; refine iadd_sOf (by (simp only [List.length_append, List.length_cons, List.length_nil]); first | (walk_at "om") | ((simp only [List.length_cons] at *); (walk_at "om"))) ?_; intro _ _))
  (k_with "call type:map" => (k_here; (with_reducible rename Fr _ _ _ _ => kF); (with_reducible rename News _ _ _ _ => kN); refine map_N kF kN (by assumption) ?_; intro _ _ _ _ _ _ _ _ _ _))
  (k_with "call type:tuple" => (k_here; (with_reducible rename Fr _ _ _ _ => kF); (with_reducible rename News _ _ _ _ => kN); (with_reducible rename Frag.In _ _ => kX); (with_reducible rename Top _ _ _ _ _ _ => kT); refine tuple_N kF kN (by assumption) (by assumption) (by assumption) kX kT (by assumption) (by dsimp only [Ar]; (walk_at "om")) (by dsimp only [Ar]; (walk_at "om")) ?_; intro _ _ _ _ _))
  (k_with "my tidy" => ((with_reducible rename Fr _ _ _ _ => kF); (with_reducible rename News _ _ _ _ => kN); revert kF kN; (repeat ((with_reducible rename Fr _ _ _ _ => kZ); clear kZ)); (repeat ((with_reducible rename News _ _ _ _ => kZ); clear kZ)); intro _ _))
  (k_with "eval Name" => (k_here; (with_reducible show wpAny _ _ (eval _ (compEnvC _ _ _ _)) _ _ _); (with_reducible rename Fr _ _ _ _ => kF); refine ev_cell kF rfl (by with_reducible assumption) ?_ rfl rfl (by decide)))
  trivial
section
variable {prog : Program} {w : World} {A : Around} {E : Value → Shared → Prop} {Q : Flow → Shared → Prop} {s : Shared} {env : Env} {h₀ : Heap}
/-- a for over a list, its ledger may hold what lies below the frame -/
theorem for_list2 {σ : Type} {x : Str} {px : Pos} {body : List Stmt} {l : Addr} {items : Array Value} {ol : Obj} {m₀ : Str → Option Value}
    (Led : σ → List (Addr × Obj)) (ps : σ → List (Str × Value)) (stored : List Str) (P : Nat → σ → Prop)
    (hh : A.handled = none) (hol : ol.cls = .type "list") (hod : ∃ nl, ol.data = .seq items nl)
    (hfix : ∀ c h m, Fr h₀ env.locals h m → News h₀ env.locals h (Led c) → h.get? l = some ol) (hlL : env.locals ≠ l)
    (hled : ∀ c, ∀ p ∈ Led c, noF p.2 = true ∨ @LT.lt Nat _ p.1 env.locals)
    (F : Fr h₀ env.locals s.heap m₀) (h0 : ∃ c₀, News h₀ env.locals s.heap (Led c₀) ∧ AllAt m₀ (ps c₀) ∧ P 0 c₀)
    (turn : ∀ i v (c : σ) (u : Str → Option Value) h tk own, items[i]? = some v → P i c → OwnOff own ((Led c).map (·.1)) →
      Fr h₀ env.locals h (kstB (fun z => if stored.contains z then u z else m₀ z) (ps c)) → News h₀ env.locals h (Led c ++ own) →
      wpAny (model prog w) A (assign (.Name x px) env v) (fun _ s₂ => wpAny (model prog w) A (execs body env) (FPost h₀ env.locals Led ps stored m₀ (P (i + 1)) own s Q) E s₂) E { s with heap := h, toks := tk })
    (done : ∀ (c : σ) (u : Str → Option Value) h tk, P items.size c → Fr h₀ env.locals h (kstB (fun z => if stored.contains z then u z else m₀ z) (ps c)) → News h₀ env.locals h (Led c) → Q .next { s with heap := h, toks := tk })
    (hE : PassesOwn (model prog w) A env E) :
    wpAny (model prog w) A (pyIter (.ref l)) (fun it s₂ => codeAny (model prog w) A (.forLoop (.Name x px) it body [] env) (fun r s' => match r with | .ok f => Q f s' | .error e => cameBackBy (model prog w) A env E e s') s₂) E s := by
  first | refine ex2_2 h0 fun c₀ N hk hp => ?_ | refine ex1_3 h0 fun c₀ N hk hp => ?_ | obtain ⟨c₀, N, hk, hp⟩ := h0
  try clear h0
  replace hk := hk.all
  have hl0 := hfix c₀ _ _ F N
  have hlt := Heap.lt_size hl0
  have hls : s.heap.IsList l items := let ⟨nl, hd⟩ := hod; ⟨ol, hl0, hol, nl, hd⟩
  refine wpAny_pyIter_list hls ?_
  have hne : l ≠ s.heap.objs.size := Nat.ne_of_lt hlt
  have hI0 : h₀.get? s.heap.objs.size = none := Heap.get?_none_of_le (Nat.le_trans F.above (Nat.le_of_lt F.ns.lt))
  refine for_core2 (s := { s with heap := s.heap.push _ }) (Walks.list hh s.heap.objs.size l hne items) Led ps stored P c₀ ?_ hI0 (fun i h st => ?_) (fun _ _ _ _ _ hQ => wpAny_pure hQ) (fun b hb hbI => ?_) (fun c p hp => (hled c p hp).imp id fun h => Nat.ne_of_lt (Nat.lt_trans h F.ns.lt)) ⟨⟨_, Heap.get?_push_size _ rfl, rfl, rfl⟩, hls.at fun o e => Heap.get?_push_of_some _ e⟩ (F.push _)
    (fun p hp => ⟨Heap.get?_push_of_some _ (N p hp).1, (N p hp).2⟩) hk hp (fun i v c u h tk own hi hv => turn i v c u h tk own hv) (fun c u h tk => done c u h tk) hE
  · intro hm
    rcases List.mem_cons.mp hm with e | hm
    · exact absurd F.ns.lt (e ▸ Nat.lt_irrefl _)
    · exact hlL (List.mem_singleton.mp hm)
  · obtain ⟨⟨o, ho, hc, hd⟩, _⟩ := st
    exact ⟨o, ho, by unfold noF; rw [hd]⟩
  · rcases List.mem_cons.mp hb with e | hb
    · exact absurd e hbI
    · rw [List.mem_singleton.mp hb]
      exact ⟨ol, fun c h m F N => hfix c h m F N⟩
end
section
variable {prog : Program} {w : World} {A : Around} {E : Value → Shared → Prop} {s : Shared}
theorem sOf_inj {a b : List Nat} (h : sOf a = sOf b) : a = b := by simpa using congrArg (fun s : Str => s.cps.toList) h
theorem any_texts {ls : List (List Nat)} {x : List Nat} : (ls.map sOf).any (· == sOf x) = decide (x ∈ ls) := by
  rw [List.any_map]
  induction ls with
  | nil => simp
  | cons y r ih =>
    rw [List.any_cons, ih]
    by_cases e : x = y
    · subst e; simp
    · have : (sOf y == sOf x) = false := by
        rw [beq_eq_false_iff_ne]
        exact fun q => e (sOf_inj q).symm
      simp [this, e]
theorem in_texts {l : Addr} {vs : List Value} {ls : List (List Nat)} {x : List Nat} {t : Tok} {Q : Value → Shared → Prop} (hl : s.heap.IsList l vs.toArray) (hi : SAre vs ls)
    (h : Q (.bool (decide (x ∈ ls))) s) : wpAny (model prog w) A (compareOp .In (.str (sOf x) t) (.ref l)) Q E s := in_list_strs hl hi (by rw [any_texts]; exact h)
theorem notin_texts {l : Addr} {vs : List Value} {ls : List (List Nat)} {x : List Nat} {t : Tok} {Q : Value → Shared → Prop} (hl : s.heap.IsList l vs.toArray) (hi : SAre vs ls)
    (h : Q (.bool (!decide (x ∈ ls))) s) : wpAny (model prog w) A (compareOp .NotIn (.str (sOf x) t) (.ref l)) Q E s := notin_list_strs hl hi (by rw [any_texts]; exact h)
end
/-- a cell is written: all else that the ledger holds stays -/
theorem News.setc {h₀ h h' : Heap} {L c : Addr} {o o' : Obj} {v : Option Value} {news rest : List (Addr × Obj)} (N : News h₀ L h news) (hm : (c, o) ∈ news) (hd : o.data = .cell v) (hs : Heap.SameBut c h h') (hc : h'.get? c = some o' ∧ c ≠ L ∧ h₀.get? c = none)
    (hr : ∀ p ∈ rest, p ∈ news ∧ (p.1 ≠ c ∨ ∀ v, p.2.data ≠ .cell v)) : News h₀ L h' ((c, o') :: rest) :=
  News.cellset N hs hc fun p hp => ⟨(hr p hp).1, (hr p hp).2.elim id fun hn => ne_cell N (hr p hp).1 hm hd hn⟩
open PySem.W
/-- a tree of questions about n things, the answers c: each question is about two of them, and P holds of what comes out -/
noncomputable def Ends (n : Nat) (c : Nat → Nat → Bool) {α : Type} (P : α → Prop) : KasT α → Prop
  | .ret a => P a
  | .ask i j k => i < n ∧ j < n ∧ Ends n c P (k (c i j))
theorem Ends.then {n : Nat} {c : Nat → Nat → Bool} {α β : Type} {P : β → Prop} {f : α → KasT β} : ∀ {t : KasT α}, Ends n c (fun a => Ends n c P (f a)) t → Ends n c P (t.bind f)
  | .ret _, h => h
  | .ask _ _ _, h => ⟨h.1, h.2.1, Ends.then h.2.2⟩
theorem Ends.imp {n : Nat} {c : Nat → Nat → Bool} {α : Type} {P P' : α → Prop} (hP : ∀ a, P a → P' a) : ∀ {t : KasT α}, Ends n c P t → Ends n c P' t
  | .ret a, h => hP a h
  | .ask _ _ _, h => ⟨h.1, h.2.1, Ends.imp hP h.2.2⟩
theorem Ends.wp {n : Nat} {c : Nat → Nat → Bool} {α : Type} {P : α → Prop} {cmp : Nat → Nat → (Bool → Shared → Prop) → Shared → Prop} {Q : α → Shared → Prop} {s : Shared}
    (hc : ∀ i j C, i < n → j < n → C (c i j) s → cmp i j C s) (hP : ∀ a, P a → Q a s) : ∀ {t : KasT α}, Ends n c P t → t.kasWp cmp Q s
  | .ret a, h => hP a h
  | .ask i j _, h => hc i j _ h.1 h.2.1 (Ends.wp hc hP h.2.2)
/-- a row of the n things, each once -/
structure Row (n : Nat) (p : Array Nat) : Prop where
  size : p.size = n
  perm : p.toList.Perm (List.range n)
section
variable {n : Nat} {R : Nat → Nat → Prop} [DecidableRel R] {p : Array Nat}
theorem Row.at (h : Row n p) {i : Nat} (hi : i < n) : p.getD i 0 = p[i]'(h.size ▸ hi) := by simp [Array.getD, h.size, hi]
theorem Row.lt (h : Row n p) {i : Nat} (hi : i < n) : p.getD i 0 < n := by
  rw [h.at hi]
  exact List.mem_range.mp (h.perm.mem_iff.mp (Array.getElem_mem_toList _))
theorem Row.ne (h : Row n p) {i j : Nat} (hi : i < n) (hj : j < n) (e : i ≠ j) : p.getD i 0 ≠ p.getD j 0 := by
  rw [h.at hi, h.at hj]
  intro q
  have nd : p.toList.Nodup := h.perm.nodup_iff.mpr List.nodup_range
  exact e ((List.getElem_inj (xs := p.toList) (h₀ := by simp [h.size, hi]) (h₁ := by simp [h.size, hj]) nd).mp (by simpa using q))
/-- R tells of each two things which comes first -/
structure Ord (n : Nat) (R : Nat → Nat → Prop) : Prop where
  tr : ∀ a b c, R a b → R b c → R a c
  tot : ∀ a b, a < n → b < n → a ≠ b → ¬ R a b → R b a
noncomputable def Asc (R : Nat → Nat → Prop) (p : Array Nat) (m : Nat) : Prop := ∀ i j, i < j → j < m → R (p.getD i 0) (p.getD j 0)
noncomputable def Desc (R : Nat → Nat → Prop) (p : Array Nat) (m : Nat) : Prop := ∀ i j, i < j → j < m → R (p.getD j 0) (p.getD i 0)
theorem Asc.snoc (O : Ord n R) {m : Nat} (a : Asc R p m) (h : R (p.getD (m - 1) 0) (p.getD m 0)) : Asc R p (m + 1) := fun i j hij hj => by
  by_cases e : j < m
  · exact a i j hij e
  · obtain rfl : j = m := by (walk_at "om")
    by_cases e2 : i = j - 1
    · exact e2 ▸ h
    · exact O.tr _ _ _ (a i (j - 1) (by (walk_at "om")) (by (walk_at "om"))) h
theorem Desc.snoc (O : Ord n R) {m : Nat} (a : Desc R p m) (h : R (p.getD m 0) (p.getD (m - 1) 0)) : Desc R p (m + 1) := fun i j hij hj => by
  by_cases e : j < m
  · exact a i j hij e
  · obtain rfl : j = m := by (walk_at "om")
    by_cases e2 : i = j - 1
    · exact e2 ▸ h
    · exact O.tr _ _ _ h (a i (j - 1) (by (walk_at "om")) (by (walk_at "om")))
theorem Row.or (O : Ord n R) (h : Row n p) {i j : Nat} (hi : i < n) (hj : j < n) (e : i ≠ j) (q : ¬ R (p.getD i 0) (p.getD j 0)) : R (p.getD j 0) (p.getD i 0) := O.tot _ _ (h.lt hi) (h.lt hj) (h.ne hi hj e) q
theorem ask_y {α : Type} {P : α → Prop} {i j : Nat} {T U : KasT α} (r : R i j) (hi : i < n) (hj : j < n) (h : Ends n (fun i j => decide (R i j)) P T) : Ends n (fun i j => decide (R i j)) P (.ask i j fun c => if c = true then T else U) := by
  refine ⟨hi, hj, ?_⟩
  dsimp only
  rw [decide_eq_true r, if_pos rfl]
  exact h
theorem ask_n {α : Type} {P : α → Prop} {i j : Nat} {T U : KasT α} (r : ¬ R i j) (hi : i < n) (hj : j < n) (h : Ends n (fun i j => decide (R i j)) P U) : Ends n (fun i j => decide (R i j)) P (.ask i j fun c => if c = true then T else U) := by
  refine ⟨hi, hj, ?_⟩
  dsimp only
  rw [decide_eq_false r, if_neg Bool.false_ne_true]
  exact h
theorem asc_ends (O : Ord n R) (h : Row n p) : ∀ (f m : Nat), 1 ≤ m → m + f ≤ n → Asc R p m → Ends n (fun i j => decide (R i j)) (fun r => Asc R p r ∧ m ≤ r ∧ r ≤ m + f ∧ (r < m + f → R (p.getD r 0) (p.getD (r - 1) 0))) (kas_asc p f m)
  | 0, m, _, _, a => ⟨a, Nat.le_refl _, Nat.le_refl _, fun q => absurd q (Nat.lt_irrefl _)⟩
  | f + 1, m, h1, hm, a => by
    by_cases c : R (p.getD m 0) (p.getD (m - 1) 0)
    · exact ask_y c (h.lt (by (walk_at "om"))) (h.lt (by (walk_at "om"))) ⟨a, Nat.le_refl _, Nat.le_add_right .., fun _ => c⟩
    · refine ask_n c (h.lt (by (walk_at "om"))) (h.lt (by (walk_at "om"))) ?_
      have := asc_ends O h f (m + 1) (by (walk_at "om")) (by (walk_at "om")) (a.snoc O (h.or O (by (walk_at "om")) (by (walk_at "om")) (by (walk_at "om")) c))
      rw [show m + (f + 1) = m + 1 + f by (walk_at "om")]
      exact Ends.imp (fun r hr => ⟨hr.1, by (walk_at "om"), hr.2.2⟩) this
theorem desc_ends (O : Ord n R) (h : Row n p) : ∀ (f m : Nat), 1 ≤ m → m + f ≤ n → Desc R p m → Ends n (fun i j => decide (R i j)) (fun r => ∃ q, r = (p, q, 0) ∧ Desc R p q ∧ m ≤ q ∧ q ≤ m + f) (kas_desc f p m 0)
  | 0, m, _, _, a => ⟨m, rfl, a, Nat.le_refl _, Nat.le_refl _⟩
  | f + 1, m, h1, hm, a => by
    by_cases c : R (p.getD m 0) (p.getD (m - 1) 0)
    · refine ask_y c (h.lt (by (walk_at "om"))) (h.lt (by (walk_at "om"))) ?_
      rw [if_neg (Nat.lt_irrefl 0)]
      refine (desc_ends O h f (m + 1) (by (walk_at "om")) (by (walk_at "om")) (a.snoc O c)).imp fun r hr => ?_
      first | refine ex3_2 hr fun q e d h2 h3 => ?_ | refine ex2_3 hr fun q e d h2 h3 => ?_ | refine ex0_5 hr fun q e d h2 h3 => ?_ | obtain ⟨q, e, d, h2, h3⟩ := hr
      try clear hr
      exact ⟨q, e, d, by (walk_at "om"), by (walk_at "om")⟩
    · exact ask_n c (h.lt (by (walk_at "om"))) (h.lt (by (walk_at "om"))) (ask_y (h.or O (by (walk_at "om")) (by (walk_at "om")) (by (walk_at "om")) c) (h.lt (by (walk_at "om"))) (h.lt (by (walk_at "om"))) ⟨m, rfl, a, Nat.le_refl _, Nat.le_add_right ..⟩)
theorem getD_of {p q : Array Nat} {i j : Nat} (h : p[i]? = q[j]?) : p.getD i 0 = q.getD j 0 := by
  rw [Array.getD_eq_getD_getElem?, Array.getD_eq_getD_getElem?, h]
theorem Row.turn (h : Row n p) (m : Nat) : Row n (kas_rev p 0 m) := ⟨(mirror_size ..).trans h.size, (Array.perm_iff_toList_perm.mp (mirror_perm ..)).trans h.perm⟩
theorem turn_at (h : Row n p) {m i : Nat} (hm : m ≤ n) (hi : i < m) : (kas_rev p 0 m).getD i 0 = p.getD (m - 1 - i) 0 := by
  refine getD_of ?_
  unfold kas_rev
  rw [getElem?_mirror_all (by rw [h.size]; exact hm), if_pos ⟨Nat.zero_le _, hi⟩, Nat.zero_add]
theorem Desc.turn (h : Row n p) {m : Nat} (hm : m ≤ n) (a : Desc R p m) : Asc R (kas_rev p 0 m) m := fun i j hij hj => by
  rw [turn_at h hm (by (walk_at "om")), turn_at h hm hj]
  exact a _ _ (by (walk_at "om")) (by (walk_at "om"))
noncomputable def Run (n : Nat) (R : Nat → Nat → Prop) (r : Nat × Array Nat) : Prop := Row n r.2 ∧ Asc R r.2 r.1 ∧ 1 ≤ r.1 ∧ r.1 ≤ n
theorem count_ends (O : Ord n R) (h : Row n p) (hn : 1 ≤ n) : Ends n (fun i j => decide (R i j)) (Run n R) (kas_count n p) := by
  refine Ends.then ((asc_ends O h (n - 1) 1 (Nat.le_refl 1) (by (walk_at "om")) fun i j a b => by (walk_at "om")).imp fun m hm => ?_)
  first | refine ex2_2 hm fun a h1 h2 h3 => ?_ | refine ex1_3 hm fun a h1 h2 h3 => ?_ | obtain ⟨a, h1, h2, h3⟩ := hm
  try clear hm
  by_cases e : m = n
  · subst e
    rw [if_pos (beq_self_eq_true _)]
    exact ⟨h, a, h1, Nat.le_refl _⟩
  · rw [if_neg (by simpa using e)]
    by_cases e1 : m > 1
    · rw [if_pos e1]
      exact ask_y (a 0 (m - 1) (by (walk_at "om")) (by (walk_at "om"))) (h.lt (by (walk_at "om"))) (h.lt (by (walk_at "om"))) ⟨h, a, h1, by (walk_at "om")⟩
    · rw [if_neg e1]
      obtain rfl : m = 1 := by (walk_at "om")
      have c := h3 (by (walk_at "om"))
      refine Ends.then ((desc_ends O h (n - (1 + 1)) (1 + 1) (by (walk_at "om")) (by (walk_at "om")) fun i j hij hj => ?_).imp fun r hr => ?_)
      · obtain rfl : j = 1 := by (walk_at "om")
        obtain rfl : i = 0 := by (walk_at "om")
        exact c
      · first | refine ex3_2 hr fun q e90 d q1 q2 => ?_ | refine ex2_3 hr fun q e90 d q1 q2 => ?_ | refine ex0_5 hr fun q e90 d q1 q2 => ?_ | obtain ⟨q, e90, d, q1, q2⟩ := hr
        subst e90
        try clear hr
        rw [if_neg (Nat.lt_irrefl 0)]
        refine Ends.then ((asc_ends O (h.turn q) (n - q) q (by (walk_at "om")) (by (walk_at "om")) (d.turn h (by (walk_at "om")))).imp fun m hm => ?_)
        exact ⟨h.turn q, hm.1, by (walk_at "om"), by (walk_at "om")⟩
/-- where the thing at k belongs among those before it -/
noncomputable def Spot (R : Nat → Nat → Prop) (p : Array Nat) (k l : Nat) : Prop := l ≤ k ∧ (∀ i, i < l → R (p.getD i 0) (p.getD k 0)) ∧ ∀ i, l ≤ i → i < k → R (p.getD k 0) (p.getD i 0)
theorem place_ends (O : Ord n R) (h : Row n p) {k : Nat} (hk : k < n) (a : Asc R p k) : ∀ (f l r : Nat), l ≤ r → r ≤ k → r ≤ l + f → (∀ i, i < l → R (p.getD i 0) (p.getD k 0)) → (∀ i, r ≤ i → i < k → R (p.getD k 0) (p.getD i 0)) →
    Ends n (fun i j => decide (R i j)) (Spot R p k) (kas_place p k f l r)
  | 0, l, r, h1, h2, h3, h4, h5 => ⟨by (walk_at "om"), h4, fun i x y => h5 i (by (walk_at "om")) y⟩
  | f + 1, l, r, h1, h2, h3, h4, h5 => by
    unfold kas_place
    by_cases e : l ≥ r
    · rw [if_pos e]
      exact ⟨by (walk_at "om"), h4, fun i x y => h5 i (by (walk_at "om")) y⟩
    · rw [if_neg e]
      have m1 : (l + r) / 2 < r := by (walk_at "om")
      have m2 : l ≤ (l + r) / 2 := by (walk_at "om")
      generalize (l + r) / 2 = mid at m1 m2
      by_cases c : R (p.getD k 0) (p.getD mid 0)
      · refine ask_y c (h.lt hk) (h.lt (by (walk_at "om"))) ?_
        refine place_ends O h hk a f l mid m2 (by (walk_at "om")) (by (walk_at "om")) h4 fun i x y => ?_
        by_cases q : i = mid
        · exact q ▸ c
        · exact O.tr _ _ _ c (a mid i (by (walk_at "om")) y)
      · refine ask_n c (h.lt hk) (h.lt (by (walk_at "om"))) ?_
        have c2 := h.or O hk (by (walk_at "om")) (by (walk_at "om")) c
        refine place_ends O h hk a f (mid + 1) r (by (walk_at "om")) h2 (by (walk_at "om")) (fun i x => ?_) h5
        by_cases q : i = mid
        · exact q ▸ c2
        · exact O.tr _ _ _ (a i mid (by (walk_at "om")) (by (walk_at "om"))) c2
theorem Row.sink (h : Row n p) (k d : Nat) : Row n (bubble p k d) := ⟨(bubble_size ..).trans h.size, (Array.perm_iff_toList_perm.mp (bubble_perm ..)).trans h.perm⟩
theorem sink_at (h : Row n p) {k l : Nat} (hk : k < n) (hl : l ≤ k) (i : Nat) : (bubble p k (k - l)).getD i 0 = p.getD (if i = l then k else if l < i ∧ i ≤ k then i - 1 else i) 0 := by
  refine getD_of ?_
  rw [getElem?_bubble (by rw [h.size]; exact hk) _ (by (walk_at "om")), show k - (k - l) = l by (walk_at "om")]
  by_cases e : i = l
  · rw [if_pos e, if_pos e]
  · rw [if_neg e, if_neg e]
    split <;> rfl
theorem Asc.sink (h : Row n p) {k l : Nat} (hk : k < n) (a : Asc R p k) (sp : Spot R p k l) : Asc R (bubble p k (k - l)) (k + 1) := fun i j hij hj => by
  first | refine ex2_1 sp fun h1 h2 h3 => ?_ | refine ex1_2 sp fun h1 h2 h3 => ?_ | refine ex0_3 sp fun h1 h2 h3 => ?_ | obtain ⟨h1, h2, h3⟩ := sp
  try clear sp
  rw [sink_at h hk h1, sink_at h hk h1]
  by_cases e1 : i = l
  · rw [if_pos e1, if_neg (by (walk_at "om")), if_pos (by (walk_at "om"))]
    exact h3 _ (by (walk_at "om")) (by (walk_at "om"))
  · rw [if_neg e1]
    by_cases e2 : j = l
    · rw [if_pos e2, if_neg (by (walk_at "om"))]
      exact h2 _ (by (walk_at "om"))
    · rw [if_neg e2]
      refine a _ _ ?_ ?_
      · split <;> split <;> (walk_at "om")
      · split <;> (walk_at "om")
theorem bin_ends (O : Ord n R) : ∀ (f k : Nat) (p : Array Nat), Row n p → k + f = n → Asc R p k → Ends n (fun i j => decide (R i j)) (fun q => Row n q ∧ Asc R q n) (kas_bin f p k)
  | 0, k, p, h, e, a => ⟨h, by rw [← e]; exact a⟩
  | f + 1, k, p, h, e, a => Ends.then ((place_ends O h (by (walk_at "om")) a k 0 k (Nat.zero_le _) (Nat.le_refl _) (by (walk_at "om")) (fun i x => absurd x (Nat.not_lt_zero _)) fun i x y => absurd x (Nat.not_le.mpr y)).imp fun l hl =>
      bin_ends O f (k + 1) _ (h.sink k (k - l)) (by (walk_at "om")) (a.sink h (by (walk_at "om")) hl))
theorem sort_ends (O : Ord n R) (hn : 1 ≤ n) : Ends n (fun i j => decide (R i j)) (fun q => Row n q ∧ Asc R q n) (kas_sort n) := by
  have h : Row n (List.toArray (List.range n)) := ⟨by simp, by simp⟩
  refine Ends.then ((count_ends O h hn).imp fun r hr => ?_)
  first | refine ex2_2 hr fun h1 h2 h3 h4 => ?_ | refine ex1_3 hr fun h1 h2 h3 h4 => ?_ | obtain ⟨h1, h2, h3, h4⟩ := hr
  try clear hr
  have e : max r.1 1 = r.1 := by (walk_at "om")
  by_cases q : r.1 < n
  · rw [if_pos q, e]
    exact bin_ends O _ _ _ h1 (by (walk_at "om")) h2
  · rw [if_neg q]
    have e2 : r.1 = n := by (walk_at "om")
    exact ⟨h1, e2 ▸ h2⟩
end
theorem reg_j_26 : True := by
  (k_with "compareOp In str ref" => (k_here; (with_reducible show wpAny _ _ (compareOp CmpOp.In (Value.str (sOf _) _) (Value.ref _)) _ _ _); (with_reducible rename News _ _ _ _ => kN); refine' in_texts (News.isListX kN ?kM) (by with_reducible assumption) ?_; (case kM => k_mem)))
  (k_with "compareOp NotIn str ref" => (k_here; (with_reducible show wpAny _ _ (compareOp CmpOp.NotIn (Value.str (sOf _) _) (Value.ref _)) _ _ _); (with_reducible rename News _ _ _ _ => kN); refine' notin_texts (News.isListX kN ?kM) (by with_reducible assumption) ?_; (case kM => k_mem)))
  trivial
open PySem.W
/-- what a list sorted by text keys holds: the pairs of key and item, put in order by the keys -/
noncomputable def TxtOut (kz : List (List Nat)) (vs out : List Value) : Prop :=
  ∃ ps : List (List Nat × Value), ps.Perm (kz.zip vs) ∧ out = ps.map Prod.snd ∧ ps.Pairwise (fun p q => ¬ q.1 < p.1)
theorem txt_order {kz : List (List Nat)} (nd : kz.Nodup) : Ord kz.length fun i j => kz.getD i [] < kz.getD j [] := by
  refine ⟨fun _ _ _ => List.lt_trans, fun i j hi hj ne h => ?_⟩
  refine Std.lt_of_le_of_ne (List.not_lt.mp h) fun e => ne ?_
  simp only [List.getD_eq_getElem?_getD, List.getElem?_eq_getElem hi, List.getElem?_eq_getElem hj, Option.getD_some] at e
  exact (List.getElem_inj nd).mp e.symm
theorem txt_row {kz : List (List Nat)} {vs : List Value} (hl : kz.length = vs.length) {p : Array Nat} (h : Row kz.length p) (a : Asc (fun i j => kz.getD i [] < kz.getD j []) p kz.length) : TxtOut kz vs (p.toList.map fun i => vs.getD i Value.none) := by
  refine ⟨p.toList.map fun i => (kz.getD i [], vs.getD i Value.none), (h.perm.map _).trans (List.Perm.of_eq ?_), by rw [List.map_map]; rfl, ?_⟩
  · refine List.ext_getElem (by simp [hl]) fun i h1 h2 => ?_
    have hi : i < kz.length := by simpa using h1
    have hv : i < vs.length := hl ▸ hi
    simp [hi, hv]
  · rw [List.pairwise_map, List.pairwise_iff_getElem]
    intro i j hi hj hij
    have hj' : j < kz.length := by simpa [h.size] using hj
    have q := a i j hij hj'
    rw [h.at (Nat.lt_trans hij hj'), h.at hj'] at q
    exact List.lt_asymm q
theorem txt_at {ks : List Value} {kz : List (List Nat)} {i : Nat} (h : SAre ks kz) (hi : i < kz.length) : ∃ t, ks.getD i Value.none = .str (sOf (kz.getD i [])) t := by
  obtain ⟨t, e⟩ := StrsAre.get h i (sOf kz[i]) (by simp [hi])
  exact ⟨t, by simp [e, hi]⟩
section
variable {prog : Program} {w : World} {A : Around} {E : Value → Shared → Prop} {s : Shared} {h₀ : Heap} {L l : Addr} {m : Str → Option Value} {news : List (Addr × Obj)} {f : Value} {Q : Value → Shared → Prop}
/-- the function says the text k of the item v, whenever it is asked, and leaves the heap as it is -/
noncomputable def Says (prog : Program) (w : World) (A : Around) (h₀ : Heap) (L : Addr) (m : Str → Option Value) (news : List (Addr × Obj)) (s : Shared) (f v : Value) (k : List Nat) : Prop :=
  ∀ h tk (Q E : Value → Shared → Prop), Fr h₀ L h m → News h₀ L h news → (∀ h' tk' t, Keeps h h' → Q (.str (sOf k) t) { s with heap := h', toks := tk' }) → wpAny (model prog w) A (call f [v]) Q E { s with heap := h, toks := tk }
theorem says_all {kS : Addr} {rest : List (Addr × Obj)} {kz : List (List Nat)} {Fin : List Value → Nat → Shared → Prop} (off : ∀ p ∈ rest, p.1 ≠ kS) (sub : ∀ p ∈ news, p ∈ rest)
    (fin : ∀ ks e h tk, SAre ks kz → Fr h₀ L h m → News h₀ L h ((kS, seqObj "list" ks.toArray e) :: rest) → Fin ks e { s with heap := h, toks := tk }) :
    ∀ (vs : List Value) (kr kd : List (List Nat)) (ks : List Value) (e : Nat) (h : Heap) (tk : Nat), kz = kd ++ kr → vs.length = kr.length → SAre ks kd → (∀ (i : Nat) (v : Value) (k : List Nat), vs[i]? = some v → kr[i]? = some k → Says prog w A h₀ L m news s f v k) →
      Fr h₀ L h m → News h₀ L h ((kS, seqObj "list" ks.toArray e) :: rest) → KatKeys prog w A h₀ L m kS f Fin vs ks e { s with heap := h, toks := tk } := by
  intro vs
  induction vs with
  | nil =>
    intro kr kd ks e h tk ez hl hk _ F N
    obtain rfl := List.eq_nil_of_length_eq_zero hl.symm
    exact KatKeys.nil (fin ks e h tk (by rw [ez, List.append_nil]; exact hk) F N)
  | cons v vs ih =>
    intro kr kd ks e h tk ez hl hk ask F N
    cases kr with
    | nil => cases hl
    | cons k kr =>
      refine KatKeys.cons (ask 0 v k rfl rfl h tk _ _ F (fun p hp => N p (.tail _ (sub p hp))) fun h' tk' t kp => ?_)
      refine KatBack.intro (F.after kp) (News.keepsAll N kp) (.head off) fun h2 c F2 N2 => ?_
      exact ih kr (kd ++ [k]) (ks ++ [.str (sOf k) t]) c h2 tk' (by rw [ez, List.append_assoc]; rfl) (Nat.succ.inj hl) (sare_snoc hk) (fun i v k hv hk => ask (i + 1) v k hv hk) F2 N2
/-- sorted(xs, key=f), the keys texts that differ -/
theorem sorted_texts {kz : List (List Nat)} {vs : List Value} {q : Addr} (F : Fr h₀ L s.heap m) (N : News h₀ L s.heap news) (hl : s.heap.IsList l vs.toArray) (len : vs.length = kz.length) (h2 : vs = [] ∨ 2 ≤ vs.length) (h64 : vs.length < 64) (nd : kz.Nodup)
    (ask : ∀ (i : Nat) (v : Value) (k : List Nat), vs[i]? = some v → kz[i]? = some k → Says prog w A.in1.in1 h₀ L m news s (.ref q) v k)
    (done : ∀ D h' tk out c, Fr h₀ L h' m → News h₀ L h' ((D, PySem.W.listOf (List.toArray out) c) :: news) → TxtOut kz vs out → Q (.ref D) { s with heap := h', toks := tk }) :
    wpAny (model prog w) A (call (.builtin "sorted") [.ref l] [(Str.ofString "key", .ref q)]) Q E s := by
  rcases h2 with rfl | h2
  · refine ksk_sorted (b := false) (kz := []) (f := .ref q) (kw := [(Str.ofString "key", .ref q)]) F N hl rfl h64 (ksk_s1 _ _) (fun _ => ksk_l1 _ _) (fun _ => ksk_t1 _ _) (fun _ _ _ e _ => nomatch e) fun D h' tk out c F' N' _ ko => ?_
    first | refine ex2_2 ko fun ps hp ho _ => ?_ | refine ex1_3 ko fun ps hp ho _ => ?_ | obtain ⟨ps, hp, ho, _⟩ := ko
    try clear ko
    obtain rfl := List.Perm.eq_nil hp
    obtain rfl : out = #[] := Array.toList_inj.mp ho
    exact done D h' tk [] c F' N' ⟨[], by simp, rfl, .nil⟩
  refine kat_sortedK (b := false) (f := .ref q) (kw := [(Str.ofString "key", .ref q)]) F N hl h2 h64 (ksk_s1 _ _) (fun _ => ksk_l1 _ _) (fun _ => ksk_t1 _ _) fun D kS e1 h' F' N' lt1 lt2 => ?_
  have off : ∀ p ∈ (D, seqObj "list" #[] e1) :: news, p.1 ≠ kS := fun p hp => by
    rcases List.mem_cons.mp hp with rfl | hp
    · exact Nat.ne_of_lt lt1
    · exact Nat.ne_of_lt (Nat.lt_trans (lt2 p hp) lt1)
  refine says_all (s := s) (kz := kz) off (fun p hp => .tail _ hp) (fun ks e h tk hk F1 N1 => ?_) vs kz [] [] 0 h' s.toks rfl len .nil ask F' N'
  have hz : 2 ≤ ks.length := by have := StrsAre.length hk; rw [List.length_map] at this; (walk_at "om")
  match ks, hz, hk, N1 with
  | v₁ :: v₂ :: r, _, hk, N1 =>
    rw [show keyKind' (List.toArray (v₁ :: v₂ :: r)) = pure oneType' from keyKind_strs hk]
    refine wpAny_pure ?_
    rw [len]
    refine Ends.wp (P := fun p => Row kz.length p ∧ Asc (fun i j => kz.getD i [] < kz.getD j []) p kz.length) (fun i j C hi hj hC => ?_) (fun p hp => ?_) (sort_ends (txt_order nd) (by (walk_at "om")))
    · first | refine ex1_1 (txt_at hk hi) fun t e1 => ?_ | refine ex0_2 (txt_at hk hi) fun t e1 => ?_ | obtain ⟨t, e1⟩ := txt_at hk hi
      first | refine ex1_1 (txt_at hk hj) fun u e2 => ?_ | refine ex0_2 (txt_at hk hj) fun u e2 => ?_ | obtain ⟨u, e2⟩ := txt_at hk hj
      show wpAny _ _ (keyLt' oneType' (List.getD (v₁ :: v₂ :: r) i Value.none) (List.getD (v₁ :: v₂ :: r) j Value.none)) _ _ _
      rw [e1, e2, keyLt'_oneType]
      exact oneLt_str (by simpa using hC)
    · exact KatFin.intro F1 N1 (.head off) fun h3 c3 F3 N3 => KasFin.intro F3 N3 (.tail (Nat.ne_of_gt lt1) (.head fun p hp => Nat.ne_of_lt (lt2 p hp))) fun h4 c4 F4 N4 => done D h4 tk _ c4 F4 (fun p hp => N4 p (.tail _ hp)) (txt_row len.symm hp.1 hp.2)
end
noncomputable def lamE : Expr := match lawRec.body[(9 : Nat)]? with
  | some (.Assign _ (.Call _ _ (k :: _) _) _) => k.value
  | _ => .Name (Str.ofString "") ⟨0, 0, 0, 0⟩
noncomputable def lamP : Arguments := match lamE with | .Lambda p _ _ _ => p | _ => ⟨[], [], none, [], [], none, []⟩
noncomputable def lamB : Expr := match lamE with | .Lambda _ b _ _ => b | _ => .Name (Str.ofString "") ⟨0, 0, 0, 0⟩
noncomputable def lamS : Scope := match lamE with | .Lambda _ _ s _ => s | _ => { kind := .function, names := [], isGenerator := false, isCoroutine := false, more := [] }
theorem lamE_is : lamE = .Lambda lamP lamB lamS ⟨331, 30, 331, 60⟩ := rfl
theorem item_tup {prog : Program} {w : World} {A : Around} {E : Value → Shared → Prop} {s : Shared} {value slice : Expr} {a : Addr} {vs : List Value} {x : Value} {i : Nat} {u : Tok} {Q : Value → Shared → Prop} (ha : s.heap.get? a = some (tup vs)) (hx : vs[i]? = some x) (hb : vs.length < 1000000) (h : Q x s)
    (hs : subscripted slice false (.ref a) (.int i u) = operate [.ref a, .int i u] (getItem (.ref a) (.int i u)) := by with_unfolding_all rfl) :
    wpAny (model prog w) A (subscriptTail value slice (.ref a) (.int i u)) Q E s := by
  have hT : s.heap.IsTuple a vs.toArray := ⟨_, ha, rfl, 0, rfl⟩
  have hi := (List.getElem?_eq_some_iff.mp hx).1
  exact tail_any hT.typeIs slot_tuple_getitem.lookup (getItem_tuple (j := i) (k := (i : Int)) hT (by (walk_at "om")) (by (walk_at "om")) (by rw [List.size_toArray, seqIndex_of (by (walk_at "om")) (by (walk_at "om"))]; rfl) (by simpa using hx) h) hs
open PySem.W in
theorem key_call {w : World} {dp un : Nat} {fr : Option (List Env)} {gd : Option (List Code)} {s : Shared} {mean : ExcName → Option Value} {mg mb : Str → Option Value} {Q E : Value → Shared → Prop}
    {name qual : Str} {pm ctv y z : Value} {c' f D : Addr} {x : List Nat} {t : Tok}
    (X : (Mine.K39.heap_1 w.params).In s.heap) (T : TopV mean mg mb s.heap) (ho : s.heap.get? f = some (kla_obj name qual lamP lamB lamS [] pm c' ctv)) (hcd : s.heap.CodeRec (.ref c') qual)
    (hD : s.heap.get? D = some (tup [Value.str (sOf x) t, y, z])) (hdp : dp + 8 < recursionLimit) (hun : un + 80 < cLine)
    (ret : ∀ h' tk' t', Keeps s.heap h' → Q (.str (sOf x) t') { s with heap := h', toks := tk' }) :
    wpAny (model PySem.Challenge.pw_rx0087_01 w) (Ar dp un fr gd) (call (.ref f) [.ref D]) Q E s := by
  refine wpAny_call (kla_callFunE (show dp < _ by (walk_at "om")) ho rfl rfl rfl rfl hcd ?_)
  rw [show bindArgs (kla_fn name qual lamP lamB lamS [] pm (.ref c') ctv) _ = pure [(Str.ofString "mark", Value.ref D)] from rfl]
  refine wpAny_pure (wpAny_newFunctionEnv (show ∀ x ∈ lamS.names, x.2 ≠ .cell by decide) (locs rfl) (fun h₁ ns sb => ⟨T.nolimit.fresh _ sb, kla_codeExpr (wpAny_noRaise ?_)⟩) rfl)
  have F : Fr s.heap s.heap.objs.size h₁ _ := ⟨ns, fun b o e => (sb.2 b (Nat.ne_of_lt (Heap.lt_size e))).trans (Heap.get?_push_of_some _ e), Nat.le_refl _⟩
  have N : News s.heap s.heap.objs.size h₁ [] := News.nil
  generalize s.heap.objs.size = L at F N ⊢
  clear ns sb
  dsimp only [List.reverse_cons, List.reverse_nil, List.nil_append, List.cons_append, List.length_cons, List.length_nil] at F ⊢
  have eB : lamB = .Call _ _ _ _ := rfl
  have eS : lamS = { kind := _, names := _, isGenerator := _, isCoroutine := _, more := _ } := rfl
  rw [eB, eS]
  walk_at "my steps"
  refine item_tup (i := 0) (F.keep _ _ hD) rfl (by simp) ?_
  walk_at "my steps"
  exact ret _ _ _ (Fr.keep (by assumption))
section
open PySem.W
variable {prog : Program} {w : World} {A : Around} {E : Value → Shared → Prop} {s : Shared} {env : Env} {scope : Scope} {cl : List (Str × Addr)} {ifs : List Expr} {elt : Expr}
/-- the source of a comprehension is zip of two lists that stand -/
theorem comp_zip {a b : Str} {pa pb tp : Pos} {kk : Nat} {l1 l2 : Addr} {xs ys : List Value} {n1 n2 : Nat} {X : Shared → Heap → Addr → Addr → Heap → Nat → Prop}
    (hh : A.handled = none) (h1 : s.heap.get? l1 = some (PySem.W.listOf xs.toArray n1)) (h2 : s.heap.get? l2 = some (PySem.W.listOf ys.toArray n2)) (hsz : xs.length ≤ sizeLine)
    (ha : ∀ C, (compEnvC scope cl C env).kindOf a = some .local) (hb : ∀ C, (compEnvC scope cl C env).kindOf b = some .local) (hkind : scope.kind = .function)
    (P : Nat → List Value → Prop) (hp0 : P 0 [])
    (turn : ∀ C i x y (acc : List Value) (u : Str → Option Value) h tk own, xs[i]? = some x → ys[i]? = some y → P i acc → Fr s.heap C h (fun z => if z = b then some y else if z = a then some x else u z) → News s.heap C h own →
      Tests (model prog w) A ifs (compEnvC scope cl C env) (fun ok s₃ =>
        if ok = true then wpAny (model prog w) A (eval elt (compEnvC scope cl C env)) (fun y s₄ => CEnd s.heap C (fun _ => []) (fun c' => c' = acc ++ [y] ∧ P (i + 1) c') own s s₄) (fun _ _ => False) s₃
        else CEnd s.heap C (fun _ => []) (fun c' => c' = acc ∧ P (i + 1) c') own s s₃) (fun _ _ => False) { s with heap := h, toks := tk })
    (done : ∀ h₂ D C (acc : List Value) m h tk nn, P (min xs.length ys.length) acc → Fr s.heap C h m → News s.heap C h [(D, PySem.W.listOf acc.toArray nn)] → X { s with heap := h₂ } s.heap D C h tk) :
    wpAny (model prog w) A (call (.type "zip") [.ref l1, .ref l2]) (fun xv s₁ => wpAny (model prog w) A (pyIter xv) (fun it s₂ =>
      CompAtG prog w A env scope cl (.Tuple [.Name a pa, .Name b pb] kk tp) elt ifs (X s₂) it s₂) E s₁) E s := by
  have hl1 : s.heap.IsList l1 xs.toArray := ⟨_, h1, rfl, n1, rfl⟩
  have hl2 : s.heap.IsList l2 ys.toArray := ⟨_, h2, rfl, n2, rfl⟩
  have hlt1 : l1 < s.heap.objs.size := Heap.lt_size h1
  have hlt2 : l2 < s.heap.objs.size := Heap.lt_size h2
  have D := ktu_apart _ _ _ hlt1 hlt2
  refine call_zip_2 hl1 hl2 fun h' hz hTI hTO hi1 hi2 hsz5 hk => ?_
  refine wpAny_pyIter_zip hz ?_
  have big : ∀ k, h'.objs.size = s.heap.objs.size + 5 → k < 5 → s.heap.objs.size + k < h'.objs.size := fun k e hk => by rw [e]; exact Nat.add_lt_add_left hk _
  have fresh : ∀ k : Nat, s.heap.get? (s.heap.objs.size + k) = none := fun k => Heap.get?_none_of_le (Nat.le_add_right _ _)
  refine ⟨List Value, s.heap, s.heap.objs.size + 4, _, _, [s.heap.objs.size + 4, s.heap.objs.size + 2, s.heap.objs.size + 3, s.heap.objs.size, s.heap.objs.size + 1], _, _, _, _, fun _ => [], id, P, [], rfl, KTurns.ofWalksU (WalksT.zip2 hh _ _ _ _ _ _ _ D xs.toArray ys.toArray).toU, ?_, ⟨hz, hTI, ⟨_, _, hTO⟩, hi1, hi2, hl1.at fun o e => hk _ o e, hl2.at fun o e => hk _ o e⟩, ?_, ?_, ?_, ?_, ?_, ?_, hk, ?_, (fun _ h => nomatch h), rfl, hp0, ?_, ?_⟩
  · rw [List.size_toArray, List.size_toArray]; exact Nat.le_trans (Nat.min_le_left _ _) hsz
  · intro s' Q E' st hQ
    exact wpAny_pyIter_zip st.1 hQ
  · intro c hc
    show c < h'.objs.size
    simp only [List.mem_cons, List.not_mem_nil, or_false] at hc
    rcases hc with rfl | rfl | rfl | rfl | rfl | rfl | rfl
    · exact big 4 hsz5 (by decide)
    · exact big 2 hsz5 (by decide)
    · exact big 3 hsz5 (by decide)
    · exact big 0 hsz5 (by decide)
    · exact big 1 hsz5 (by decide)
    · rw [hsz5]; exact Nat.lt_add_right _ hlt1
    · rw [hsz5]; exact Nat.lt_add_right _ hlt2
  · intro c hc
    simp only [List.mem_cons, List.not_mem_nil, or_false] at hc ⊢
    rcases hc with rfl | rfl | rfl | rfl
    · exact .inl rfl
    · exact .inr (.inr (.inl rfl))
    · exact .inr (.inr (.inr (.inl rfl)))
    · exact .inr (.inr (.inr (.inr rfl)))
  · intro c hc
    simp only [List.mem_cons, List.not_mem_nil, or_false] at hc ⊢
    rcases hc with rfl | rfl | rfl | rfl | rfl | rfl | rfl
    · exact .inl (.inl rfl)
    · exact .inl (.inr (.inl rfl))
    · exact .inl (.inr (.inr (.inl rfl)))
    · exact .inl (.inr (.inr (.inr (.inl rfl))))
    · exact .inl (.inr (.inr (.inr (.inr rfl))))
    · exact .inr ⟨_, h1⟩
    · exact .inr ⟨_, h2⟩
  · intro c hc
    show c < h'.objs.size ∧ _
    simp only [List.mem_cons, List.not_mem_nil, or_false] at hc
    rcases hc with rfl | rfl | rfl | rfl | rfl
    · exact ⟨big 4 hsz5 (by decide), fresh 4⟩
    · exact ⟨big 2 hsz5 (by decide), fresh 2⟩
    · exact ⟨big 3 hsz5 (by decide), fresh 3⟩
    · exact ⟨big 0 hsz5 (by decide), fresh 0⟩
    · exact ⟨big 1 hsz5 (by decide), fresh 1⟩
  · rintro i g ⟨g1, g2, ⟨_, _, g3⟩, ⟨o4, g4, _⟩, ⟨o5, g5, _⟩, _⟩ c hc
    simp only [List.mem_cons, List.not_mem_nil, or_false] at hc
    rcases hc with rfl | rfl | rfl | rfl | rfl
    · exact ⟨_, g1⟩
    · exact ⟨_, g2⟩
    · exact ⟨_, g3⟩
    · exact ⟨_, g4⟩
    · exact ⟨_, g5⟩
  · show s.heap.objs.size ≤ h'.objs.size
    rw [hsz5]; exact Nat.le_add_right _ _
  · rintro C i v acc u h tk own hi ⟨T, vals, rfl, ⟨x, y, hx, hy, rfl⟩, hT⟩ hP _ F N
    refine kcp_assign hh hT (ha C) (hb C) (by simp [compEnvC, relabel, hkind]) F.ns fun h3 tk3 hn3 hk3 => ?_
    have F3 : Fr s.heap C h3 (fun z => if z = b then some y else if z = a then some x else u z) := ⟨hn3, fun c o e => hk3 c o (fun q => by
      have q' : c = C := q
      have h9 : s.heap.objs.size ≤ C := F.above
      have h10 := Heap.lt_size e
      rw [q'] at h10
      exact Nat.lt_irrefl _ (Nat.lt_of_lt_of_le h10 h9)) (F.keep c o e), F.above⟩
    have N3 : News s.heap C h3 own := fun p hp => ⟨hk3 _ _ (N p hp).2.1 (N p hp).1, (N p hp).2⟩
    exact turn C i x y acc u h3 tk3 own (by simpa using hx) (by simpa using hy) hP F3 N3
  · intro D' C acc m h tk nn hP F N _
    rw [List.size_toArray, List.size_toArray] at hP
    exact done _ D' C acc m h tk nn hP F N
/-- the source is a list that stands; each turn may change the table at 78 -/
theorem comp_listT {x : Str} {px : Pos} {l : Addr} {xs : List Value} {n1 : Nat} {ps0 : Array Value} {X : Shared → Heap → Addr → Addr → Heap → Nat → Prop}
    (hh : A.handled = none) (h1 : s.heap.get? l = some (PySem.W.listOf xs.toArray n1)) (h78 : s.heap.get? 78 = some (tabObj ps0)) (hsz : xs.length ≤ sizeLine)
    (ha : ∀ C, (compEnvC scope cl C env).kindOf x = some .local) (hkind : scope.kind = .function)
    (P : Nat → List Value → Array Value → Prop) (hp0 : P 0 [] ps0)
    (turn : ∀ C i v (acc : List Value) (ps : Array Value) (u : Str → Option Value) h tk own, xs[i]? = some v → P i acc ps → (∀ p ∈ own, p.1 ≠ 78) → Fr (gh s.heap) C h (fun z => if z = x then some v else u z) → News (gh s.heap) C h ((78, tabObj ps) :: own) →
      Tests (model prog w) A ifs (compEnvC scope cl C env) (fun ok s₃ =>
        if ok = true then wpAny (model prog w) A (eval elt (compEnvC scope cl C env)) (fun y s₄ => CEnd (gh s.heap) C (fun c : List Value × Array Value => [(78, tabObj c.2)]) (fun c' => c'.1 = acc ++ [y] ∧ P (i + 1) c'.1 c'.2) own s s₄) (fun _ _ => False) s₃
        else CEnd (gh s.heap) C (fun c : List Value × Array Value => [(78, tabObj c.2)]) (fun c' => c'.1 = acc ∧ P (i + 1) c'.1 c'.2) own s s₃) (fun _ _ => False) { s with heap := h, toks := tk })
    (done : ∀ h₂ D C (acc : List Value) (ps : Array Value) m h tk nn, P xs.length acc ps → Fr (gh s.heap) C h m → News (gh s.heap) C h [(D, PySem.W.listOf acc.toArray nn), (78, tabObj ps)] → X { s with heap := h₂ } (gh s.heap) D C h tk) :
    wpAny (model prog w) A (pyIter (.ref l)) (fun it s₂ => CompAtG prog w A env scope cl (.Name x px) elt ifs (X s₂) it s₂) E s := by
  have hl : s.heap.IsList l xs.toArray := ⟨_, h1, rfl, n1, rfl⟩
  have hlt : l < s.heap.objs.size := Heap.lt_size h1
  have hl78 : l ≠ 78 := fun e => by
    rw [e, h78] at h1
    exact absurd (congrArg Obj.cls (Option.some.inj h1)) (fun h => nomatch h)
  have h78lt : 78 < s.heap.objs.size := Heap.lt_size h78
  refine wpAny_pyIter_list hl ?_
  refine ⟨List Value × Array Value, gh s.heap, s.heap.objs.size, _, _, [s.heap.objs.size], _, _, _, _, fun c => [(78, tabObj c.2)], fun c => c.1, fun i c => P i c.1 c.2, ([], ps0), rfl, KTurns.ofWalks (Walks.list hh s.heap.objs.size l (Nat.ne_of_lt hlt) xs.toArray) (fun _ _ _ _ _ _ hQ => wpAny_pure hQ), ?_, ⟨⟨_, Heap.get?_push_size _ rfl, rfl, rfl⟩, hl.at fun o e => Heap.get?_push_of_some _ e⟩, ?_, ?_, (fun b hb => hb), ?_, ?_, ?_, (fun b o e => Heap.get?_push_of_some _ (of_gh e)), ?_, ?_, rfl, hp0, ?_, ?_⟩
  · rw [List.size_toArray]; exact hsz
  · intro s' Q E' st hQ
    exact (Walks.list hh s.heap.objs.size l (Nat.ne_of_lt hlt) xs.toArray).self 0 s' Q E' st hQ
  · intro c hc
    show c < (s.heap.push _).objs.size
    rw [Heap.size_push]
    rcases List.mem_cons.mp hc with rfl | hc
    · exact Nat.lt_succ_self _
    · rw [List.mem_singleton.mp hc]; exact Nat.lt_succ_of_lt hlt
  · intro c hc
    rcases List.mem_cons.mp hc with rfl | hc
    · exact .inl (.head _)
    · rw [List.mem_singleton.mp hc]; exact .inr ⟨_, gh_get h1 hl78⟩
  · intro c hc
    rw [List.mem_singleton.mp hc]
    refine ⟨?_, Heap.get?_none_of_le (Nat.le_of_eq (gh_size _))⟩
    show _ < (s.heap.push _).objs.size
    rw [Heap.size_push]; exact Nat.lt_succ_self _
  · rintro i g ⟨⟨o, g1, _⟩, _⟩ c hc
    rw [List.mem_singleton.mp hc]
    exact ⟨_, g1⟩
  · show _ ≤ (s.heap.push _).objs.size
    rw [gh_size, Heap.size_push]; exact Nat.le_succ _
  · intro p hp
    rw [List.mem_singleton.mp hp]
    refine ⟨Heap.get?_push_of_some _ h78, gh_none, fun e => ?_⟩
    have e' : (78 : Nat) = s.heap.objs.size := List.mem_singleton.mp e
    rw [e'] at h78lt
    exact Nat.lt_irrefl _ h78lt
  · intro C i v q9 u h tk own hi hPv hP ho F N
    first | refine ex1_1 q9 fun acc ps => ?_ | refine ex0_2 q9 fun acc ps => ?_ | obtain ⟨acc, ps⟩ := q9
    try clear q9
    refine wpAny_assign_Name (wpAny_storeName_local (ha C) F.ns (fun h₃ hn₃ hs₃ => ?_) (by simp [compEnvC, relabel, hkind]))
    exact turn C i v acc ps u h₃ _ own (by simpa using hPv) hP (fun p hp => ho p hp 78 (.head _)) (F.set hn₃ hs₃) (N.set hs₃)
  · intro D' C q9 m h tk nn hP F N _
    first | refine ex1_1 q9 fun acc ps => ?_ | refine ex0_2 q9 fun acc ps => ?_ | obtain ⟨acc, ps⟩ := q9
    try clear q9
    dsimp only at hP
    rw [List.size_toArray] at hP
    exact done _ D' C acc ps m h tk nn hP F N
end
/-- the marks' objects lie in the ledger -/
noncomputable def MarksIn (R : List (Addr × Obj)) (items : List Value) (ms : List Mark) : Prop := items.length = ms.length ∧ ∀ (i : Nat) (m f : List Nat) (o : Bool), ms[i]? = some (m, f, o) → ∃ D t1 t2, items[i]? = some (Value.ref D) ∧ (D, tup [Value.str (sOf m) t1, Value.str (sOf f) t2, Value.bool o]) ∈ R
noncomputable def isSeq (o : Obj) : Prop := ∃ a n, o.data = .seq a n
theorem isSeq.noF {o : Obj} (h : isSeq o) : noF o = true := by obtain ⟨a, n, h⟩ := h; unfold Mine.noF; rw [h]
theorem isSeq.noC {o : Obj} (h : isSeq o) (v : Option Value) : o.data ≠ .cell v := by obtain ⟨a, n, h⟩ := h; rw [h]; exact fun h => nomatch h
theorem isSeq.noT {o : Obj} (h : isSeq o) (ps : Array Value) : o ≠ tabObj ps := by obtain ⟨a, n, h⟩ := h; rintro rfl; cases h
/-- the rows that stand behind the loop that builds them -/
structure Rows (Ns Fs : List (List (List Nat))) (sv fv : List Value) (lr : List SpE) (sA liA fA : Addr) (sn ln fn : Nat) (R : List (Addr × Obj)) : Prop where
  n5 : Ns.length = 5
  sp : SAre sv (Ns.map spotL)
  l5 : lr.length = 5
  li : ∀ (j : Nat) (e : SpE), lr[j]? = some e → ∃ N, Ns[j]? = some N ∧ SAre e.2.1 ((pres N).map spotL) ∧ (e.1, PySem.W.listOf e.2.1.toArray e.2.2) ∈ R
  ok : ∀ N ∈ Ns, okR N
  fo : SAre fv (Fs.map spotL)
  fd : Fs.Nodup
  fk : ∀ f ∈ Fs, okR f
  f3 : Fs.length ≤ 3
  sq : ∀ p ∈ R, isSeq p.2
  ms : (sA, PySem.W.listOf sv.toArray sn) ∈ R
  ml : (liA, PySem.W.listOf (spAcc lr).toArray ln) ∈ R
  mf : (fA, PySem.W.listOf fv.toArray fn) ∈ R
theorem Rows.more {Ns Fs : List (List (List Nat))} {sv fv : List Value} {lr : List SpE} {sA liA fA : Addr} {sn ln fn : Nat} {R R' : List (Addr × Obj)} (h : Rows Ns Fs sv fv lr sA liA fA sn ln fn R) (hs : ∀ p ∈ R, p ∈ R') (hq : ∀ p ∈ R', isSeq p.2) : Rows Ns Fs sv fv lr sA liA fA sn ln fn R' :=
  ⟨h.n5, h.sp, h.l5, fun j e he => let ⟨N, a, b, c⟩ := h.li j e he; ⟨N, a, b, hs _ c⟩, h.ok, h.fo, h.fd, h.fk, h.f3, hq, hs _ h.ms, hs _ h.ml, hs _ h.mf⟩
theorem MarksIn.more {R R' : List (Addr × Obj)} {items : List Value} {ms : List Mark} (h : MarksIn R items ms) (hs : ∀ p ∈ R, p ∈ R') : MarksIn R' items ms :=
  ⟨h.1, fun i m f o e => let ⟨D, t1, t2, a, b⟩ := h.2 i m f o e; ⟨D, t1, t2, a, hs _ b⟩⟩
theorem mapAt {m : Str → Option Value} {x : Str} {v : Value} (h : m x = some v) : m = fun y => if y = x then some v else m y := by
  funext y
  split
  · rename_i e; rw [e, h]
  · rfl
/-- the objects that one of the two rows of marks makes -/
noncomputable def MkRow (Fs : List (List (List Nat))) (cc : Nat) (b : Bool) (i : Nat) (c : List (Addr × Obj)) : Prop :=
  c.length = i ∧ ∀ (j : Nat) (p : Addr × Obj), c[j]? = some p → ∃ f t1 t2, Fs[j]? = some f ∧ p.2 = tup [Value.str (sOf (body f ++ [cc])) t1, Value.str (sOf (spotL f)) t2, Value.bool b]
noncomputable def mkScope : Scope := match lawRec.body[(7 : Nat)]? with | some (.Assign _ (.ListComp _ _ scope _) _) => scope | _ => { kind := .function, names := [], isGenerator := false, isCoroutine := false, more := [] }
theorem body_len3 : ∀ {b : List (List Nat)}, (∀ x ∈ b, x.length ≤ 2) → (body b).length ≤ 3 * b.length
  | [], _ => by simp [body]
  | x :: r, h => by
    have h1 := body_len3 (b := r) fun y hy => h y (.tail _ hy)
    have h2 := h x (.head _)
    rw [body_cons]; simp only [List.length_cons, List.length_append]; (walk_at "om")
theorem okR.blen {f : List (List Nat)} (h : okR f) : (body f).length ≤ 18 := by
  have h1 := body_len3 fun x hx => (h.2.1 x hx).2.1
  have h2 := h.2.2
  (walk_at "om")
theorem marks_comp {w : World} {mean : ExcName → Option Value} {mg mb : Str → Option Value} {h₀ : Heap} {L fa fA : Addr} {s : Shared} {m : Str → Option Value} {fv : List Value} {fn : Nat} {Fs : List (List (List Nat))} {E : Value → Shared → Prop} {X' : Shared → Addr → Addr → Heap → Nat → Prop}
    {x : Str} {cc : Nat} {b : Bool} {p1 p2 p3 p4 p5 p6 p7 p8 : Pos}
    (X : (Mine.K39.heap_1 w.params).In h₀) (T : TopV mean mg mb h₀) (F : Fr h₀ L s.heap m) (hf : s.heap.get? fA = some (PySem.W.listOf fv.toArray fn))
    (hfo : SAre fv (Fs.map spotL)) (hfk : ∀ f ∈ Fs, okR f) (hf3 : Fs.length ≤ 3) (hx : x = sOf [cc])
    (done : ∀ h₂ D C (c : List (Addr × Obj)) m h tk nn, MkRow Fs cc b Fs.length c → Fr s.heap C h m → News s.heap C h ((D, PySem.W.listOf (c.map fun p => Value.ref p.1).toArray nn) :: c) → X' { s with heap := h₂ } D C h tk) :
    wpAny (model PySem.Challenge.pw_rx0087_01 w) (callerA.deeper (lawEnv L fa)) (pyIter (.ref fA)) (fun it s₂ => CompAt PySem.Challenge.pw_rx0087_01 w (callerA.deeper (lawEnv L fa)) (lawEnv L fa) mkScope [] (Str.ofString "folder") []
      (.Tuple [.BinOp (.Call (.Name "_law_stem" p1) [.Name "folder" p2] [] p3) .Add (.Constant (.str x) 0 p4) p5, .Name "folder" p6, .Constant (.bool b) 0 p7] 0 p8) s.heap (X' s₂) it s₂) E s := by
  have hfl : fv.length = Fs.length := by have := StrsAre.length hfo; rw [List.length_map, List.length_map] at this; exact this
  refine comp_list (σ := List (Addr × Obj)) (items := fv.toArray) rfl ⟨_, hf, rfl, fn, rfl⟩ (by rw [List.size_toArray, hfl, sizeLine_eq]; (walk_at "om")) id (fun c => c.map fun p => Value.ref p.1) (MkRow Fs cc b) [] rfl rfl ⟨rfl, fun _ _ h => by simp at h⟩ ?_ ?_
  · intro C i v c u h tk own hv q9 hoff F₂ N₂
    first | refine ex1_1 q9 fun hcl hc => ?_ | refine ex0_2 q9 fun hcl hc => ?_ | obtain ⟨hcl, hc⟩ := q9
    try clear q9
    obtain ⟨yy, th, rfl, hy⟩ := StrsAre.item hfo i v (by simpa using hv)
    rw [List.map_map, List.getElem?_map, Option.map_eq_some_iff] at hy
    first | refine ex2_1 hy fun f hfi e90 => ?_ | refine ex1_2 hy fun f hfi e90 => ?_ | refine ex0_3 hy fun f hfi e90 => ?_ | obtain ⟨f, hfi, e90⟩ := hy
    subst e90
    try clear hy
    have hfk := hfk f (List.mem_of_getElem? hfi)
    dsimp only [Function.comp_apply] at F₂
    have X2 := X.keeps F.keep
    have T2 : TopV mean mg mb s.heap := T.keeps F.keep
    clear X T F hf
    refine tests_nil ?_
    simp only [if_true]
    refine wp_gen fun G hG => ?_
    dsimp only [id] at N₂
    have eS : lawRec.scope = { kind := _, names := _, isGenerator := _, isCoroutine := _, more := _ } := rfl
    have eN : lawRec.name = Str.ofString "law" := rfl
    have eM : mkScope = { kind := _, names := _, isGenerator := _, isCoroutine := _, more := _ } := rfl
    unfold lawEnv
    rw [eS, eN, eM]
    walk_at "my steps"
    rename Fr _ _ _ _ => kF
    refine Fun.use (law_stem _ _) kF N₂ X2 T2 trivial (by decide) (by decide) ?_
    intro _ h3 tk3 hk3 F3 N3 q9
    first | refine ex1_1 q9 fun t3 e90 => ?_ | refine ex0_2 q9 fun t3 e90 => ?_ | obtain ⟨t3, e90⟩ := q9
    subst e90
    try clear q9
    rw [stem_spot (ns := f) fun x hx => (hfk.1 x hx).1]
    have hbl := hfk.blen
    clear kF N₂ hk3
    refine const_my hx ?_
    refine add_sOf (by rw [List.length_singleton]; (walk_at "om")) ?_
    intro t4 tk4
    walk_at "my steps"
    rename Fr _ _ _ _ => F5
    rename_i D h5 N5 l5
    refine hG _ _ (cend (c ++ [(D, tup [Value.str (sOf (body f ++ [cc])) t4, Value.str (sOf (spotL f)) th, Value.bool b])]) F5 N5 ?_ ?_ ?_ ⟨by simp, ?_⟩)
    · intro p hp
      rcases List.mem_append.mp hp with hp | hp
      · exact .tail _ (List.mem_append_left _ hp)
      · rw [List.mem_singleton.mp hp]; exact .head _
    · exact fun p hp => .tail _ (List.mem_append_right _ hp)
    · intro p hp a ha
      rw [id, List.map_append] at ha
      rcases List.mem_append.mp ha with ha | ha
      · exact hoff p hp a ha
      · rw [List.map_singleton, List.mem_singleton] at ha
        rw [ha]; exact Nat.ne_of_lt (l5 p (List.mem_append_right _ hp))
    · refine ⟨by rw [List.length_append, hcl, List.length_singleton], fun j p hj => ?_⟩
      rcases Nat.lt_or_ge j c.length with hlt | hge
      · rw [List.getElem?_append_left hlt] at hj
        exact hc j p hj
      · rw [List.getElem?_append_right hge] at hj
        obtain ⟨h0, e⟩ := List.getElem?_eq_some_iff.mp hj
        rw [List.length_singleton] at h0
        have hj0 : j = i := by (walk_at "om")
        subst hj0
        simp only [hcl, Nat.sub_self, List.getElem_cons_zero] at e
        exact ⟨f, t4, th, hfi, by rw [← e]⟩
  · intro h₂ D C c m h tk nn hc F₂ N₂
    rw [List.size_toArray, hfl] at hc
    exact done h₂ D C c m h tk nn hc F₂ N₂
theorem perm_map_ex {α β : Type} {f : α → β} {l l₂ : List β} (h : l.Perm l₂) : ∀ {zs : List α}, l₂ = zs.map f → ∃ zs' : List α, zs'.Perm zs ∧ l = zs'.map f := by
  induction h with
  | nil => intro zs e; cases zs with
    | nil => exact ⟨[], .nil, rfl⟩
    | cons z r => cases e
  | cons x _ ih => intro zs e; cases zs with
    | nil => cases e
    | cons z r =>
      rw [List.map_cons] at e
      injection e with e1 e2
      first | refine ex2_1 (ih e2) fun r' h1 h2 => ?_ | refine ex1_2 (ih e2) fun r' h1 h2 => ?_ | refine ex0_3 (ih e2) fun r' h1 h2 => ?_ | obtain ⟨r', h1, h2⟩ := ih e2
      exact ⟨z :: r', h1.cons z, by rw [List.map_cons, e1, h2]⟩
  | swap x y l => intro zs e; cases zs with
    | nil => cases e
    | cons z r => cases r with
      | nil => simp at e
      | cons z2 r =>
        rw [List.map_cons, List.map_cons] at e
        injection e with e1 e2
        injection e2 with e2 e3
        exact ⟨z2 :: z :: r, .swap z z2 r, by rw [List.map_cons, List.map_cons, e1, e2, e3]⟩
  | trans _ _ ih1 ih2 =>
    intro zs e
    first | refine ex2_1 (ih2 e) fun r h1 h2 => ?_ | refine ex1_2 (ih2 e) fun r h1 h2 => ?_ | refine ex0_3 (ih2 e) fun r h1 h2 => ?_ | obtain ⟨r, h1, h2⟩ := ih2 e
    first | refine ex2_1 (ih1 h2) fun r' h3 h4 => ?_ | refine ex1_2 (ih1 h2) fun r' h3 h4 => ?_ | refine ex0_3 (ih1 h2) fun r' h3 h4 => ?_ | obtain ⟨r', h3, h4⟩ := ih1 h2
    exact ⟨r', h3.trans h1, h4⟩
/-- the marks, sorted by their texts, are marks in order -/
theorem sorted_marks {R : List (Addr × Obj)} {vs out : List Value} {Fs : List (List (List Nat))} (hok : ∀ f ∈ Fs, okN f) (hn : Fs.Nodup) (hM : MarksIn R vs (marksF Fs)) (h : TxtOut ((marksF Fs).map (·.1)) vs out) :
    ∃ ms : List Mark, ms.Perm (marksF Fs) ∧ MarksIn R out ms ∧ ms.Pairwise (fun a b => a.1 < b.1) := by
  first | refine ex2_2 h fun ps hp e90 ho => ?_ | refine ex1_3 h fun ps hp e90 ho => ?_ | obtain ⟨ps, hp, e90, ho⟩ := h
  subst e90
  try clear h
  have e : ((marksF Fs).map (·.1)).zip vs = ((marksF Fs).zip vs).map fun z : Mark × Value => (z.1.1, z.2) := by
    rw [List.zip_map_left]
    exact List.map_congr_left fun ⟨x, y⟩ _ => rfl
  rw [e] at hp
  first | refine ex2_1 (perm_map_ex hp rfl) fun zs hz e90 => ?_ | refine ex1_2 (perm_map_ex hp rfl) fun zs hz e90 => ?_ | refine ex0_3 (perm_map_ex hp rfl) fun zs hz e90 => ?_ | obtain ⟨zs, hz, e90⟩ := perm_map_ex hp rfl
  subst e90
  have hms : (zs.map (·.1)).Perm (marksF Fs) := by
    have := hz.map (·.1)
    rwa [List.map_fst_zip (Nat.le_of_eq hM.1.symm)] at this
  refine ⟨zs.map (·.1), hms, ⟨by simp, fun i m f o hi => ?_⟩, ?_⟩
  · rw [List.getElem?_map, Option.map_eq_some_iff] at hi
    obtain ⟨⟨mk, v⟩, hzi, rfl⟩ := hi
    have hmem := hz.mem_iff.mp (List.mem_of_getElem? hzi)
    obtain ⟨j, hj⟩ := List.getElem?_of_mem hmem
    rw [List.getElem?_zip_eq_some] at hj
    first | refine ex3_2 (hM.2 j m f o hj.1) fun D t1 t2 h1 h2 => ?_ | refine ex2_3 (hM.2 j m f o hj.1) fun D t1 t2 h1 h2 => ?_ | refine ex0_5 (hM.2 j m f o hj.1) fun D t1 t2 h1 h2 => ?_ | obtain ⟨D, t1, t2, h1, h2⟩ := hM.2 j m f o hj.1
    rw [hj.2] at h1
    refine ⟨D, t1, t2, ?_, h2⟩
    rw [List.map_map, List.getElem?_map, hzi, ← h1]
    rfl
  · have hne : (zs.map (·.1)).Pairwise (fun a b => a.1 ≠ b.1) := hms.symm.pairwise (marks_keys hok hn) fun h => h.symm
    rw [List.pairwise_map] at hne ho ⊢
    refine List.Pairwise.imp ?_ (hne.and ho)
    intro a b q9
    first | refine ex1_1 q9 fun h1 h2 => ?_ | refine ex0_2 q9 fun h1 h2 => ?_ | obtain ⟨h1, h2⟩ := q9
    try clear q9
    exact Std.lt_of_le_of_ne (List.not_lt.mp h2) h1
theorem MkRow.seq {Fs : List (List (List Nat))} {cc : Nat} {b : Bool} {n : Nat} {c : List (Addr × Obj)} (h : MkRow Fs cc b n c) : ∀ p ∈ c, isSeq p.2 := fun p hp => by
  obtain ⟨j, hj⟩ := List.getElem?_of_mem hp
  first | refine ex3_2 (h.2 j p hj) fun f t1 t2 _ e => ?_ | refine ex2_3 (h.2 j p hj) fun f t1 t2 _ e => ?_ | refine ex0_5 (h.2 j p hj) fun f t1 t2 _ e => ?_ | obtain ⟨f, t1, t2, _, e⟩ := h.2 j p hj
  rw [e]; exact ⟨_, _, rfl⟩
theorem marks_in {Fs : List (List (List Nat))} {c1 c2 R : List (Addr × Obj)} (h1 : MkRow Fs 47 true Fs.length c1) (h2 : MkRow Fs 48 false Fs.length c2) : MarksIn (c1 ++ c2 ++ R) ((c1 ++ c2).map fun p => Value.ref p.1) (marksF Fs) := by
  refine ⟨by simp [marksF, h1.1, h2.1], fun i m f o hi => ?_⟩
  have key : ∃ p t1 t2, (c1 ++ c2)[i]? = some p ∧ p.2 = tup [Value.str (sOf m) t1, Value.str (sOf f) t2, Value.bool o] := by
    unfold marksF at hi
    rcases Nat.lt_or_ge i Fs.length with hlt | hge
    · rw [List.getElem?_append_left (by simpa using hlt), List.getElem?_map, Option.map_eq_some_iff] at hi
      first | refine ex2_1 hi fun g hg e => ?_ | refine ex1_2 hi fun g hg e => ?_ | refine ex0_3 hi fun g hg e => ?_ | obtain ⟨g, hg, e⟩ := hi
      try clear hi
      obtain ⟨p, hp⟩ : ∃ p, c1[i]? = some p := ⟨_, List.getElem?_eq_getElem (by rw [h1.1]; exact hlt)⟩
      first | refine ex3_2 (h1.2 i p hp) fun g' t1 t2 hg' e' => ?_ | refine ex2_3 (h1.2 i p hp) fun g' t1 t2 hg' e' => ?_ | refine ex0_5 (h1.2 i p hp) fun g' t1 t2 hg' e' => ?_ | obtain ⟨g', t1, t2, hg', e'⟩ := h1.2 i p hp
      rw [hg] at hg'
      cases hg'
      cases e
      exact ⟨p, t1, t2, by rw [List.getElem?_append_left (by rw [h1.1]; exact hlt), hp], e'⟩
    · rw [List.getElem?_append_right (by simpa using hge), List.length_map, List.getElem?_map, Option.map_eq_some_iff] at hi
      first | refine ex2_1 hi fun g hg e => ?_ | refine ex1_2 hi fun g hg e => ?_ | refine ex0_3 hi fun g hg e => ?_ | obtain ⟨g, hg, e⟩ := hi
      try clear hi
      have hlt := (List.getElem?_eq_some_iff.mp hg).1
      obtain ⟨p, hp⟩ : ∃ p, c2[i - Fs.length]? = some p := ⟨_, List.getElem?_eq_getElem (by rw [h2.1]; exact hlt)⟩
      first | refine ex3_2 (h2.2 _ p hp) fun g' t1 t2 hg' e' => ?_ | refine ex2_3 (h2.2 _ p hp) fun g' t1 t2 hg' e' => ?_ | refine ex0_5 (h2.2 _ p hp) fun g' t1 t2 hg' e' => ?_ | obtain ⟨g', t1, t2, hg', e'⟩ := h2.2 _ p hp
      rw [hg] at hg'
      cases hg'
      cases e
      exact ⟨p, t1, t2, by rw [List.getElem?_append_right (by rw [h1.1]; exact hge), h1.1, hp], e'⟩
  first | refine ex3_2 key fun p t1 t2 hp e => ?_ | refine ex2_3 key fun p t1 t2 hp e => ?_ | refine ex0_5 key fun p t1 t2 hp e => ?_ | obtain ⟨p, t1, t2, hp, e⟩ := key
  try clear key
  refine ⟨p.1, t1, t2, by rw [List.getElem?_map, hp]; rfl, ?_⟩
  rw [← e]
  exact List.mem_append_left _ (List.mem_of_getElem? hp)
theorem reg_j_27 : True := by
  (k_with "to call" => repeat' ((fail_if_success (with_reducible show wpAny _ _ (call _ _) _ _ _)); (fail_if_success (with_reducible show wpAny _ _ (pyIter _) _ _ _)); (fail_if_success (with_reducible show wpAny _ _ (subscriptTail _ _ _ _) _ _ _)); (fail_if_success (with_reducible show wpAny _ _ (execs _ _) _ _ _)); walk1))
  (k_with "my sub" => (first | exact sub_here | exact sub_nil | (refine sub_cons (by k_mem) ?_; walk_at "my sub") | (refine sub_app ?_ ?_ <;> walk_at "my sub") | (refine sub_tail ?_; walk_at "my sub") | (refine sub_left ?_; walk_at "my sub") | (refine sub_right ?_; walk_at "my sub")))
  trivial
section
variable {h₀ h₁ h h' : Heap} {L C : Addr} {m m₂ : Str → Option Value} {news news₂ : List (Addr × Obj)} {ps0 : Array Value}
theorem up_frT (F : Fr h₀ L h₁ m) (h8 : h₁.get? 78 = some (tabObj ps0) ∧ (78 : Addr) ≠ L ∧ h₀.get? 78 = none) (F₂ : Fr (gh h₁) C h m₂) : Fr h₀ L h m :=
  ⟨F.ns.at' fun o e => F₂.keep _ _ (gh_get e (Ne.symm h8.2.1)), fun b o e => F₂.keep _ _ (gh_get (F.keep b o e) (by rintro rfl; rw [h8.2.2] at e; cases e)), F.above⟩
theorem up_newsT (F : Fr h₀ L h₁ m) (N : News h₀ L h₁ news) (h8 : h₁.get? 78 = some (tabObj ps0) ∧ (78 : Addr) ≠ L ∧ h₀.get? 78 = none) (hn : ∀ p ∈ news, p.1 ≠ 78) (F₂ : Fr (gh h₁) C h m₂) (N₂ : News (gh h₁) C h news₂) : News h₀ L h (news₂ ++ news) := fun p hp => by
  rcases List.mem_append.mp hp with hp | hp
  · refine ⟨(N₂ p hp).1, ?_, ?_⟩
    · intro e
      first | refine ex3_2 F.ns fun o _ _ ho _ => ?_ | refine ex2_3 F.ns fun o _ _ ho _ => ?_ | refine ex0_5 F.ns fun o _ _ ho _ => ?_ | obtain ⟨o, _, _, ho, _⟩ := F.ns
      have := (N₂ p hp).2.2
      rw [e, gh_get ho (Ne.symm h8.2.1)] at this; cases this
    · cases e : h₀.get? p.1 with
      | none => rfl
      | some o =>
        have h1 := F.keep _ _ e
        have h2 : p.1 ≠ 78 := fun q => by rw [q, h8.2.2] at e; cases e
        have := (N₂ p hp).2.2
        rw [gh_get h1 h2] at this; cases this
  · exact ⟨F₂.keep _ _ (gh_get (N p hp).1 (hn p hp)), (N p hp).2⟩
end
section
variable {M : Model} {A : Around} {E : Value → Shared → Prop} {s : Shared} {env : Env} {h₀ h₁ : Heap} {C D : Addr} {m m₂ : Str → Option Value} {news news₂ : List (Addr × Obj)} {x : Str} {ps0 : Array Value}
theorem comp_storeT {Q : Shared → Prop} (F : Fr h₀ env.locals h₁ m) (N : News h₀ env.locals h₁ news) (h8 : h₁.get? 78 = some (tabObj ps0) ∧ (78 : Addr) ≠ env.locals ∧ h₀.get? 78 = none) (hn : ∀ p ∈ news, p.1 ≠ 78) (F₂ : Fr (gh h₁) C s.heap m₂) (N₂ : News (gh h₁) C s.heap news₂)
    (hl : env.kindOf x = some .local) (hp : (env.scope.kind == .class || (env.scope.kind == .module && env.locals != env.globals)) = false)
    (h : ∀ h' , Fr h₀ env.locals h' (fun y => if y = x then some (.ref D) else m y) → News h₀ env.locals h' (news₂ ++ news) → Q { s with heap := h', toks := s.toks + 1 }) :
    wpAny M A (storeName env x (.ref D)) (fun _ s'' => ∃ m, s''.heap.Ns C m ∧ ∀ h'', Heap.SameBut C s''.heap h'' → Q { s'' with heap := h'' }) E s := by
  have F₃ := up_frT F h8 F₂
  have N₃ := up_newsT F N h8 hn F₂ N₂
  have hC1 : h₁.objs.size ≤ C := by have := F₂.above; rwa [gh_size] at this
  have hLC : env.locals ≠ C := Nat.ne_of_lt (Nat.lt_of_lt_of_le F.ns.lt hC1)
  refine wpAny_storeName_local hl F₃.ns (fun h' hn hs => ?_) hp
  refine ⟨m₂, F₂.ns.sameBut hs (Ne.symm hLC), fun h'' hs'' => h h'' (same_fr F hC1 (F₃.set hn hs) hs'') fun p hp => ?_⟩
  refine ⟨(hs''.2 p.1 ?_).trans (N₃.set hs p hp).1, (N₃ p hp).2⟩
  rcases List.mem_append.mp hp with hp | hp
  · exact (N₂ p hp).2.1
  · exact Nat.ne_of_lt (Nat.lt_of_lt_of_le (Heap.lt_size (N p hp).1) hC1)
end
theorem mask_q {f : List (List Nat)} : (body f).flatMap msk ++ [47, 42] = (body f ++ [47]).flatMap msk ++ [42] := by
  rw [List.flatMap_append]; simp [msk]
theorem okR.good {f : List (List Nat)} (h : okR f) : ∀ c ∈ body f ++ [47], Mine.good c := by
  intro c hc
  rcases List.mem_append.mp hc with hc | hc
  · first | refine ex2_1 (List.mem_flatMap.mp hc) fun x hx hcx => ?_ | refine ex1_2 (List.mem_flatMap.mp hc) fun x hx hcx => ?_ | refine ex0_3 (List.mem_flatMap.mp hc) fun x hx hcx => ?_ | obtain ⟨x, hx, hcx⟩ := List.mem_flatMap.mp hc
    rcases List.mem_cons.mp hcx with rfl | hcx
    · simp [Mine.good]
    · exact (h.2.1 x hx).2.2 c hcx
  · rw [List.mem_singleton.mp hc]; simp [Mine.good]
theorem none_in_texts {prog : Program} {w : World} {A : Around} {E : Value → Shared → Prop} {s : Shared} {l : Addr} {vs : List Value} {ls : List (List Nat)} {Q : Value → Shared → Prop} (hl : s.heap.IsList l vs.toArray) (hi : SAre vs ls)
    (h : Q (.bool false) s) : wpAny (model prog w) A (compareOp .In .none (.ref l)) Q E s := by
  refine PySem.SeqAt.in_listAt (fun _ => false) hl (fun y hy => ?_) (by
    have e : vs.toArray.any (fun _ => false) = false := by simp
    rw [e]; exact h)
  obtain ⟨x, t, rfl⟩ := StrsAre.all hi y (by simpa using hy)
  exact PySem.SeqAt.EqAt.str_none x t
theorem kept_ok {f : List (List Nat)} (h : ∀ x ∈ f, x ≠ [] ∧ x ≠ [46]) : kept f = f := by
  unfold kept
  rw [List.filter_eq_self]
  intro x hx
  first | refine ex1_1 (h x hx) fun h1 h2 => ?_ | refine ex0_2 (h x hx) fun h1 h2 => ?_ | obtain ⟨h1, h2⟩ := h x hx
  simp [h1, h2]
theorem flat_one : ∀ {f : List (List Nat)}, (∀ x ∈ f, 47 ∉ x) → f.flatMap (splitL 47) = f
  | [], _ => rfl
  | x :: r, h => by rw [List.flatMap_cons, splitL_free (h x (.head _)), flat_one fun y hy => h y (.tail _ hy)]; rfl
theorem kept_spot {f : List (List Nat)} (h : okR f) : kept (splitL 47 (spotL f)) = f := by
  have e : splitL 47 (spotL f) = [] :: splitL 47 (joinL [47] f) := by unfold spotL; simp [splitL]
  rw [e]
  have hk : kept ([] :: splitL 47 (joinL [47] f)) = kept (splitL 47 (joinL [47] f)) := by unfold kept; rw [List.filter_cons_of_neg (by simp)]
  rw [hk]
  by_cases hf : f = []
  · subst hf; decide
  · rw [splitL_join f hf, flat_one fun x hx => (h.1 x hx).2, kept_ok fun x hx => ⟨(h.1 x hx).1, (h.2.1 x hx).1⟩]
theorem sare_of {zs : List (List Nat × Value)} (h : ∀ z ∈ zs, ∃ t, z.2 = .str (sOf z.1) t) : SAre (zs.map (·.2)) (zs.map (·.1)) := by
  induction zs with
  | nil => exact StrsAre.nil
  | cons z r ih =>
    first | refine ex1_1 (h z (.head _)) fun t e => ?_ | refine ex0_2 (h z (.head _)) fun t e => ?_ | obtain ⟨t, e⟩ := h z (.head _)
    rw [List.map_cons, List.map_cons, e]
    exact StrsAre.cons _ _ (ih fun y hy => h y (.tail _ hy))
theorem sare_zip {ts : List (List Nat)} {vs : List Value} (hS : SAre vs ts) {z : List Nat × Value} (hz : z ∈ ts.zip vs) : ∃ t, z.2 = .str (sOf z.1) t := by
  obtain ⟨i, hi⟩ := List.getElem?_of_mem hz
  rw [List.getElem?_zip_eq_some] at hi
  first | refine ex2_2 (StrsAre.item hS i _ hi.2) fun y t e hy => ?_ | refine ex1_3 (StrsAre.item hS i _ hi.2) fun y t e hy => ?_ | obtain ⟨y, t, e, hy⟩ := StrsAre.item hS i _ hi.2
  rw [List.getElem?_map, hi.1, Option.map_some, Option.some.injEq] at hy
  exact ⟨t, by rw [e, hy]⟩
/-- sorted(xs, key=len) of texts -/
theorem sorted_len {prog : Program} {w : World} {A : Around} {E : Value → Shared → Prop} {s : Shared} {h₀ : Heap} {L l : Addr} {m : Str → Option Value} {news : List (Addr × Obj)} {vs : List Value} {ts : List (List Nat)} {Q : Value → Shared → Prop}
    (F : Fr h₀ L s.heap m) (N : News h₀ L s.heap news) (hl : s.heap.IsList l vs.toArray) (hS : SAre vs ts) (h64 : vs.length < 64) (hsm : ∀ t ∈ ts, t.length < 1000000)
    (h : ∀ D h' tk out c ts', Fr h₀ L h' m → News h₀ L h' ((D, PySem.W.listOf (out : List Value).toArray c) :: news) → SAre out ts' → ts'.Perm ts → ts'.Pairwise (fun a b => a.length ≤ b.length) → Q (.ref D) { s with heap := h', toks := tk }) :
    wpAny (model prog w) A (call (.builtin "sorted") [.ref l] [(Str.ofString "key", .builtin "len")]) Q E s := by
  have hlen : ts.length = vs.length := by have := StrsAre.length hS; rw [List.length_map] at this; exact this.symm
  refine ksk_sorted (b := false) (kz := ts.map fun t => (t.length : Int)) F N hl (by rw [List.length_map, hlen]) h64 (ksk_s1 _ _) (fun _ => ksk_l1 _ _) (fun _ => ksk_t4 "len" _) ?_ ?_
  · intro i v k hv hk g tk own Fg Ng
    first | refine ex2_2 (StrsAre.item hS i v hv) fun y t e90 hy => ?_ | refine ex1_3 (StrsAre.item hS i v hv) fun y t e90 hy => ?_ | obtain ⟨y, t, e90, hy⟩ := StrsAre.item hS i v hv
    subst e90
    rw [List.getElem?_map, Option.map_eq_some_iff] at hy hk
    first | refine ex2_1 hy fun x hx e90 => ?_ | refine ex1_2 hy fun x hx e90 => ?_ | refine ex0_3 hy fun x hx e90 => ?_ | obtain ⟨x, hx, e90⟩ := hy
    subst e90
    try clear hy
    first | refine ex2_1 hk fun x' hx' e90 => ?_ | refine ex1_2 hk fun x' hx' e90 => ?_ | refine ex0_3 hk fun x' hx' e90 => ?_ | obtain ⟨x', hx', e90⟩ := hk
    subst e90
    try clear hk
    rw [hx] at hx'
    cases hx'
    exact len_sOf rfl (hsm x (List.mem_of_getElem? hx)) ⟨g, _, _, rfl, rfl, Fg, Ng⟩
  · intro D g tk out c Fg Ng _ q9
    first | refine ex2_2 q9 fun ps hp ho hs => ?_ | refine ex1_3 q9 fun ps hp ho hs => ?_ | obtain ⟨ps, hp, ho, hs⟩ := q9
    try clear q9
    have e : (ts.map fun t => (t.length : Int)).zip vs = (ts.zip vs).map fun z : List Nat × Value => ((z.1.length : Int), z.2) := by
      rw [List.zip_map_left]
      exact List.map_congr_left fun ⟨x, y⟩ _ => rfl
    rw [e] at hp
    first | refine ex2_1 (perm_map_ex hp rfl) fun zs hz e90 => ?_ | refine ex1_2 (perm_map_ex hp rfl) fun zs hz e90 => ?_ | refine ex0_3 (perm_map_ex hp rfl) fun zs hz e90 => ?_ | obtain ⟨zs, hz, e90⟩ := perm_map_ex hp rfl
    subst e90
    have e2 : out = (zs.map (·.2)).toArray := by
      apply Array.toList_inj.mp
      rw [ho, List.map_map]
      rfl
    rw [e2] at Ng
    refine h D g tk _ c (zs.map (·.1)) Fg Ng (sare_of fun z hz' => sare_zip hS (hz.mem_iff.mp hz')) ?_ ?_
    · have := hz.map (·.1)
      rwa [List.map_fst_zip (Nat.le_of_eq hlen)] at this
    · rw [List.pairwise_map] at hs ⊢
      refine List.Pairwise.imp ?_ hs
      intro a b hab
      simp only [Bool.false_eq_true, if_false] at hab
      exact Int.ofNat_le.mp hab
theorem okR.small {f : List (List Nat)} (h : okR f) : ∀ c ∈ spotL f, c < 1114112 := by
  intro c hc
  have hg : c = 47 ∨ ∃ x ∈ f, c ∈ x := by
    rcases List.mem_cons.mp hc with rfl | hc'
    · exact .inl rfl
    · by_cases e : f = []
      · subst e; simp [joinL] at hc'
      · rw [show spotL f = body f from joinL_body f e] at hc
        first | refine ex2_1 (List.mem_flatMap.mp hc) fun x hx hcx => ?_ | refine ex1_2 (List.mem_flatMap.mp hc) fun x hx hcx => ?_ | refine ex0_3 (List.mem_flatMap.mp hc) fun x hx hcx => ?_ | obtain ⟨x, hx, hcx⟩ := List.mem_flatMap.mp hc
        rcases List.mem_cons.mp hcx with rfl | hcx
        · exact .inl rfl
        · exact .inr ⟨x, hx, hcx⟩
  rcases hg with rfl | ⟨x, hx, hcx⟩
  · decide
  · have := (h.2.1 x hx).2.2 c hcx
    rcases this with rfl | rfl | rfl | rfl | rfl | rfl <;> decide
theorem okc_due {Fs : List (List (List Nat))} {N : List (List Nat)} (h : ∀ f ∈ Fs, okR f) : okc (dueF Fs N) := by
  intro t ht c hc
  first | refine ex2_2 (mem_dueF.mp ht) fun f hf _ e90 => ?_ | refine ex1_3 (mem_dueF.mp ht) fun f hf _ e90 => ?_ | obtain ⟨f, hf, _, e90⟩ := mem_dueF.mp ht
  subst e90
  exact (h f hf).small c hc
theorem ok_marks {Fs : List (List (List Nat))} {ms : List Mark} (h : ∀ f ∈ Fs, okR f) (hp : ms.Perm (marksF Fs)) : ∀ m ∈ ms, ∀ c ∈ m.2.1, c < 1114112 := by
  intro m hm c hc
  obtain ⟨f, hf, rfl | rfl⟩ := mem_marks.mp (hp.mem_iff.mp hm)
  · exact (h f hf).small c hc
  · exact (h f hf).small c hc
theorem MarksIn.at {R news : List (Addr × Obj)} {items : List Value} {ms : List Mark} {h₀ h : Heap} {L : Addr} (hM : MarksIn R items ms) (N : News h₀ L h news) (hs : ∀ p ∈ R, p ∈ news) : MarksAt h items ms :=
  ⟨hM.1, fun i m f o e => let ⟨D, t1, t2, a, b⟩ := hM.2 i m f o e; ⟨D, t1, t2, a, (N _ (hs _ b)).1⟩⟩
theorem map3_eq {m : Str → Option Value} {a b c : Str} {x y z : Value} (h1 : m a = some x) (h2 : m b = some y) (h3 : m c = some z) (k : Str) : (if k = a then some x else if k = b then some y else if k = c then some z else m k) = m k := by
  split
  · rename_i e; rw [e, h1]
  · split
    · rename_i e; rw [e, h2]
    · split
      · rename_i e; rw [e, h3]
      · rfl
theorem map3A {h₀ h : Heap} {L : Addr} {m : Str → Option Value} {a b c : Str} {x y z : Value} (F : Fr h₀ L h m) (h1 : m a = some x) (h2 : m b = some y) (h3 : m c = some z) :
    Fr h₀ L h (fun k => if k = a then some x else if k = b then some y else if k = c then some z else m k) := by
  have e : (fun k => if k = a then some x else if k = b then some y else if k = c then some z else m k) = m := by
    funext k; exact map3_eq h1 h2 h3 k
  rw [e]; exact F
theorem turn6b {w : World} {mean : ExcName → Option Value} {mg mb : Str → Option Value} {h₀ h₁ : Heap} {L fa sA fA rA dA : Addr} {s : Shared} {tk : Nat} {m : Str → Option Value} {sv fv rv dv : List Value} {sn fn rn dn : Nat} {Fs : List (List (List Nat))} {Nn : List (List Nat)} {o2 o3 o5 o6 : Obj} {tt ti th : Tok} {i : Nat} {R : List (Addr × Obj)} {G : Flow → Shared → Prop}
    (X : (Mine.K39.heap_1 w.params).In h₀) (T : TopV mean mg mb h₀) (F : Fr h₀ L h₁ (fun y => if y = Str.ofString "due" then some (.ref dA) else if y = Str.ofString "fronts" then some (.ref rA) else m y))
    (N : News h₀ L h₁ ((L + 1 + 1 + 1 + 1 + 1 + 1, o6) :: (L + 1 + 1 + 1 + 1 + 1, o5) :: (L + 1 + 1 + 1, o3) :: (L + 1 + 1, o2) :: R))
    (d6 : o6.data = .cell (some (.str (sOf (body Nn ++ [47])) tt))) (d5 : o5.data = .cell (some (.ref fA))) (d3 : o3.data = .cell (some (.int (i : Int) ti))) (d2 : o2.data = .cell (some (.ref sA)))
    (ms : (sA, PySem.W.listOf sv.toArray sn) ∈ R) (mf : (fA, PySem.W.listOf fv.toArray fn) ∈ R) (mr : (rA, PySem.W.listOf rv.toArray rn) ∈ R) (md : (dA, PySem.W.listOf dv.toArray dn) ∈ R)
    (hsv : sv[i]? = some (.str (sOf (spotL Nn)) th)) (hsl : sv.length = 5) (hN : okR Nn) (hfo : SAre fv (Fs.map spotL)) (hro : SAre rv (Fs.map fun f => body f ++ [47])) (hdo : SAre dv (dueF Fs Nn))
    (hfd : Fs.Nodup) (hfk : ∀ f ∈ Fs, okR f) (hf3 : Fs.length ≤ 3)
    (hG : ∀ h' tk' m', Fr h₀ L h' m' → (∀ z, z ≠ Str.ofString "taken" → z ≠ Str.ofString "above" → m' z = if z = Str.ofString "due" then some (.ref dA) else if z = Str.ofString "fronts" then some (.ref rA) else m z) →
      News h₀ L h' ((L + 1 + 1 + 1 + 1 + 1 + 1, o6) :: (L + 1 + 1 + 1 + 1 + 1, o5) :: (L + 1 + 1 + 1, o3) :: (L + 1 + 1, o2) :: R) → G .next { s with heap := h', toks := tk' }) :
    wpAny (model PySem.Challenge.pw_rx0087_01 w) (callerA.deeper (lawEnv L fa)) (execs ((lawFor 13).drop 3) (lawEnv L fa)) G (fun _ _ => False) { s with heap := h₁, toks := tk } := by
  have eS : lawRec.scope = { kind := _, names := _, isGenerator := _, isCoroutine := _, more := _ } := rfl
  have eN : lawRec.name = Str.ofString "law" := rfl
  unfold lawEnv
  rw [eS, eN]
  show wpAny _ _ (execs (_ :: _) _) _ _ _
  have hfl : fv.length = Fs.length := by have := StrsAre.length hfo; rw [List.length_map, List.length_map] at this; exact this
  have hrl : rv.length = Fs.length := by have := StrsAre.length hro; rw [List.length_map, List.length_map] at this; exact this
  have hc5 := cell_of N (.tail _ (.head _)) d5
  have hc6 := cell_of N (.head _) d6
  walk_at "my steps"
  refine assign_compG (cl := [(Str.ofString "text", L + 1 + 1 + 1 + 1 + 1 + 1)]) (by rfl) ⟨by rfl, by decide, rfl, by decide⟩ ?_
  walk_at "to call"
  refine comp_zip rfl (N _ (.tail _ (.tail _ (.tail _ (.tail _ mf))))).1 (N _ (.tail _ (.tail _ (.tail _ (.tail _ mr))))).1 (by rw [hfl, sizeLine_eq]; (walk_at "om")) (fun _ => rfl) (fun _ => rfl) rfl
    (fun j acc => SAre acc (((Fs.take j).filter fun f => decide (f <+: Nn)).map spotL)) StrsAre.nil ?_ ?_
  · rintro C j x y acc u h tk3 own hx hy hacc F₂ N₂
    first | refine ex2_2 (StrsAre.item hfo j x hx) fun yy t1 e90 e1 => ?_ | refine ex1_3 (StrsAre.item hfo j x hx) fun yy t1 e90 e1 => ?_ | obtain ⟨yy, t1, e90, e1⟩ := StrsAre.item hfo j x hx
    subst e90
    rw [List.map_map, List.getElem?_map, Option.map_eq_some_iff] at e1
    first | refine ex2_1 e1 fun f hfi e90 => ?_ | refine ex1_2 e1 fun f hfi e90 => ?_ | refine ex0_3 e1 fun f hfi e90 => ?_ | obtain ⟨f, hfi, e90⟩ := e1
    subst e90
    try clear e1
    first | refine ex2_2 (StrsAre.item hro j y hy) fun yy t2 e90 e2 => ?_ | refine ex1_3 (StrsAre.item hro j y hy) fun yy t2 e90 e2 => ?_ | obtain ⟨yy, t2, e90, e2⟩ := StrsAre.item hro j y hy
    subst e90
    rw [List.map_map, List.getElem?_map, hfi, Option.map_some, Option.some.injEq] at e2
    subst e2
    have hfk := hfk f (List.mem_of_getElem? hfi)
    have hbl := hfk.blen
    have hbN := hN.blen
    dsimp only [Function.comp_apply] at F₂
    rename Fr h₀ _ _ _ => F
    have X2 := X.keeps F.keep
    have T2 : TopV mean mg mb _ := T.keeps F.keep
    clear hG X T
    refine wp_gen fun G2 hG2 => ?_
    walk_at "my tidy"
    walk_at "my steps"
    rename Fr _ _ _ _ => F4
    rename News _ _ _ _ => N4
    refine slice_strN_ns (hsz := by rw [sizeLine_eq, sOf_len, List.length_append, List.length_singleton]; (walk_at "om")) (s := ⟨_, _, _, _, _⟩) F4 N4 ?_
    intro h5 t5 tk5 F5 N5
    clear F4 N4
    rw [sl_to _ (by (walk_at "om"))]
    have hb : (sOf (List.take (body f ++ [47]).length (body Nn ++ [47])) == sOf (body f ++ [47])) = decide (f <+: Nn) := by
      rw [Bool.eq_iff_iff, beq_iff_eq, decide_eq_true_eq, ← body_prefix (fun x hx => (hfk.1 x hx).2) (fun x hx => (hN.1 x hx).2), List.prefix_iff_eq_take]
      exact ⟨fun h => (sOf_inj h).symm, fun h => by rw [← h]⟩
    walk_at "my steps"
    rename Fr _ _ _ _ => F5
    rw [show ((((body f).length + (0 + 1) : Nat) : Int)).toNat = (body f ++ [47]).length by simp, hb]
    refine hG2 _ _ ?_
    by_cases hp : f <+: Nn
    · rw [decide_eq_true hp, if_pos rfl]
      refine wp_gen fun G3 hG3 => ?_
      walk_at "my steps"
      rename Fr _ _ _ _ => F5
      refine hG3 _ _ (cend (acc ++ [Value.str (sOf (spotL f)) t1]) F5 N5 (fun _ h => nomatch h) (fun p hp => hp) (fun _ _ _ h => nomatch h) ⟨rfl, ?_⟩)
      rw [List.take_add_one, hfi, List.filter_append, List.map_append, show (some f).toList = [f] from rfl, List.filter_cons_of_pos (by simpa using hp)]
      exact sare_snoc hacc
    · rw [decide_eq_false hp, if_neg (by decide)]
      refine cend acc F5 N5 (fun _ h => nomatch h) (fun p hp => hp) (fun _ _ _ h => nomatch h) ⟨rfl, ?_⟩
      rw [List.take_add_one, hfi, List.filter_append, show (some f).toList = [f] from rfl, List.filter_cons_of_neg (by simpa using hp), List.filter_nil, List.append_nil]
      exact hacc
  · intro h₂ D C acc m2 h tk3 nn hacc F₂ N₂
    rename Fr h₀ _ _ _ => F
    rename News h₀ _ _ _ => N
    rw [hfl, hrl, Nat.min_self, List.take_length] at hacc
    dsimp only
    refine comp_store (env := envOfC _ _ _ _ _) F N F₂ N₂ rfl rfl ?_
    intro h5 F5 N5
    replace F5 : Fr h₀ L h5 _ := F5
    replace N5 : News h₀ L h5 ((L + 1 + 1 + 1 + 1 + 1 + 1, o6) :: (L + 1 + 1 + 1 + 1 + 1, o5) :: (L + 1 + 1 + 1, o3) :: (L + 1 + 1, o2) :: (D, PySem.W.listOf acc.toArray nn) :: R) := KStb.news_of N5 (by walk_at "my sub")
    clear F N F₂ N₂ hc5 hc6
    have hc5 := cell_of N5 (.tail _ (.head _)) d5
    have hc3 := cell_of N5 (.tail _ (.tail _ (.head _))) d3
    have hc2 := cell_of N5 (.tail _ (.tail _ (.tail _ (.head _)))) d2
    walk_at "my steps"
    refine assign_comp (cl := [(Str.ofString "turn", L + 1 + 1 + 1), (Str.ofString "spots", L + 1 + 1)]) (by rfl) ⟨by rfl, by decide, rfl, by decide⟩ (by decide) ?_
    walk1
    refine comp_list (σ := List Value) (items := fv.toArray) rfl ⟨_, (N5 _ (.tail _ (.tail _ (.tail _ (.tail _ (.tail _ mf)))))).1, rfl, fn, rfl⟩ (by rw [List.size_toArray, hfl, sizeLine_eq]; (walk_at "om")) (fun _ => []) id (fun j acc => SAre acc (((Fs.take j).filter fun f => decide (f <+: Nn)).map spotL)) [] rfl rfl StrsAre.nil ?_ ?_
    · rintro C2 j v acc2 u h6 tk6 own hv hacc2 hoff F₂ N₂
      obtain ⟨yy, t1, rfl, e1⟩ := StrsAre.item hfo j v (by simpa using hv)
      rw [List.map_map, List.getElem?_map, Option.map_eq_some_iff] at e1
      first | refine ex2_1 e1 fun f hfi e90 => ?_ | refine ex1_2 e1 fun f hfi e90 => ?_ | refine ex0_3 e1 fun f hfi e90 => ?_ | obtain ⟨f, hfi, e90⟩ := e1
      subst e90
      try clear e1
      have hfk := hfk f (List.mem_of_getElem? hfi)
      have hbl := hfk.blen
      have hbN := hN.blen
      dsimp only [Function.comp_apply] at F₂
      rename Fr h₀ _ _ _ => F
      rename News h₀ _ _ _ => N
      have X2 := X.keeps F.keep
      have T2 : TopV mean mg mb _ := T.keeps F.keep
      have hsA := (N _ (.tail _ (.tail _ (.tail _ (.tail _ (.tail _ ms)))))).1
      dsimp only [List.nil_append] at N₂ hsA
      clear hG X T
      refine wp_gen fun G2 hG2 => ?_
      walk_at "my tidy"
      walk_at "my steps"
      rename Fr _ _ _ _ => F4
      refine item_heap (F4.keep _ _ hsA) hsv (by (walk_at "om")) ?_
      walk_at "my steps"
      rename Fr _ _ _ _ => F5
      rename News _ _ _ _ => N5
      have jl : ∀ g : List (List Nat), okR g → (joinL [47] g).length ≤ 900 := fun g hg => by
        have h1 := spotL_len hg.1
        have h2 := hg.blen
        unfold spotL at h1
        rw [List.length_cons] at h1
        (walk_at "om")
      refine Fun.use (commonpath (joinL [47] f) (joinL [47] Nn) (jl f hfk) (jl Nn hN) _ 0 t1 th) F5 N5 X2 T2 (N5 _ (.head _)).1 (by decide) (by decide) ?_
      rintro _ h8 tk8 - F8 N8 ⟨t8, rfl⟩
      have hcp : 47 :: joinL [47] (lcp (kept (splitL 47 (47 :: joinL [47] f))) (kept (splitL 47 (47 :: joinL [47] Nn)))) = spotL (lcp f Nn) := by
        show spotL (lcp (kept (splitL 47 (spotL f))) (kept (splitL 47 (spotL Nn)))) = _
        rw [kept_spot hfk, kept_spot hN]
      rw [hcp]
      have hb : (sOf (spotL (lcp f Nn)) == sOf (spotL f)) = decide (f <+: Nn) := by
        rw [Bool.eq_iff_iff, beq_iff_eq, decide_eq_true_eq, ← common_is hfk.1]
        exact ⟨fun h => sOf_inj h, fun h => by rw [h]⟩
      clear F5 N5
      walk_at "my steps"
      rename Fr _ _ _ _ => F9
      rw [hb]
      refine hG2 _ _ ?_
      by_cases hp : f <+: Nn
      · rw [decide_eq_true hp, if_pos rfl]
        refine wp_gen fun G3 hG3 => ?_
        walk_at "my steps"
        rename Fr _ _ _ _ => F9
        refine hG3 _ _ (cend (acc2 ++ [Value.str (sOf (spotL f)) t1]) F9 N8 (fun _ h => nomatch h) (fun p hp => .tail _ hp) hoff ⟨rfl, ?_⟩)
        rw [List.take_add_one, hfi, List.filter_append, List.map_append, show (some f).toList = [f] from rfl, List.filter_cons_of_pos (by simpa using hp)]
        exact sare_snoc hacc2
      · rw [decide_eq_false hp, if_neg (by decide)]
        refine cend acc2 F9 N8 (fun _ h => nomatch h) (fun p hp => .tail _ hp) hoff ⟨rfl, ?_⟩
        rw [List.take_add_one, hfi, List.filter_append, show (some f).toList = [f] from rfl, List.filter_cons_of_neg (by simpa using hp), List.filter_nil, List.append_nil]
        exact hacc2
    · rintro h₂ D2 C2 acc2 m3 h6 tk6 nn2 hacc2 F₂ N₂
      rename Fr h₀ _ _ _ => F
      rename News h₀ _ _ _ => N
      rw [List.size_toArray, hfl, List.take_length] at hacc2
      dsimp only
      refine comp_store (env := envOfC _ _ _ _ _) F N F₂ N₂ rfl rfl ?_
      intro h7 F7 N7
      replace F7 : Fr h₀ L h7 _ := F7
      replace N7 : News h₀ L h7 ((L + 1 + 1 + 1 + 1 + 1 + 1, o6) :: (L + 1 + 1 + 1 + 1 + 1, o5) :: (L + 1 + 1 + 1, o3) :: (L + 1 + 1, o2) :: (D2, PySem.W.listOf acc2.toArray nn2) :: (D, PySem.W.listOf acc.toArray nn) :: R) := KStb.news_of N7 (by walk_at "my sub")
      clear F N F₂ N₂ hc5 hc3 hc2
      have hfilt : ∀ acc' : List Value, SAre acc' ((Fs.filter fun f => decide (f <+: Nn)).map spotL) → acc'.length < 64 := fun acc' ha => by
        have h1 := StrsAre.length ha
        have h2 := List.length_filter_le (fun f => decide (f <+: Nn)) Fs
        rw [List.length_map, List.length_map] at h1
        (walk_at "om")
      have hsm : ∀ t ∈ (Fs.filter fun f => decide (f <+: Nn)).map spotL, t.length < 1000000 := fun t ht => by
        first | refine ex2_1 (List.mem_map.mp ht) fun f hf e90 => ?_ | refine ex1_2 (List.mem_map.mp ht) fun f hf e90 => ?_ | refine ex0_3 (List.mem_map.mp ht) fun f hf e90 => ?_ | obtain ⟨f, hf, e90⟩ := List.mem_map.mp ht
        subst e90
        have hk := hfk f (List.mem_filter.mp hf).1
        have h2 := hk.blen
        rw [spotL_len hk.1]; (walk_at "om")
      have hdue : ∀ ts : List (List Nat), ts.Perm ((Fs.filter fun f => decide (f <+: Nn)).map spotL) → ts.Pairwise (fun a b => a.length ≤ b.length) → ts = dueF Fs Nn := fun ts h1 h2 =>
        by_len (fun f hf => (hfk f hf).1) hfd hN.1 (p := fun f => decide (f <+: Nn)) (fun f _ => decide_eq_true_iff) h1 h2
      have hokc : okc (dueF Fs Nn) := okc_due hfk
      clear hsv hfo hro
      walk_at "my steps"
      show wpAny _ _ (call (.builtin "sorted") [.ref D] [(Str.ofString "key", .builtin "len")]) _ _ _
      refine sorted_len F7 N7 (News.isListX N7 (n := nn) (.tail _ (.tail _ (.tail _ (.tail _ (.tail _ (.head _))))))) hacc (hfilt _ hacc) hsm ?_
      intro D3 h8 tk8 out c8 ts F8 N8 ho hp hpw
      obtain rfl := hdue ts hp hpw
      clear F7 N7 hp hpw
      walk1
      refine ne_texts ⟨hokc, _, News.isListX N8 (.head _), ho⟩ ⟨hokc, _, News.isListX N8 (.tail _ (.tail _ (.tail _ (.tail _ (.tail _ (.tail _ (.tail _ md))))))), hdo⟩ (Nat.le_of_ble_eq_true rfl) ?_
      rw [decide_eq_true rfl]
      clear ho
      walk_at "to call"
      show wpAny _ _ (call (.builtin "sorted") [.ref D2] [(Str.ofString "key", .builtin "len")]) _ _ _
      refine sorted_len F8 N8 (News.isListX N8 (n := nn2) (.tail _ (.tail _ (.tail _ (.tail _ (.tail _ (.head _))))))) hacc2 (hfilt _ hacc2) hsm ?_
      intro D4 h9 tk9 out2 c9 ts F9 N9 ho hp hpw
      obtain rfl := hdue ts hp hpw
      clear F8 N8 hp hpw
      walk1
      refine ne_texts ⟨hokc, _, News.isListX N9 (.head _), ho⟩ ⟨hokc, _, News.isListX N9 (.tail _ (.tail _ (.tail _ (.tail _ (.tail _ (.tail _ (.tail _ (.tail _ md)))))))), hdo⟩ (Nat.le_of_ble_eq_true rfl) ?_
      rw [decide_eq_true rfl]
      clear ho
      walk_at "to call"
      walk_at "my steps"
      refine hG _ _ _ F9 (fun z z1 z2 => by rw [if_neg z2, if_neg z1]) (KStb.news_of N9 ?_)
      walk_at "my sub"
theorem turn6a {w : World} {mean : ExcName → Option Value} {mg mb : Str → Option Value} {h₀ h₁ : Heap} {L fa sA liA fA mA rA : Addr} {s : Shared} {tk : Nat} {m : Str → Option Value} {sv fv mv rv : List Value} {sn ln fn mn rn : Nat} {lr : List SpE} {e : SpE} {Fs : List (List (List Nat))} {ms : List Mark} {Nn : List (List Nat)} {o2 o3 o5 o6 : Obj} {v6 : Option Value} {ti th : Tok} {i : Nat} {R : List (Addr × Obj)} {G : Flow → Shared → Prop}
    (X : (Mine.K39.heap_1 w.params).In h₀) (T : TopV mean mg mb h₀) (F : Fr h₀ L h₁ (fun y => if y = Str.ofString "lines" then some (.ref liA) else if y = Str.ofString "marks" then some (.ref mA) else if y = Str.ofString "fronts" then some (.ref rA) else m y))
    (N : News h₀ L h₁ ((L + 1 + 1 + 1 + 1 + 1 + 1, o6) :: (L + 1 + 1 + 1 + 1 + 1, o5) :: (L + 1 + 1 + 1, o3) :: (L + 1 + 1, o2) :: R))
    (d6 : o6.data = .cell v6) (d5 : o5.data = .cell (some (.ref fA))) (d3 : o3.data = .cell (some (.int (i : Int) ti))) (d2 : o2.data = .cell (some (.ref sA)))
    (hms : (sA, PySem.W.listOf sv.toArray sn) ∈ R) (hml : (liA, PySem.W.listOf (spAcc lr).toArray ln) ∈ R) (hmf : (fA, PySem.W.listOf fv.toArray fn) ∈ R) (hmr : (rA, PySem.W.listOf rv.toArray rn) ∈ R) (hmm : (mA, PySem.W.listOf mv.toArray mn) ∈ R)
    (hR6 : ∀ p ∈ R, p.1 ≠ L + 1 + 1 + 1 + 1 + 1 + 1) (hle : lr[i]? = some e) (hee : (e.1, PySem.W.listOf e.2.1.toArray e.2.2) ∈ R) (hes : SAre e.2.1 ((pres Nn).map spotL)) (hll : lr.length = 5)
    (hsv : sv[i]? = some (.str (sOf (spotL Nn)) th)) (hsl : sv.length = 5) (hN : okR Nn) (hfo : SAre fv (Fs.map spotL)) (hro : SAre rv (Fs.map fun f => body f ++ [47]))
    (hfd : Fs.Nodup) (hfk : ∀ f ∈ Fs, okR f) (hf3 : Fs.length ≤ 3) (hMs : MarksIn R mv ms) (hp : ms.Perm (marksF Fs)) (hs : ms.Pairwise (fun a b => a.1 < b.1))
    (hG : ∀ h' tk' m' o6' v6', o6'.data = .cell (some v6') → Fr h₀ L h' m' → (∀ z, z ≠ Str.ofString "due" → z ≠ Str.ofString "taken" → z ≠ Str.ofString "above" → m' z = if z = Str.ofString "lines" then some (.ref liA) else if z = Str.ofString "marks" then some (.ref mA) else if z = Str.ofString "fronts" then some (.ref rA) else m z) →
      News h₀ L h' ((L + 1 + 1 + 1 + 1 + 1 + 1, o6') :: (L + 1 + 1 + 1 + 1 + 1, o5) :: (L + 1 + 1 + 1, o3) :: (L + 1 + 1, o2) :: R) → G .next { s with heap := h', toks := tk' }) :
    wpAny (model PySem.Challenge.pw_rx0087_01 w) (callerA.deeper (lawEnv L fa)) (execs (lawFor 13) (lawEnv L fa)) G (fun _ _ => False) { s with heap := h₁, toks := tk } := by
  have eS : lawRec.scope = { kind := _, names := _, isGenerator := _, isCoroutine := _, more := _ } := rfl
  have eN : lawRec.name = Str.ofString "law" := rfl
  unfold lawEnv
  rw [eS, eN]
  show wpAny _ _ (execs (_ :: _) _) _ _ _
  have hfl : fv.length = Fs.length := by have := StrsAre.length hfo; rw [List.length_map, List.length_map] at this; exact this
  try (with_reducible refine seq_next ?_)
  walk1
  walk_at "to call"
  refine item_heap (N _ (.tail _ (.tail _ (.tail _ (.tail _ hms))))).1 hsv (by (walk_at "om")) ?_
  walk_at "to call"
  refine Fun.use (law_stem _ _) F N X T trivial (by decide) (by decide) ?_
  rintro _ h2 tk2 - F2 N2 ⟨t2, rfl⟩
  rw [stem_spot (ns := Nn) fun x hx => (hN.1 x hx).1]
  have hbN := hN.blen
  clear F N
  walk1
  walk1
  refine setcell (c := L + 1 + 1 + 1 + 1 + 1 + 1) (o := o6) F2 N2 (.head _) d6 rfl rfl rfl ?_
  intro h3 o6' F3 hs6 hc6 d6'
  have N3 := News.setc (rest := (L + 1 + 1 + 1 + 1 + 1, o5) :: (L + 1 + 1 + 1, o3) :: (L + 1 + 1, o2) :: R) N2 (.head _) d6 hs6 hc6 (fun p hp => ⟨.tail _ hp, .inl ((show ∀ p ∈ _, p.1 ≠ _ from all_cons (ne_add (by decide : 5 ≠ 6)) (all_cons (ne_add (by decide : 3 ≠ 6)) (all_cons (ne_add (by decide : 2 ≠ 6)) hR6))) p hp)⟩)
  clear F2 N2 hs6 hc6
  have hc5 := cell_of N3 (.tail _ (.head _)) d5
  have hf := (N3 _ (.tail _ (.tail _ (.tail _ (.tail _ hmf))))).1
  dsimp only at hf
  walk_at "my steps"
  refine assign_comp (cl := [(Str.ofString "folders", L + 1 + 1 + 1 + 1 + 1)]) (by rfl) ⟨by rfl, by decide, rfl, by decide⟩ (by decide) ?_
  walk_at "to call"
  refine item_heap (N3 _ (.tail _ (.tail _ (.tail _ (.tail _ hml))))).1 (x := .ref e.1) (by simp [spAcc, hle]) (by simp [spAcc]; (walk_at "om")) ?_
  have hel : e.2.1.length = (pres Nn).length := by have := StrsAre.length hes; rw [List.length_map, List.length_map] at this; exact this
  have hpl : (pres Nn).length ≤ 7 := by have := hN.2.2; simp [pres]; (walk_at "om")
  refine comp_list (σ := List Value) (items := e.2.1.toArray) rfl ⟨_, (N3 _ (.tail _ (.tail _ (.tail _ (.tail _ hee))))).1, rfl, e.2.2, rfl⟩ (by rw [List.size_toArray, hel, sizeLine_eq]; (walk_at "om")) (fun _ => []) id (fun j acc => SAre acc ((((pres Nn).take j).filter fun a => decide (a ∈ Fs)).map spotL)) [] rfl rfl StrsAre.nil ?_ ?_
  · rintro C j v acc u h tk3 own hv hacc hoff F₂ N₂
    obtain ⟨yy, t1, rfl, e1⟩ := StrsAre.item hes j v (by simpa using hv)
    rw [List.map_map, List.getElem?_map, Option.map_eq_some_iff] at e1
    first | refine ex2_1 e1 fun f hfi e90 => ?_ | refine ex1_2 e1 fun f hfi e90 => ?_ | refine ex0_3 e1 fun f hfi e90 => ?_ | obtain ⟨f, hfi, e90⟩ := e1
    subst e90
    try clear e1
    dsimp only [Function.comp_apply] at F₂
    dsimp only [List.nil_append] at N₂
    rename Fr h₀ _ _ _ => F
    have X2 := X.keeps F.keep
    have T2 : TopV mean mg mb _ := T.keeps F.keep
    clear hG X T
    refine wp_gen fun G2 hG2 => ?_
    walk_at "my tidy"
    walk_at "my steps"
    rename Fr _ _ _ _ => F4
    rename News _ _ _ _ => N4
    refine in_texts ⟨_, F4.keep _ _ hf, rfl, fn, rfl⟩ hfo ?_
    have hb : decide (spotL f ∈ Fs.map spotL) = decide (f ∈ Fs) := by
      rw [decide_eq_decide]
      refine ⟨fun h => ?_, fun h => List.mem_map_of_mem h⟩
      first | refine ex2_1 (List.mem_map.mp h) fun g hg e => ?_ | refine ex1_2 (List.mem_map.mp h) fun g hg e => ?_ | refine ex0_3 (List.mem_map.mp h) fun g hg e => ?_ | obtain ⟨g, hg, e⟩ := List.mem_map.mp h
      rw [← spot_inj (hfk g hg).1 (okN_pre hN.1 (mem_pres.mp (List.mem_of_getElem? hfi))) e]; exact hg
    rw [hb]
    walk_at "my steps"
    rename Fr _ _ _ _ => F4
    refine hG2 _ _ ?_
    by_cases hp : f ∈ Fs
    · rw [decide_eq_true hp, if_pos rfl]
      refine wp_gen fun G3 hG3 => ?_
      walk_at "my steps"
      rename Fr _ _ _ _ => F4
      refine hG3 _ _ (cend (acc ++ [Value.str (sOf (spotL f)) t1]) F4 N4 (fun _ h => nomatch h) (fun p hp => hp) hoff ⟨rfl, ?_⟩)
      rw [List.take_add_one, hfi, List.filter_append, List.map_append, show (some f).toList = [f] from rfl, List.filter_cons_of_pos (by simpa using hp)]
      exact sare_snoc hacc
    · rw [decide_eq_false hp, if_neg (by decide)]
      refine cend acc F4 N4 (fun _ h => nomatch h) (fun p hp => hp) hoff ⟨rfl, ?_⟩
      rw [List.take_add_one, hfi, List.filter_append, show (some f).toList = [f] from rfl, List.filter_cons_of_neg (by simpa using hp), List.filter_nil, List.append_nil]
      exact hacc
  · intro h₂ D C acc m2 h tk3 nn hacc F₂ N₂
    rename Fr h₀ _ _ _ => F
    rename News h₀ _ _ _ => N
    rw [List.size_toArray, hel, List.take_length] at hacc
    replace hacc : SAre acc (dueF Fs Nn) := hacc
    dsimp only
    refine comp_store (env := envOfC _ _ _ _ _) F N F₂ N₂ rfl rfl ?_
    intro h5 F5 N5
    replace F5 : Fr h₀ L h5 _ := F5
    replace N5 : News h₀ L h5 ((L + 1 + 1 + 1 + 1 + 1 + 1, o6') :: (L + 1 + 1 + 1 + 1 + 1, o5) :: (L + 1 + 1 + 1, o3) :: (L + 1 + 1, o2) :: (D, PySem.W.listOf acc.toArray nn) :: R) := KStb.news_of N5 (by walk_at "my sub")
    clear F N F₂ N₂ hc5 hf
    try (with_reducible refine seq_next ?_)
    walk1
    walk_at "to call"
    have hm6 : ms.length ≤ 6 := by have h1 := hp.length_eq; simp [marksF] at h1; (walk_at "om")
    have memR : ∀ p ∈ R, p ∈ ((L + 1 + 1 + 1 + 1 + 1 + 1, o6') :: (L + 1 + 1 + 1 + 1 + 1, o5) :: (L + 1 + 1 + 1, o3) :: (L + 1 + 1, o2) :: (D, PySem.W.listOf acc.toArray nn) :: R) := fun p hp => .tail _ (.tail _ (.tail _ (.tail _ (.tail _ hp))))
    have hokc : okc (dueF Fs Nn) := okc_due hfk
    refine Fun.use (law_pile ms hm6 (body Nn ++ [47]) (dueF Fs Nn) (pile_is_due (fun f hf => (hfk f hf).1) hp hs hN.1) (ok_marks hfk hp) mv mn mA _) F5 N5 X T ⟨(N5 _ (memR _ hmm)).1, hMs.at N5 memR⟩ (by decide) (by decide) ?_
    rintro _ h6 tk6 - F6 N6 ⟨D2, us, nu, rfl, hD0, hD1, hus⟩
    have N7 := news_new2 F5 N5 N6 hD0 hD1
    clear F5 N5 N6 hD0 hD1
    walk1
    refine ne_texts ⟨hokc, _, News.isListX N7 (.head _), hus⟩ ⟨hokc, _, News.isListX N7 (n := nn) (.tail _ (.tail _ (.tail _ (.tail _ (.tail _ (.head _)))))), hacc⟩ (Nat.le_of_ble_eq_true rfl) ?_
    rw [decide_eq_true rfl]
    clear hus hokc memR
    walk1
    walk1
    walk1
    have F7 : Fr h₀ L h6 (fun y => if y = Str.ofString "due" then some (.ref D) else if y = Str.ofString "fronts" then some (.ref rA) else if y = Str.ofString "lines" then some (.ref liA) else if y = Str.ofString "marks" then some (.ref mA) else if y = Str.ofString "fronts" then some (.ref rA) else m y) := by
      have e9 : (fun y => if y = Str.ofString "due" then some (Value.ref D) else if y = Str.ofString "fronts" then some (.ref rA) else if y = Str.ofString "lines" then some (.ref liA) else if y = Str.ofString "marks" then some (.ref mA) else if y = Str.ofString "fronts" then some (.ref rA) else m y) = fun y => if y = Str.ofString "due" then some (Value.ref D) else if y = Str.ofString "lines" then some (.ref liA) else if y = Str.ofString "marks" then some (.ref mA) else if y = Str.ofString "fronts" then some (.ref rA) else m y := by
        funext y
        by_cases e1 : y = Str.ofString "fronts"
        · subst e1; rfl
        · rw [if_neg e1]
      rw [e9]; exact F6
    walk1
    show wpAny _ _ _ G _ _
    refine turn6b (R := (D, PySem.W.listOf acc.toArray nn) :: R) X T F7 (KStb.news_of N7 fun p hp => .tail _ hp) d6' d5 d3 d2 (.tail _ hms) (.tail _ hmf) (.tail _ hmr) (.head _) hsv hsl hN hfo hro hacc hfd hfk hf3 ?_
    intro h8 tk8 m8 F8 e8 N8
    refine hG h8 tk8 m8 o6' _ d6' F8 (fun z z1 z2 z3 => ?_) (KStb.news_of N8 ?_)
    · rw [e8 z z2 z3, if_neg z1]
      by_cases e1 : z = Str.ofString "fronts"
      · subst e1; rfl
      · rw [if_neg e1]
    · walk_at "my sub"
theorem law6 {w : World} {mean : ExcName → Option Value} {mg mb : Str → Option Value} {h₀ h₁ : Heap} {L fa sA liA fA mA rA : Addr} {s : Shared} {tk : Nat} {m : Str → Option Value} {sv fv mv rv : List Value} {sn ln fn mn rn : Nat} {lr : List SpE} {Ns Fs : List (List (List Nat))} {ms : List Mark} {o2 o3 o5 o6 : Obj} {v3 v6 : Option Value} {ps pt : Array Value} {R : List (Addr × Obj)}
    (X : (Mine.K39.heap_1 w.params).In h₀) (T : TopV mean mg mb h₀) (F : Fr h₀ L h₁ m) (hm : m (Str.ofString "lines") = some (.ref liA)) (hmm : m (Str.ofString "marks") = some (.ref mA)) (hmr : m (Str.ofString "fronts") = some (.ref rA))
    (N : News h₀ L h₁ ((L + 1 + 1 + 1 + 1 + 1 + 1, o6) :: (L + 1 + 1 + 1 + 1 + 1, o5) :: (L + 1 + 1 + 1, o3) :: (L + 1 + 1, o2) :: (78, tabObj ps) :: (238, tabObj pt) :: R))
    (d6 : o6.data = .cell v6) (d5 : o5.data = .cell (some (.ref fA))) (d3 : o3.data = .cell v3) (d2 : o2.data = .cell (some (.ref sA)))
    (hR : Rows Ns Fs sv fv lr sA liA fA sn ln fn R) (hMl : (mA, PySem.W.listOf mv.toArray mn) ∈ R) (hMs : MarksIn R mv ms) (hp : ms.Perm (marksF Fs)) (hs : ms.Pairwise (fun a b => a.1 < b.1)) (hrl : (rA, PySem.W.listOf rv.toArray rn) ∈ R) (hrv : SAre rv (Fs.map fun f => body f ++ [47])) (l0 : @LT.lt Nat _ 78 L ∧ @LT.lt Nat _ 238 L) :
    wpAny (model PySem.Challenge.pw_rx0087_01 w) (callerA.deeper (lawEnv L fa)) (execs (lawRec.body.drop 13) (lawEnv L fa)) (LawEnd h₀ L s) (fun _ _ => False) { s with heap := h₁, toks := tk } := by
  have eS : lawRec.scope = { kind := _, names := _, isGenerator := _, isCoroutine := _, more := _ } := rfl
  have eN : lawRec.name = Str.ofString "law" := rfl
  unfold lawEnv
  rw [eS, eN]
  show wpAny _ _ (execs (_ :: _) _) _ _ _
  refine wp_gen fun G hG => ?_
  have hm6 : ms.length ≤ 6 := by have h1 := hp.length_eq; have h2 := hR.f3; simp [marksF] at h1; (walk_at "om")
  walk_at "my steps"
  walk_at "exec For"
  walk_at "to call"
  walk1
  rename IsRange _ _ _ _ _ _ _ _ => hr
  rename Fr _ _ _ _ => F2
  rename News _ _ _ _ => N2
  rw [mkC_eq d6, mkC_eq d3] at N2
  refine for_range (σ := Obj × Option Value × Obj × Option Value) (n := 5) (fun c => (L + 1 + 1 + 1 + 1 + 1 + 1, mkC c.2.2.1 c.2.2.2) :: (L + 1 + 1 + 1 + 1 + 1, o5) :: (L + 1 + 1 + 1, mkC c.1 c.2.1) :: (L + 1 + 1, o2) :: (78, tabObj ps) :: (238, tabObj pt) :: R) (fun _ => []) [Str.ofString "due", Str.ofString "taken", Str.ofString "above"] (fun _ _ => True) rfl hr (by decide +kernel) (by decide +kernel) ?hled F2 ⟨(o3, v3, o6, v6), KStb.news_of N2 (fun p hp => by first | exact hp | exact .tail _ hp), trivial, trivial⟩ ?turn ?done PassesOwn.never
  case hled =>
    intro c
    refine all_cons (.inl rfl) ?_
    refine all_cons (.inl (noF_cell d5)) ?_
    refine all_cons (.inl rfl) ?_
    refine all_cons (.inl (noF_cell d2)) ?_
    refine all_cons (.inr l0.1) ?_
    refine all_cons (.inr l0.2) ?_
    exact fun p hp => .inl (hR.sq p hp).noF
  case turn =>
    intro i ti q9 u h tk own hi _ hoff F4 N4
    first | refine ex2_2 q9 fun p3 w3 p6 w6 => ?_ | refine ex1_3 q9 fun p3 w3 p6 w6 => ?_ | obtain ⟨p3, w3, p6, w6⟩ := q9
    try clear q9
    dsimp only [kstB] at F4 N4 hoff
    rw [Int.zero_add]
    refine wpAny_assign_Name (setcell (c := L + 1 + 1 + 1) (o := mkC p3 w3) F4 N4 (.tail _ (.tail _ (.head _))) rfl rfl rfl rfl ?_)
    intro h' o3' F5 hs3 hc3 d3'
    replace F5 : Fr h₀ L h' _ := F5
    have l78 := l0.1
    have l238 := l0.2
    have hown : ∀ p ∈ own, p.1 ≠ L + 1 + 1 + 1 ∧ p.1 ≠ L + 1 + 1 + 1 + 1 + 1 + 1 := fun p hp => ⟨hoff p hp _ (by simp), hoff p hp _ (by simp)⟩
    have memR : ∀ p ∈ R ++ own, p ∈ ((L + 1 + 1 + 1 + 1 + 1 + 1, mkC p6 w6) :: (L + 1 + 1 + 1 + 1 + 1, o5) :: (L + 1 + 1 + 1, mkC p3 w3) :: (L + 1 + 1, o2) :: (78, tabObj ps) :: (238, tabObj pt) :: R) ++ own := fun p hp => .tail _ (.tail _ (.tail _ (.tail _ (.tail _ (.tail _ hp)))))
    have hR6 : ∀ p ∈ (78, tabObj ps) :: (238, tabObj pt) :: (R ++ own), p.1 ≠ L + 1 + 1 + 1 + 1 + 1 + 1 := by
      refine all_cons (adne (.inl (by (walk_at "om")))) ?_
      refine all_cons (adne (.inl (by (walk_at "om")))) ?_
      exact all_app (fun p hp => ne_cell N4 (memR p (List.mem_append_left _ hp)) (.head _) (v := w6) rfl (hR.sq p hp).noC) (fun p hp => (hown p hp).2)
    have N5 := News.setc (rest := (L + 1 + 1 + 1 + 1 + 1 + 1, mkC p6 w6) :: (L + 1 + 1 + 1 + 1 + 1, o5) :: (L + 1 + 1, o2) :: (78, tabObj ps) :: (238, tabObj pt) :: (R ++ own)) N4 (.tail _ (.tail _ (.head _))) (v := w3) rfl hs3 hc3 (by
      refine all_cons (⟨.head _, .inl (ne_add (by decide : 6 ≠ 3))⟩) ?_
      refine all_cons (⟨.tail _ (.head _), .inl (ne_add (by decide : 5 ≠ 3))⟩) ?_
      refine all_cons (⟨.tail _ (.tail _ (.tail _ (.head _))), .inl (ne_add (by decide : 2 ≠ 3))⟩) ?_
      refine all_cons (⟨.tail _ (.tail _ (.tail _ (.tail _ (.head _)))), .inr (fun v h => nomatch h)⟩) ?_
      refine all_cons (⟨.tail _ (.tail _ (.tail _ (.tail _ (.tail _ (.head _))))), .inr (fun v h => nomatch h)⟩) ?_
      exact all_app (fun p hp => ⟨memR p (List.mem_append_left _ hp), .inr fun v => (hR.sq p hp).noC v⟩) (fun p hp => ⟨memR p (List.mem_append_right _ hp), .inl (hown p hp).1⟩))
    replace N5 : News h₀ L h' ((L + 1 + 1 + 1 + 1 + 1 + 1, mkC p6 w6) :: (L + 1 + 1 + 1 + 1 + 1, o5) :: (L + 1 + 1 + 1, o3') :: (L + 1 + 1, o2) :: (78, tabObj ps) :: (238, tabObj pt) :: (R ++ own)) := KStb.news_of N5 (by walk_at "my sub")
    have hsl : sv.length = 5 := by have := StrsAre.length hR.sp; rw [List.length_map, List.length_map, hR.n5] at this; exact this
    obtain ⟨v, hv⟩ : ∃ v, sv[i]? = some v := ⟨_, List.getElem?_eq_getElem (by (walk_at "om"))⟩
    first | refine ex2_2 (StrsAre.item hR.sp i v hv) fun yy th e90 hy => ?_ | refine ex1_3 (StrsAre.item hR.sp i v hv) fun yy th e90 hy => ?_ | obtain ⟨yy, th, e90, hy⟩ := StrsAre.item hR.sp i v hv
    subst e90
    rw [List.map_map, List.getElem?_map, Option.map_eq_some_iff] at hy
    first | refine ex2_1 hy fun Nn hNi e90 => ?_ | refine ex1_2 hy fun Nn hNi e90 => ?_ | refine ex0_3 hy fun Nn hNi e90 => ?_ | obtain ⟨Nn, hNi, e90⟩ := hy
    subst e90
    try clear hy
    obtain ⟨e, he⟩ : ∃ e, lr[i]? = some e := ⟨_, List.getElem?_eq_getElem (by rw [hR.l5]; exact hi)⟩
    first | refine ex2_2 (hR.li i e he) fun N' hN' hes hee => ?_ | refine ex1_3 (hR.li i e he) fun N' hN' hes hee => ?_ | obtain ⟨N', hN', hes, hee⟩ := hR.li i e he
    rw [hNi] at hN'
    cases hN'
    clear F4 N4 hs3 hc3
    have F6 := map3A F5 (a := Str.ofString "lines") (b := Str.ofString "marks") (c := Str.ofString "fronts") (by show m _ = _; exact hm) (by show m _ = _; exact hmm) (by show m _ = _; exact hmr)
    refine turn6a (R := (78, tabObj ps) :: (238, tabObj pt) :: (R ++ own)) X T F6 N5 (v6 := w6) rfl d5 d3' d2 (.tail _ (.tail _ (List.mem_append_left _ hR.ms))) (.tail _ (.tail _ (List.mem_append_left _ hR.ml))) (.tail _ (.tail _ (List.mem_append_left _ hR.mf))) (.tail _ (.tail _ (List.mem_append_left _ hrl))) (.tail _ (.tail _ (List.mem_append_left _ hMl))) hR6 he (.tail _ (.tail _ (List.mem_append_left _ hee))) hes hR.l5 hv hsl (hR.ok Nn (List.mem_of_getElem? hNi)) hR.fo hrv hR.fd hR.fk hR.f3 (hMs.more fun p hp => .tail _ (.tail _ (List.mem_append_left _ hp))) hp hs ?_
    intro h8 tk8 m8 o6' v6' d8 F8 e8 N8
    refine fnext (o3', some (.int (i : Int) ti), o6', some v6') F8 N8 ?_ (fun p hp => .tail _ (.tail _ (.tail _ (.tail _ (.tail _ (.tail _ (List.mem_append_right _ hp))))))) trivial ?_ trivial
    · intro p hp
      rw [mkC_eq d3', mkC_eq d8]
      simp only [List.mem_cons, List.mem_append] at hp ⊢
      rcases hp with h | h | h | h | h | h | h <;> simp only [h, true_or, or_true]
      all_goals simp [mkC]
    · intro z _ hz; try dsimp only
      have hz0 := hz
      simp only [List.contains_cons, List.contains_nil, Bool.or_false, Bool.or_eq_false_iff, beq_eq_false_iff_ne, ne_eq] at hz
      rw [e8 z hz.1 hz.2.1 hz.2.2]
      refine (map3_eq (m := fun z => if [Str.ofString "due", Str.ofString "taken", Str.ofString "above"].contains z = true then u z else m z) (by show m _ = _; exact hm) (by show m _ = _; exact hmm) (by show m _ = _; exact hmr) z).trans ?_
      show (if _ then _ else _) = _
      rw [if_neg (by rw [hz0]; decide)]
  case done =>
    refine pi4 ?_
    intro p3 w3 p6 w6 u h tk _ F4 N4
    dsimp only [kstB] at F4 N4
    dsimp only
    replace F4 : Fr h₀ L h (fun y => if y = Str.ofString "marks" then some (.ref mA) else if [Str.ofString "due", Str.ofString "taken", Str.ofString "above"].contains y then u y else m y) := by
      have e9 := mapAt (m := fun z => if [Str.ofString "due", Str.ofString "taken", Str.ofString "above"].contains z = true then u z else m z) (x := Str.ofString "marks") (v := .ref mA) (by show m _ = _; exact hmm)
      rw [e9] at F4; exact F4
    replace N4 : News h₀ L h _ := N4
    walk_at "my tidy"
    try (with_reducible refine seq_next ?_)
    walk1
    walk_at "to call"
    rename Fr _ _ _ _ => F5
    rename News _ _ _ _ => N5
    have memR : ∀ p ∈ R, p ∈ (L + 1 + 1 + 1 + 1 + 1 + 1, mkC p6 w6) :: (L + 1 + 1 + 1 + 1 + 1, o5) :: (L + 1 + 1 + 1, mkC p3 w3) :: (L + 1 + 1, o2) :: (78, tabObj ps) :: (238, tabObj pt) :: R := fun p hp => .tail _ (.tail _ (.tail _ (.tail _ (.tail _ (.tail _ hp)))))
    refine Fun.use (law_pile ms hm6 [48] [] (pile_end (fun f hf => (hR.fk f hf).1) hp hs) (ok_marks hR.fk hp) mv mn mA _) F5 N5 X T ⟨(N5 _ (memR _ hMl)).1, hMs.at N5 memR⟩ (by decide) (by decide) ?_
    rintro _ h6 tk6 - F6 N6 ⟨D2, us, nu, rfl, hD0, hD1, hus⟩
    have N7 := news_new2 F5 N5 N6 hD0 hD1
    clear F5 N5 N6 hD0 hD1
    walk1
    walk1
    walk1
    rename Fr _ _ _ _ => F8
    rename News _ _ _ _ => N8
    refine eq_texts (ls := []) (ms := []) ⟨(fun _ h => nomatch h), _, News.isListX N8 (.tail _ (.head _)), hus⟩ ⟨(fun _ h => nomatch h), [], News.isListX N8 (.head _), StrsAre.nil⟩ (by exact Nat.le_of_ble_eq_true rfl) ?_
    rw [decide_eq_true rfl]
    refine hG _ _ ⟨rfl, _, _, _, ps, pt, rfl, F8, KStb.news_of N8 ?_⟩
    walk_at "my sub"
theorem law5 {w : World} {mean : ExcName → Option Value} {mg mb : Str → Option Value} {h₀ h₁ : Heap} {L fa sA liA fA mA : Addr} {s : Shared} {tk : Nat} {m : Str → Option Value} {sv fv mv : List Value} {sn ln fn mn : Nat} {lr : List SpE} {Ns Fs : List (List (List Nat))} {ms : List Mark} {o2 o3 o5 o6 : Obj} {v3 v6 : Option Value} {pt : Array Value} {R : List (Addr × Obj)}
    (X : (Mine.K39.heap_1 w.params).In h₀) (T : TopV mean mg mb h₀) (F : Fr h₀ L h₁ m) (hm : m (Str.ofString "lines") = some (.ref liA)) (hmm : m (Str.ofString "marks") = some (.ref mA))
    (N : News h₀ L h₁ ((L + 1 + 1 + 1 + 1 + 1 + 1, o6) :: (L + 1 + 1 + 1 + 1 + 1, o5) :: (L + 1 + 1 + 1, o3) :: (L + 1 + 1, o2) :: (78, tabObj #[]) :: (238, tabObj pt) :: R))
    (d6 : o6.data = .cell v6) (d5 : o5.data = .cell (some (.ref fA))) (d3 : o3.data = .cell v3) (d2 : o2.data = .cell (some (.ref sA)))
    (hR : Rows Ns Fs sv fv lr sA liA fA sn ln fn R) (hMl : (mA, PySem.W.listOf mv.toArray mn) ∈ R) (hMs : MarksIn R mv ms) (hp : ms.Perm (marksF Fs)) (hs : ms.Pairwise (fun a b => a.1 < b.1)) (l0 : @LT.lt Nat _ 78 L ∧ @LT.lt Nat _ 238 L) :
    wpAny (model PySem.Challenge.pw_rx0087_01 w) (callerA.deeper (lawEnv L fa)) (execs (lawRec.body.drop 11) (lawEnv L fa)) (LawEnd h₀ L s) (fun _ _ => False) { s with heap := h₁, toks := tk } := by
  have eS : lawRec.scope = { kind := _, names := _, isGenerator := _, isCoroutine := _, more := _ } := rfl
  have eN : lawRec.name = Str.ofString "law" := rfl
  unfold lawEnv
  rw [eS, eN]
  show wpAny _ _ (execs (_ :: _) _) _ _ _
  refine wp_gen fun G hG => ?_
  have hfl : fv.length = Fs.length := by have := StrsAre.length hR.fo; rw [List.length_map, List.length_map] at this; exact this
  have hf3 := hR.f3
  have hc5 := cell_of N (.tail _ (.head _)) d5
  have h8 := N (78, tabObj #[]) (by simp)
  walk_at "my steps"
  refine assign_compG (cl := []) (by rfl) ⟨by rfl, by decide, rfl, by decide⟩ ?_
  walk1
  refine comp_listT (ps0 := #[]) rfl (N _ (.tail _ (.tail _ (.tail _ (.tail _ (.tail _ (.tail _ hR.mf))))))).1 h8.1 (by rw [hfl, sizeLine_eq]; (walk_at "om")) (fun _ => rfl) rfl (fun i acc ps => SAre acc ((Fs.take i).map fun f => body f ++ [47]) ∧ TabOk ps) ⟨StrsAre.nil, .inl rfl⟩ ?_ ?_
  · intro C i v acc ps u h tk3 own hv q9 hoff F₂ N₂
    first | refine ex1_1 q9 fun hacc hok => ?_ | refine ex0_2 q9 fun hacc hok => ?_ | obtain ⟨hacc, hok⟩ := q9
    try clear q9
    first | refine ex2_2 (StrsAre.item hR.fo i v hv) fun yy th e90 hy => ?_ | refine ex1_3 (StrsAre.item hR.fo i v hv) fun yy th e90 hy => ?_ | obtain ⟨yy, th, e90, hy⟩ := StrsAre.item hR.fo i v hv
    subst e90
    rw [List.map_map, List.getElem?_map, Option.map_eq_some_iff] at hy
    first | refine ex2_1 hy fun f hfi e90 => ?_ | refine ex1_2 hy fun f hfi e90 => ?_ | refine ex0_3 hy fun f hfi e90 => ?_ | obtain ⟨f, hfi, e90⟩ := hy
    subst e90
    try clear hy
    have hfk := hR.fk f (List.mem_of_getElem? hfi)
    have hbl := hfk.blen
    dsimp only [Function.comp_apply] at F₂
    rename Fr h₀ _ _ _ => F
    have X2 := gh_K (X.keeps F.keep)
    have T2 := gh_top h8.1 (T.keeps F.keep : TopV mean mg mb _)
    clear X T hc5
    refine tests_nil ?_
    simp only [if_true]
    refine wp_gen fun G2 hG2 => ?_
    walk_at "my tidy"
    walk_at "my steps"
    rename Fr _ _ _ _ => F3
    rename News _ _ _ _ => N3
    refine Fun.use (law_mask (spotL f) (by rw [spotL_len hfk.1]; (walk_at "om")) _) F3 N3 X2 T2 trivial (by decide) (by decide) ?_
    intro _ h4 tk4 hk4 F4 N4 q9
    first | refine ex2_2 q9 fun t4 r hr e90 => ?_ | refine ex1_3 q9 fun t4 r hr e90 => ?_ | obtain ⟨t4, r, hr, e90⟩ := q9
    subst e90
    try clear q9
    rw [stem_spot (ns := f) fun x hx => (hfk.1 x hx).1] at hr
    obtain rfl := sOf_inj hr
    rw [mask_q]
    clear F3 N3 hk4 hr
    walk_at "my steps"
    have hql : (body f ++ [47]).length ≤ 200 := by rw [List.length_append, List.length_singleton]; (walk_at "om")
    refine FunT.use (translate (body f ++ [47]) hfk.good (by simp) hql _) F4 N4 X2 T2 (.head _) hok trivial (by decide) (by decide) ?_
    rintro _ h5 tk5 ps5 hok5 - F5 N5 h85 ⟨t5, rfl⟩
    replace N5 : News (gh h₁) C h5 ((78, tabObj ps5) :: own) := fun p hp => by
      rcases List.mem_cons.mp hp with rfl | hp
      · exact h85
      · exact N5 p (.tail _ hp) (hoff p hp)
    clear F4 N4 h85
    walk_at "my steps"
    refine Fun.use (law_front (body f ++ [47]) hfk.good hql _) F5 N5 X2 T2 trivial (by decide) (by decide) ?_
    rintro _ h6 tk6 - F6 N6 ⟨t6, rfl⟩
    refine hG2 _ _ (cend (acc ++ [Value.str (sOf (body f ++ [47])) t6], ps5) F6 N6 ?_ (fun p hp => .tail _ hp) ?_ ⟨rfl, ?_, hok5⟩)
    · intro p hp; rw [List.mem_singleton.mp hp]; exact .head _
    · intro p hp a ha
      rw [List.mem_singleton.mp ha]; exact hoff p hp
    · show SAre (acc ++ [_]) _
      rw [List.take_add_one, hfi, List.map_append]
      exact sare_snoc hacc
  · intro h₂ D C acc ps m2 h tk3 nn ⟨hacc, hok⟩ F₂ N₂
    rename Fr h₀ _ _ _ => F
    rename News h₀ _ _ _ => N
    dsimp only
    refine comp_storeT (env := envOfC _ _ _ _ _) (news := (L + 1 + 1 + 1 + 1 + 1 + 1, o6) :: (L + 1 + 1 + 1 + 1 + 1, o5) :: (L + 1 + 1 + 1, o3) :: (L + 1 + 1, o2) :: (238, tabObj pt) :: R) F (KStb.news_of N ?_) h8 ?_ F₂ N₂ rfl rfl ?_
    · walk_at "my sub"
    · have hL := l0.1
      iterate 4 refine all_cons (adne (.inr (by (walk_at "om")))) ?_
      exact all_cons (by decide : (238 : Nat) ≠ 78) fun p hp => News.twoPlaces N (q := (78, tabObj #[])) (.tail _ (.tail _ (.tail _ (.tail _ (.tail _ (.tail _ hp)))))) (by simp) ((hR.sq p hp).noT _)
    intro h5 F5 N5
    replace F5 : Fr h₀ L h5 _ := F5
    replace N5 : News h₀ L h5 ((L + 1 + 1 + 1 + 1 + 1 + 1, o6) :: (L + 1 + 1 + 1 + 1 + 1, o5) :: (L + 1 + 1 + 1, o3) :: (L + 1 + 1, o2) :: (78, tabObj ps) :: (238, tabObj pt) :: (D, PySem.W.listOf acc.toArray nn) :: R) := KStb.news_of N5 (by walk_at "my sub")
    rw [hfl, List.take_length] at hacc
    clear F N F₂ N₂ hc5 h8
    walk_at "my steps"
    refine none_in_texts (News.isListX N5 (n := nn) (.tail _ (.tail _ (.tail _ (.tail _ (.tail _ (.tail _ (.head _)))))))) hacc ?_
    walk1
    walk1
    walk1
    walk1
    show wpAny _ _ _ G _ _
    exact wpAny_mono (law6 X T F5 (by show m _ = _; exact hm) (by show m _ = _; exact hmm) rfl N5 d6 d5 d3 d2 (hR.more (fun p hp => .tail _ hp) (by
      intro p hp
      rcases List.mem_cons.mp hp with rfl | hp
      · exact ⟨_, _, rfl⟩
      · exact hR.sq p hp)) (.tail _ hMl) (hMs.more fun p hp => .tail _ hp) hp hs (.head _) hacc l0) (fun v s' h => hG v s' h) fun _ _ e => e
theorem law4 {w : World} {mean : ExcName → Option Value} {mg mb : Str → Option Value} {h₀ h₁ : Heap} {L fa sA liA fA mA : Addr} {s : Shared} {tk : Nat} {m : Str → Option Value} {sv fv mv : List Value} {sn ln fn mn : Nat} {lr : List SpE} {Ns Fs : List (List (List Nat))} {ms : List Mark} {o2 o3 o5 o6 : Obj} {v3 v6 : Option Value} {pt : Array Value} {R : List (Addr × Obj)}
    (X : (Mine.K39.heap_1 w.params).In h₀) (T : TopV mean mg mb h₀) (F : Fr h₀ L h₁ m) (hm : m (Str.ofString "lines") = some (.ref liA)) (hmm : m (Str.ofString "marks") = some (.ref mA))
    (N : News h₀ L h₁ ((L + 1 + 1 + 1 + 1 + 1 + 1, o6) :: (L + 1 + 1 + 1 + 1 + 1, o5) :: (L + 1 + 1 + 1, o3) :: (L + 1 + 1, o2) :: (78, tabObj #[]) :: (238, tabObj pt) :: R))
    (d6 : o6.data = .cell v6) (d5 : o5.data = .cell (some (.ref fA))) (d3 : o3.data = .cell v3) (d2 : o2.data = .cell (some (.ref sA)))
    (hR : Rows Ns Fs sv fv lr sA liA fA sn ln fn R) (hMl : (mA, PySem.W.listOf mv.toArray mn) ∈ R) (hMs : MarksIn R mv ms) (hp : ms.Perm (marksF Fs)) (hs : ms.Pairwise (fun a b => a.1 < b.1)) (l0 : @LT.lt Nat _ 78 L ∧ @LT.lt Nat _ 238 L) :
    wpAny (model PySem.Challenge.pw_rx0087_01 w) (callerA.deeper (lawEnv L fa)) (execs (lawRec.body.drop 10) (lawEnv L fa)) (LawEnd h₀ L s) (fun _ _ => False) { s with heap := h₁, toks := tk } := by
  have eS : lawRec.scope = { kind := _, names := _, isGenerator := _, isCoroutine := _, more := _ } := rfl
  have eN : lawRec.name = Str.ofString "law" := rfl
  unfold lawEnv
  rw [eS, eN]
  show wpAny _ _ (execs (_ :: _) _) _ _ _
  refine wp_gen fun G hG => ?_
  have hml : mv.length = ms.length := hMs.1
  have hm6 : ms.length ≤ 6 := by have h1 := hp.length_eq; have h2 := hR.f3; simp [marksF] at h1; (walk_at "om")
  have hmem : (mA, PySem.W.listOf mv.toArray mn) ∈ (L + 1 + 1 + 1 + 1 + 1 + 1, o6) :: (L + 1 + 1 + 1 + 1 + 1, o5) :: (L + 1 + 1 + 1, o3) :: (L + 1 + 1, o2) :: (78, tabObj #[]) :: (238, tabObj pt) :: R := .tail _ (.tail _ (.tail _ (.tail _ (.tail _ (.tail _ hMl)))))
  replace F : Fr h₀ L h₁ (fun y => if y = Str.ofString "marks" then some (.ref mA) else m y) := by rw [← mapAt hmm]; exact F
  walk_at "my steps"
  walk_at "exec For"
  walk_at "to call"
  refine len_news N hmem (by (walk_at "om")) ?_
  intro t9 tk9
  walk_at "to call"
  walk1
  rename IsRange _ _ _ _ _ _ _ _ => hr
  rename Fr _ _ _ _ => F2
  rename News _ _ _ _ => N2
  have hk : ∀ k : Fin 7, Builtin.Range.small 1 ((k.val : Nat) : Int) 1 = true ∧ Builtin.Range.rangeSize 1 ((k.val : Nat) : Int) 1 = ((k.val - 1 : Nat) : Int) := by decide +kernel
  obtain ⟨hsm, hsz⟩ := hk ⟨mv.length, by (walk_at "om")⟩
  dsimp only at hsm hsz
  replace N2 : News h₀ L _ ((L + 1 + 1 + 1 + 1 + 1 + 1, o6) :: (L + 1 + 1 + 1 + 1 + 1, o5) :: (L + 1 + 1 + 1, o3) :: (L + 1 + 1, o2) :: (78, tabObj #[]) :: (238, tabObj pt) :: R) := KStb.news_of N2 (fun p hp => by first | exact hp | exact .tail _ hp)
  refine for_range (σ := Unit) (n := mv.length - 1) (fun _ => _) (fun _ => []) [Str.ofString "place"] (fun _ _ => True) rfl hr hsm hsz ?hled F2 ⟨(), N2, trivial, trivial⟩ ?turn ?done PassesOwn.never
  case hled =>
    intro _
    exact all_cons (.inl (noF_cell d6)) (all_cons (.inl (noF_cell d5)) (all_cons (.inl (noF_cell d3)) (all_cons (.inl (noF_cell d2)) (all_cons (.inr l0.1) (all_cons (.inr l0.2) fun p hp => .inl (hR.sq p hp).noF)))))
  case turn =>
    rintro i ti ⟨⟩ u h tk own hi _ hoff F3 N3
    dsimp only [kstB] at F3
    obtain ⟨⟨m1, f1, b1⟩, h1⟩ : ∃ x, ms[i]? = some x := ⟨_, List.getElem?_eq_getElem (by (walk_at "om"))⟩
    obtain ⟨⟨m2, f2, b2⟩, h2⟩ : ∃ x, ms[i + 1]? = some x := ⟨_, List.getElem?_eq_getElem (by (walk_at "om"))⟩
    have hlt : m1 < m2 := by
      obtain ⟨a1, e1⟩ := List.getElem?_eq_some_iff.mp h1
      obtain ⟨a2, e2⟩ := List.getElem?_eq_some_iff.mp h2
      have := List.pairwise_iff_getElem.mp hs i (i + 1) a1 a2 (by (walk_at "om"))
      rw [e1, e2] at this
      exact this
    first | refine ex3_2 (hMs.2 _ _ _ _ h1) fun D1 _ _ u1 n1 => ?_ | refine ex2_3 (hMs.2 _ _ _ _ h1) fun D1 _ _ u1 n1 => ?_ | refine ex0_5 (hMs.2 _ _ _ _ h1) fun D1 _ _ u1 n1 => ?_ | obtain ⟨D1, _, _, u1, n1⟩ := hMs.2 _ _ _ _ h1
    first | refine ex3_2 (hMs.2 _ _ _ _ h2) fun D2 _ _ u2 n2 => ?_ | refine ex2_3 (hMs.2 _ _ _ _ h2) fun D2 _ _ u2 n2 => ?_ | refine ex0_5 (hMs.2 _ _ _ _ h2) fun D2 _ _ u2 n2 => ?_ | obtain ⟨D2, _, _, u2, n2⟩ := hMs.2 _ _ _ _ h2
    walk_at "my tidy"
    clear hr
    walk1
    walk1
    refine wp_gen fun G2 hG2 => ?_
    walk_at "my tidy"
    walk_at "my steps"
    rename News _ _ _ _ => N4
    have memR : ∀ p ∈ R, p ∈ ((L + 1 + 1 + 1 + 1 + 1 + 1, o6) :: (L + 1 + 1 + 1 + 1 + 1, o5) :: (L + 1 + 1 + 1, o3) :: (L + 1 + 1, o2) :: (78, tabObj #[]) :: (238, tabObj pt) :: R) ++ own := fun p hp => List.mem_append_left _ (.tail _ (.tail _ (.tail _ (.tail _ (.tail _ (.tail _ hp))))))
    have g1 := (N4 _ (memR _ hMl)).1
    have g2 := (N4 _ (memR _ n1)).1
    have g3 := (N4 _ (memR _ n2)).1
    dsimp only at g1 g2 g3
    rw [show (1 : Int) + (i : Int) - 1 = (i : Int) by (walk_at "om")]
    refine item_heap g1 u1 (by (walk_at "om")) ?_
    walk_at "my steps"
    refine item_tup (i := 0) g2 rfl (by simp) ?_
    walk_at "my steps"
    rw [show (1 : Int) + (i : Int) = ((i + 1 : Nat) : Int) by (walk_at "om")]
    refine item_heap g1 u2 (by (walk_at "om")) ?_
    walk_at "my steps"
    refine item_tup (i := 0) g3 rfl (by simp) ?_
    clear g1 g2 g3
    walk_at "my steps"
    rename Fr _ _ _ _ => F4
    refine Fun.use (strcoll _ _ _ _) F4 N4 X T trivial (by decide) (by decide) ?_
    intro _ h5 tk5 hk5 F5 N5 q9
    first | refine ex1_1 q9 fun t5 e90 => ?_ | refine ex0_2 q9 fun t5 e90 => ?_ | obtain ⟨t5, e90⟩ := q9
    subst e90
    try clear q9
    have hcol : b2i (decide (lt01 (sOf m2) (sOf m1))) - b2i (decide (lt01 (sOf m1) (sOf m2))) = -1 := by
      have e1 : ¬ lt01 (sOf m2) (sOf m1) := fun h => List.lt_asymm hlt (show m2 < m1 from h)
      have e2 : lt01 (sOf m1) (sOf m2) := hlt
      simp [e1, e2, b2i]
    rw [hcol]
    clear F4 N4 hk5
    walk_at "my steps"
    refine hG2 _ _ (fnext () F5 N5 (fun p hp => List.mem_append_left _ hp) (fun p hp => List.mem_append_right _ hp) trivial ?_ trivial)
    intro z _ hz; try dsimp only
    have hz0 := hz
    simp only [List.contains_cons, List.contains_nil, Bool.or_false, beq_eq_false_iff_ne, ne_eq] at hz
    rw [if_neg hz, if_neg (by rw [hz0]; decide)]
  case done =>
    rintro ⟨⟩ u h tk _ F3 N3
    exact wpAny_mono (law5 X T F3 (by show m _ = _; exact hm) rfl N3 d6 d5 d3 d2 hR hMl hMs hp hs l0) (fun v s' h => hG v s' h) fun _ _ e => e
theorem law3 {w : World} {mean : ExcName → Option Value} {mg mb : Str → Option Value} {h₀ h₁ : Heap} {L fa sA liA fA : Addr} {s : Shared} {tk : Nat} {m : Str → Option Value} {sv fv : List Value} {sn ln fn : Nat} {lr : List SpE} {Ns Fs : List (List (List Nat))} {o2 o3 o5 o6 : Obj} {v3 v6 : Option Value} {R : List (Addr × Obj)}
    (X : (Mine.K39.heap_1 w.params).In h₀) (T : TopV mean mg mb h₀) (F : Fr h₀ L h₁ m) (hm : m (Str.ofString "lines") = some (.ref liA))
    (N : News h₀ L h₁ ((L + 1 + 1 + 1 + 1 + 1 + 1, o6) :: (L + 1 + 1 + 1 + 1 + 1, o5) :: (L + 1 + 1 + 1, o3) :: (L + 1 + 1, o2) :: (78, tabObj #[]) :: (238, tabObj #[]) :: R))
    (d6 : o6.data = .cell v6) (d5 : o5.data = .cell (some (.ref fA))) (d3 : o3.data = .cell v3) (d2 : o2.data = .cell (some (.ref sA)))
    (hR : Rows Ns Fs sv fv lr sA liA fA sn ln fn R) (l0 : @LT.lt Nat _ 78 L ∧ @LT.lt Nat _ 238 L) :
    wpAny (model PySem.Challenge.pw_rx0087_01 w) (callerA.deeper (lawEnv L fa)) (execs (lawRec.body.drop 7) (lawEnv L fa)) (LawEnd h₀ L s) (fun _ _ => False) { s with heap := h₁, toks := tk } := by
  have eS : lawRec.scope = { kind := _, names := _, isGenerator := _, isCoroutine := _, more := _ } := rfl
  have eN : lawRec.name = Str.ofString "law" := rfl
  unfold lawEnv
  rw [eS, eN]
  show wpAny _ _ (execs (_ :: _) _) _ _ _
  refine wp_gen fun G hG => ?_
  have hc5 := cell_of N (.tail _ (.head _)) d5
  walk_at "my steps"
  refine assign_comp (cl := []) (by rfl) ⟨by rfl, by decide, rfl, by decide⟩ (by decide) ?_
  walk1
  have hmf : (fA, PySem.W.listOf fv.toArray fn) ∈ (L + 1 + 1 + 1 + 1 + 1 + 1, o6) :: (L + 1 + 1 + 1 + 1 + 1, o5) :: (L + 1 + 1 + 1, o3) :: (L + 1 + 1, o2) :: (78, tabObj #[]) :: (238, tabObj #[]) :: R := .tail _ (.tail _ (.tail _ (.tail _ (.tail _ (.tail _ hR.mf)))))
  refine marks_comp (fa := fa) (Fs := Fs) (b := true) (cc := 47) X T F (N _ hmf).1 hR.fo hR.fk hR.f3 rfl ?_
  intro h₂ D1 C1 c1 m1 h1 tk1 nn1 hc1 F₂ N₂
  dsimp only
  refine comp_store (env := envOfC _ _ _ _ _) F N F₂ N₂ rfl rfl ?_
  intro h3 F3 N3
  clear F₂ N₂ hc5
  replace F3 : Fr h₀ L h3 _ := F3
  replace N3 : News h₀ L h3 ((L + 1 + 1 + 1 + 1 + 1 + 1, o6) :: (L + 1 + 1 + 1 + 1 + 1, o5) :: (L + 1 + 1 + 1, o3) :: (L + 1 + 1, o2) :: (78, tabObj #[]) :: (238, tabObj #[]) :: (D1, PySem.W.listOf (c1.map fun p => Value.ref p.1).toArray nn1) :: (c1 ++ R)) := KStb.news_of N3 (by walk_at "my sub")
  clear N F
  walk_at "my steps"
  refine eval_comp (cl := []) ⟨by rfl, by decide, rfl, by decide⟩ (by decide) ?_
  have hc5 := cell_of N3 (.tail _ (.head _)) d5
  walk1
  refine marks_comp (fa := fa) (Fs := Fs) (b := false) (cc := 48) X T F3 (N3 _ (.tail _ (.tail _ (.tail _ (.tail _ (.tail _ (.tail _ (.tail _ (List.mem_append_right _ hR.mf))))))))).1 hR.fo hR.fk hR.f3 rfl ?_
  intro h₂ D2 C2 c2 m2 h4 tk2 nn2 hc2 F₂ N₂ h5 hs5
  first | refine ex1_1 (comp_value F3 N3 F₂ N₂ hs5) fun F5 N5 => ?_ | refine ex0_2 (comp_value F3 N3 F₂ N₂ hs5) fun F5 N5 => ?_ | obtain ⟨F5, N5⟩ := comp_value F3 N3 F₂ N₂ hs5
  clear F₂ N₂ hc5 F3 N3 hs5
  have hl1 : c1.length = Fs.length := hc1.1
  have hl2 : c2.length = Fs.length := hc2.1
  have hf3 := hR.f3
  refine kmk_add_lit F5 N5 (News.isListX N5 (a := D1) (its := (c1.map fun p => Value.ref p.1).toArray) (n := nn1) (by simp)) (News.isListX N5 (a := D2) (its := (c2.map fun p => Value.ref p.1).toArray) (n := nn2) (by simp)) rfl ?_ (by simp; rw [sizeLine_eq]; (walk_at "om"))
  intro D3 h6 F6 N6 l6
  replace N6 : News h₀ L h6 ((L + 1 + 1 + 1 + 1 + 1 + 1, o6) :: (L + 1 + 1 + 1 + 1 + 1, o5) :: (L + 1 + 1 + 1, o3) :: (L + 1 + 1, o2) :: (78, tabObj #[]) :: (238, tabObj #[]) :: (D3, PySem.W.listOf ((c1 ++ c2).map fun p => Value.ref p.1).toArray 0) :: (c1 ++ c2 ++ R)) := KStb.news_of N6 (by
    intro p hp
    simp only [List.cons_append, List.mem_cons, List.mem_append, List.map_append] at hp ⊢
    rcases hp with h | h | h | h | h | h | h | (h | h) | h <;> simp [h])
  clear N5 F5 l6
  walk_at "my steps"
  rename Fr _ _ _ _ => F7
  rename News _ _ _ _ => N7
  have hsq : ∀ p ∈ (D3, PySem.W.listOf ((c1 ++ c2).map fun p => Value.ref p.1).toArray 0) :: (c1 ++ c2 ++ R), isSeq p.2 := all_cons ⟨_, _, rfl⟩ (all_app (all_app (fun p h => hc1.seq p h) (fun p h => hc2.seq p h)) (fun p h => hR.sq p h))
  have hL := l0.2
  have h238 : ∀ p ∈ (D3, PySem.W.listOf ((c1 ++ c2).map fun p => Value.ref p.1).toArray 0) :: (c1 ++ c2 ++ R), p.1 ≠ 238 := fun p hp => News.twoPlaces N7 (q := (238, tabObj #[])) (.tail _ (.tail _ (.tail _ (.tail _ (.tail _ (.tail _ hp)))))) (by simp) ((hsq p hp).noT _)
  refine kla_eval rfl ?_
  refine kla_nest (cn := Str.ofString "law") (ccd := .ref 240) (P := 238) (c := 240) (ps := #[]) (clos := []) F7 N7 T (codeHd_of_K X (by kernel_rfl)) rfl (.tail (adne (.inr (by (walk_at "om")))) (.tail (adne (.inr (by (walk_at "om")))) (.tail (adne (.inr (by (walk_at "om")))) (.tail (adne (.inr (by (walk_at "om")))) (.tail (by decide) (.head h238)))))) trivial rfl rfl ?_
  intro q c' oc vs' tq ctv h8 tk8 F8 N8 hoc hvs l8 l9
  dsimp only at N8
  generalize (#[] : Array Value) ++ _ = pt at N8
  clear F7 N7 h238
  walk_at "my steps"
  have hM := marks_in (R := R) hc1 hc2
  show wpAny _ _ (call (.builtin "sorted") [.ref D3] [(Str.ofString "key", .ref q)]) _ _ _
  refine sorted_texts (kz := (marksF Fs).map (·.1)) (vs := (c1 ++ c2).map fun p => Value.ref p.1) F8 N8 (News.isListX N8 (n := 0) (by simp)) (by simp [marksF, hl1, hl2]) ?two (by simp; (walk_at "om")) (List.pairwise_map.mpr (marks_keys (fun f hf => (hR.fk f hf).1) hR.fd)) ?turn ?done
  case two =>
    by_cases e : Fs.length = 0
    · exact .inl (List.eq_nil_of_length_eq_zero (by rw [List.length_map, List.length_append]; (walk_at "om")))
    · exact .inr (by rw [List.length_map, List.length_append]; (walk_at "om"))
  case turn =>
    intro i v k hv hk h tk Q' E' Fh Nh ret
    rw [List.getElem?_map, Option.map_eq_some_iff] at hk
    obtain ⟨⟨mk, fo, op⟩, hmi, rfl⟩ := hk
    first | refine ex3_2 (hM.2 i mk fo op hmi) fun D t1 t2 hv' hD => ?_ | refine ex2_3 (hM.2 i mk fo op hmi) fun D t1 t2 hv' hD => ?_ | refine ex0_5 (hM.2 i mk fo op hmi) fun D t1 t2 hv' hD => ?_ | obtain ⟨D, t1, t2, hv', hD⟩ := hM.2 i mk fo op hmi
    rw [hv] at hv'
    obtain rfl := Option.some.inj hv'
    exact key_call (x := mk) (X.keeps Fh.keep) (T.keeps Fh.keep) (Nh _ (.head _)).1 (codeRec_news Nh (.tail _ (.head _)) hoc hvs) (Nh _ (.tail _ (.tail _ (.tail _ (.tail _ (.tail _ (.tail _ (.tail _ (.tail _ (.tail _ hD))))))))) ).1 (Nat.le_of_ble_eq_true rfl) (Nat.le_of_ble_eq_true rfl) ret
  case done =>
    intro D5 h9 tk9 out n5 F9 N9 ho
    first | refine ex2_2 (sorted_marks (fun f hf => (hR.fk f hf).1) hR.fd hM ho) fun ms hp hMs hs => ?_ | refine ex1_3 (sorted_marks (fun f hf => (hR.fk f hf).1) hR.fd hM ho) fun ms hp hMs hs => ?_ | obtain ⟨ms, hp, hMs, hs⟩ := sorted_marks (fun f hf => (hR.fk f hf).1) hR.fd hM ho
    replace N9 : News h₀ L h9 ((L + 1 + 1 + 1 + 1 + 1 + 1, o6) :: (L + 1 + 1 + 1 + 1 + 1, o5) :: (L + 1 + 1 + 1, o3) :: (L + 1 + 1, o2) :: (78, tabObj #[]) :: (238, tabObj pt) :: ((D5, PySem.W.listOf (List.toArray out) n5) :: (c1 ++ c2 ++ R))) := KStb.news_of N9 (by walk_at "my sub")
    clear F8 N8 hsq hM
    walk1
    rename Fr _ _ _ _ => F10
    rename News _ _ _ _ => N10
    exact wpAny_mono (law4 X T F10 (by show m _ = _; exact hm) rfl N10 d6 d5 d3 d2 (hR.more (fun p hp => .tail _ (List.mem_append_right _ hp)) (all_cons ⟨_, _, rfl⟩ (all_app (all_app (fun p h => hc1.seq p h) (fun p h => hc2.seq p h)) (fun p h => hR.sq p h)))) (.head _) (hMs.more fun p hp => .tail _ hp) hp hs l0) (fun v s' h => hG v s' h) fun _ _ e => e
theorem law2 {w : World} {mean : ExcName → Option Value} {mg mb : Str → Option Value} {h₀ h₁ : Heap} {L fa sA liA : Addr} {s : Shared} {tk : Nat} {m : Str → Option Value} {sv : List Value} {sn ln : Nat} {lr : List SpE} {Ns : List (List (List Nat))} {o1 o2 o3 o4 o5 o6 : Obj} {v3 v4 v5 v6 : Option Value}
    (X : (Mine.K39.heap_1 w.params).In h₀) (T : TopV mean mg mb h₀) (F : Fr h₀ L h₁ m) (hm : m (Str.ofString "lines") = some (.ref liA))
    (N : News h₀ L h₁ ((sA, PySem.W.listOf sv.toArray sn) :: (liA, PySem.W.listOf (spAcc lr).toArray ln) :: (L + 1 + 1 + 1 + 1 + 1 + 1, o6) :: (L + 1 + 1 + 1 + 1 + 1, o5) :: (L + 1 + 1 + 1 + 1, o4) :: (L + 1 + 1 + 1, o3) :: (L + 1 + 1, o2) :: (L + 1, o1) :: (78, tabObj #[]) :: (238, tabObj #[]) :: spLed lr))
    (d6 : o6.data = .cell v6) (d5 : o5.data = .cell v5) (d4 : o4.data = .cell v4) (d3 : o3.data = .cell v3) (d2 : o2.data = .cell (some (.ref sA)))
    (hNs : Ns.length = 5) (hsp : SAre sv (Ns.map spotL)) (hlr : lr.length = 5) (hli : ∀ (j : Nat) (e : SpE), lr[j]? = some e → ∃ N, Ns[j]? = some N ∧ SAre e.2.1 ((pres N).map spotL)) (hok : ∀ N ∈ Ns, okR N)
    (hsl : sA ≠ liA) (hoff : ∀ e ∈ lr, e.1 ≠ sA ∧ e.1 ≠ liA ∧ e.1 ≠ L + 1 + 1 + 1 ∧ e.1 ≠ L + 1 + 1 + 1 + 1) (hcs : @LT.lt Nat _ (L + 1 + 1 + 1 + 1 + 1 + 1) sA) (hcl : @LT.lt Nat _ (L + 1 + 1 + 1 + 1 + 1 + 1) liA) (l0 : @LT.lt Nat _ 78 L ∧ @LT.lt Nat _ 238 L) :
    wpAny (model PySem.Challenge.pw_rx0087_01 w) (callerA.deeper (lawEnv L fa)) (execs (lawRec.body.drop 5) (lawEnv L fa)) (LawEnd h₀ L s) (fun _ _ => False) { s with heap := h₁, toks := tk } := by
  have eS : lawRec.scope = { kind := _, names := _, isGenerator := _, isCoroutine := _, more := _ } := rfl
  have eN : lawRec.name = Str.ofString "law" := rfl
  unfold lawEnv
  rw [eS, eN]
  show wpAny _ _ (execs (_ :: _) _) _ _ _
  walk_at "my steps"
  walk_at "my tidy"
  rename_i fA h5 l1 kF kN
  have hAll : ∀ p ∈ (sA, PySem.W.listOf sv.toArray sn) :: (liA, PySem.W.listOf (spAcc lr).toArray ln) :: (L + 1 + 1 + 1 + 1 + 1 + 1, o6) :: (L + 1 + 1 + 1, o3) :: (L + 1 + 1, o2) :: (78, tabObj #[]) :: (238, tabObj #[]) :: spLed lr, @LT.lt Nat _ p.1 fA := by
    obtain ⟨q1, q2, q3, q4, q5, q6, q7, q8, q9, q10, q11⟩ := l1
    refine all_cons (q1) ?_
    refine all_cons (q2) ?_
    refine all_cons (q3) ?_
    refine all_cons (q6) ?_
    refine all_cons (q7) ?_
    refine all_cons (q9) ?_
    refine all_cons (q10) ?_
    exact fun p hp => ktn_ltOf q11 p hp
  have hfl : @LT.lt Nat _ sA fA ∧ @LT.lt Nat _ liA fA ∧ @LT.lt Nat _ L fA ∧ @LT.lt Nat _ 78 fA := ⟨l1.1, l1.2.1, by have := l1.2.2.1; (walk_at "om"), by have := l1.2.2.1; (walk_at "om")⟩
  refine setcell (o := o5) kF kN (by k_mem) d5 rfl rfl rfl ?_
  intro h5' o5' F5 hs5 hc5 d5'
  have N5 := News.setc (rest := (fA, PySem.W.listOf #[] 0) :: (sA, PySem.W.listOf sv.toArray sn) :: (liA, PySem.W.listOf (spAcc lr).toArray ln) :: (L + 1 + 1 + 1 + 1 + 1 + 1, o6) :: (L + 1 + 1 + 1, o3) :: (L + 1 + 1, o2) :: (78, tabObj #[]) :: (238, tabObj #[]) :: spLed lr) kN (by k_mem) d5 hs5 hc5 (by
    iterate 3 refine all_cons ⟨by k_mem, .inr noC_list⟩ ?_
    refine all_cons ⟨by k_mem, .inl (ne_add (by decide : 6 ≠ 5))⟩ ?_
    refine all_cons ⟨by k_mem, .inl (ne_add (by decide : 3 ≠ 5))⟩ ?_
    refine all_cons ⟨by k_mem, .inl (ne_add (by decide : 2 ≠ 5))⟩ ?_
    iterate 2 refine all_cons ⟨by k_mem, .inr noC_tab⟩ ?_
    exact fun p hp => ⟨by (repeat (first | exact hp | refine List.mem_cons_of_mem _ ?_)), .inr (all_sp (P := fun p => ∀ v, p.2.data ≠ .cell v) (fun e he => noC_list) p hp)⟩)
  clear kF kN l1 hs5 hc5
  walk_at "my steps"
  walk_at "exec For"
  walk1
  walk1
  walk1
  walk1
  walk1
  walk1
  walk1
  walk_at "my tidy"
  rename Fr _ _ _ _ => kF
  rename News _ _ _ _ => kN
  have hs5 : sv.length = 5 := by have := StrsAre.length hsp; rw [List.length_map, List.length_map, hNs] at this; exact this
  refine' slice_list3 (s := ⟨_, _, _, _, _⟩) kF kN (News.isListX kN (a := sA) (its := sv.toArray) (n := sn) (by k_mem)) IsPart.none (IsPart.int 3 _) IsPart.none (by decide) ?hnext ?hsub ?hlet ?hsz
  case hsub => with_unfolding_all rfl
  case hlet => (intro _; with_unfolding_all rfl)
  case hsz => (rw [sizeLine_eq, List.size_toArray, hs5]; (walk_at "om"))
  intro h6 F6 N6
  rw [show slicePick sv.toArray none (some 3) none = (sv.take 3).toArray from kmk_pick_nat (a := 0) (b := 3) _ (by rw [List.size_toArray, hs5]; rfl)] at N6
  have hspl3 : SAre (sv.take 3) ((Ns.take 3).map spotL) := by
    have := StrsAre.take' hsp 3
    rwa [← List.map_take, ← List.map_take] at this
  have hfD : @LT.lt Nat _ fA _ := Heap.lt_size (kN (fA, PySem.W.listOf #[] 0) (by k_mem)).1
  have hfD2 : @LT.lt Nat _ fA (h5'.objs.size + 1) := Nat.lt_succ_of_lt hfD
  generalize hD : h5'.objs.size + 1 = D at N6 hfD2
  have hrf : ∀ p ∈ (sA, PySem.W.listOf sv.toArray sn) :: (liA, PySem.W.listOf (spAcc lr).toArray ln) :: (L + 1 + 1 + 1 + 1 + 1 + 1, o6) :: (L + 1 + 1 + 1, o3) :: (L + 1 + 1, o2) :: (78, tabObj #[]) :: (238, tabObj #[]) :: spLed lr, noF p.2 = true ∨ @LT.lt Nat _ p.1 L := by
    exact all_cons (.inl rfl) (all_cons (.inl rfl) (all_cons (.inl (noF_cell d6)) (all_cons (.inl (noF_cell d3)) (all_cons (.inl (noF_cell d2)) (all_cons (.inr l0.1) (all_cons (.inr l0.2) (all_sp fun e he => .inl rfl)))))))
  have N7 : News h₀ L h6 ((fA, PySem.W.listOf ([] : List Value).toArray 0) :: (L + 1 + 1 + 1 + 1 + 1, o5') :: (D, PySem.W.listOf (sv.take 3).toArray 0) :: (sA, PySem.W.listOf sv.toArray sn) :: (liA, PySem.W.listOf (spAcc lr).toArray ln) :: (L + 1 + 1 + 1 + 1 + 1 + 1, o6) :: (L + 1 + 1 + 1, o3) :: (L + 1 + 1, o2) :: (78, tabObj #[]) :: (238, tabObj #[]) :: spLed lr) := KStb.news_of N6 (by walk_at "my sub")
  generalize hrest : (sA, PySem.W.listOf sv.toArray sn) :: (liA, PySem.W.listOf (spAcc lr).toArray ln) :: (L + 1 + 1 + 1 + 1 + 1 + 1, o6) :: (L + 1 + 1 + 1, o3) :: (L + 1 + 1, o2) :: (78, tabObj #[]) :: (238, tabObj #[]) :: spLed lr = restF at hAll hrf N7
  clear N6 kN kF
  have hlt3 : (sv.take 3).length = 3 := by simp [hs5]
  refine for_list2 (σ := List Value × Nat) (l := D) (items := (sv.take 3).toArray) (ol := PySem.W.listOf (sv.take 3).toArray 0) (fun c => (fA, PySem.W.listOf c.1.toArray c.2) :: (L + 1 + 1 + 1 + 1 + 1, o5') :: (D, PySem.W.listOf (sv.take 3).toArray 0) :: restF) (fun _ => []) [Str.ofString "spot"] (fun i c => ∃ Fs : List (List (List Nat)), SAre c.1 (Fs.map spotL) ∧ Fs.Nodup ∧ (∀ f ∈ Fs, f ∈ Ns) ∧ Fs.length ≤ i) rfl rfl ⟨_, rfl⟩ (fun c h m F N => (N _ (.tail _ (.tail _ (.head _)))).1) ?hlL ?hled F6 ⟨([], 0), N7, trivial, ?hP0⟩ ?hturn ?hdone PassesOwn.never
  case hP0 => exact ⟨[], StrsAre.nil, .nil, (fun _ h => nomatch h), Nat.le_refl _⟩
  case hlL => exact adne (.inl (Nat.lt_trans hfl.2.2.1 hfD2))
  case hled =>
    intro c
    refine all_cons (.inl rfl) ?_
    refine all_cons (.inl (noF_cell d5')) ?_
    refine all_cons (.inl rfl) ?_
    exact fun p hp => hrf p hp
  case hturn =>
    rintro i v ⟨fv, fn⟩ u h tk own hv ⟨Fs, hFs, hFn, hFm, hFl⟩ hoffo F8 N8
    dsimp only [kstB] at F8 N8 hoffo hFs
    have hx : (sv.take 3)[i]? = some v := by simpa using hv
    first | refine ex2_2 (StrsAre.item hspl3 i v hx) fun yy th e90 hy => ?_ | refine ex1_3 (StrsAre.item hspl3 i v hx) fun yy th e90 hy => ?_ | obtain ⟨yy, th, e90, hy⟩ := StrsAre.item hspl3 i v hx
    subst e90
    rw [List.map_map, List.getElem?_map, Option.map_eq_some_iff] at hy
    first | refine ex2_1 hy fun N hN e90 => ?_ | refine ex1_2 hy fun N hN e90 => ?_ | refine ex0_3 hy fun N hN e90 => ?_ | obtain ⟨N, hN, e90⟩ := hy
    subst e90
    try clear hy
    have hNm : N ∈ Ns := List.mem_of_mem_take (List.mem_of_getElem? hN)
    dsimp only [Function.comp_apply]
    simp only [List.cons_append] at N8
    have hi3 : i < 3 := by have := (List.getElem?_eq_some_iff.mp hx).1; (walk_at "om")
    have hoffA : ∀ p ∈ own, p.1 ≠ fA := fun p hp => hoffo p hp _ (by simp)
    walk_at "my steps"
    · rename Fr _ _ _ _ => F9
      rename News _ _ _ _ => N9
      rename _ = true => ha
      rw [any_texts, decide_eq_true_eq] at ha
      refine fnext (fv, fn) F9 N9 ?_ ?_ trivial ?_ ⟨Fs, hFs, hFn, hFm, by (walk_at "om")⟩
      · walk_at "my sub"
      · walk_at "my sub"
      · intro z _ hz; try dsimp only
        have hz0 := hz
        simp only [List.contains_cons, List.contains_nil, Bool.or_false, beq_eq_false_iff_ne, ne_eq] at hz
        rw [if_neg hz, if_neg (by rw [hz0]; decide)]
    · walk_at "my tidy"
      rename Fr _ _ _ _ => F9
      rename News _ _ _ _ => N9
      rename _ = false => ha
      rw [any_texts, decide_eq_false_iff_not] at ha
      refine app_own F9 N9 ?hof (by have := StrsAre.length hFs; simp at this; (walk_at "om")) ?_
      case hof =>
        refine all_cons (adne (.inl (by have := hfl.1; (walk_at "om")))) ?_
        refine all_cons (adne (.inr hfD2)) ?_
        exact all_app (fun p hp => adne (.inl (hAll p hp))) (fun p hp => hoffA p hp)
      intro h9 F10 N10
      clear F9 N9
      walk_at "my steps"
      refine fnext (fv ++ [Value.str (sOf (spotL N)) th], fn + 1) F10 N10 ?_ ?_ trivial ?_ (Exists.intro (p := fun Fs : List (List (List Nat)) => SAre (fv ++ [Value.str (sOf (spotL N)) th]) (Fs.map spotL) ∧ Fs.Nodup ∧ (∀ f ∈ Fs, f ∈ Ns) ∧ Fs.length ≤ i + 1) (Fs ++ [N]) ⟨?_, ?_, ?_, by rw [List.length_append, List.length_singleton]; (walk_at "om")⟩)
      · walk_at "my sub"
      · walk_at "my sub"
      · intro z _ hz; try dsimp only
        have hz0 := hz
        simp only [List.contains_cons, List.contains_nil, Bool.or_false, beq_eq_false_iff_ne, ne_eq] at hz
        rw [if_neg hz, if_neg (by rw [hz0]; decide)]
      · rw [List.map_append]
        exact sare_snoc hFs
      · rw [List.nodup_append]
        refine ⟨hFn, by simp, ?_⟩
        intro a ha1 b hb e
        rw [List.mem_singleton.mp hb] at e
        subst e
        exact ha (List.mem_map_of_mem ha1)
      · intro f hf
        rcases List.mem_append.mp hf with hf | hf
        · exact hFm f hf
        · rw [List.mem_singleton.mp hf]; exact hNm
  case hdone =>
    rintro ⟨fv, fn⟩ u h tk ⟨Fs, hFs, hFn, hFm, hFl⟩ F8 N8
    dsimp only [kstB] at F8 N8 hFs
    subst hrest
    dsimp only
    have hRw : Rows Ns Fs sv fv lr sA liA fA sn ln fn ((sA, PySem.W.listOf sv.toArray sn) :: (liA, PySem.W.listOf (spAcc lr).toArray ln) :: (fA, PySem.W.listOf fv.toArray fn) :: spLed lr) :=
      { n5 := hNs, sp := hsp, l5 := hlr
        li := fun j e he => let ⟨N, a, b⟩ := hli j e he; ⟨N, a, b, .tail _ (.tail _ (.tail _ (List.mem_map.mpr ⟨e, List.mem_of_getElem? he, rfl⟩)))⟩
        ok := hok, fo := hFs, fd := hFn, fk := fun f hf => hok f (hFm f hf), f3 := by simpa [hs5] using hFl
        sq := all_cons ⟨_, _, rfl⟩ (all_cons ⟨_, _, rfl⟩ (all_cons ⟨_, _, rfl⟩ (all_sp fun e he => ⟨_, _, rfl⟩)))
        ms := .head _, ml := .tail _ (.head _), mf := .tail _ (.tail _ (.head _)) }
    exact law3 X T F8 (by show m _ = _; exact hm) (KStb.news_of N8 (by walk_at "my sub")) d6 d5' d3 d2 hRw l0
theorem L1S.ind {P : L1S → Prop} (h : ∀ p3 w3 p4 w4 sv sn lr ln Ns, P (p3, w3, p4, w4, (sv, sn), (lr, ln), Ns)) : ∀ c, P c := fun c => h c.1 c.2.1 c.2.2.1 c.2.2.2.1 c.2.2.2.2.1.1 c.2.2.2.2.1.2 c.2.2.2.2.2.1.1 c.2.2.2.2.2.1.2 c.2.2.2.2.2.2
theorem inv1_step {L sA liA D : Addr} {i : Nat} {p3 p4 q3 q4 : Obj} {w3 w4 x3 x4 : Option Value} {sv us : List Value} {sn ln n1 n2 nu : Nat} {lr : List SpE} {Ns : List (List (List Nat))} {N : List (List Nat)} {t : Tok}
    (hI : inv1 L sA liA i (p3, w3, p4, w4, (sv, sn), (lr, ln), Ns)) (hokN : okR N) (hus : SAre us ((pres N).map spotL)) (f2 : D ≠ sA) (f3 : D ≠ liA) (f4 : D ≠ L + 1 + 1 + 1) (f5 : D ≠ L + 1 + 1 + 1 + 1) :
    inv1 L sA liA (i + 1) (q3, x3, q4, x4, (sv ++ [Value.str (sOf (spotL N)) t], n1), (lr ++ [(D, us, nu)], n2), Ns ++ [N]) := by
  first | refine ex3_3 hI fun i1 i2 i3 i4 i5 i6 => ?_ | refine ex1_5 hI fun i1 i2 i3 i4 i5 i6 => ?_ | refine ex0_6 hI fun i1 i2 i3 i4 i5 i6 => ?_ | obtain ⟨i1, i2, i3, i4, i5, i6⟩ := hI
  try clear hI
  dsimp only at i1 i2 i3 i4 i5 i6
  refine ⟨by simp [i1], ?_, by simp [i3], ?_, ?_, ?_⟩
  · show SAre (sv ++ [_]) ((Ns ++ [N]).map spotL)
    rw [List.map_append]
    exact sare_snoc i2
  · intro j e he
    dsimp only at he ⊢
    rcases Nat.lt_or_ge j lr.length with hj | hj
    · rw [List.getElem?_append_left hj] at he
      first | refine ex2_1 (i4 j e he) fun N0 h0 h1 => ?_ | refine ex1_2 (i4 j e he) fun N0 h0 h1 => ?_ | refine ex0_3 (i4 j e he) fun N0 h0 h1 => ?_ | obtain ⟨N0, h0, h1⟩ := i4 j e he
      exact ⟨N0, by rw [List.getElem?_append_left (by (walk_at "om"))]; exact h0, h1⟩
    · rw [List.getElem?_append_right hj] at he
      have hjl : j = lr.length := by
        rcases Nat.eq_or_lt_of_le hj with h | h
        · exact h.symm
        · rw [List.getElem?_eq_none (by simp; (walk_at "om"))] at he; cases he
      subst hjl
      simp at he
      subst he
      exact ⟨N, by rw [List.getElem?_append_right (by (walk_at "om"))]; simp [i1, i3], hus⟩
  · intro N0 h0
    rcases List.mem_append.mp h0 with h0 | h0
    · exact i5 N0 h0
    · rw [List.mem_singleton.mp h0]; exact hokN
  · intro e he
    rcases List.mem_append.mp he with he | he
    · exact i6 e he
    · rw [List.mem_singleton.mp he]; exact ⟨f2, f3, f4, f5⟩
theorem spLed_snoc {lr : List SpE} {e : SpE} : spLed (lr ++ [e]) = spLed lr ++ [(e.1, PySem.W.listOf e.2.1.toArray e.2.2)] := by simp [spLed]
theorem spAcc_snoc {lr : List SpE} {e : SpE} : spAcc (lr ++ [e]) = spAcc lr ++ [.ref e.1] := by simp [spAcc]
theorem loop1 {w : World} {mean : ExcName → Option Value} {mg mb : Str → Option Value} {h₀ h₁ : Heap} {L fa : Addr} {s : Shared} {tk00 : Nat} {l : Addr} {vs : List Value} {ns : List Int} {o1 o2 o3 o4 o5 o6 : Obj} {v1 v2 v3 v4 v5 v6 : Option Value}
    (X : (Mine.K39.heap_1 w.params).In h₀) (T : TopV mean mg mb h₀) (F : Fr h₀ L h₁ (bindL (lawEnv L fa).kindOf [(Str.ofString "script", .ref l)] fun _ => none))
    (N : News h₀ L h₁ [(L + 1 + 1 + 1 + 1 + 1 + 1, o6), (L + 1 + 1 + 1 + 1 + 1, o5), (L + 1 + 1 + 1 + 1, o4), (L + 1 + 1 + 1, o3), (L + 1 + 1, o2), (L + 1, o1), (78, tabObj #[]), (238, tabObj #[])])
    (d6 : o6.data = .cell v6) (d5 : o5.data = .cell v5) (d4 : o4.data = .cell v4) (d3 : o3.data = .cell v3) (d2 : o2.data = .cell v2) (d1 : o1.data = .cell v1)
    (hl : h₀.IsList l vs.toArray) (hI : IntsAre vs ns) (hlen : ns.length ≤ 63) (l0 : @LT.lt Nat _ 78 L ∧ @LT.lt Nat _ 238 L) :
    wpAny (model PySem.Challenge.pw_rx0087_01 w) (callerA.deeper (lawEnv L fa)) (execs lawRec.body (lawEnv L fa)) (LawEnd h₀ L s) (fun _ _ => False) { s with heap := h₁, toks := tk00 } := by
  have eS : lawRec.scope = { kind := _, names := _, isGenerator := _, isCoroutine := _, more := _ } := rfl
  have eN : lawRec.name = Str.ofString "law" := rfl
  unfold lawEnv at F ⊢
  rw [eS, eN] at F ⊢
  show wpAny _ _ (execs (_ :: _) _) _ _ _
  walk_at "my steps"
  rename Fr _ _ _ _ => F1
  rename News _ _ _ _ => N1
  walk_at "exec For"
  walk1
  walk1
  walk1
  walk1
  walk1
  walk1
  walk1
  rename IsRange _ _ _ _ _ _ _ _ => hr
  rename Fr _ _ _ _ => F2
  rename News _ _ _ _ => N2
  rename_i tA h8 lt3 h7 o1' dT hA h6 lt2 h5 sA h4 lt1 h3 o2' dS liA h2' lt0 h1' F' N' hh tk0 t1 u1 vv1 ka
  clear F' N' ka
  have htv : SAre [Value.str (sOf [97]) tk00, Value.str (sOf [42]) (tk00 + 1), Value.str (sOf [46, 46]) (tk00 + 1 + 1), Value.str (sOf [97, 45]) (tk00 + 1 + 1 + 1), Value.str (sOf [97, 48]) (tk00 + 1 + 1 + 1 + 1), Value.str (sOf [46]) (tk00 + 1 + 1 + 1 + 1 + 1), Value.str (sOf [91]) (tk00 + 1 + 1 + 1 + 1 + 1 + 1), Value.str (sOf []) (tk00 + 1 + 1 + 1 + 1 + 1 + 1 + 1)] tableL := .cons _ _ (.cons _ _ (.cons _ _ (.cons _ _ (.cons _ _ (.cons _ _ (.cons _ _ (.cons _ _ .nil)))))))
  have hhv : SAre [Value.str (sOf [97]) (tk00 + 1 + 1 + 1 + 1 + 1 + 1 + 1 + 1), Value.str (sOf [97, 47, 42]) (tk00 + 1 + 1 + 1 + 1 + 1 + 1 + 1 + 1 + 1), Value.str (sOf []) (tk00 + 1 + 1 + 1 + 1 + 1 + 1 + 1 + 1 + 1 + 1), Value.str (sOf [97, 47, 42, 47, 97]) (tk00 + 1 + 1 + 1 + 1 + 1 + 1 + 1 + 1 + 1 + 1 + 1), Value.str (sOf [97, 45, 47, 91]) (tk00 + 1 + 1 + 1 + 1 + 1 + 1 + 1 + 1 + 1 + 1 + 1 + 1)] headsL := .cons _ _ (.cons _ _ (.cons _ _ (.cons _ _ (.cons _ _ .nil))))
  generalize [Value.str (sOf [97]) tk00, Value.str (sOf [42]) (tk00 + 1), Value.str (sOf [46, 46]) (tk00 + 1 + 1), Value.str (sOf [97, 45]) (tk00 + 1 + 1 + 1), Value.str (sOf [97, 48]) (tk00 + 1 + 1 + 1 + 1), Value.str (sOf [46]) (tk00 + 1 + 1 + 1 + 1 + 1), Value.str (sOf [91]) (tk00 + 1 + 1 + 1 + 1 + 1 + 1), Value.str (sOf []) (tk00 + 1 + 1 + 1 + 1 + 1 + 1 + 1)] = tvs at N2 htv
  generalize [Value.str (sOf [97]) (tk00 + 1 + 1 + 1 + 1 + 1 + 1 + 1 + 1), Value.str (sOf [97, 47, 42]) (tk00 + 1 + 1 + 1 + 1 + 1 + 1 + 1 + 1 + 1), Value.str (sOf []) (tk00 + 1 + 1 + 1 + 1 + 1 + 1 + 1 + 1 + 1 + 1), Value.str (sOf [97, 47, 42, 47, 97]) (tk00 + 1 + 1 + 1 + 1 + 1 + 1 + 1 + 1 + 1 + 1 + 1), Value.str (sOf [97, 45, 47, 91]) (tk00 + 1 + 1 + 1 + 1 + 1 + 1 + 1 + 1 + 1 + 1 + 1 + 1)] = hvs at N2 hhv
  rw [mkC_eq d4, mkC_eq d3] at N2
  have N3 : News h₀ L _ (led1 L sA liA hA tA hvs tvs 0 0 o1' o2' o5 o6 (o3, v3, o4, v4, ([], 0), ([], 0), [])) := KStb.news_of N2 (by
    dsimp only [led1, spLed, spAcc, List.map_nil]
    repeat (refine sub_cons (by k_mem) ?_)
    exact sub_nil)
  clear N2
  refine for_range (σ := L1S) (n := 5) (led1 L sA liA hA tA hvs tvs 0 0 o1' o2' o5 o6) (fun _ => []) [Str.ofString "pieces", Str.ofString "line", Str.ofString "spot"] (inv1 L sA liA) rfl hr (by decide +kernel) (by decide +kernel) ?hled F2 ⟨_, N3, trivial, ?_⟩ ?_ ?_ PassesOwn.never
  case hled =>
    exact fun c => all_cons (.inl rfl) (all_cons (.inl rfl) (all_cons (.inl rfl) (all_cons (.inl rfl) (all_cons (.inl (noF_cell d6)) (all_cons (.inl (noF_cell d5)) (all_cons (.inl rfl) (all_cons (.inl rfl) (all_cons (.inl (noF_cell dS)) (all_cons (.inl (noF_cell dT)) (all_cons (.inr l0.1) (all_cons (.inr l0.2) (all_sp fun _ _ => .inl rfl))))))))))))
  · exact ⟨rfl, StrsAre.nil, rfl, (fun j e h => by simp at h), (fun _ h => nomatch h), (fun _ h => nomatch h)⟩
  · intro i ti
    refine L1S.ind ?_
    intro p3 w3 p4 w4 sv sn lr ln Ns u h tk own hi hInv hoff F4 N4
    first | refine ex3_3 (id hInv) fun i1 i2 i3 i4 i5 i6 => ?_ | refine ex1_5 (id hInv) fun i1 i2 i3 i4 i5 i6 => ?_ | refine ex0_6 (id hInv) fun i1 i2 i3 i4 i5 i6 => ?_ | obtain ⟨i1, i2, i3, i4, i5, i6⟩ := id hInv
    dsimp only at i1 i2 i3 i4 i5 i6
    dsimp only [led1, kstB] at F4 N4 hoff
    rw [Int.zero_add]
    refine wpAny_assign_Name (setcell (c := L + 1 + 1 + 1) (o := mkC p3 w3) F4 N4 (by k_mem) rfl rfl rfl rfl ?_)
    intro h' o3' F5 hs hc d3'
    have hown : ∀ p ∈ own, p.1 ≠ sA ∧ p.1 ≠ liA ∧ p.1 ≠ L + 1 + 1 + 1 + 1 ∧ p.1 ≠ L + 1 + 1 + 1 := fun p hp =>
      ⟨hoff p hp _ (by k_mem), hoff p hp _ (by k_mem), hoff p hp _ (by k_mem), hoff p hp _ (by k_mem)⟩
    have nc : ∀ a vv nn, (a, PySem.W.listOf vv nn) ∈ _ → a ≠ L + 1 + 1 + 1 := fun a vv nn hm => ne_cell N4 (p := (a, _)) hm (by k_mem) (v := w3) rfl (fun v h => nomatch h)
    have hn3 : ∀ p ∈ (sA, PySem.W.listOf sv.toArray sn) :: (liA, PySem.W.listOf (spAcc lr).toArray ln) :: (hA, PySem.W.listOf hvs.toArray 0) :: (tA, PySem.W.listOf tvs.toArray 0) :: (L + 1 + 1 + 1 + 1 + 1 + 1, o6) :: (L + 1 + 1 + 1 + 1 + 1, o5) :: (L + 1 + 1 + 1 + 1, mkC p4 w4) :: (L + 1 + 1, o2') :: (L + 1, o1') :: (78, tabObj #[]) :: (238, tabObj #[]) :: (spLed lr ++ own), p.1 ≠ L + 1 + 1 + 1 :=
      all_cons (nc _ _ _ (by k_mem)) (all_cons (nc _ _ _ (by k_mem)) (all_cons (nc _ _ _ (by k_mem)) (all_cons (nc _ _ _ (by k_mem)) (all_cons (ne_add (by decide : 6 ≠ 3)) (all_cons (ne_add (by decide : 5 ≠ 3)) (all_cons (ne_add (by decide : 4 ≠ 3)) (all_cons (ne_add (by decide : 2 ≠ 3)) (all_cons (ne_add (by decide : 1 ≠ 3)) (all_cons (ne_cell N4 (p := (78, _)) (by k_mem) (by k_mem) (v := w3) rfl (fun v h => nomatch h)) (all_cons (ne_cell N4 (p := (238, _)) (by k_mem) (by k_mem) (v := w3) rfl (fun v h => nomatch h)) (all_app (all_sp fun e he => (i6 e he).2.2.1) fun p hp => (hown p hp).2.2.2)))))))))))
    have N5 := News.cellset N4 hs hc (fun p hp => ⟨(show ∀ p ∈ _, p ∈ _ by
      iterate 11 refine sub_cons (by k_mem) ?_
      iterate 12 refine sub_tail ?_
      exact sub_here) p hp, hn3 p hp⟩)
    have N6 : News h₀ L h' ((sA, PySem.W.listOf sv.toArray sn) :: (liA, PySem.W.listOf (spAcc lr).toArray ln) :: (hA, PySem.W.listOf hvs.toArray 0) :: (tA, PySem.W.listOf tvs.toArray 0) :: (L + 1 + 1 + 1 + 1 + 1 + 1, o6) :: (L + 1 + 1 + 1 + 1 + 1, o5) :: (L + 1 + 1 + 1 + 1, mkC p4 w4) :: (L + 1 + 1 + 1, o3') :: (L + 1 + 1, o2') :: (L + 1, o1') :: (78, tabObj #[]) :: (238, tabObj #[]) :: (spLed lr ++ own)) := KStb.news_of N5 (by
      iterate 12 refine sub_cons (by k_mem) ?_
      iterate 12 refine sub_tail ?_
      exact sub_here)
    clear N4 N5 hs hc F4 nc hn3
    have hv5 : hvs.length = 5 := by have := StrsAre.length hhv; simpa [headsL] using this
    refine Exists.elim (show ∃ hdd th, hvs[i]? = some (.str (sOf hdd) th) by
      obtain ⟨hvx, hhx⟩ : ∃ v, hvs[i]? = some v := ⟨_, List.getElem?_eq_getElem (by (walk_at "om"))⟩
      first | refine ex2_2 (StrsAre.item hhv i hvx hhx) fun yy th e90 hy => ?_ | refine ex1_3 (StrsAre.item hhv i hvx hhx) fun yy th e90 hy => ?_ | obtain ⟨yy, th, e90, hy⟩ := StrsAre.item hhv i hvx hhx
      subst e90
      rw [List.getElem?_map, Option.map_eq_some_iff] at hy
      first | refine ex2_1 hy fun hdd hhd e90 => ?_ | refine ex1_2 hy fun hdd hhd e90 => ?_ | refine ex0_3 hy fun hdd hhd e90 => ?_ | obtain ⟨hdd, hhd, e90⟩ := hy
      subst e90
      try clear hy
      exact ⟨hdd, th, hhx⟩) fun hdd hx => Exists.elim hx fun th hvx => ?_
    have F6 := map3Fr (hA := hA) (liA := liA) (l := l) F5 rfl rfl rfl
    have hsvl : sv.length = i := by have := StrsAre.length i2; rw [List.length_map, List.length_map, i1] at this; exact this
    have hlrl : (spAcc lr).length = i := by simp [spAcc, i3]
    refine wp_gen fun G hG => ?_
    refine turn1 X T F6 N6 rfl d3' dS dT hl hI hlen hi ?_ ?_ ?_ ?_ (by (walk_at "om")) (by (walk_at "om")) ?_ hhv htv hvx (by (walk_at "om"))
    · exact all_app (all_sp fun e he => ⟨(i6 e he).1, (i6 e he).2.1, (i6 e he).2.2.2⟩) fun p hp => ⟨(hown p hp).1, (hown p hp).2.1, (hown p hp).2.2.1⟩
    · exact ⟨adne (by (walk_at "om")), adne (by (walk_at "om")), adne (by (walk_at "om")), adne (by (walk_at "om")), adne (by (walk_at "om")), adne (by (walk_at "om")), adne (by (walk_at "om")), adne (by (walk_at "om")), adne (by (walk_at "om"))⟩
    · (walk_at "om")
    · (walk_at "om")
    · intro h' tk' m' N D us nu t o4' w4' n1 n2 hokN hus F7 hm7 d47 N7 f1 f2 f3 f4 f5
      refine hG _ _ ⟨(o3', some (.int (i : Int) ti), o4', w4', (sv ++ [Value.str (sOf (spotL N)) t], n1), (lr ++ [(D, us, nu)], n2), Ns ++ [N]), h', tk', m', _, F7, N7, ?_, ?_, (fun _ h => nomatch h), ?_, ?_⟩
      · rw [mkC_eq d47, mkC_eq d3']
        dsimp only [led1]
        rw [spLed_snoc, spAcc_snoc]
        iterate 12 refine sub_cons (by k_mem) ?_
        refine sub_app ?_ (sub_cons (by k_mem) sub_nil)
        iterate 13 refine sub_tail ?_
        exact sub_left sub_here
      · iterate 13 refine sub_tail ?_
        exact sub_right sub_here
      · intro z _ hz; try dsimp only
        have hz0 := hz
        simp only [List.contains_cons, List.contains_nil, Bool.or_false, Bool.or_eq_false_iff, beq_eq_false_iff_ne, ne_eq] at hz
        rw [hm7 z hz.1 hz.2.1 hz.2.2]
        by_cases e1 : z = Str.ofString "heads"
        · subst e1; rfl
        by_cases e2 : z = Str.ofString "lines"
        · subst e2; rfl
        by_cases e3 : z = Str.ofString "script"
        · subst e3; rfl
        rw [if_neg e1, if_neg e2, if_neg e3, if_neg (by rw [hz0]; decide)]
      · exact inv1_step hInv hokN hus f2 f3 f4 f5
  · refine L1S.ind ?_
    intro p3 w3 p4 w4 sv sn lr ln Ns u h tk hInv F4 N4
    first | refine ex3_3 hInv fun i1 i2 i3 i4 i5 i6 => ?_ | refine ex1_5 hInv fun i1 i2 i3 i4 i5 i6 => ?_ | refine ex0_6 hInv fun i1 i2 i3 i4 i5 i6 => ?_ | obtain ⟨i1, i2, i3, i4, i5, i6⟩ := hInv
    try clear hInv
    dsimp only at i1 i2 i3 i4 i5 i6
    dsimp only [led1, kstB] at F4 N4
    dsimp only
    exact law2 X T F4 rfl (KStb.news_of N4 (by
      iterate 10 refine sub_cons (by k_mem) ?_
      iterate 12 refine sub_tail ?_
      exact sub_here)) d6 d5 (show (mkC p4 w4).data = .cell w4 from rfl) (show (mkC p3 w3).data = .cell w3 from rfl) dS i1 i2 i3 i4 i5 (adne (by (walk_at "om"))) i6 (by (walk_at "om")) (by (walk_at "om")) l0
theorem walkT : T39 := by
  unfold T39
  rw [show lawRec = { name := _, params := _, body := _, scope := _, pos := _ } from rfl]
  k_go0
  all_goals (try k_fold)
  rename Fr _ _ _ _ => F
  rename News _ _ _ _ => N
  rename Shared => s1
  refine wpAny_mono (Q := LawEnd (frBase F) (frL F) s1) (E := fun _ _ => False) ?bdy ?fin (fun _ _ e => False.elim e)
  case fin =>
    clear N
    rintro _ _ ⟨rfl, h, tk, m, ps, ps', rfl, F2, N2⟩
    dsimp only [frBase, frL] at F2 N2 ⊢
    clear F
    refine ⟨?_, ?_⟩
    · wrow_close
    · walk_at "GrownAll"
  case bdy =>
    rename Top _ _ _ _ _ _ => T
    rename Frag.In _ (ghostOf _ _) => X
    rename Heap.IsList (ghostOf _ _) _ _ => hl
    rename (78 : Nat) < _ ∧ _ => l0
    rename IntsAre _ _ => hI
    rename ¬ _ => hco
    refine' loop1 X T F N ?a6 ?a5 ?a4 ?a3 ?a2 ?a1 hl hI ?hlen l0
    case a6 => with_reducible assumption
    case a5 => with_reducible assumption
    case a4 => with_reducible assumption
    case a3 => with_reducible assumption
    case a2 => with_reducible assumption
    case a1 => with_reducible assumption
    case hlen =>
      clear F N X T
      (walk_at "om")
theorem head.tw5723944856813171866 : True := trivial
theorem head.tw12820901002040952943 : True := trivial
theorem head.tw12632969471332460680 : True := trivial
theorem head.tw6973584914630602586 : True := trivial
theorem head.tw18122065748374300089 : True := trivial
theorem head.tw12908687472112796290 : True := trivial
theorem head.tw8372164355529847743 : True := trivial
theorem head.tw7133519142652691152 : True := trivial
theorem head.tw11807956919867999880 : True := trivial
theorem head.tw3980653432952411973 : True := trivial
theorem head.tw4607607821588926596 : True := trivial
theorem head.tw6359203466971665773 : True := trivial
theorem head.tw8866670633112419022 : True := trivial
theorem head.tw10059252607514160932 : True := trivial
theorem head.tw15270329735657140853 : True := trivial
theorem head.tw3368030927266983236 : True := trivial
theorem head.tw5319049981483164881 : True := trivial
theorem head.tw5507133844067935933 : True := trivial
theorem head.tw6490296386705211140 : True := trivial
theorem head.tw15503097425533943618 : True := trivial
theorem head.tw18328473556755899883 : True := trivial
theorem head.tw15258443364195721184 : True := trivial
theorem head.tw11603432971120843656 : True := trivial
theorem head.tw11461499031321582800 : True := trivial
theorem head.tw15895551434495452948 : True := trivial
theorem head.tw13273861129630518605 : True := trivial
theorem head.tw4560781026641586645 : True := trivial
theorem head.tw2491421050496283774 : True := trivial
theorem head.tw7450023128482652576 : True := trivial
theorem head.tw5012331772839332122 : True := trivial
theorem head.tw9162278640276766204 : True := trivial
theorem head.tw6846597200999610202 : True := trivial
theorem head.tw6846866878297920324 : True := trivial
theorem head.tw17725469503822016867 : True := trivial
theorem head.tw532055438628499158 : True := trivial
theorem head.tw11975876845563090790 : True := trivial
theorem head.tw15204471325056678010 : True := trivial
theorem head.tw10366927770000222440 : True := trivial
theorem head.tw13988103294471073821 : True := trivial
theorem head.tw16984083398119652359 : True := trivial
theorem head.tw733406405333840765 : True := trivial
theorem head.tw12207028300977255130 : True := trivial
theorem head.tw13353151263460963528 : True := trivial
theorem head.tw2728595385866086531 : True := trivial
theorem head.tw8451290768687142514 : True := trivial
theorem head.tw8382746154173761051 : True := trivial
theorem head.tw18433677622606106133 : True := trivial
theorem head.tw2506711637615833298 : True := trivial
theorem head.tw4009957668330374740 : True := trivial
theorem head.tw4381510469713062047 : True := trivial
theorem head.tw12824857690660426397 : True := trivial
theorem head.tw9186546921256032858 : True := trivial
theorem head.tw4965378191221513410 : True := trivial
theorem head.tw11544532188706048022 : True := trivial
theorem head.tw10010264046613662565 : True := trivial
theorem head.tw11062844159666043395 : True := trivial
theorem head.tw1315816938146588887 : True := trivial
theorem head.tw11434997419882176723 : True := trivial
theorem head.tw5870146547769353613 : True := trivial
theorem head.tw10533634037010066435 : True := trivial
theorem head.tw3306014811536218513 : True := trivial
theorem head.tw14112051064653734678 : True := trivial
theorem head.tw12704426703380559182 : True := trivial
theorem head.tw12201952087667049370 : True := trivial
theorem head.tw17698105195316432488 : True := trivial
theorem head.tw15539854500240908086 : True := trivial
theorem head.tw8408249889716310983 : True := trivial
theorem head.tw14139502460874162764 : True := trivial
theorem head.tw12352672977532951062 : True := trivial
theorem head.tw15951998825049700455 : True := trivial
theorem head.tw18312588684407217961 : True := trivial
theorem head.tw18416563613846182222 : True := trivial
theorem head.tw10021064610941686981 : True := trivial
theorem head.tw4746297304354101679 : True := trivial
theorem head.tw11426403942048686318 : True := trivial
theorem head.tw1832916270232011604 : True := trivial
theorem head.tw5986637957666399235 : True := trivial
theorem head.tw18051680202136193954 : True := trivial
theorem head.tw7512725033676591148 : True := trivial
theorem head.tw7658410731251134818 : True := trivial
theorem head.tw13294958713779813728 : True := trivial
theorem head.tw17305279035367673032 : True := trivial
theorem head.tw3420712745634647663 : True := trivial
theorem head.tw18227723713731065979 : True := trivial
theorem head.tw11692735721529064706 : True := trivial
theorem head.tw6247268493268985975 : True := trivial
theorem head.tw11427066125472700054 : True := trivial
theorem head.tw5788964047882338313 : True := trivial
theorem head.tw4307260679431091991 : True := trivial
theorem head.tw4956759928380993254 : True := trivial
theorem head.tw10865165270600546614 : True := trivial
theorem head.tw13031993528536639038 : True := trivial
theorem head.tw12763952150808568291 : True := trivial
theorem head.tw13955511503576765797 : True := trivial
theorem head.tw10205530081349824492 : True := trivial
theorem head.tw18007968972792079559 : True := trivial
theorem head.tw14492117785962260688 : True := trivial
theorem head.tw9082462177598256812 : True := trivial
theorem head.tw5617373736292572815 : True := trivial
theorem head.tw6587087628758450585 : True := trivial
theorem head.tw15798066900824788120 : True := trivial
theorem head.tw1626232751844553403 : True := trivial
theorem head.tw12150615962061616356 : True := trivial
theorem head.tw1506576300011279404 : True := trivial
theorem head.tw8414573866900348196 : True := trivial
theorem head.tw12865059321931465230 : True := trivial
theorem head.tw467416434755642258 : True := trivial
theorem head.tw7494366503370351645 : True := trivial
theorem head.tw10079960370226730655 : True := trivial
theorem head.tw17265401458761052179 : True := trivial
theorem head.tw2096541523181747872 : True := trivial
theorem head.tw17826015225549371706 : True := trivial
theorem head.tw15895748673760503845 : True := trivial
theorem head.tw8627200689577751383 : True := trivial
theorem head.tw7994106446794305319 : True := trivial
theorem head.tw11015231008668112799 : True := trivial
theorem head.tw2203363585012173787 : True := trivial
theorem head.tw7287109101882759415 : True := trivial
theorem head.tw1605264914639016070 : True := trivial
theorem head.tw3547240966391284428 : True := trivial
theorem head.tw497287684792784471 : True := trivial
theorem head.tw6857060684267632606 : True := trivial
theorem head.tw1193192827695820201 : True := trivial
theorem head.tw17844492200522320778 : True := trivial
theorem head.tw11308087075614649832 : True := trivial
theorem head.tw16128420640991077102 : True := trivial
theorem head.tw9515422150858430662 : True := trivial
theorem head.tw15064752311394979489 : True := trivial
theorem head.tw9464831228461672588 : True := trivial
theorem head.tw8758324158161630591 : True := trivial
theorem head.tw18384547517478447814 : True := trivial
theorem head.tw6211381574409162282 : True := trivial
theorem head.tw13337238644230332656 : True := trivial
theorem head.tw5401097623525119610 : True := trivial
theorem head.tw16922147877168347812 : True := trivial
theorem head.tw11714945338242495837 : True := trivial
theorem head.tw10261356005730403935 : True := trivial
theorem head.tw7523532297153676066 : True := trivial
theorem head.tw10898857373019930491 : True := trivial
theorem head.tw1499353310998574721 : True := trivial
theorem head.tw14999265807660949796 : True := trivial
theorem head.tw6110071263904590700 : True := trivial
theorem head.tw1463646239528298992 : True := trivial
theorem head.tw315434073420411817 : True := trivial
theorem head.tw1852205218256702202 : True := trivial
theorem head.tw15894371620910866019 : True := trivial
theorem head.tw9407594320385231609 : True := trivial
theorem head.tw3496171461512900480 : True := trivial
theorem head.tw10875119458065257276 : True := trivial
theorem head.tw12870424476946447624 : True := trivial
theorem head.tw48543519692965452 : True := trivial
theorem head.tw17197444120159719569 : True := trivial
theorem head.tw14842460003800876886 : True := trivial
theorem head.tw16847831306532103052 : True := trivial
theorem head.tw6100774026682323163 : True := trivial
theorem head.tw9875284204226446277 : True := trivial
theorem head.tw15735840784391694233 : True := trivial
theorem head.tw13942192884097748152 : True := trivial
theorem head.tw13689084217373910675 : True := trivial
theorem head.tw17015032458148788900 : True := trivial
theorem head.tw3453547403478019728 : True := trivial
theorem head.tw1212124681294104184 : True := trivial
theorem head.tw13585267454733459922 : True := trivial
theorem head.tw2518057956044344595 : True := trivial
theorem head.tw3746228215898030841 : True := trivial
theorem head.tw17093656651364094606 : True := trivial
theorem head.tw15253846138512369154 : True := trivial
theorem head.tw8912104118211102971 : True := trivial
theorem head.tw11988142204041823098 : True := trivial
theorem head.tw262713603470380999 : True := trivial
theorem head.tw17411354535832351560 : True := trivial
theorem head.tw17297054508065495485 : True := trivial
theorem head.tw13412022041919118725 : True := trivial
theorem head.tw5889021280877657681 : True := trivial
theorem head.tw14667470093908496907 : True := trivial
theorem head.tw3547030090768783262 : True := trivial
theorem head.tw4709128311485490483 : True := trivial
theorem head.tw12998212659555988865 : True := trivial
theorem head.tw12330954535739239725 : True := trivial
theorem head.tw11770459041652445329 : True := trivial
theorem head.tw10668533816033670360 : True := trivial
theorem head.tw5629256929840616583 : True := trivial
theorem head.tw16172356507618199906 : True := trivial
theorem head.tw6121141971511671821 : True := trivial
theorem head.tw5438144065070405397 : True := trivial
theorem head.tw7789450098604059249 : True := trivial
theorem head.tw1319983325249436295 : True := trivial
theorem head.tw10519217271611395807 : True := trivial
theorem head.tw2249667046024356820 : True := trivial
theorem head.tw603864360123758774 : True := trivial
theorem head.tw17188972718952451159 : True := trivial
theorem head.tw8874674299285249911 : True := trivial
theorem head.tw2864405669816312776 : True := trivial
theorem head.tw11124748197601291601 : True := trivial
theorem head.tw9495540839478616804 : True := trivial
theorem head.tw14512941343882779238 : True := trivial
theorem head.tw6889739017440866108 : True := trivial
theorem head.tw8402214883040486957 : True := trivial
theorem head.tw69809265629811306 : True := trivial
theorem head.tw17674571679781333832 : True := trivial
theorem head.tw9280153536138602973 : True := trivial
theorem head.tw12032222614953749359 : True := trivial
theorem head.tw7876399200375917224 : True := trivial
theorem head.tw3103639331685909893 : True := trivial
theorem head.tw10015159338476511836 : True := trivial
theorem head.tw2326617092838664518 : True := trivial
theorem head.tw16817119741492734445 : True := trivial
theorem head.tw8101760021730824546 : True := trivial
theorem head.tw6088685845774392931 : True := trivial
theorem head.tw16997897962222511 : True := trivial
theorem head.tw9716329373054682134 : True := trivial
theorem head.tw14417885227837004991 : True := trivial
theorem head.tw15296082917334920728 : True := trivial
theorem head.tw466721876749952763 : True := trivial
theorem head.tw9074772780463953568 : True := trivial
theorem head.tw15149402430504572791 : True := trivial
theorem head.tw12310735299239354703 : True := trivial
theorem head.tw6640010369347007910 : True := trivial
theorem head.tw800189338630566866 : True := trivial
theorem head.tw9658139154387788515 : True := trivial
theorem head.tw3083302935323014018 : True := trivial
theorem head.tw8476099583838051002 : True := trivial
theorem head.tw5506250874072839755 : True := trivial
theorem head.tw2879759524354350568 : True := trivial
theorem head.tw16031315777459398524 : True := trivial
theorem head.tw11105056867450500199 : True := trivial
theorem head.tw17332727794074296334 : True := trivial
theorem head.tw18332285231265401824 : True := trivial
theorem head.tw17142359554024780413 : True := trivial
theorem head.tw3986194592780655508 : True := trivial
theorem head.tw14982685227137828758 : True := trivial
theorem head.tw7253898381062576733 : True := trivial
theorem head.tw8635801649412623816 : True := trivial
theorem head.tw15436542981012472205 : True := trivial
theorem head.tw15468718075485040107 : True := trivial
theorem head.tw14393718171448925343 : True := trivial
theorem head.tw7526775705450560304 : True := trivial
theorem head.tw10018764681926925449 : True := trivial
theorem head.tw2581250870941146908 : True := trivial
theorem head.tw15841401105113185080 : True := trivial
theorem head.tw3688799982635324794 : True := trivial
theorem head.tw2355103038987944067 : True := trivial
theorem head.tw14699528089545365996 : True := trivial
theorem head.tw11862927689305589065 : True := trivial
theorem head.tw14565984838667512163 : True := trivial
theorem head.tw3839736740360565264 : True := trivial
theorem head.tw13554860043763078139 : True := trivial
theorem head.tw18240164343135922154 : True := trivial
theorem head.tw1030536996053982578 : True := trivial
theorem head.tw14387253260952625049 : True := trivial
theorem head.tw12144605746681571689 : True := trivial
theorem head.tw13597870340707847720 : True := trivial
theorem head.tw11194998557105285118 : True := trivial
theorem head.tw2994366008111725845 : True := trivial
theorem head.tw14877080517539528568 : True := trivial
theorem head.tw6737735255597943219 : True := trivial
set_option Elab.async true in
theorem head : PySem.Challenge.rw_rx0087_01.Holds := by
  w_on
  o_law
  o_head (kmHook K39.heap_1 [2, 3, 32, 34, 35, 37, 38, 39, 41, 42, 44, 45, 46, 48, 49, 51, 52, 56, 57, 58, 60, 61, 63, 64, 66, 70, 72, 73, 75, 76, 77, 79, 80, 82, 83, 84, 86, 87, 89, 90, 91, 93, 94, 96, 97, 98, 105, 107, 108, 110, 111, 112, 113, 114, 117, 124, 126, 127, 129, 130, 131, 133, 134, 136, 137, 138, 140, 141, 143, 144, 145, 146, 147, 150, 152, 153, 155, 156, 157, 159, 160, 162, 163, 164, 166, 167, 169, 170, 171, 173, 174, 176, 177, 178, 180, 181, 183, 184, 185, 187, 188, 190, 191, 192, 194, 195, 197, 198, 199, 202, 203, 204, 206, 207, 209, 210, 211, 213, 214, 216, 217, 218, 221, 222, 223, 225, 226, 228, 229, 230, 232, 233, 235, 236, 237, 240, 241] as39 [78, 238])
  case hw => w_witness2
  exact walkT
end Mine
theorem PySem.Challenge.cw_rx0087_01_holds : PySem.Challenge.rw_rx0087_01.Holds := by
  exact Mine.head
