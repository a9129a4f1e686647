import PyProof.Rows.All
import Wide.All
import OpenK.AllK
import Wide.FinOn
import PyProof.WalksPairs
import PyProof.Rows.SeqMore
import PySem.Challenge.RW_mq0248_01
set_option Elab.async false
set_option rowWalk.seconds 0
set_option linter.all false
set_option genInjectivity false
set_option genSizeOfSpec false
local macro_rules | `(tactic| walk_at $s:str) => `(tactic| k_extra $s)
local macro_rules | `(tactic| k_steps) => `(tactic| k_extra "k_steps")
local macro_rules | `(tactic| omega) => `(tactic| k_extra "om")
local macro_rules | `(tactic| x_close) => `(tactic| solve_by_elim)
section
open PySem PySem.W PyProof.Rows
set_option Elab.async false
namespace Mine
section
local macro_rules | `(tactic| o_head $_t) => `(tactic| assumption)
set_option maxRecDepth 100000 in
set_option maxHeartbeats 8000000 in
theorem hd (h0 : PySem.Challenge.rw_mq0248_01.row.Holds) : PySem.Challenge.rw_mq0248_01.row.Holds := by
  k_head
set_option maxRecDepth 100000 in
set_option maxHeartbeats 8000000 in
theorem hx (h0 : PySem.Challenge.rw_mq0248_01.row.Holds) : PySem.Challenge.rw_mq0248_01.row.Holds := by
  x_head
end
theorem hx_sub0 (P : Params) : (hd.heap_1 P).map (fun p => (hx.heap_1 P).lookup p.1) = (hd.heap_1 P).map (fun p => some p.2) := by
  kernel_rfl
theorem frag_sub {K K' : Frag} (e : K.map (fun p => K'.lookup p.1) = K.map (fun p => some p.2)) {h : Heap} (x : K'.In h) : K.In h := by
  have e' := List.map_inj_left.mp e
  intro a o q
  refine x a o ?_
  suffices ∀ l : Frag, l.lookup a = some o → (a, o) ∈ l by exact e' _ (this K q)
  intro l
  induction l with
  | nil => intro q; cases q
  | cons p l ih =>
    intro q
    rw [List.lookup_cons] at q
    split at q
    · rename_i z; cases q; rw [beq_iff_eq.mp z]; exact .head _
    · exact .tail _ (ih q)
theorem hx_sub {P : Params} {h : Heap} (x : (hx.heap_1 P).In h) : (hd.heap_1 P).In h := frag_sub (hx_sub0 P) x
end Mine
end
section
open PySem PySem.W PySem.Calls PyProof.Rows
theorem Mine.fresh_MTop {prog : Program} {w : World} {A : Around} {env : Env} {Q : Flow → Shared → Prop} {E : Value → Shared → Prop} {s : Shared} (h : Q .next s) : wpAny (model prog w) A (execs [] env) Q E s := by
  w_top off
  k_with_none
  walk1
  exact h
end
section
open PySem PySem.W PySem.Calls PyProof.Rows
set_option Elab.async false
namespace Mine
theorem oc1 {a D : Nat} {p : Prop} (h : a < D ∧ p) : a ≠ D := Nat.ne_of_lt h.1
theorem oc2 {a D : Nat} {p q : Prop} (h : p ∧ a < D ∧ q) : a ≠ D := Nat.ne_of_lt h.2.1
theorem oc3 {a D : Nat} {p q r : Prop} (h : p ∧ q ∧ a < D ∧ r) : a ≠ D := Nat.ne_of_lt h.2.2.1
theorem oc4 {a D : Nat} {p q r t : Prop} (h : p ∧ q ∧ r ∧ a < D ∧ t) : a ≠ D := Nat.ne_of_lt h.2.2.2.1
theorem oc5 {a D : Nat} {p q r t u : Prop} (h : p ∧ q ∧ r ∧ t ∧ a < D ∧ u) : a ≠ D := Nat.ne_of_lt h.2.2.2.2.1
theorem oc6 {a D : Nat} {p q r t u v : Prop} (h : p ∧ q ∧ r ∧ t ∧ u ∧ a < D ∧ v) : a ≠ D := Nat.ne_of_lt h.2.2.2.2.2.1
theorem oc7 {a D : Nat} {p q r t u v x : Prop} (h : p ∧ q ∧ r ∧ t ∧ u ∧ v ∧ a < D ∧ x) : a ≠ D := Nat.ne_of_lt h.2.2.2.2.2.2.1
theorem oc8 {a D : Nat} {p q r t u v x y : Prop} (h : p ∧ q ∧ r ∧ t ∧ u ∧ v ∧ x ∧ a < D ∧ y) : a ≠ D := Nat.ne_of_lt h.2.2.2.2.2.2.2.1
theorem oe2 {a D : Nat} {p : Prop} (h : p ∧ a < D) : a ≠ D := Nat.ne_of_lt h.2
theorem oe3 {a D : Nat} {p q : Prop} (h : p ∧ q ∧ a < D) : a ≠ D := Nat.ne_of_lt h.2.2
theorem oe4 {a D : Nat} {p q r : Prop} (h : p ∧ q ∧ r ∧ a < D) : a ≠ D := Nat.ne_of_lt h.2.2.2
theorem oe5 {a D : Nat} {p q r t : Prop} (h : p ∧ q ∧ r ∧ t ∧ a < D) : a ≠ D := Nat.ne_of_lt h.2.2.2.2
theorem oe6 {a D : Nat} {p q r t u : Prop} (h : p ∧ q ∧ r ∧ t ∧ u ∧ a < D) : a ≠ D := Nat.ne_of_lt h.2.2.2.2.2
theorem og1 {a b c : Nat} (e : a = b) (h : b < c) : a < c := e ▸ h
theorem og2 {a b c : Nat} (e : a = b) (h : c < b) : c < a := e ▸ h
theorem og3 {a b c d : Nat} (e : a = b) (e2 : c = b) (h : d < c) : d < a := by rw [e, ← e2]; exact h
theorem og4 {a b c : Nat} (e : a = c) (e2 : b = c) : a = b := e.trans e2.symm
theorem og5 {a b c : Nat} (e : a = b) (h : b ≤ c) : a ≤ c := e ▸ h
theorem og6 {a b c : Nat} (e : a = b) (h : c ≤ b) : c ≤ a := e ▸ h
theorem og7 (l : Nat) : 0 ≤ (l : Int) + 1 := Int.le_add_one (Int.natCast_nonneg l)
section
variable {prog : Program} {w : World} {A : Around} {E : Value → Shared → Prop} {α : Type}
theorem st_c {c : Sem α} {Q : α → Shared → Prop} {h : Heap} {t : Nat} (s : Shared) (k : ∀ tk, wpAny (model prog w) A c Q E ⟨h, s.gens, s.drawn, tk, s.os⟩) : wpAny (model prog w) A c Q E ⟨h, s.gens, s.drawn, t, s.os⟩ := k t
theorem st_x {l : List Stmt} {env : Env} {Q : Flow → Shared → Prop} {h : Heap} {t : Nat} (s : Shared) (k : ∀ tk, wpAny (model prog w) A (execs l env) Q E ⟨h, s.gens, s.drawn, tk, s.os⟩) : wpAny (model prog w) A (execs l env) Q E ⟨h, s.gens, s.drawn, t, s.os⟩ := k t
theorem st_h {c : Sem α} {Q : α → Shared → Prop} {h : Heap} {g : Array GenState} {d : Drawn} {t t' : Nat} {o : OsState} (s : Shared) (k : ∀ tk, wpAny (model prog w) A c Q E ⟨h, s.gens, s.drawn, tk, s.os⟩) : wpAny (model prog w) A c Q E ⟨(Shared.mk h g d t' o).heap, s.gens, s.drawn, t, s.os⟩ := k t
theorem gen_q {c : Sem α} {Q : α → Shared → Prop} {s : Shared} (k : ∀ Q' : α → Shared → Prop, Q' = Q → wpAny (model prog w) A c Q' E s) : wpAny (model prog w) A c Q E s := k Q rfl
theorem gen_qe {M : Model} {c : Sem α} {Q : α → Shared → Prop} {s : Shared} (k : ∀ (Q' : α → Shared → Prop) (E' : Value → Shared → Prop), Q' = Q → E' = E → wpAny M A c Q' E' s) : wpAny M A c Q E s := k Q E rfl rfl
theorem obj_eta {o : Obj} {d : Data} (h : o.data = d) : o = ⟨o.cls, o.dict, d, o.slots⟩ := by subst h; rfl
theorem get_eta {h : Heap} {a : Addr} {o : Obj} {d : Data} (g : h.get? a = some o) (e : o.data = d) : h.get? a = some ⟨o.cls, o.dict, d, o.slots⟩ := by subst e; exact g
theorem arr_get {its : List α} {i : Nat} {v : α} (h : its.toArray[i]? = some v) : its[i]? = some v := by simpa using h
theorem st_n {M : Model} {c : Sem α} {Q : α → Shared → Prop} {h : Heap} {t : Nat} (s : Shared) (k : wpAny M A c Q E ⟨h, s.gens, s.drawn, t, s.os⟩) : wpAny M A c Q E ⟨h, s.gens, s.drawn, t, s.os⟩ := k
theorem gen_a {M : Model} {c : Sem α} {Q : α → Shared → Prop} {s : Shared} (k : ∀ A' : Around, A' = A → wpAny M A' c Q E s) : wpAny M A c Q E s := k A rfl
theorem by_goal {G : Prop} (k : ∀ G' : Prop, (G → G') → G') : G := k G id
end
end Mine
end
section
open PySem PySem.W PySem.Calls PyProof.Rows
theorem Mine.fresh_MSt {prog : Program} {w : World} {A : Around} {env : Env} {Q : Flow → Shared → Prop} {E : Value → Shared → Prop} {s : Shared} (h : Q .next s) : wpAny (model prog w) A (execs [] env) Q E s := by
  w_top off
  k_with_none
  walk1
  exact h
end
section
open PySem PySem.W PySem.Calls PyProof.Rows
set_option Elab.async false
set_option maxRecDepth 100000
set_option maxHeartbeats 0
namespace Mine
-- the objects of hx.heap_1 one by one, each its own constant (one big list of them has a twin of 280,000 nodes)
noncomputable def k_3 (P : Params) : Obj := by
  refine (?f : ∀ o : Obj, (hx.heap_1 P).lookup 3 = some o → Obj) _ rfl
  exact fun o _ => o
noncomputable def k_11 (P : Params) : Obj := by
  refine (?f : ∀ o : Obj, (hx.heap_1 P).lookup 11 = some o → Obj) _ rfl
  exact fun o _ => o
noncomputable def k_12 (P : Params) : Obj := by
  refine (?f : ∀ o : Obj, (hx.heap_1 P).lookup 12 = some o → Obj) _ rfl
  exact fun o _ => o
noncomputable def k_13 (P : Params) : Obj := by
  refine (?f : ∀ o : Obj, (hx.heap_1 P).lookup 13 = some o → Obj) _ rfl
  exact fun o _ => o
noncomputable def k_14 (P : Params) : Obj := by
  refine (?f : ∀ o : Obj, (hx.heap_1 P).lookup 14 = some o → Obj) _ rfl
  exact fun o _ => o
noncomputable def k_15 (P : Params) : Obj := by
  refine (?f : ∀ o : Obj, (hx.heap_1 P).lookup 15 = some o → Obj) _ rfl
  exact fun o _ => o
noncomputable def k_16 (P : Params) : Obj := by
  refine (?f : ∀ o : Obj, (hx.heap_1 P).lookup 16 = some o → Obj) _ rfl
  exact fun o _ => o
noncomputable def k_17 (P : Params) : Obj := by
  refine (?f : ∀ o : Obj, (hx.heap_1 P).lookup 17 = some o → Obj) _ rfl
  exact fun o _ => o
noncomputable def k_18 (P : Params) : Obj := by
  refine (?f : ∀ o : Obj, (hx.heap_1 P).lookup 18 = some o → Obj) _ rfl
  exact fun o _ => o
noncomputable def k_19 (P : Params) : Obj := by
  refine (?f : ∀ o : Obj, (hx.heap_1 P).lookup 19 = some o → Obj) _ rfl
  exact fun o _ => o
noncomputable def k_20 (P : Params) : Obj := by
  refine (?f : ∀ o : Obj, (hx.heap_1 P).lookup 20 = some o → Obj) _ rfl
  exact fun o _ => o
noncomputable def k_21 (P : Params) : Obj := by
  refine (?f : ∀ o : Obj, (hx.heap_1 P).lookup 21 = some o → Obj) _ rfl
  exact fun o _ => o
noncomputable def k_22 (P : Params) : Obj := by
  refine (?f : ∀ o : Obj, (hx.heap_1 P).lookup 22 = some o → Obj) _ rfl
  exact fun o _ => o
noncomputable def k_24 (P : Params) : Obj := by
  refine (?f : ∀ o : Obj, (hx.heap_1 P).lookup 24 = some o → Obj) _ rfl
  exact fun o _ => o
noncomputable def k_25 (P : Params) : Obj := by
  refine (?f : ∀ o : Obj, (hx.heap_1 P).lookup 25 = some o → Obj) _ rfl
  exact fun o _ => o
noncomputable def k_26 (P : Params) : Obj := by
  refine (?f : ∀ o : Obj, (hx.heap_1 P).lookup 26 = some o → Obj) _ rfl
  exact fun o _ => o
noncomputable def k_27 (P : Params) : Obj := by
  refine (?f : ∀ o : Obj, (hx.heap_1 P).lookup 27 = some o → Obj) _ rfl
  exact fun o _ => o
noncomputable def k_28 (P : Params) : Obj := by
  refine (?f : ∀ o : Obj, (hx.heap_1 P).lookup 28 = some o → Obj) _ rfl
  exact fun o _ => o
noncomputable def k_39 (P : Params) : Obj := by
  refine (?f : ∀ o : Obj, (hx.heap_1 P).lookup 39 = some o → Obj) _ rfl
  exact fun o _ => o
noncomputable def k_40 (P : Params) : Obj := by
  refine (?f : ∀ o : Obj, (hx.heap_1 P).lookup 40 = some o → Obj) _ rfl
  exact fun o _ => o
noncomputable def k_41 (P : Params) : Obj := by
  refine (?f : ∀ o : Obj, (hx.heap_1 P).lookup 41 = some o → Obj) _ rfl
  exact fun o _ => o
noncomputable def k_42 (P : Params) : Obj := by
  refine (?f : ∀ o : Obj, (hx.heap_1 P).lookup 42 = some o → Obj) _ rfl
  exact fun o _ => o
noncomputable def k_43 (P : Params) : Obj := by
  refine (?f : ∀ o : Obj, (hx.heap_1 P).lookup 43 = some o → Obj) _ rfl
  exact fun o _ => o
noncomputable def k_44 (P : Params) : Obj := by
  refine (?f : ∀ o : Obj, (hx.heap_1 P).lookup 44 = some o → Obj) _ rfl
  exact fun o _ => o
noncomputable def k_45 (P : Params) : Obj := by
  refine (?f : ∀ o : Obj, (hx.heap_1 P).lookup 45 = some o → Obj) _ rfl
  exact fun o _ => o
noncomputable def k_46 (P : Params) : Obj := by
  refine (?f : ∀ o : Obj, (hx.heap_1 P).lookup 46 = some o → Obj) _ rfl
  exact fun o _ => o
noncomputable def k_47 (P : Params) : Obj := by
  refine (?f : ∀ o : Obj, (hx.heap_1 P).lookup 47 = some o → Obj) _ rfl
  exact fun o _ => o
noncomputable def k_48 (P : Params) : Obj := by
  refine (?f : ∀ o : Obj, (hx.heap_1 P).lookup 48 = some o → Obj) _ rfl
  exact fun o _ => o
noncomputable def k_49 (P : Params) : Obj := by
  refine (?f : ∀ o : Obj, (hx.heap_1 P).lookup 49 = some o → Obj) _ rfl
  exact fun o _ => o
noncomputable def k_50 (P : Params) : Obj := by
  refine (?f : ∀ o : Obj, (hx.heap_1 P).lookup 50 = some o → Obj) _ rfl
  exact fun o _ => o
noncomputable def k_51 (P : Params) : Obj := by
  refine (?f : ∀ o : Obj, (hx.heap_1 P).lookup 51 = some o → Obj) _ rfl
  exact fun o _ => o
noncomputable def k_52 (P : Params) : Obj := by
  refine (?f : ∀ o : Obj, (hx.heap_1 P).lookup 52 = some o → Obj) _ rfl
  exact fun o _ => o
noncomputable def k_53 (P : Params) : Obj := by
  refine (?f : ∀ o : Obj, (hx.heap_1 P).lookup 53 = some o → Obj) _ rfl
  exact fun o _ => o
noncomputable def k_54 (P : Params) : Obj := by
  refine (?f : ∀ o : Obj, (hx.heap_1 P).lookup 54 = some o → Obj) _ rfl
  exact fun o _ => o
noncomputable def k_55 (P : Params) : Obj := by
  refine (?f : ∀ o : Obj, (hx.heap_1 P).lookup 55 = some o → Obj) _ rfl
  exact fun o _ => o
noncomputable def k_56 (P : Params) : Obj := by
  refine (?f : ∀ o : Obj, (hx.heap_1 P).lookup 56 = some o → Obj) _ rfl
  exact fun o _ => o
noncomputable def k_57 (P : Params) : Obj := by
  refine (?f : ∀ o : Obj, (hx.heap_1 P).lookup 57 = some o → Obj) _ rfl
  exact fun o _ => o
noncomputable def k_58 (P : Params) : Obj := by
  refine (?f : ∀ o : Obj, (hx.heap_1 P).lookup 58 = some o → Obj) _ rfl
  exact fun o _ => o
noncomputable def k_59 (P : Params) : Obj := by
  refine (?f : ∀ o : Obj, (hx.heap_1 P).lookup 59 = some o → Obj) _ rfl
  exact fun o _ => o
noncomputable def k_60 (P : Params) : Obj := by
  refine (?f : ∀ o : Obj, (hx.heap_1 P).lookup 60 = some o → Obj) _ rfl
  exact fun o _ => o
noncomputable def k_61 (P : Params) : Obj := by
  refine (?f : ∀ o : Obj, (hx.heap_1 P).lookup 61 = some o → Obj) _ rfl
  exact fun o _ => o
noncomputable def k_62 (P : Params) : Obj := by
  refine (?f : ∀ o : Obj, (hx.heap_1 P).lookup 62 = some o → Obj) _ rfl
  exact fun o _ => o
noncomputable def k_63 (P : Params) : Obj := by
  refine (?f : ∀ o : Obj, (hx.heap_1 P).lookup 63 = some o → Obj) _ rfl
  exact fun o _ => o
noncomputable def k_64 (P : Params) : Obj := by
  refine (?f : ∀ o : Obj, (hx.heap_1 P).lookup 64 = some o → Obj) _ rfl
  exact fun o _ => o
noncomputable def k_65 (P : Params) : Obj := by
  refine (?f : ∀ o : Obj, (hx.heap_1 P).lookup 65 = some o → Obj) _ rfl
  exact fun o _ => o
noncomputable def k_66 (P : Params) : Obj := by
  refine (?f : ∀ o : Obj, (hx.heap_1 P).lookup 66 = some o → Obj) _ rfl
  exact fun o _ => o
noncomputable def k_67 (P : Params) : Obj := by
  refine (?f : ∀ o : Obj, (hx.heap_1 P).lookup 67 = some o → Obj) _ rfl
  exact fun o _ => o
noncomputable def k_68 (P : Params) : Obj := by
  refine (?f : ∀ o : Obj, (hx.heap_1 P).lookup 68 = some o → Obj) _ rfl
  exact fun o _ => o
noncomputable def k_69 (P : Params) : Obj := by
  refine (?f : ∀ o : Obj, (hx.heap_1 P).lookup 69 = some o → Obj) _ rfl
  exact fun o _ => o
noncomputable def k_70 (P : Params) : Obj := by
  refine (?f : ∀ o : Obj, (hx.heap_1 P).lookup 70 = some o → Obj) _ rfl
  exact fun o _ => o
noncomputable def k_71 (P : Params) : Obj := by
  refine (?f : ∀ o : Obj, (hx.heap_1 P).lookup 71 = some o → Obj) _ rfl
  exact fun o _ => o
noncomputable def k_72 (P : Params) : Obj := by
  refine (?f : ∀ o : Obj, (hx.heap_1 P).lookup 72 = some o → Obj) _ rfl
  exact fun o _ => o
noncomputable def k_73 (P : Params) : Obj := by
  refine (?f : ∀ o : Obj, (hx.heap_1 P).lookup 73 = some o → Obj) _ rfl
  exact fun o _ => o
noncomputable def k_74 (P : Params) : Obj := by
  refine (?f : ∀ o : Obj, (hx.heap_1 P).lookup 74 = some o → Obj) _ rfl
  exact fun o _ => o
noncomputable def k_75 (P : Params) : Obj := by
  refine (?f : ∀ o : Obj, (hx.heap_1 P).lookup 75 = some o → Obj) _ rfl
  exact fun o _ => o
noncomputable def k_76 (P : Params) : Obj := by
  refine (?f : ∀ o : Obj, (hx.heap_1 P).lookup 76 = some o → Obj) _ rfl
  exact fun o _ => o
noncomputable def k_77 (P : Params) : Obj := by
  refine (?f : ∀ o : Obj, (hx.heap_1 P).lookup 77 = some o → Obj) _ rfl
  exact fun o _ => o
noncomputable def k_78 (P : Params) : Obj := by
  refine (?f : ∀ o : Obj, (hx.heap_1 P).lookup 78 = some o → Obj) _ rfl
  exact fun o _ => o
noncomputable def k_79 (P : Params) : Obj := by
  refine (?f : ∀ o : Obj, (hx.heap_1 P).lookup 79 = some o → Obj) _ rfl
  exact fun o _ => o
noncomputable def k_80 (P : Params) : Obj := by
  refine (?f : ∀ o : Obj, (hx.heap_1 P).lookup 80 = some o → Obj) _ rfl
  exact fun o _ => o
noncomputable def k_81 (P : Params) : Obj := by
  refine (?f : ∀ o : Obj, (hx.heap_1 P).lookup 81 = some o → Obj) _ rfl
  exact fun o _ => o
noncomputable def k_82 (P : Params) : Obj := by
  refine (?f : ∀ o : Obj, (hx.heap_1 P).lookup 82 = some o → Obj) _ rfl
  exact fun o _ => o
noncomputable def k_83 (P : Params) : Obj := by
  refine (?f : ∀ o : Obj, (hx.heap_1 P).lookup 83 = some o → Obj) _ rfl
  exact fun o _ => o
noncomputable def k_84 (P : Params) : Obj := by
  refine (?f : ∀ o : Obj, (hx.heap_1 P).lookup 84 = some o → Obj) _ rfl
  exact fun o _ => o
noncomputable def k_85 (P : Params) : Obj := by
  refine (?f : ∀ o : Obj, (hx.heap_1 P).lookup 85 = some o → Obj) _ rfl
  exact fun o _ => o
noncomputable def k_86 (P : Params) : Obj := by
  refine (?f : ∀ o : Obj, (hx.heap_1 P).lookup 86 = some o → Obj) _ rfl
  exact fun o _ => o
noncomputable def k_87 (P : Params) : Obj := by
  refine (?f : ∀ o : Obj, (hx.heap_1 P).lookup 87 = some o → Obj) _ rfl
  exact fun o _ => o
noncomputable def k_88 (P : Params) : Obj := by
  refine (?f : ∀ o : Obj, (hx.heap_1 P).lookup 88 = some o → Obj) _ rfl
  exact fun o _ => o
noncomputable def k_89 (P : Params) : Obj := by
  refine (?f : ∀ o : Obj, (hx.heap_1 P).lookup 89 = some o → Obj) _ rfl
  exact fun o _ => o
noncomputable def k_90 (P : Params) : Obj := by
  refine (?f : ∀ o : Obj, (hx.heap_1 P).lookup 90 = some o → Obj) _ rfl
  exact fun o _ => o
noncomputable def k_91 (P : Params) : Obj := by
  refine (?f : ∀ o : Obj, (hx.heap_1 P).lookup 91 = some o → Obj) _ rfl
  exact fun o _ => o
noncomputable def k_92 (P : Params) : Obj := by
  refine (?f : ∀ o : Obj, (hx.heap_1 P).lookup 92 = some o → Obj) _ rfl
  exact fun o _ => o
noncomputable def k_95 (P : Params) : Obj := by
  refine (?f : ∀ o : Obj, (hx.heap_1 P).lookup 95 = some o → Obj) _ rfl
  exact fun o _ => o
noncomputable def k_96 (P : Params) : Obj := by
  refine (?f : ∀ o : Obj, (hx.heap_1 P).lookup 96 = some o → Obj) _ rfl
  exact fun o _ => o
noncomputable def k_97 (P : Params) : Obj := by
  refine (?f : ∀ o : Obj, (hx.heap_1 P).lookup 97 = some o → Obj) _ rfl
  exact fun o _ => o
noncomputable def k_98 (P : Params) : Obj := by
  refine (?f : ∀ o : Obj, (hx.heap_1 P).lookup 98 = some o → Obj) _ rfl
  exact fun o _ => o
noncomputable def k_99 (P : Params) : Obj := by
  refine (?f : ∀ o : Obj, (hx.heap_1 P).lookup 99 = some o → Obj) _ rfl
  exact fun o _ => o
noncomputable def k_100 (P : Params) : Obj := by
  refine (?f : ∀ o : Obj, (hx.heap_1 P).lookup 100 = some o → Obj) _ rfl
  exact fun o _ => o
noncomputable def k_101 (P : Params) : Obj := by
  refine (?f : ∀ o : Obj, (hx.heap_1 P).lookup 101 = some o → Obj) _ rfl
  exact fun o _ => o
noncomputable def k_102 (P : Params) : Obj := by
  refine (?f : ∀ o : Obj, (hx.heap_1 P).lookup 102 = some o → Obj) _ rfl
  exact fun o _ => o
noncomputable def k_103 (P : Params) : Obj := by
  refine (?f : ∀ o : Obj, (hx.heap_1 P).lookup 103 = some o → Obj) _ rfl
  exact fun o _ => o
noncomputable def k_104 (P : Params) : Obj := by
  refine (?f : ∀ o : Obj, (hx.heap_1 P).lookup 104 = some o → Obj) _ rfl
  exact fun o _ => o
noncomputable def k_105 (P : Params) : Obj := by
  refine (?f : ∀ o : Obj, (hx.heap_1 P).lookup 105 = some o → Obj) _ rfl
  exact fun o _ => o
noncomputable def k_106 (P : Params) : Obj := by
  refine (?f : ∀ o : Obj, (hx.heap_1 P).lookup 106 = some o → Obj) _ rfl
  exact fun o _ => o
noncomputable def k_107 (P : Params) : Obj := by
  refine (?f : ∀ o : Obj, (hx.heap_1 P).lookup 107 = some o → Obj) _ rfl
  exact fun o _ => o
noncomputable def k_108 (P : Params) : Obj := by
  refine (?f : ∀ o : Obj, (hx.heap_1 P).lookup 108 = some o → Obj) _ rfl
  exact fun o _ => o
noncomputable def k_109 (P : Params) : Obj := by
  refine (?f : ∀ o : Obj, (hx.heap_1 P).lookup 109 = some o → Obj) _ rfl
  exact fun o _ => o
noncomputable def k_110 (P : Params) : Obj := by
  refine (?f : ∀ o : Obj, (hx.heap_1 P).lookup 110 = some o → Obj) _ rfl
  exact fun o _ => o
noncomputable def k_111 (P : Params) : Obj := by
  refine (?f : ∀ o : Obj, (hx.heap_1 P).lookup 111 = some o → Obj) _ rfl
  exact fun o _ => o
noncomputable def k_112 (P : Params) : Obj := by
  refine (?f : ∀ o : Obj, (hx.heap_1 P).lookup 112 = some o → Obj) _ rfl
  exact fun o _ => o
noncomputable def k_113 (P : Params) : Obj := by
  refine (?f : ∀ o : Obj, (hx.heap_1 P).lookup 113 = some o → Obj) _ rfl
  exact fun o _ => o
noncomputable def k_114 (P : Params) : Obj := by
  refine (?f : ∀ o : Obj, (hx.heap_1 P).lookup 114 = some o → Obj) _ rfl
  exact fun o _ => o
noncomputable def k_115 (P : Params) : Obj := by
  refine (?f : ∀ o : Obj, (hx.heap_1 P).lookup 115 = some o → Obj) _ rfl
  exact fun o _ => o
noncomputable def k_116 (P : Params) : Obj := by
  refine (?f : ∀ o : Obj, (hx.heap_1 P).lookup 116 = some o → Obj) _ rfl
  exact fun o _ => o
noncomputable def k_117 (P : Params) : Obj := by
  refine (?f : ∀ o : Obj, (hx.heap_1 P).lookup 117 = some o → Obj) _ rfl
  exact fun o _ => o
noncomputable def k_118 (P : Params) : Obj := by
  refine (?f : ∀ o : Obj, (hx.heap_1 P).lookup 118 = some o → Obj) _ rfl
  exact fun o _ => o
noncomputable def k_119 (P : Params) : Obj := by
  refine (?f : ∀ o : Obj, (hx.heap_1 P).lookup 119 = some o → Obj) _ rfl
  exact fun o _ => o
noncomputable def k_120 (P : Params) : Obj := by
  refine (?f : ∀ o : Obj, (hx.heap_1 P).lookup 120 = some o → Obj) _ rfl
  exact fun o _ => o
noncomputable def k_121 (P : Params) : Obj := by
  refine (?f : ∀ o : Obj, (hx.heap_1 P).lookup 121 = some o → Obj) _ rfl
  exact fun o _ => o
noncomputable def k_122 (P : Params) : Obj := by
  refine (?f : ∀ o : Obj, (hx.heap_1 P).lookup 122 = some o → Obj) _ rfl
  exact fun o _ => o
noncomputable def k_123 (P : Params) : Obj := by
  refine (?f : ∀ o : Obj, (hx.heap_1 P).lookup 123 = some o → Obj) _ rfl
  exact fun o _ => o
noncomputable def k_124 (P : Params) : Obj := by
  refine (?f : ∀ o : Obj, (hx.heap_1 P).lookup 124 = some o → Obj) _ rfl
  exact fun o _ => o
noncomputable def k_125 (P : Params) : Obj := by
  refine (?f : ∀ o : Obj, (hx.heap_1 P).lookup 125 = some o → Obj) _ rfl
  exact fun o _ => o
noncomputable def k_126 (P : Params) : Obj := by
  refine (?f : ∀ o : Obj, (hx.heap_1 P).lookup 126 = some o → Obj) _ rfl
  exact fun o _ => o
noncomputable def k_127 (P : Params) : Obj := by
  refine (?f : ∀ o : Obj, (hx.heap_1 P).lookup 127 = some o → Obj) _ rfl
  exact fun o _ => o
noncomputable def k_128 (P : Params) : Obj := by
  refine (?f : ∀ o : Obj, (hx.heap_1 P).lookup 128 = some o → Obj) _ rfl
  exact fun o _ => o
noncomputable def k_129 (P : Params) : Obj := by
  refine (?f : ∀ o : Obj, (hx.heap_1 P).lookup 129 = some o → Obj) _ rfl
  exact fun o _ => o
noncomputable def k_130 (P : Params) : Obj := by
  refine (?f : ∀ o : Obj, (hx.heap_1 P).lookup 130 = some o → Obj) _ rfl
  exact fun o _ => o
noncomputable def k_131 (P : Params) : Obj := by
  refine (?f : ∀ o : Obj, (hx.heap_1 P).lookup 131 = some o → Obj) _ rfl
  exact fun o _ => o
noncomputable def k_132 (P : Params) : Obj := by
  refine (?f : ∀ o : Obj, (hx.heap_1 P).lookup 132 = some o → Obj) _ rfl
  exact fun o _ => o
noncomputable def k_133 (P : Params) : Obj := by
  refine (?f : ∀ o : Obj, (hx.heap_1 P).lookup 133 = some o → Obj) _ rfl
  exact fun o _ => o
noncomputable def k_134 (P : Params) : Obj := by
  refine (?f : ∀ o : Obj, (hx.heap_1 P).lookup 134 = some o → Obj) _ rfl
  exact fun o _ => o
noncomputable def k_135 (P : Params) : Obj := by
  refine (?f : ∀ o : Obj, (hx.heap_1 P).lookup 135 = some o → Obj) _ rfl
  exact fun o _ => o
noncomputable def k_136 (P : Params) : Obj := by
  refine (?f : ∀ o : Obj, (hx.heap_1 P).lookup 136 = some o → Obj) _ rfl
  exact fun o _ => o
noncomputable def k_137 (P : Params) : Obj := by
  refine (?f : ∀ o : Obj, (hx.heap_1 P).lookup 137 = some o → Obj) _ rfl
  exact fun o _ => o
noncomputable def k_138 (P : Params) : Obj := by
  refine (?f : ∀ o : Obj, (hx.heap_1 P).lookup 138 = some o → Obj) _ rfl
  exact fun o _ => o
noncomputable def k_139 (P : Params) : Obj := by
  refine (?f : ∀ o : Obj, (hx.heap_1 P).lookup 139 = some o → Obj) _ rfl
  exact fun o _ => o
noncomputable def k_140 (P : Params) : Obj := by
  refine (?f : ∀ o : Obj, (hx.heap_1 P).lookup 140 = some o → Obj) _ rfl
  exact fun o _ => o
noncomputable def k_142 (P : Params) : Obj := by
  refine (?f : ∀ o : Obj, (hx.heap_1 P).lookup 142 = some o → Obj) _ rfl
  exact fun o _ => o
noncomputable def k_143 (P : Params) : Obj := by
  refine (?f : ∀ o : Obj, (hx.heap_1 P).lookup 143 = some o → Obj) _ rfl
  exact fun o _ => o
noncomputable def k_144 (P : Params) : Obj := by
  refine (?f : ∀ o : Obj, (hx.heap_1 P).lookup 144 = some o → Obj) _ rfl
  exact fun o _ => o
noncomputable def hy_0 (P : Params) : Frag := [(0, PySem.W.boot_o_0 P), (1, PySem.W.boot_o_1 P), (2, PySem.W.boot_o_2 P), (3, k_3 P), (4, PySem.W.boot_o_4 P), (5, PySem.W.boot_o_5 P), (6, PySem.W.boot_o_6 P), (7, PySem.W.boot_o_7 P), (8, PySem.W.boot_o_8 P), (9, PySem.W.boot_o_9 P), (10, PySem.W.boot_o_10 P)]
noncomputable def hy_1 (P : Params) : Frag := [(11, k_11 P), (12, k_12 P), (13, k_13 P), (14, k_14 P), (15, k_15 P), (16, k_16 P), (17, k_17 P), (18, k_18 P), (19, k_19 P), (20, k_20 P), (21, k_21 P)]
noncomputable def hy_2 (P : Params) : Frag := [(22, k_22 P), (24, k_24 P), (25, k_25 P), (26, k_26 P), (27, k_27 P), (28, k_28 P), (39, k_39 P), (40, k_40 P), (41, k_41 P), (42, k_42 P), (43, k_43 P)]
noncomputable def hy_3 (P : Params) : Frag := [(44, k_44 P), (45, k_45 P), (46, k_46 P), (47, k_47 P), (48, k_48 P), (49, k_49 P), (50, k_50 P), (51, k_51 P), (52, k_52 P), (53, k_53 P), (54, k_54 P)]
noncomputable def hy_4 (P : Params) : Frag := [(55, k_55 P), (56, k_56 P), (57, k_57 P), (58, k_58 P), (59, k_59 P), (60, k_60 P), (61, k_61 P), (62, k_62 P), (63, k_63 P), (64, k_64 P), (65, k_65 P)]
noncomputable def hy_5 (P : Params) : Frag := [(66, k_66 P), (67, k_67 P), (68, k_68 P), (69, k_69 P), (70, k_70 P), (71, k_71 P), (72, k_72 P), (73, k_73 P), (74, k_74 P), (75, k_75 P), (76, k_76 P)]
noncomputable def hy_6 (P : Params) : Frag := [(77, k_77 P), (78, k_78 P), (79, k_79 P), (80, k_80 P), (81, k_81 P), (82, k_82 P), (83, k_83 P), (84, k_84 P), (85, k_85 P), (86, k_86 P), (87, k_87 P)]
noncomputable def hy_7 (P : Params) : Frag := [(88, k_88 P), (89, k_89 P), (90, k_90 P), (91, k_91 P), (92, k_92 P), (95, k_95 P), (96, k_96 P), (97, k_97 P), (98, k_98 P), (99, k_99 P), (100, k_100 P)]
noncomputable def hy_8 (P : Params) : Frag := [(101, k_101 P), (102, k_102 P), (103, k_103 P), (104, k_104 P), (105, k_105 P), (106, k_106 P), (107, k_107 P), (108, k_108 P), (109, k_109 P), (110, k_110 P), (111, k_111 P)]
noncomputable def hy_9 (P : Params) : Frag := [(112, k_112 P), (113, k_113 P), (114, k_114 P), (115, k_115 P), (116, k_116 P), (117, k_117 P), (118, k_118 P), (119, k_119 P), (120, k_120 P), (121, k_121 P), (122, k_122 P)]
noncomputable def hy_10 (P : Params) : Frag := [(123, k_123 P), (124, k_124 P), (125, k_125 P), (126, k_126 P), (127, k_127 P), (128, k_128 P), (129, k_129 P), (130, k_130 P), (131, k_131 P), (132, k_132 P), (133, k_133 P)]
noncomputable def hy_11 (P : Params) : Frag := [(134, k_134 P), (135, k_135 P), (136, k_136 P), (137, k_137 P), (138, k_138 P), (139, k_139 P), (140, k_140 P), (142, k_142 P), (143, k_143 P), (144, k_144 P)]
/-- the written part, but for the tables that grow -/
noncomputable def hy (P : Params) : Frag := hy_0 P ++ (hy_1 P ++ (hy_2 P ++ (hy_3 P ++ (hy_4 P ++ (hy_5 P ++ (hy_6 P ++ (hy_7 P ++ (hy_8 P ++ (hy_9 P ++ (hy_10 P ++ (hy_11 P)))))))))))
theorem hy_not0 (P : Params) : (hy P).all (fun p => !(Nat.beq p.1 23 || Nat.beq p.1 141)) = true := by
  kernel_rfl
theorem hy_sub0 (P : Params) : (hd.heap_1 P).map (fun p => (hy P).lookup p.1) = (hd.heap_1 P).map (fun p => some p.2) := by
  kernel_rfl
end Mine
end
section
open PySem PySem.W PySem.Calls PyProof.Rows
theorem Mine.fresh_MK {prog : Program} {w : World} {A : Around} {env : Env} {Q : Flow → Shared → Prop} {E : Value → Shared → Prop} {s : Shared} (h : Q .next s) : wpAny (model prog w) A (execs [] env) Q E s := by
  w_top off
  k_with_none
  walk1
  exact h
end
section
open PySem PySem.W PySem.Calls PyProof.Rows
set_option Elab.async false
namespace Mine

/-- everything that stood in `h` stands in `h'` -/
noncomputable def Over (h h' : Heap) : Prop := ∀ b o, h.get? b = some o → h'.get? b = some o
theorem Over.rfl {h : Heap} : Over h h := fun _ _ e => e
theorem Over.trans {a b c : Heap} (x : Over a b) (y : Over b c) : Over a c := fun _ _ e => y _ _ (x _ _ e)

/-- entries that stand in `h`, and not in the ground `h₀` -/
noncomputable def Led (h₀ h : Heap) (l : List (Addr × Obj)) : Prop := ∀ p ∈ l, h.get? p.1 = some p.2 ∧ h₀.get? p.1 = none
theorem Led.nil {h₀ h : Heap} : Led h₀ h [] := fun _ hp => nomatch hp
theorem Led.cons {h₀ h : Heap} {a : Addr} {o : Obj} {l : List (Addr × Obj)} (h1 : h.get? a = some o) (h2 : h₀.get? a = none) (r : Led h₀ h l) : Led h₀ h ((a, o) :: l) := fun p hp => by
  rcases List.mem_cons.mp hp with rfl | hp
  · exact ⟨h1, h2⟩
  · exact r p hp
theorem Led.over {h₀ h h' : Heap} {l : List (Addr × Obj)} (x : Led h₀ h l) (k : Over h h') : Led h₀ h' l := fun p hp => ⟨k _ _ (x p hp).1, (x p hp).2⟩
theorem Led.append {h₀ h : Heap} {l r : List (Addr × Obj)} (x : Led h₀ h l) (y : Led h₀ h r) : Led h₀ h (l ++ r) := fun p hp => (List.mem_append.mp hp).elim (x p) (y p)
theorem Led.sub {h₀ h : Heap} {l r : List (Addr × Obj)} (x : Led h₀ h l) (y : ∀ p ∈ r, p ∈ l) : Led h₀ h r := fun p hp => x p (y p hp)

theorem fr_over {h₀ h h' : Heap} {L : Addr} {m : Str → Option Value} (F : Fr h₀ L h m) (k : Over h h') : Fr h₀ L h' m := by
  obtain ⟨⟨oL, es, ep, hL, r⟩, kp, ab⟩ := F
  exact ⟨⟨oL, es, ep, k _ _ hL, r⟩, fun b o e => k _ _ (kp b o e), ab⟩
theorem news_over {h₀ h h' : Heap} {L : Addr} {l : List (Addr × Obj)} (N : News h₀ L h l) (k : Over h h') : News h₀ L h' l :=
  fun p hp => ⟨k _ _ (N p hp).1, (N p hp).2⟩

theorem sub_nil {α : Type} {l : List α} : ∀ p ∈ ([] : List α), p ∈ l := fun _ h => nomatch h
theorem sub_cons {α : Type} {a : α} {as l : List α} (h : a ∈ l) (r : ∀ p ∈ as, p ∈ l) : ∀ p ∈ a :: as, p ∈ l := fun p hp => by
  rcases List.mem_cons.mp hp with rfl | hp
  · exact h
  · exact r p hp
theorem led_of_news {g h : Heap} {L : Addr} {news l : List (Addr × Obj)} (N : News g L h news) (hs : ∀ p ∈ l, p ∈ news) : Led g h l := fun p hp => ⟨(N p (hs p hp)).1, (N p (hs p hp)).2.2⟩
theorem Led.down {h₀ g h : Heap} {l : List (Addr × Obj)} (x : Led g h l) (k : Over h₀ g) : Led h₀ h l := fun p hp => ⟨(x p hp).1, by
  cases q : h₀.get? p.1 with
  | none => rfl
  | some o => have := (x p hp).2; rw [k _ _ q] at this; cases this⟩
theorem ne_of_ns {h : Heap} {L a : Addr} {m : Str → Option Value} {o : Obj} (n : h.Ns L m) (e : h.get? a = some o) (hd : ∀ es ep, o.data ≠ .dict es ep) : a ≠ L := by
  rintro rfl
  obtain ⟨o', es, ep, ho, hx, _⟩ := n
  rw [e] at ho
  cases ho
  exact hd es ep hx
/-- new objects join the ledger -/
theorem news_join {g h h' : Heap} {L : Addr} {m : Str → Option Value} {news l : List (Addr × Obj)} (F : Fr g L h m) (N : News g L h' news) (x : Led h h' l) : News g L h' (l ++ news) := fun p hp => by
  rcases List.mem_append.mp hp with hp | hp
  · refine ⟨(x p hp).1, ?_, ?_⟩
    · intro e
      obtain ⟨o', es, ep, ho, _⟩ := F.ns
      have := (x p hp).2
      rw [e, ho] at this
      cases this
    · cases q : g.get? p.1 with
      | none => rfl
      | some o => have := (x p hp).2; rw [F.keep _ _ q] at this; cases this
  · exact N p hp
/-- how a body's end is left: the frame and the ledger at the end, with all that was laid open -/
inductive BackE (g : Heap) (L' : Addr) (exp : List (Addr × Obj)) (h : Heap) (Q : Value → Shared → Prop) (v : Value) (s' : Shared) : Prop
  | mk m' news' (h0 : Fr g L' s'.heap m') (h1 : News g L' s'.heap news') (h2 : (∀ p ∈ exp, p ∈ news')) (h3 : (Over h s'.heap → Q v s'))

section
variable {prog : Program} {w : World} {A : Around} {s : Shared} {h₀ : Heap} {K : Frag} {p : Program} {loose : List Str} {mean : ExcName → Option Value} {mg mb : Str → Option Value}

theorem wpAny_le {α : Type} {M : Model} {A A' : Around} {t : Sem α} {Q : α → Shared → Prop} {E : Value → Shared → Prop} {s : Shared}
    (hh : A.handled = A'.handled) (hd : A.depth ≤ A'.depth) (hf : A'.frames = none) (hg : A'.guards = none) (hu : A.units ≤ A'.units) (h : wpAny M A' t Q E s) : wpAny M A t Q E s :=
  fun Γ p hΓ => h Γ p ⟨hΓ.1.trans hh, Nat.le_trans hΓ.2.1 hd, fun l e => (by rw [hf] at e; cases e), fun l e => (by rw [hg] at e; cases e), Nat.le_trans hΓ.2.2.2.2 hu⟩

theorem enterE {R : Result → Shared → Prop} {name qual : Str} {params : Arguments} {body : List Stmt} {scope : Scope} {dV kV doc pm cdv ct oc : Value} {an od : Option Addr} {osl : Array (Option Value)} {f : Addr} {args : Args} {binds : List (Str × Value)}
    (exp : List (Addr × Obj))
    (X₀ : K.In h₀) (T : Top p loose mean mg mb h₀) (hO : Over h₀ s.heap) (hE : Led h₀ s.heap exp)
    (ho : K.lookup f = some ⟨oc, od, .func (fnOf name qual params body scope dV kV doc pm an cdv ct), osl⟩) (hcd : codeIn K cdv qual = true) (hroom : A.depth < recursionLimit)
    (hbind : BindsTo s (fnOf name qual params body scope dV kV doc pm an cdv ct) args binds) (hloc : ∀ y ∈ binds, scope.names.lookup y.1 = some .local)
    (h : ∀ g L' h₁, Over h₀ g → (∀ a, g.get? a = none → (∀ p ∈ exp, p.1 ≠ a) → s.heap.get? a = none) → K.In g → Top p loose mean mg mb g → Fr g L' h₁ (fun y => binds.reverse.lookup y) → News g L' h₁ exp → (∀ p ∈ exp, p.1 < L') →
      wpAny (model prog w) (A.deeper (envOf qual scope L' f cdv)) (execs body (envOf qual scope L' f cdv))
        (fun fl s' => BackE g L' exp s.heap (fun v s' => R (.ok (.ret v)) s') (match fl with | .ret v => v | _ => .none) s')
        (fun _ _ => False)
        { s with heap := h₁, toks := s.toks + binds.length })
    (hco : scope.isCoroutine = false) (hgen : scope.isGenerator = false) (hk : scope.kind = .function)
    (hcell : ∀ x ∈ scope.names, x.2 ≠ .cell) : codeAny (model prog w) A (.call (.ref f) args) R s := by
  have hs : Over h₀ (hideAll s.heap (exp.map Prod.fst)) := fun b o e => hideAll_get _ (hO b o e) fun q => by
    obtain ⟨p, hp, rfl⟩ := List.mem_map.mp q
    rw [(hE p hp).2] at e; cases e
  refine codeAny_call_def (fd := fnOf name qual params body scope dV kV doc pm an cdv ct) (body := body) (binds := binds) hroom (hO _ _ (X₀ _ _ ho)) rfl ((T.nolimit).keeps hO) (codeRec_of (X₀.keeps hO) hcd) rfl hbind hcell hloc (fun h₁ hns hk₁ => ?_) hco hgen hk
  have hfr : ∀ a, (hideAll s.heap (exp.map Prod.fst)).get? a = none → (∀ p ∈ exp, p.1 ≠ a) → s.heap.get? a = none := fun a e hn => by
    cases q : s.heap.get? a with
    | none => rfl
    | some o =>
      rw [hideAll_get (exp.map Prod.fst) q (fun hm => by obtain ⟨p, hp, rfl⟩ := List.mem_map.mp hm; exact hn p hp rfl)] at e
      cases e
  refine wpAny_mono (h (hideAll s.heap (exp.map Prod.fst)) s.heap.objs.size h₁ hs hfr (X₀.keeps hs) (T.keeps hs) ⟨hns, fun b o e => hk₁ b o (of_hideAll _ e), Nat.le_of_eq (hideAll_size _ _)⟩
    (fun p hp => ⟨hk₁ _ _ (hE p hp).1, Nat.ne_of_lt (Heap.lt_size (hE p hp).1), hideAll_none _ (List.mem_map_of_mem hp)⟩) (fun p hp => Heap.lt_size (hE p hp).1)) (fun fl s' hl => ?_) fun _ _ y => y.elim
  obtain ⟨m', news', F', N', hsub, k⟩ := hl
  refine k fun b o e => ?_
  by_cases hb : b ∈ exp.map Prod.fst
  · obtain ⟨p, hp, rfl⟩ := List.mem_map.mp hb
    have := (hE p hp).1
    rw [e] at this
    cases this
    exact (N' p (hsub p hp)).1
  · exact F'.keep b o (hideAll_get _ e hb)
end
end Mine
end
section
open PySem PySem.W PySem.Calls PyProof.Rows
theorem Mine.fresh_MBase {prog : Program} {w : World} {A : Around} {env : Env} {Q : Flow → Shared → Prop} {E : Value → Shared → Prop} {s : Shared} (h : Q .next s) : wpAny (model prog w) A (execs [] env) Q E s := by
  w_top off
  k_with_none
  walk1
  exact h
end
section
open PySem PySem.W PySem.Calls PyProof.Rows
set_option Elab.async false
namespace Mine
/-- the datum that a Whitespace stands for -/
structure Ws where
  raw : Str
  n : Int
  nt : Int
  cnt : List Int
  b : Int
structure WsR where
  x : Addr
  dx : Addr
  t : Addr
  u : Addr
  k1 : Tok
  k2 : Tok
  k3 : Tok
  k4 : Tok
  k5 : Tok
  t1 : Tok
  t2 : Tok
  t3 : Tok
  t4 : Tok
  vs : List Value
noncomputable abbrev tupObj (vs : List Value) : Obj := { cls := .type "tuple", data := .seq vs.toArray }
noncomputable abbrev wsEntries (P : Params) (r : WsR) (c : Ws) : List DictEntry :=
  [⟨PyData.keyHash P (Str.ofString "raw"), .str (Str.ofString "raw") r.k1, .str c.raw r.t1⟩,
   ⟨PyData.keyHash P (Str.ofString "n"), .str (Str.ofString "n") r.k2, .int c.n r.t2⟩,
   ⟨PyData.keyHash P (Str.ofString "nt"), .str (Str.ofString "nt") r.k3, .int c.nt r.t3⟩,
   ⟨PyData.keyHash P (Str.ofString "norm"), .str (Str.ofString "norm") r.k4, .ref r.t⟩,
   ⟨PyData.keyHash P (Str.ofString "is_simple"), .str (Str.ofString "is_simple") r.k5, .bool (decide (c.cnt.length ≤ 1))⟩]
noncomputable abbrev wsLed (P : Params) (r : WsR) (c : Ws) : List (Addr × Obj) :=
  [(r.x, instObj 90 r.dx), (r.dx, dictOf (wsEntries P r c) 5), (r.t, tupObj [.ref r.u, .int c.b r.t4]), (r.u, tupObj r.vs)]
/-- the value `v` is a Whitespace of the datum `c` -/
noncomputable def WsAt (P : Params) (h₀ h : Heap) (r : WsR) (c : Ws) : Prop := Led h₀ h (wsLed P r c) ∧ IntsAre r.vs c.cnt

noncomputable abbrev A1 : Around := { handled := none, depth := 900, frames := none, guards := none, units := 9000 }
end Mine
end
section
open PySem PySem.W PySem.Calls PyProof.Rows
theorem Mine.fresh_MWs {prog : Program} {w : World} {A : Around} {env : Env} {Q : Flow → Shared → Prop} {E : Value → Shared → Prop} {s : Shared} (h : Q .next s) : wpAny (model prog w) A (execs [] env) Q E s := by
  w_top off
  k_with_none
  walk1
  exact h
end
section
open PySem PySem.W PySem.Calls PyProof.Rows
set_option Elab.async false
namespace Mine
theorem len_tupK {prog : Program} {w : World} {A : Around} {E : Value → Shared → Prop} {s : Shared} {g : Heap} {L t : Addr} {news : List (Addr × Obj)} {vs : List Value} {ns : List Int} {Q : Value → Shared → Prop}
    (N : News g L s.heap news) (hm : (t, tupObj vs) ∈ news) (hi : IntsAre vs ns) (hl : ns.length < 2 ^ 62)
    (h : Q (.int (ns.length : Nat) (s.toks + 1)) { s with toks := s.toks + 1 + 1 }) : wpAny (model prog w) A (call (.builtin "len") [.ref t]) Q E s := by
  have e : vs.toArray.size = ns.length := by simp [hi.length]
  refine len_tuple (News.isTup N hm) (by omega) ?_
  rw [e]
  exact h
theorem fill : PySem.Challenge.rw_mq0248_01 = PySem.Challenge.rw_mq0248_01 ∧ Mine.hd.heap_1 = Mine.hd.heap_1 := by
  k_fill
  exact ⟨rfl, rfl⟩
end Mine
end
section
open PySem PySem.W PySem.Calls PyProof.Rows
theorem Mine.fresh_MHelp {prog : Program} {w : World} {A : Around} {env : Env} {Q : Flow → Shared → Prop} {E : Value → Shared → Prop} {s : Shared} (h : Q .next s) : wpAny (model prog w) A (execs [] env) Q E s := by
  w_top off
  k_with_none
  walk1
  exact h
end
section
open PySem PySem.W PySem.Calls PyProof.Rows
set_option Elab.async false
namespace Mine
inductive InvEndL (h₀ : Heap) (L : Addr) (J : (Str → Option Value) → List (Addr × Obj) → Prop) (q : Addr × Obj) (s₁ s₂ : Shared) : Prop
  | mk h' tk m' news' nx (h0 : s₂ = { s₁ with heap := h', toks := tk }) (h1 : Fr h₀ L h' m') (h2 : News h₀ L h' news') (h3 : (∀ p ∈ nx, p ∈ news')) (h4 : q ∈ news') (h5 : (∀ p ∈ nx, p.1 ≠ q.1)) (h6 : J m' nx)
noncomputable def InvPostL (h₀ : Heap) (L : Addr) (J : (Str → Option Value) → List (Addr × Obj) → Prop) (q : Addr × Obj) (s₁ : Shared) (Q : Flow → Shared → Prop) (f : Flow) (s₂ : Shared) : Prop :=
  match f with
  | .ret v => Q (.ret v) s₂
  | .brk => Q .next s₂
  | _ => InvEndL h₀ L J q s₁ s₂
section
variable {prog : Program} {w : World} {A : Around} {E : Value → Shared → Prop} {s : Shared} {env : Env} {h₀ : Heap} {x : Str} {body : List Stmt} {Q : Flow → Shared → Prop}
theorem InvEndL.intro {L : Addr} {J : (Str → Option Value) → List (Addr × Obj) → Prop} {m' : Str → Option Value} {news' : List (Addr × Obj)} (nx : List (Addr × Obj)) {q : Addr × Obj} {s₁ : Shared} {h' : Heap} {tk : Nat} (F : Fr h₀ L h' m') (N : News h₀ L h' news')
    (hn : ∀ p ∈ nx, p ∈ news') (hq : q ∈ news') (ha : ∀ p ∈ nx, p.1 ≠ q.1) (hj : J m' nx) : InvEndL h₀ L J q s₁ { s₁ with heap := h', toks := tk } := ⟨h', tk, m', news', nx, rfl, F, N, hn, hq, ha, hj⟩
theorem fr_ps {L : Addr} {h : Heap} {m₁ : Str → Option Value} {ps : List (Str × Value)} {v : Value} (h1 : ∀ p ∈ ps, m₁ p.1 = some p.2)
    (F : Fr h₀ L h (fun y => if y = x then some v else m₁ y)) : Fr h₀ L h (fun y => if y = x then some v else kstB m₁ ps y) := by
  have em : (fun y => if y = x then some v else kstB m₁ ps y) = fun y => if y = x then some v else m₁ y := by
    funext y
    by_cases hy : y = x
    · rw [if_pos hy, if_pos hy]
    · rw [if_neg hy, if_neg hy]
      exact kstB_eq h1 fun _ => rfl
  rw [em]
  exact F
theorem fr_ps' {L : Addr} {h : Heap} {m₁ : Str → Option Value} {ps : List (Str × Value)} (h1 : ∀ p ∈ ps, m₁ p.1 = some p.2)
    (F : Fr h₀ L h m₁) : Fr h₀ L h (kstB m₁ ps) := by
  have em : kstB m₁ ps = m₁ := funext fun y => kstB_eq h1 fun _ => rfl
  rw [em]
  exact F
/-- a loop whose iterator is one new object of the ledger's, by an invariant over the turns, the names and the ledger, which may change as it will -/
theorem loop_gen {I : Addr} {fp : List Addr} {n : Nat} {P : Nat → Value → Prop} {St : Nat → Heap → Prop} {m₀ : Str → Option Value} {news : List (Addr × Obj)} (J : Nat → (Str → Option Value) → List (Addr × Obj) → Prop)
    (W : Walks prog w A I fp [I] n P St) (hlive : ∀ i h, St i h → ∃ o, h.get? I = some o) (hIf : I ∈ fp) (hLf : env.locals ∉ fp) (hI0 : h₀.get? I = none) (hnw : ∀ p ∈ news, p.1 ≠ I) (hst : St 0 s.heap)
    (F : Fr h₀ env.locals s.heap m₀) (N : News h₀ env.locals s.heap news) (hj : J 0 m₀ news)
    (turn : ∀ i v m₁ news₁ h tk o, i < n → P i v → J i m₁ news₁ → (∀ p ∈ news₁, p.1 ≠ I) → (∀ b ∈ fp, b ≠ I → h₀.get? b = none → ∀ o, h.get? b = some o → True) →
      Fr h₀ env.locals h (fun y => if y = x then some v else m₁ y) → News h₀ env.locals h ((I, o) :: news₁) → St (i + 1) h →
      wpAny (model prog w) A (execs body env) (fun f s₂ => InvPostL h₀ env.locals (J (i + 1)) (I, o) { s with heap := h, toks := tk } Q f s₂ ) E { s with heap := h, toks := tk })
    (hother : ∀ b ∈ fp, b ≠ I → ∃ o, h₀.get? b = some o)
    (done : ∀ m₁ news₁ h tk, J n m₁ news₁ → Fr h₀ env.locals h m₁ → News h₀ env.locals h news₁ → Q .next { s with heap := h, toks := tk }) :
    LoopAtV prog w A h₀ env x body Q E (.ref I) s := by
  refine ⟨I, fp, [I], n, P, St, m₀, news, J, rfl, W, hLf, ?_, ?_, hst, F, N, hj, ?_, ?_⟩
  · intro b hb
    rw [List.mem_singleton.mp hb]
    exact hI0
  · intro p hp hm
    exact hnw p hp (List.mem_singleton.mp hm)
  · rintro i v m₁ news₁ s₁ own ⟨hh', tk', rfl⟩ hin hP hJ hoff hown hat hall hst' F₁ N₁
    obtain ⟨o, ho⟩ := hlive _ _ hst'
    have hio : (I, o) ∈ own := hall I hIf hI0 o ho
    have hone : ∀ p ∈ own, p = (I, o) := own_one hown (fun b hb => by
      by_cases e : b = I
      · exact .inl e
      · exact .inr (hother b hb e)) ho N₁
    refine wpAny_mono (turn i v m₁ news₁ hh' tk' o hin hP hJ (fun p hp e => hoff p hp (List.mem_singleton.mpr e)) (fun _ _ _ _ _ _ => trivial) F₁ (news_one hio N₁) hst') (fun f s₂ p => ?_) fun _ _ e => e
    have fin : InvEndL h₀ env.locals (J (i + 1)) (I, o) { s with heap := hh', toks := tk' } s₂ → LoopStepU h₀ env.locals [I] own (J (i + 1)) { s with heap := hh', toks := tk' } .next s₂ := by
      rintro ⟨h', tk, m', news', nx, e, F', N', hn, hq, ha, hm⟩
      refine ⟨rfl, h', tk, m', nx, e, F', fun p hp => N' p ((List.mem_append.mp hp).elim (fun q => by rw [hone p q]; exact hq) (hn p)), fun p hp hq' => ?_, hm⟩
      exact ha p hp (List.mem_singleton.mp hq')
    cases f with
    | ret v => exact .ret p
    | brk => exact .brk p
    | next => exact .next (fin p)
    | cont => exact .cont (fin p)
  · rintro h' tk m' news' F' N' _ hJ
    exact done m' news' h' tk hJ F' N'
/-- a loop over a text -/
theorem text_gen {xt : Str} {tx : Tok} {m₀ : Str → Option Value} {news : List (Addr × Obj)} (J : List Int → (Str → Option Value) → List (Addr × Obj) → Prop)
    (hh : A.handled = none) (F : Fr h₀ env.locals s.heap m₀) (N : News h₀ env.locals s.heap news) (hj : J [] m₀ news)
    (turn : ∀ (pre post : List Int) (n : Nat) t m₁ news₁ h tk I o, KStt.codes xt = pre ++ (n : Int) :: post → J pre m₁ news₁ → (∀ p ∈ news₁, p.1 ≠ I) →
      Fr h₀ env.locals h (fun y => if y = x then some (.str ⟨#[n]⟩ t) else m₁ y) → News h₀ env.locals h ((I, o) :: news₁) →
      wpAny (model prog w) A (execs body env) (fun f s₂ => InvPostL h₀ env.locals (J (pre ++ [(n : Int)])) (I, o) { s with heap := h, toks := tk } Q f s₂) E { s with heap := h, toks := tk })
    (done : ∀ m₁ news₁ h tk, J (KStt.codes xt) m₁ news₁ → Fr h₀ env.locals h m₁ → News h₀ env.locals h news₁ → Q .next { s with heap := h, toks := tk }) :
    wpAny (model prog w) A (pyIter (.str xt tx)) (fun it s₂ => LoopAtV prog w A h₀ env x body Q E it s₂) E s := by
  have hI0 : h₀.get? s.heap.objs.size = none := next_is_new F
  have key : ∀ (o : Obj) (ty : String), Walks prog w A s.heap.objs.size [s.heap.objs.size] [s.heap.objs.size] xt.cps.size (SignAt xt) (fun i h => h.IsStrIter s.heap.objs.size ty xt tx i) → Heap.IsStrIter (s.heap.push o) s.heap.objs.size ty xt tx 0 →
      LoopAtV prog w A h₀ env x body Q E (.ref s.heap.objs.size) { s with heap := s.heap.push o } := by
    intro o ty W hst
    refine loop_gen (fun i m nx => J ((KStt.codes xt).take i) m nx) W (fun i h q => ⟨_, q.choose_spec.1⟩) (List.mem_singleton.mpr rfl) ?_ hI0 ?_ hst (F.push _) (fun p hp => ⟨Heap.get?_push_of_some _ (N p hp).1, (N p hp).2⟩) (by simpa using hj) ?_ ?_ ?_
    · intro hm
      exact absurd F.ns.lt ((List.mem_singleton.mp hm) ▸ Nat.lt_irrefl _)
    · intro p hp hI
      exact absurd (Heap.lt_size (N p hp).1) (hI ▸ Nat.lt_irrefl _)
    · rintro i v m₁ news₁ h tk o' hi ⟨n, u, hn, rfl⟩ hJ hne _ F₁ N₁ _
      have hn' := KStt.code_at hn
      have hs : (KStt.codes xt).take (i + 1) = (KStt.codes xt).take i ++ [(n : Int)] := by simp [List.take_add_one, hn']
      have e : KStt.codes xt = (KStt.codes xt).take i ++ (n : Int) :: (KStt.codes xt).drop (i + 1) := by
        have ht := List.take_append_drop (i + 1) (KStt.codes xt)
        rw [hs, List.append_assoc] at ht
        exact ht.symm
      rw [hs]
      exact turn _ _ n u m₁ news₁ h tk _ o' e hJ hne F₁ N₁
    · intro b hb hne
      exact absurd (List.mem_singleton.mp hb) hne
    · intro m₁ news₁ h tk hJ F₁ N₁
      have hl : xt.cps.size = (KStt.codes xt).length := (KStt.codes_length xt).symm
      rw [hl, List.take_length] at hJ
      exact done m₁ news₁ h tk hJ F₁ N₁
  cases ha : xt.cps.all (· < 128)
  · exact wpAny_pyIter_wide ha (key _ _ (Walks.strWide hh _ xt tx) ⟨_, Heap.get?_push_size _ rfl, rfl, rfl⟩)
  · exact wpAny_pyIter_ascii ha (key _ _ (Walks.strAscii hh _ xt tx) ⟨_, Heap.get?_push_size _ rfl, rfl, rfl⟩)
end
end Mine
end
section
open PySem PySem.W PySem.Calls PyProof.Rows
theorem Mine.fresh_MLoop {prog : Program} {w : World} {A : Around} {env : Env} {Q : Flow → Shared → Prop} {E : Value → Shared → Prop} {s : Shared} (h : Q .next s) : wpAny (model prog w) A (execs [] env) Q E s := by
  w_top off
  k_with_none
  walk1
  exact h
end
section
open PySem PySem.W PySem.Calls PyProof.Rows
set_option Elab.async false
set_option maxRecDepth 100000
set_option maxHeartbeats 8000000
set_option pp.deepTerms false
set_option pp.deepTerms.threshold 4
namespace Mine
theorem words_F1_om : True := by
  k_with "om" => (first | with_reducible exact Nat.sub_le _ _ | with_reducible exact Nat.lt_succ_self _ | with_reducible exact Nat.le_add_right _ _ | with_reducible exact Nat.zero_le _ | with_reducible exact Nat.le_of_lt (by with_reducible assumption) | with_reducible exact Nat.lt_of_lt_of_le (by with_reducible assumption) (by with_reducible assumption) | with_reducible exact Nat.lt_of_le_of_lt (by with_reducible assumption) (by with_reducible assumption) | with_reducible exact Nat.le_trans (by with_reducible assumption) (by with_reducible assumption) | with_reducible exact Nat.lt_trans (by with_reducible assumption) (by with_reducible assumption) | with_reducible exact Nat.ne_of_lt (by with_reducible assumption) | with_reducible exact Nat.ne_of_gt (by with_reducible assumption) | with_reducible exact Ne.symm (by with_reducible assumption) | with_reducible exact Nat.ne_of_lt (Nat.lt_trans (by with_reducible assumption) (by with_reducible assumption)) | with_reducible exact Nat.ne_of_gt (Nat.lt_trans (by with_reducible assumption) (by with_reducible assumption)) | with_reducible exact Nat.lt_of_not_le (by with_reducible assumption) | with_reducible exact Nat.le_of_not_lt (by with_reducible assumption) | with_reducible exact Nat.lt_succ_of_lt (by with_reducible assumption) | with_reducible exact Nat.le_of_lt_succ (by with_reducible assumption) | with_reducible exact Nat.succ_le_of_lt (by with_reducible assumption) | with_reducible exact Nat.le_of_succ_le (by with_reducible assumption) | with_reducible exact Nat.lt_of_le_of_lt (by with_reducible assumption) (by decide) | with_reducible exact Nat.le_trans (by with_reducible assumption) (by decide) | with_reducible exact Nat.lt_trans (by with_reducible assumption) (by decide) | with_reducible exact Nat.le_trans (Nat.le_of_lt (by with_reducible assumption)) (by decide) | with_reducible exact Int.le_of_lt (by with_reducible assumption) | with_reducible exact Int.lt_of_lt_of_le (by with_reducible assumption) (by with_reducible assumption) | with_reducible exact Int.lt_of_le_of_lt (by with_reducible assumption) (by with_reducible assumption) | with_reducible exact Int.le_trans (by with_reducible assumption) (by with_reducible assumption) | with_reducible exact Int.lt_trans (by with_reducible assumption) (by with_reducible assumption) | with_reducible exact Int.lt_of_le_of_lt (by with_reducible assumption) (by decide) | with_reducible exact Int.lt_trans (by with_reducible assumption) (by decide) | with_reducible exact Int.not_le.mp (by with_reducible assumption) | with_reducible exact Int.not_lt.mp (by with_reducible assumption) | with_reducible exact og1 (by with_reducible assumption) (by with_reducible assumption) | with_reducible exact og2 (by with_reducible assumption) (by with_reducible assumption) | with_reducible exact og3 (by with_reducible assumption) (by with_reducible assumption) (by with_reducible assumption) | with_reducible exact og4 (by with_reducible assumption) (by with_reducible assumption) | with_reducible exact og5 (by with_reducible assumption) (by with_reducible assumption) | with_reducible exact og6 (by with_reducible assumption) (by with_reducible assumption) | with_reducible exact Int.natCast_nonneg _ | with_reducible exact og7 _ | with_reducible exact oc1 (by with_reducible assumption) | with_reducible exact oc2 (by with_reducible assumption) | with_reducible exact oc3 (by with_reducible assumption) | with_reducible exact oc4 (by with_reducible assumption) | with_reducible exact oc5 (by with_reducible assumption) | with_reducible exact oe2 (by with_reducible assumption) | with_reducible exact oe3 (by with_reducible assumption) | with_reducible exact oe4 (by with_reducible assumption) | with_reducible exact oe5 (by with_reducible assumption) | with_reducible exact oe6 (by with_reducible assumption) | with_reducible exact Ne.symm (oc1 (by with_reducible assumption)) | with_reducible exact Ne.symm (oc2 (by with_reducible assumption)) | with_reducible exact Ne.symm (oc3 (by with_reducible assumption)) | with_reducible exact Ne.symm (oc4 (by with_reducible assumption)) | with_reducible exact Ne.symm (oc5 (by with_reducible assumption)) | with_reducible exact Ne.symm (oe2 (by with_reducible assumption)) | with_reducible exact Ne.symm (oe3 (by with_reducible assumption)) | with_reducible exact Ne.symm (oe4 (by with_reducible assumption)) | with_reducible exact Ne.symm (oe5 (by with_reducible assumption)) | with_reducible exact Ne.symm (oe6 (by with_reducible assumption)) | fail "om")
  trivial
theorem words_F1_1 : True := by
  k_with "k_steps" => (repeat' (first | (k_unfold; (try (refine (?_ : (fun T2 T1 : Prop => T2 → (T2 → T1) → T1) _ _) ?_ (by intro h; dsimp only; exact h); exact fun p _ => p))) | (k_end; kc_close) | (with_reducible refine st_x ‹Shared› fun _ => ?_; walk1) | ((refine (?_ : (fun T2 T1 : Prop => T2 → (T2 → T1) → T1) _ _) ?_ (by intro h; dsimp only; exact h); exact fun p _ => p); walk1) | walk1 | (leave1; walk_say "STEP leave1"; (try (refine (?_ : (fun T2 T1 : Prop => T2 → (T2 → T1) → T1) _ _) ?_ (by intro h; dsimp only; exact h); exact fun p _ => p))) | fail "no step"))
  trivial
theorem fillF1 : PySem.Challenge.rw_mq0248_01 = PySem.Challenge.rw_mq0248_01 ∧ Mine.hd.heap_1 = Mine.hd.heap_1 := by
  k_fill
  exact ⟨rfl, rfl⟩
theorem words_F1_2 : True := by
  k_with "call builtin:len" => (k_here; (with_reducible show wpAny _ _ (call (Value.builtin "len") [Value.ref _]) _ _ _); (k_dflt (refine len_tupK (by k_asm) (by k_mem) (by assumption) (by omega) ?_; k_whole)))
  trivial
theorem fdiv_bound {a b : Int} (h0 : 0 ≤ a) (hb : 1 ≤ b) : 0 ≤ Int.fdiv a b ∧ Int.fdiv a b ≤ a := by
  rw [Int.fdiv_eq_ediv_of_nonneg a (Int.le_trans (by decide) hb)]
  exact ⟨Int.ediv_nonneg h0 (Int.le_trans (by decide) hb), Int.ediv_le_self b h0⟩
noncomputable def lvlSum (cnt : List Int) (ts : Int) (pre : List Int) : Int := (pre.map fun i => Int.fdiv i ts * cnt.getD i.toNat 0).sum
theorem lvlSum_nil (cnt : List Int) (ts : Int) : lvlSum cnt ts [] = 0 := rfl
theorem lvlSum_snoc (cnt : List Int) (ts : Int) (pre : List Int) (i : Int) : lvlSum cnt ts (pre ++ [i]) = lvlSum cnt ts pre + Int.fdiv i ts * cnt.getD i.toNat 0 := by
  simp [lvlSum]
theorem fdiv_mul_ok {a b x : Int} (h0 : 0 ≤ a) (ha : a < 2 ^ 63) (hb : 1 ≤ b) : PySem.IntMulOk (Int.fdiv a b) x := by
  have := fdiv_bound h0 hb
  exact PySem.IntMulOk.of_left (PySem.intBits_le_64 (by omega) (Int.lt_of_le_of_lt this.2 (Int.lt_trans ha (by decide))))
theorem words_F1_m : True := by
  k_with "binaryOp Mult int int" => (k_here; (refine PyProof.Rows.mul_int ?_ (fdiv_mul_ok (by omega) (by omega) (by omega))))
  trivial
noncomputable def level (c : Ws) (ts : Int) : Int := c.b + ts * (lvlSum c.cnt ts (rangeKs ts ((c.cnt.length : Int) - ts).toNat) + c.nt)
section
variable {prog : Program} {w : World} {h₀ : Heap} {s : Shared} {p : Program} {loose : List Str} {mean : ExcName → Option Value} {mg mb : Str → Option Value} {r : WsR} {c : Ws} {ts : Int} {tk : Tok} {Q : Value → Shared → Prop} {E : Value → Shared → Prop}
noncomputable def longest (c : Ws) : Int := max ((c.cnt.length : Int) - 1) c.b
theorem longest_lo {c : Ws} (h : 0 ≤ c.b) : 0 ≤ longest c := Int.le_trans h (Int.le_max_right _ _)
theorem longest_hi {c : Ws} (h : c.cnt.length < 50) (h2 : c.b < 50) : longest c < 50 := Int.max_lt.mpr ⟨Int.lt_of_le_of_lt (Int.sub_le_self _ (by decide)) (Int.ofNat_lt.mpr h), h2⟩
theorem ite_lt {a b n : Int} (ha : a < n) (hb : b < n) : (if b > a then b else a) < n := by split <;> assumption
theorem ite_ge {a b n : Int} (ha : n ≤ a) (hb : n ≤ b) : n ≤ (if b > a then b else a) := by split <;> assumption
theorem lt_51 {m : Int} {n : Nat} (h : m < 50) (l : n < (m + 1 + 1 - 1).toNat) : (n : Int) < 51 := Int.lt_trans (Int.lt_of_lt_of_le (Int.lt_toNat.mp l) (Int.le_of_eq (Int.add_sub_cancel (m + 1) 1))) (Int.add_lt_add_right h 1)
theorem ts_100 {m k : Int} {n : Nat} (h : m < 50) (e : k = 1 + (n : Int)) (l : n < (m + 1 + 1 - 1).toNat) : k < 100 := e ▸ Int.lt_trans (Int.add_lt_add_left (lt_51 h l) 1) (by decide)
theorem f_k {k ts : Int} {p n : Nat} (e : k = ts + p) (h : p < ((n : Int) - ts).toNat) : k < n := e ▸ Int.add_lt_of_lt_sub_left (Int.lt_toNat.mp h)
theorem f_k2 {k ts : Int} {p n : Nat} (e : k = ts + p) (h : p < ((n : Int) - ts).toNat) (h1 : n < 100) : k < 2 ^ 63 := Int.lt_trans (f_k e h) (Int.ofNat_lt.mpr (Nat.lt_trans h1 (by decide)))
theorem f_0 {k ts : Int} {p : Nat} (e : k = ts + p) (h : 1 ≤ ts) : 0 ≤ k := e ▸ Int.add_nonneg (Int.le_trans (by decide) h) (Int.natCast_nonneg _)
theorem f_a {ts : Int} (h : 1 ≤ ts) (h1 : ts < 100) : ts.natAbs < 1073741824 := by
  obtain ⟨n, rfl⟩ := Int.eq_ofNat_of_zero_le (Int.le_trans (by decide) h)
  exact Nat.lt_trans (Int.ofNat_lt.mp h1) (by decide)
theorem words_F1_o : True := by
  k_with "om" => (first | with_reducible exact f_k2 (by with_reducible assumption) (by with_reducible assumption) (by with_reducible assumption) | with_reducible exact f_k (by with_reducible assumption) (by with_reducible assumption) | with_reducible exact f_0 (by with_reducible assumption) (by with_reducible assumption) | with_reducible exact f_a (by with_reducible assumption) (by with_reducible assumption) | fail "om")
  trivial
theorem ts_200 {m k : Int} {n : Nat} (h : m < 50) (e : k = 2 + (n : Int)) (l : n < (m + 1 + 1 - 2).toNat) : k < 100 := e ▸ Int.lt_trans (Int.add_lt_add_left (Int.lt_trans (Int.lt_of_lt_of_le (Int.lt_toNat.mp l) (Int.le_of_eq ((congrArg (· - 2) (Int.add_assoc m 1 1)).trans (Int.add_sub_cancel m 2)))) h) 2) (by decide)
theorem vs_fit {m : Int} {n a b : Nat} (h : m < 50) (l : n < (m + 1 + 1 - 1).toNat) (h1 : a ≤ n) (h2 : b = a) : b ≤ 16777216 := h2 ▸ Nat.le_trans h1 (Nat.le_trans (Nat.le_of_lt (Int.ofNat_lt.mp (lt_51 h l))) (by decide))
theorem m_lo {m : Int} (h : 0 ≤ m) : -2 ^ 62 ≤ m + 1 + 1 := Int.le_trans (by decide) (Int.add_nonneg (Int.add_nonneg h (by decide)) (by decide))
theorem m_hi {m : Int} (h : m < 50) : m + 1 + 1 < 2 ^ 62 := Int.lt_trans (Int.add_lt_add_right (Int.add_lt_add_right h 1) 1) (by decide)
theorem longest_spec (X₀ : (hd.heap_1 w.params).In h₀) (T : Top p loose mean mg mb h₀) (hO : Over h₀ s.heap) (I : WsAt w.params h₀ s.heap r c) (hl : c.cnt.length < 100)
    (hQ : ∀ h' tk' t, Over s.heap h' → Q (.int (longest c) t) { s with heap := h', toks := tk' }) :
    wpAny (model prog w) A1 (call (.ref 52) [.ref r.x]) Q E s := by
  obtain ⟨hL, hI⟩ := I
  refine wpAny_call ?_
  refine enterE (wsLed w.params r c) X₀ T hO hL (f := 52) (by k_is) (by k_is) (by decide) (binds := [(Str.ofString "self", .ref r.x)]) (BindsTo.of_eq rfl) (locs rfl) ?_ rfl rfl rfl (by decide)
  intro g L' h₁ hG hfr X' T' F' N' l1
  k_lt l1
  (refine (?_ : (fun T2 T1 : Prop => T2 → (T2 → T1) → T1) _ _) ?_ (by intro h; dsimp only; exact h); exact fun p _ => p)
  k_steps
  ((refine (?_ : (fun T2 T1 : Prop => T2 → (T2 → T1) → T1) _ _) ?_ (by intro h; dsimp only; exact h); exact fun p _ => p); refine ⟨_, _, by assumption, by assumption, fun _ h => h, fun hk => ?_⟩)
  have e : ∀ a b : Int, (if b > a then b else a) = max a b := fun a b => by
    split
    · rename_i h; exact (Int.max_eq_right (Int.le_of_lt h)).symm
    · rename_i h; exact (Int.max_eq_left (Int.not_lt.mp h)).symm
  rw [e]
  exact hQ _ _ _ hk
theorem indent_spec (X₀ : (hd.heap_1 w.params).In h₀) (T : Top p loose mean mg mb h₀) (hO : Over h₀ s.heap) (I : WsAt w.params h₀ s.heap r c) (hl : c.cnt.length < 100) (ht : 1 ≤ ts) (ht2 : ts < 100)
    (hQ : ∀ h' tk' t, Over s.heap h' → Q (.int (level c ts) t) { s with heap := h', toks := tk' }) :
    wpAny (model prog w) A1 (call (.ref 59) [.ref r.x, .int ts tk]) Q E s := by
  obtain ⟨hL, hI⟩ := I
  refine wpAny_call ?_
  refine enterE (wsLed w.params r c) X₀ T hO hL (f := 59) (by k_is) (by k_is) (by decide) (binds := [(Str.ofString "self", .ref r.x), (Str.ofString "tabsize", .int ts tk)]) (BindsTo.of_eq rfl) (locs rfl) ?_ rfl rfl rfl (by decide)
  intro g L' h₁ hG hfr X' T' F' N' l1
  k_lt l1
  (refine (?_ : (fun T2 T1 : Prop => T2 → (T2 → T1) → T1) _ _) ?_ (by intro h; dsimp only; exact h); exact fun p _ => p)
  k_with "pyIter ref" => k_state (fun pre il => il = lvlSum c.cnt ts pre) "il"
  k_with "state" => first | exact (lvlSum_nil _ _).symm | (rw [lvlSum_snoc]; simp_all)
  k_steps
  ((refine (?_ : (fun T2 T1 : Prop => T2 → (T2 → T1) → T1) _ _) ?_ (by intro h; dsimp only; exact h); exact fun p _ => p); refine ⟨_, _, by assumption, by assumption, fun _ h => h, fun hk => ?_⟩; subst kInv; exact hQ _ _ _ hk)
end
end Mine
end
section
open PySem PySem.W PySem.Calls PyProof.Rows
theorem Mine.fresh_F1 {prog : Program} {w : World} {A : Around} {env : Env} {Q : Flow → Shared → Prop} {E : Value → Shared → Prop} {s : Shared} (h : Q .next s) : wpAny (model prog w) A (execs [] env) Q E s := by
  w_top off
  k_with_none
  walk1
  exact h
end
section
open PySem PySem.W PySem.Calls PyProof.Rows
set_option Elab.async false
set_option maxRecDepth 100000
set_option maxHeartbeats 8000000
set_option pp.deepTerms false
set_option pp.deepTerms.threshold 4
namespace Mine
theorem words_F2_1 : True := by
  k_with "k_steps" => (repeat' (first | (k_unfold; (try (refine (?_ : (fun T2 T1 : Prop => T2 → (T2 → T1) → T1) _ _) ?_ (by intro h; dsimp only; exact h); exact fun p _ => p))) | (k_end; kc_close) | (with_reducible refine st_x ‹Shared› fun _ => ?_; walk1) | ((refine (?_ : (fun T2 T1 : Prop => T2 → (T2 → T1) → T1) _ _) ?_ (by intro h; dsimp only; exact h); exact fun p _ => p); walk1) | walk1 | (leave1; walk_say "STEP leave1"; (try (refine (?_ : (fun T2 T1 : Prop => T2 → (T2 → T1) → T1) _ _) ?_ (by intro h; dsimp only; exact h); exact fun p _ => p))) | fail "no step"))
  trivial
theorem fillF2 : PySem.Challenge.rw_mq0248_01 = PySem.Challenge.rw_mq0248_01 ∧ Mine.hd.heap_1 = Mine.hd.heap_1 := by
  k_fill
  exact ⟨rfl, rfl⟩
theorem shaped_norm (cnt : List Int) (b : Int) : SeqAt.shaped (.tuple [.tuple (cnt.map PyData.int), .int b]) = true := by
  simp [SeqAt.shaped, PyData.canLay0, PyData.canLayAll0, PyData.depth, PyData.depthAll, ke_canLayAll0, ke_depthAll]
theorem eqv_norm (cnt cnt' : List Int) (b b' : Int) : PyData.eqv (.tuple [.tuple (cnt.map PyData.int), .int b]) (.tuple [.tuple (cnt'.map PyData.int), .int b']) = decide (cnt = cnt' ∧ b = b') := by
  simp only [PyData.eqv, PyData.eqvAll, ked_eqvAll, Bool.and_true]
  by_cases h1 : cnt = cnt' <;> by_cases h2 : b = b' <;> simp [h1, h2]
theorem eq_norm {prog : Program} {w : World} {A : Around} {E : Value → Shared → Prop} {s : Shared} {g : Heap} {L t u t' u' : Addr} {news : List (Addr × Obj)} {vs vs' : List Value} {cnt cnt' : List Int} {b b' : Int} {t4 t4' : Tok} {Q : Value → Shared → Prop}
    (N : News g L s.heap news) (m1 : (t, tupObj [.ref u, .int b t4]) ∈ news) (m2 : (u, tupObj vs) ∈ news) (hi : IntsAre vs cnt) (m1' : (t', tupObj [.ref u', .int b' t4']) ∈ news) (m2' : (u', tupObj vs') ∈ news) (hi' : IntsAre vs' cnt')
    (hu : A.units + 64 < cLine) (h : Q (.bool (decide (cnt = cnt' ∧ b = b'))) s) : wpAny (model prog w) A (compareOp .Eq (.ref t) (.ref t')) Q E s := by
  refine eq_dataH (reads_tuple_at (N.get m1) rfl rfl (ReadsAll.cons (reads_tuple_at (N.get m2) rfl rfl (readsAll_of_ints hi)) (ReadsAll.cons (Reads.int _ _) ReadsAll.nil)))
    (reads_tuple_at (N.get m1') rfl rfl (ReadsAll.cons (reads_tuple_at (N.get m2') rfl rfl (readsAll_of_ints hi')) (ReadsAll.cons (Reads.int _ _) ReadsAll.nil))) (shaped_norm _ _) (shaped_norm _ _) hu ?_
  rw [eqv_norm]
  exact h
theorem words_F2_2 : True := by
  k_with "compareOp Eq ref ref" => (k_here; (k_dflt (refine eq_norm (by k_asm) (by k_mem) (by k_mem) (by assumption) (by k_mem) (by k_mem) (by assumption) (by exact Nat.le_of_ble_eq_true rfl) ?_; k_whole)))
  trivial
section
variable {prog : Program} {w : World} {h₀ : Heap} {s : Shared} {p : Program} {loose : List Str} {mean : ExcName → Option Value} {mg mb : Str → Option Value} {r r' : WsR} {c c' : Ws} {ts : Int} {tk : Tok} {Q : Value → Shared → Prop} {E : Value → Shared → Prop}
theorem equal_spec (X₀ : (hd.heap_1 w.params).In h₀) (T : Top p loose mean mg mb h₀) (hO : Over h₀ s.heap) (I : WsAt w.params h₀ s.heap r c) (I' : WsAt w.params h₀ s.heap r' c') (hl : c.cnt.length < 100) (hl' : c'.cnt.length < 100)
    (hQ : ∀ h' tk', Over s.heap h' → Q (.bool (decide (c.cnt = c'.cnt ∧ c.b = c'.b))) { s with heap := h', toks := tk' }) :
    wpAny (model prog w) A1 (call (.ref 66) [.ref r.x, .ref r'.x]) Q E s := by
  obtain ⟨hL, hI⟩ := I
  obtain ⟨hL', hI'⟩ := I'
  refine wpAny_call ?_
  refine enterE (wsLed w.params r c ++ wsLed w.params r' c') X₀ T hO (hL.append hL') (f := 66) (by k_is) (by k_is) (by decide) (binds := [(Str.ofString "self", .ref r.x), (Str.ofString "other", .ref r'.x)]) (BindsTo.of_eq rfl) (locs rfl) ?_ rfl rfl rfl (by decide)
  intro g L' h₁ hG hfr X' T' F' N' l1
  simp only [List.cons_append, List.nil_append] at l1 N'
  k_lt l1
  (refine (?_ : (fun T2 T1 : Prop => T2 → (T2 → T1) → T1) _ _) ?_ (by intro h; dsimp only; exact h); exact fun p _ => p)
  k_steps
  ((try (refine (?_ : (fun T2 T1 : Prop => T2 → (T2 → T1) → T1) _ _) ?_ (by intro h; dsimp only; exact h); exact fun p _ => p)); exact ⟨_, _, by assumption, by assumption, fun _ h => h, fun hk => hQ _ _ hk⟩)
end
end Mine
end
section
open PySem PySem.W PySem.Calls PyProof.Rows
theorem Mine.fresh_F2 {prog : Program} {w : World} {A : Around} {env : Env} {Q : Flow → Shared → Prop} {E : Value → Shared → Prop} {s : Shared} (h : Q .next s) : wpAny (model prog w) A (execs [] env) Q E s := by
  w_top off
  k_with_none
  walk1
  exact h
end
section
open PySem PySem.W PySem.Calls PyProof.Rows
set_option Elab.async false
set_option maxRecDepth 100000
set_option maxHeartbeats 8000000
set_option pp.deepTerms false
set_option pp.deepTerms.threshold 4
namespace Mine
theorem words_F3_om : True := by
  k_with "om" => (first | exact ts_100 (ite_lt hlo2 hlo2') kEq kLt | exact vs_fit (ite_lt hlo2 hlo2') kLt (by assumption) (by assumption) | exact m_lo (ite_ge hlo hlo') | exact m_hi (ite_lt hlo2 hlo2') | assumption | exact Nat.sub_le _ _ | exact Nat.lt_succ_self _ | exact Nat.le_add_right _ _ | exact Nat.zero_le _ | exact Nat.le_of_lt (by assumption) | exact Nat.lt_of_lt_of_le (by assumption) (by assumption) | exact Nat.lt_of_le_of_lt (by assumption) (by assumption) | exact Nat.le_trans (by assumption) (by assumption) | exact Nat.lt_trans (by assumption) (by assumption) | exact Nat.lt_of_le_of_lt (by assumption) (by decide) | exact Nat.le_trans (by assumption) (by decide) | exact Nat.lt_trans (by assumption) (by decide) | exact Nat.le_trans (Nat.le_of_lt (by assumption)) (by decide) | exact Nat.ne_of_lt (by assumption) | exact Nat.ne_of_gt (by assumption) | exact Ne.symm (by assumption) | exact Nat.ne_of_lt (Nat.lt_trans (by assumption) (by assumption)) | exact Nat.ne_of_gt (Nat.lt_trans (by assumption) (by assumption)) | exact Nat.lt_of_not_le (by assumption) | exact Nat.le_of_not_lt (by assumption) | exact Nat.lt_succ_of_lt (by assumption) | exact Nat.le_of_lt_succ (by assumption) | exact Nat.succ_le_of_lt (by assumption) | exact Nat.le_of_succ_le (by assumption) | exact Int.le_of_lt (by assumption) | exact Int.lt_of_lt_of_le (by assumption) (by assumption) | exact Int.lt_of_le_of_lt (by assumption) (by assumption) | exact Int.le_trans (by assumption) (by assumption) | exact Int.lt_trans (by assumption) (by assumption) | exact Int.lt_of_le_of_lt (by assumption) (by decide) | exact Int.lt_trans (by assumption) (by decide) | exact Int.not_le.mp (by assumption) | exact Int.not_lt.mp (by assumption) | with_reducible exact oc1 (by with_reducible assumption) | with_reducible exact oc2 (by with_reducible assumption) | with_reducible exact oc3 (by with_reducible assumption) | with_reducible exact oc4 (by with_reducible assumption) | with_reducible exact oc5 (by with_reducible assumption) | with_reducible exact oe2 (by with_reducible assumption) | with_reducible exact oe3 (by with_reducible assumption) | with_reducible exact oe4 (by with_reducible assumption) | with_reducible exact oe5 (by with_reducible assumption) | with_reducible exact oe6 (by with_reducible assumption) | with_reducible exact Ne.symm (oc1 (by with_reducible assumption)) | with_reducible exact Ne.symm (oc2 (by with_reducible assumption)) | with_reducible exact Ne.symm (oc3 (by with_reducible assumption)) | with_reducible exact Ne.symm (oc4 (by with_reducible assumption)) | with_reducible exact Ne.symm (oc5 (by with_reducible assumption)) | with_reducible exact Ne.symm (oe2 (by with_reducible assumption)) | with_reducible exact Ne.symm (oe3 (by with_reducible assumption)) | with_reducible exact Ne.symm (oe4 (by with_reducible assumption)) | with_reducible exact Ne.symm (oe5 (by with_reducible assumption)) | with_reducible exact Ne.symm (oe6 (by with_reducible assumption)) | with_reducible exact oc6 (by with_reducible assumption) | with_reducible exact oc7 (by with_reducible assumption) | with_reducible exact oc8 (by with_reducible assumption) | with_reducible exact Ne.symm (oc6 (by with_reducible assumption)) | with_reducible exact Ne.symm (oc7 (by with_reducible assumption)) | with_reducible exact Ne.symm (oc8 (by with_reducible assumption)) | fail "om")
  trivial
theorem words_F3_1 : True := by
  k_with "k_steps" => (repeat' (first | (k_unfold; (try (refine (?_ : (fun T2 T1 : Prop => T2 → (T2 → T1) → T1) _ _) ?_ (by intro h; dsimp only; exact h); exact fun p _ => p))) | (k_end; kc_close) | (with_reducible refine st_x ‹Shared› fun _ => ?_; walk1) | ((refine (?_ : (fun T2 T1 : Prop => T2 → (T2 → T1) → T1) _ _) ?_ (by intro h; dsimp only; exact h); exact fun p _ => p); walk1) | walk1 | (leave1; walk_say "STEP leave1"; (try (refine (?_ : (fun T2 T1 : Prop => T2 → (T2 → T1) → T1) _ _) ?_ (by intro h; dsimp only; exact h); exact fun p _ => p))) | fail "no step"))
  k_with "m_sub" => repeat' (first | exact sub_nil | refine sub_cons (by k_mem) ?_)
  trivial
noncomputable abbrev A2 : Around := { handled := none, depth := 850, frames := none, guards := none, units := 8500 }
section
variable {prog : Program} {w : World} {g : Heap} {L : Addr} {m : Str → Option Value} {news : List (Addr × Obj)} {A : Around} {s : Shared} {p : Program} {loose : List Str} {mean : ExcName → Option Value} {mg mb : Str → Option Value} {r r' : WsR} {c c' : Ws} {ts : Int} {tk : Tok} {Q : Value → Shared → Prop} {E : Value → Shared → Prop}
theorem wsAt_of {h : Heap} {P : Params} (N : News g L h news) (m1 : (r.x, instObj 90 r.dx) ∈ news) (m2 : (r.dx, dictOf (wsEntries P r c) 5) ∈ news) (m3 : (r.t, tupObj [.ref r.u, .int c.b r.t4]) ∈ news) (m4 : (r.u, tupObj r.vs) ∈ news) (hi : IntsAre r.vs c.cnt) : WsAt P g h r c :=
  ⟨.cons (N.get m1) (N.fresh m1) (.cons (N.get m2) (N.fresh m2) (.cons (N.get m3) (N.fresh m3) (.cons (N.get m4) (N.fresh m4) .nil))), hi⟩
theorem use_longest (F : Fr g L s.heap m) (N : News g L s.heap news) (X : (hd.heap_1 w.params).In g) (T : Top p loose mean mg mb g)
    (hi : IntsAre r.vs c.cnt) (m1 : (r.x, instObj 90 r.dx) ∈ news) (m2 : (r.dx, dictOf (wsEntries w.params r c) 5) ∈ news) (m3 : (r.t, tupObj [.ref r.u, .int c.b r.t4]) ∈ news) (m4 : (r.u, tupObj r.vs) ∈ news) (hl : c.cnt.length < 100)
    (hA : A.handled = none) (hd : A.depth ≤ 900) (hu : A.units ≤ 9000)
    (h : ∀ h' tk' t, Fr g L h' m → News g L h' news → Q (.int (longest c) t) { s with heap := h', toks := tk' }) :
    wpAny (model prog w) A (call (.ref 52) [.ref r.x]) Q E s :=
  wpAny_le hA hd rfl rfl hu (longest_spec X T F.keep (wsAt_of N m1 m2 m3 m4 hi) hl fun h' tk' t hk => h h' tk' t (fr_over F hk) (news_over N hk))
theorem use_indent (F : Fr g L s.heap m) (N : News g L s.heap news) (X : (hd.heap_1 w.params).In g) (T : Top p loose mean mg mb g)
    (hi : IntsAre r.vs c.cnt) (m1 : (r.x, instObj 90 r.dx) ∈ news) (m2 : (r.dx, dictOf (wsEntries w.params r c) 5) ∈ news) (m3 : (r.t, tupObj [.ref r.u, .int c.b r.t4]) ∈ news) (m4 : (r.u, tupObj r.vs) ∈ news) (hl : c.cnt.length < 100) (ht : 1 ≤ ts) (ht2 : ts < 100)
    (hA : A.handled = none) (hd : A.depth ≤ 900) (hu : A.units ≤ 9000)
    (h : ∀ h' tk' t, Fr g L h' m → News g L h' news → Q (.int (level c ts) t) { s with heap := h', toks := tk' }) :
    wpAny (model prog w) A (call (.ref 59) [.ref r.x, .int ts tk]) Q E s :=
  wpAny_le hA hd rfl rfl hu (indent_spec X T F.keep (wsAt_of N m1 m2 m3 m4 hi) hl ht ht2 fun h' tk' t hk => h h' tk' t (fr_over F hk) (news_over N hk))
end
theorem words_F3_2 : True := by
  k_with "call ref" => (k_here; (k_dflt (refine use_longest (by k_asm) (by k_asm) (by k_asm) (by k_asm) (by assumption) (by k_mem) (by k_mem) (by k_mem) (by k_mem) (by assumption) (by rfl) (by exact Nat.le_of_ble_eq_true rfl) (by exact Nat.le_of_ble_eq_true rfl) ?_; k_whole)); intro _ _ _ _ _; (try k_sweep))
  k_with "call ref" => (k_here; (k_dflt (refine use_indent (by k_asm) (by k_asm) (by k_asm) (by k_asm) (by assumption) (by k_mem) (by k_mem) (by k_mem) (by k_mem) (by assumption) (by omega) (by omega) (by rfl) (by exact Nat.le_of_ble_eq_true rfl) (by exact Nat.le_of_ble_eq_true rfl) ?_; k_whole)); intro _ _ _ _ _; (try k_sweep))
  trivial
theorem fillF3 : PySem.Challenge.rw_mq0248_01 = PySem.Challenge.rw_mq0248_01 ∧ Mine.hd.heap_1 = Mine.hd.heap_1 := by
  k_fill
  exact ⟨rfl, rfl⟩
noncomputable def wit (c c' : Ws) (pre : List Int) : List Dat := (pre.filter fun ts => !decide (level c ts = level c' ts)).map fun ts => Dat.tuple [.int ts, .int (level c ts), .int (level c' ts)]
noncomputable def witN (c c' : Ws) : Nat := ((if longest c' > longest c then longest c' else longest c) + 1 + 1 - 1).toNat
theorem wit_nil (c c' : Ws) : ([] : List Dat) = wit c c' [] ∧ ([] : List Dat).length ≤ ([] : List Int).length := ⟨rfl, Nat.le_refl _⟩
theorem wit_eq {c c' : Ws} {pre : List Int} {n : Int} (h : (wit c c' pre).length ≤ pre.length) (e : level c n = level c' n) : wit c c' pre = wit c c' (pre ++ [n]) ∧ (wit c c' pre).length ≤ (pre ++ [n]).length := by
  refine ⟨?_, by simp; omega⟩
  simp [wit, e]
theorem wit_ne {c c' : Ws} {pre : List Int} {n : Int} (h : (wit c c' pre).length ≤ pre.length) (e : level c n ≠ level c' n) : wit c c' pre ++ [Dat.tuple [.int n, .int (level c n), .int (level c' n)]] = wit c c' (pre ++ [n]) ∧ (wit c c' pre ++ [Dat.tuple [.int n, .int (level c n), .int (level c' n)]]).length ≤ (pre ++ [n]).length := by
  refine ⟨?_, by simp; omega⟩
  simp [wit, e]
section
variable {prog : Program} {w : World} {h₀ : Heap} {s : Shared} {p : Program} {loose : List Str} {mean : ExcName → Option Value} {mg mb : Str → Option Value} {r r' : WsR} {c c' : Ws} {ts : Int} {tk : Tok} {Q : Value → Shared → Prop} {E : Value → Shared → Prop}
theorem witness_spec (X₀ : (hd.heap_1 w.params).In h₀) (T : Top p loose mean mg mb h₀) (hO : Over h₀ s.heap) (I : WsAt w.params h₀ s.heap r c) (I' : WsAt w.params h₀ s.heap r' c') (hl : c.cnt.length < 50) (hl' : c'.cnt.length < 50) (hb : 0 ≤ c.b) (hb2 : c.b < 50) (hb' : 0 ≤ c'.b) (hb2' : c'.b < 50)
    (hQ : ∀ h' tk' l n vs tl, Over s.heap h' → Led s.heap h' [(l, W.listOf vs.toArray n)] → Led h₀ h' tl → DatAll tl vs (wit c c' (rangeKs 1 (witN c c'))) → Q (.ref l) { s with heap := h', toks := tk' }) :
    wpAny (model prog w) A2 (call (.ref 73) [.ref r.x, .ref r'.x]) Q E s := by
  obtain ⟨hL, hI⟩ := I
  obtain ⟨hL', hI'⟩ := I'
  have hl1 : c.cnt.length < 100 := by omega
  have hl1' : c'.cnt.length < 100 := by omega
  have hlo : 0 ≤ longest c := longest_lo (by assumption)
  have hlo' : 0 ≤ longest c' := longest_lo (by assumption)
  have hlo2 : longest c < 50 := longest_hi (by assumption) (by assumption)
  have hlo2' : longest c' < 50 := longest_hi (by assumption) (by assumption)
  refine wpAny_call ?_
  refine enterE (wsLed w.params r c ++ wsLed w.params r' c') X₀ T hO (hL.append hL') (f := 73) (by k_is) (by k_is) (by decide) (binds := [(Str.ofString "self", .ref r.x), (Str.ofString "other", .ref r'.x)]) (BindsTo.of_eq rfl) (locs rfl) ?_ rfl rfl rfl (by decide)
  intro g L' h₁ hG hfr X' T' F' N' l1
  simp only [wsLed, List.cons_append, List.nil_append] at l1 N'
  k_lt l1
  (refine (?_ : (fun T2 T1 : Prop => T2 → (T2 → T1) → T1) _ _) ?_ (by intro h; dsimp only; exact h); exact fun p _ => p)
  k_with "pyIter ref" => k_dat (fun pre a => a = wit c c' pre ∧ a.length ≤ pre.length) "a*"
  k_with "state" => first | exact wit_nil _ _ | exact wit_eq (by assumption) (by assumption) | exact wit_ne (by assumption) (by assumption)
  refine gen_q fun Q₁ hQ₁ => ?_
  k_steps
  subst hQ₁
  (try (refine (?_ : (fun T2 T1 : Prop => T2 → (T2 → T1) → T1) _ _) ?_ (by intro h; dsimp only; exact h); exact fun p _ => p))
  refine ⟨_, _, by assumption, by assumption, by walk_at "m_sub", fun hk => ?_⟩
  refine hQ _ _ _ _ _ _ hk (.cons (kNews.get (.head _)) (hfr _ (kNews.fresh (.head _)) ?_) .nil) (Led.down (led_of_news kNews (fun p hp => .tail _ hp)) hG) kFacts
  simp only [wsLed, List.cons_append, List.nil_append]
  k_all
end
end Mine
end
section
open PySem PySem.W PySem.Calls PyProof.Rows
theorem Mine.fresh_F3 {prog : Program} {w : World} {A : Around} {env : Env} {Q : Flow → Shared → Prop} {E : Value → Shared → Prop} {s : Shared} (h : Q .next s) : wpAny (model prog w) A (execs [] env) Q E s := by
  w_top off
  k_with_none
  walk1
  exact h
end
section
open PySem PySem.W PySem.Calls PyProof.Rows
set_option Elab.async false
set_option maxRecDepth 100000
set_option maxHeartbeats 8000000
set_option pp.deepTerms false
set_option pp.deepTerms.threshold 4
namespace Mine
theorem words_F4_om : True := by
  k_with "om" => (first | exact ts_200 (ite_lt hlo2 hlo2') kEq kLt | exact vs_fit (ite_lt hlo2 hlo2') kLt (by assumption) (by assumption) | exact m_lo (ite_ge hlo hlo') | exact m_hi (ite_lt hlo2 hlo2') | assumption | exact Nat.sub_le _ _ | exact Nat.lt_succ_self _ | exact Nat.le_add_right _ _ | exact Nat.zero_le _ | exact Nat.le_of_lt (by assumption) | exact Nat.lt_of_lt_of_le (by assumption) (by assumption) | exact Nat.lt_of_le_of_lt (by assumption) (by assumption) | exact Nat.le_trans (by assumption) (by assumption) | exact Nat.lt_trans (by assumption) (by assumption) | exact Nat.lt_of_le_of_lt (by assumption) (by decide) | exact Nat.le_trans (by assumption) (by decide) | exact Nat.lt_trans (by assumption) (by decide) | exact Nat.le_trans (Nat.le_of_lt (by assumption)) (by decide) | exact Nat.ne_of_lt (by assumption) | exact Nat.ne_of_gt (by assumption) | exact Ne.symm (by assumption) | exact Nat.ne_of_lt (Nat.lt_trans (by assumption) (by assumption)) | exact Nat.ne_of_gt (Nat.lt_trans (by assumption) (by assumption)) | exact Nat.lt_of_not_le (by assumption) | exact Nat.le_of_not_lt (by assumption) | exact Nat.lt_succ_of_lt (by assumption) | exact Nat.le_of_lt_succ (by assumption) | exact Nat.succ_le_of_lt (by assumption) | exact Nat.le_of_succ_le (by assumption) | exact Int.le_of_lt (by assumption) | exact Int.lt_of_lt_of_le (by assumption) (by assumption) | exact Int.lt_of_le_of_lt (by assumption) (by assumption) | exact Int.le_trans (by assumption) (by assumption) | exact Int.lt_trans (by assumption) (by assumption) | exact Int.lt_of_le_of_lt (by assumption) (by decide) | exact Int.lt_trans (by assumption) (by decide) | exact Int.not_le.mp (by assumption) | exact Int.not_lt.mp (by assumption) | fail "om")
  trivial
theorem words_F4_1 : True := by
  k_with "k_steps" => (repeat' (first | (k_unfold; (try (refine (?_ : (fun T2 T1 : Prop => T2 → (T2 → T1) → T1) _ _) ?_ (by intro h; dsimp only; exact h); exact fun p _ => p))) | (k_end; kc_close) | (with_reducible refine st_x ‹Shared› fun _ => ?_; refine wpAny_execs_cons ?_; refine gen_q fun Qg hQg => ?_) | (refine st_x ‹Shared› fun _ => ?_; walk1) | ((refine (?_ : (fun T2 T1 : Prop => T2 → (T2 → T1) → T1) _ _) ?_ (by intro h; dsimp only; exact h); exact fun p _ => p); walk1) | walk1 | (leave1; walk_say "STEP leave1"; (try (refine (?_ : (fun T2 T1 : Prop => T2 → (T2 → T1) → T1) _ _) ?_ (by intro h; dsimp only; exact h); exact fun p _ => p))) | ((fail_if_success (with_reducible show wpAny _ _ _ _ _ _)); (subst ‹(_ : Flow → Shared → Prop) = _›); (try (refine (?_ : (fun T2 T1 : Prop => T2 → (T2 → T1) → T1) _ _) ?_ (by intro h; dsimp only; exact h); exact fun p _ => p))) | fail "no step"))
  k_with "m_sub" => repeat' (first | exact sub_nil | refine sub_cons (by k_mem) ?_)
  k_with "call ref" => (k_here; (k_dflt (refine use_longest (by k_asm) (by k_asm) (by k_asm) (by k_asm) (by assumption) (by k_mem) (by k_mem) (by k_mem) (by k_mem) (by assumption) (by rfl) (by exact Nat.le_of_ble_eq_true rfl) (by exact Nat.le_of_ble_eq_true rfl) ?_; k_whole)); intro _ _ _ _ _; (try k_sweep))
  k_with "call ref" => (k_here; (k_dflt (refine use_indent (by k_asm) (by k_asm) (by k_asm) (by k_asm) (by assumption) (by k_mem) (by k_mem) (by k_mem) (by k_mem) (by assumption) (by omega) (by omega) (by rfl) (by exact Nat.le_of_ble_eq_true rfl) (by exact Nat.le_of_ble_eq_true rfl) ?_; k_whole)); intro _ _ _ _ _; (try k_sweep))
  trivial
theorem fillF4 : PySem.Challenge.rw_mq0248_01 = PySem.Challenge.rw_mq0248_01 ∧ Mine.hd.heap_1 = Mine.hd.heap_1 := by
  k_fill
  exact ⟨rfl, rfl⟩
noncomputable def lessN (c c' : Ws) : Nat := ((if longest c' > longest c then longest c' else longest c) + 1 + 1 - 2).toNat
noncomputable def lessB (c c' : Ws) : Bool := if c.n ≥ c'.n then false else if c.cnt.length ≤ 1 ∧ c'.cnt.length ≤ 1 then decide (c.nt ≤ c'.nt) else (rangeKs 2 (lessN c c')).all fun ts => decide (level c ts < level c' ts)
theorem mem_rangeKs' {a : Int} {n : Nat} {k : Int} (h1 : a ≤ k) (h2 : k < a + n) : k ∈ rangeKs a n := by
  unfold rangeKs
  refine List.mem_map.mpr ⟨(k - a).toNat, List.mem_range.mpr (by omega), by omega⟩
theorem lessB_ge {c c' : Ws} (h : c'.n ≤ c.n) : lessB c c' = false := by unfold lessB; rw [if_pos h]
theorem lessB_simple {c c' : Ws} (h : ¬ c'.n ≤ c.n) (h1 : c.cnt.length ≤ 1) (h2 : c'.cnt.length ≤ 1) : lessB c c' = decide (c.nt ≤ c'.nt) := by unfold lessB; rw [if_neg h, if_pos ⟨h1, h2⟩]
theorem lessB_all {c c' : Ws} (h : ¬ c'.n ≤ c.n) (h1 : ¬ (c.cnt.length ≤ 1 ∧ c'.cnt.length ≤ 1)) (k : ∀ ts ∈ rangeKs 2 (lessN c c'), level c ts < level c' ts) : lessB c c' = true := by
  unfold lessB; rw [if_neg h, if_neg h1, List.all_eq_true]; exact fun x hx => decide_eq_true (k x hx)
theorem lessB_not {c c' : Ws} {pre : List Int} {n : Int} (h : ¬ c'.n ≤ c.n) (h1 : ¬ (c.cnt.length ≤ 1 ∧ c'.cnt.length ≤ 1)) (hn : n = 2 + (pre.length : Int)) (hlt : pre.length < lessN c c') (hge : level c' n ≤ level c n) : lessB c c' = false := by
  unfold lessB; rw [if_neg h, if_neg h1]
  cases q : (rangeKs 2 (lessN c c')).all fun ts => decide (level c ts < level c' ts) with
  | false => rfl
  | true =>
    have := of_decide_eq_true (List.all_eq_true.mp q n (mem_rangeKs' (by omega) (by omega)))
    omega
section
variable {prog : Program} {w : World} {h₀ : Heap} {s : Shared} {p : Program} {loose : List Str} {mean : ExcName → Option Value} {mg mb : Str → Option Value} {r r' : WsR} {c c' : Ws} {ts : Int} {tk : Tok} {Q : Value → Shared → Prop} {E : Value → Shared → Prop}
theorem less_spec (X₀ : (hd.heap_1 w.params).In h₀) (T : Top p loose mean mg mb h₀) (hO : Over h₀ s.heap) (I : WsAt w.params h₀ s.heap r c) (I' : WsAt w.params h₀ s.heap r' c') (hl : c.cnt.length < 50) (hl' : c'.cnt.length < 50) (hb : 0 ≤ c.b) (hb2 : c.b < 50) (hb' : 0 ≤ c'.b) (hb2' : c'.b < 50)
    (hQ : ∀ h' tk', Over s.heap h' → Q (.bool (lessB c c')) { s with heap := h', toks := tk' }) :
    wpAny (model prog w) A2 (call (.ref 80) [.ref r.x, .ref r'.x]) Q E s := by
  obtain ⟨hL, hI⟩ := I
  obtain ⟨hL', hI'⟩ := I'
  have hl1 : c.cnt.length < 100 := by omega
  have hl1' : c'.cnt.length < 100 := by omega
  have hlo : 0 ≤ longest c := longest_lo (by assumption)
  have hlo' : 0 ≤ longest c' := longest_lo (by assumption)
  have hlo2 : longest c < 50 := longest_hi (by assumption) (by assumption)
  have hlo2' : longest c' < 50 := longest_hi (by assumption) (by assumption)
  refine wpAny_call ?_
  refine enterE (wsLed w.params r c ++ wsLed w.params r' c') X₀ T hO (hL.append hL') (f := 80) (by k_is) (by k_is) (by decide) (binds := [(Str.ofString "self", .ref r.x), (Str.ofString "other", .ref r'.x)]) (BindsTo.of_eq rfl) (locs rfl) ?_ rfl rfl rfl (by decide)
  intro g L' h₁ hG hfr X' T' F' N' l1
  simp only [wsLed, List.cons_append, List.nil_append] at l1 N'
  k_lt l1
  (refine (?_ : (fun T2 T1 : Prop => T2 → (T2 → T1) → T1) _ _) ?_ (by intro h; dsimp only; exact h); exact fun p _ => p)
  k_with "pyIter ref" => k_search (fun pre => ∀ ts ∈ pre, level c ts < level c' ts)
  k_steps
  all_goals (try (refine (?_ : (fun T2 T1 : Prop => T2 → (T2 → T1) → T1) _ _) ?_ (by intro h; dsimp only; exact h); exact fun p _ => p))
  all_goals refine ⟨_, _, by assumption, by assumption, by walk_at "m_sub", fun hk => ?_⟩
  · rw [lessB_ge (by assumption)] at hQ; exact hQ _ _ hk
  · rw [lessB_simple (by assumption) (by assumption) (by assumption)] at hQ; exact hQ _ _ hk
  · rw [lessB_not (by assumption) (by omega) kEq kLt (by assumption)] at hQ; exact hQ _ _ hk
  · rw [lessB_all (by assumption) (by omega) kInv] at hQ; exact hQ _ _ hk
  · rw [lessB_not (by assumption) (by omega) kEq kLt (by assumption)] at hQ; exact hQ _ _ hk
  · rw [lessB_all (by assumption) (by omega) kInv] at hQ; exact hQ _ _ hk
end
end Mine
end
section
open PySem PySem.W PySem.Calls PyProof.Rows
theorem Mine.fresh_F4 {prog : Program} {w : World} {A : Around} {env : Env} {Q : Flow → Shared → Prop} {E : Value → Shared → Prop} {s : Shared} (h : Q .next s) : wpAny (model prog w) A (execs [] env) Q E s := by
  w_top off
  k_with_none
  walk1
  exact h
end
section
open PySem PySem.W PySem.Calls PyProof.Rows
set_option Elab.async false
set_option maxRecDepth 100000
set_option maxHeartbeats 8000000
set_option pp.deepTerms false
set_option pp.deepTerms.threshold 4
namespace Mine
theorem words_F5_1 : True := by
  k_with "m_sub" => repeat' (first | exact sub_nil | refine sub_cons (by k_mem) ?_)
  trivial
noncomputable abbrev A3 : Around := { handled := none, depth := 800, frames := none, guards := none, units := 8000 }
/-- the datum is small -/
noncomputable def Small (c : Ws) : Prop := c.cnt.length < 50 ∧ 0 ≤ c.b ∧ c.b < 50
theorem news_more {g h : Heap} {L : Addr} {news : List (Addr × Obj)} {q : Addr × Obj} (N : News g L h news) (h1 : h.get? q.1 = some q.2) (h2 : q.1 ≠ L) (h3 : g.get? q.1 = none) : News g L h (q :: news) := fun p hp => by
  rcases List.mem_cons.mp hp with rfl | hp
  · exact ⟨h1, h2, h3⟩
  · exact N p hp
section
variable {prog : Program} {w : World} {g : Heap} {L : Addr} {m : Str → Option Value} {news : List (Addr × Obj)} {A : Around} {s : Shared} {p : Program} {loose : List Str} {mean : ExcName → Option Value} {mg mb : Str → Option Value} {r r' : WsR} {c c' : Ws} {ts : Int} {tk : Tok} {Q : Value → Shared → Prop} {E : Value → Shared → Prop}
theorem use_equal (F : Fr g L s.heap m) (N : News g L s.heap news) (X : (hd.heap_1 w.params).In g) (T : Top p loose mean mg mb g)
    (hi : IntsAre r.vs c.cnt) (m1 : (r.x, instObj 90 r.dx) ∈ news) (m2 : (r.dx, dictOf (wsEntries w.params r c) 5) ∈ news) (m3 : (r.t, tupObj [.ref r.u, .int c.b r.t4]) ∈ news) (m4 : (r.u, tupObj r.vs) ∈ news)
    (hi' : IntsAre r'.vs c'.cnt) (m1' : (r'.x, instObj 90 r'.dx) ∈ news) (m2' : (r'.dx, dictOf (wsEntries w.params r' c') 5) ∈ news) (m3' : (r'.t, tupObj [.ref r'.u, .int c'.b r'.t4]) ∈ news) (m4' : (r'.u, tupObj r'.vs) ∈ news)
    (hl : Small c) (hl' : Small c')
    (hA : A.handled = none) (hd : A.depth ≤ 900) (hu : A.units ≤ 9000)
    (h : ∀ h' tk', Fr g L h' m → News g L h' news → Q (.bool (decide (c.cnt = c'.cnt ∧ c.b = c'.b))) { s with heap := h', toks := tk' }) :
    wpAny (model prog w) A (call (.ref 66) [.ref r.x, .ref r'.x]) Q E s :=
  wpAny_le hA hd rfl rfl hu (equal_spec X T F.keep (wsAt_of N m1 m2 m3 m4 hi) (wsAt_of N m1' m2' m3' m4' hi') (by have := hl.1; omega) (by have := hl'.1; omega) fun h' tk' hk => h h' tk' (fr_over F hk) (news_over N hk))
theorem use_less (F : Fr g L s.heap m) (N : News g L s.heap news) (X : (hd.heap_1 w.params).In g) (T : Top p loose mean mg mb g)
    (hi : IntsAre r.vs c.cnt) (m1 : (r.x, instObj 90 r.dx) ∈ news) (m2 : (r.dx, dictOf (wsEntries w.params r c) 5) ∈ news) (m3 : (r.t, tupObj [.ref r.u, .int c.b r.t4]) ∈ news) (m4 : (r.u, tupObj r.vs) ∈ news)
    (hi' : IntsAre r'.vs c'.cnt) (m1' : (r'.x, instObj 90 r'.dx) ∈ news) (m2' : (r'.dx, dictOf (wsEntries w.params r' c') 5) ∈ news) (m3' : (r'.t, tupObj [.ref r'.u, .int c'.b r'.t4]) ∈ news) (m4' : (r'.u, tupObj r'.vs) ∈ news)
    (hl : Small c) (hl' : Small c')
    (hA : A.handled = none) (hd : A.depth ≤ 850) (hu : A.units ≤ 8500)
    (h : ∀ h' tk', Fr g L h' m → News g L h' news → Q (.bool (lessB c c')) { s with heap := h', toks := tk' }) :
    wpAny (model prog w) A (call (.ref 80) [.ref r.x, .ref r'.x]) Q E s :=
  wpAny_le hA hd rfl rfl hu (less_spec X T F.keep (wsAt_of N m1 m2 m3 m4 hi) (wsAt_of N m1' m2' m3' m4' hi') hl.1 hl'.1 hl.2.1 hl.2.2 hl'.2.1 hl'.2.2 fun h' tk' hk => h h' tk' (fr_over F hk) (news_over N hk))
/-- the first size at which the levels part -/
noncomputable def firstW (c c' : Ws) : Option Int := (rangeKs 1 (witN c c')).find? fun ts => !decide (level c ts = level c' ts)
theorem wit_first {c c' : Ws} {t : Int} : ∀ (l : List Int), l.find? (fun ts => !decide (level c ts = level c' ts)) = some t → ∃ r, wit c c' l = Dat.tuple [.int t, .int (level c t), .int (level c' t)] :: r
  | [], h => nomatch h
  | a :: l, h => by
    rw [List.find?_cons] at h
    by_cases e : level c a = level c' a
    · simp [e] at h
      obtain ⟨r, hr⟩ := wit_first l (by simpa using h)
      exact ⟨r, by rw [← hr]; simp [wit, e]⟩
    · simp [e] at h
      subst h
      exact ⟨_, by simp [wit, e]; rfl⟩
theorem use_witness (F : Fr g L s.heap m) (N : News g L s.heap news) (X : (hd.heap_1 w.params).In g) (T : Top p loose mean mg mb g)
    (hi : IntsAre r.vs c.cnt) (m1 : (r.x, instObj 90 r.dx) ∈ news) (m2 : (r.dx, dictOf (wsEntries w.params r c) 5) ∈ news) (m3 : (r.t, tupObj [.ref r.u, .int c.b r.t4]) ∈ news) (m4 : (r.u, tupObj r.vs) ∈ news)
    (hi' : IntsAre r'.vs c'.cnt) (m1' : (r'.x, instObj 90 r'.dx) ∈ news) (m2' : (r'.dx, dictOf (wsEntries w.params r' c') 5) ∈ news) (m3' : (r'.t, tupObj [.ref r'.u, .int c'.b r'.t4]) ∈ news) (m4' : (r'.u, tupObj r'.vs) ∈ news)
    (hl : Small c) (hl' : Small c') (hw : firstW c c' = some ts)
    (hA : A.handled = none) (hd : A.depth ≤ 850) (hu : A.units ≤ 8500)
    (h : ∀ h' tk' l n a vs t1 t2 t3 k, Fr g L h' m → News g L h' ((l, W.listOf (Value.ref a :: vs).toArray n) :: (a, { cls := .type "tuple", data := .seq [Value.int ts t1, .int (level c ts) t2, .int (level c' ts) t3].toArray k }) :: news) → Q (.ref l) { s with heap := h', toks := tk' }) :
    wpAny (model prog w) A (call (.ref 73) [.ref r.x, .ref r'.x]) Q E s := by
  refine wpAny_le hA hd rfl rfl hu (witness_spec X T F.keep (wsAt_of N m1 m2 m3 m4 hi) (wsAt_of N m1' m2' m3' m4' hi') hl.1 hl'.1 hl.2.1 hl.2.2 hl'.2.1 hl'.2.2 fun h' tk' l n vs tl hk hl1 hl2 hd => ?_)
  obtain ⟨rr, hr⟩ := wit_first _ hw
  rw [hr] at hd
  cases hd with
  | cons d1 d2 =>
    cases d1 with
    | tuple hm da =>
      cases da with
      | cons e1 da => cases da with
        | cons e2 da => cases da with
          | cons e3 da =>
            cases da
            cases e1
            cases e2
            cases e3
            have F' := fr_over F hk
            have N' := news_over N hk
            have N₁ := news_more N' (hl2 _ hm).1 (ne_of_ns F'.ns (hl2 _ hm).1 (by intro es ep e; cases e)) (hl2 _ hm).2
            exact h h' tk' l n _ _ _ _ _ _ F' (news_join F N₁ hl1)
end
end Mine
end
section
open PySem PySem.W PySem.Calls PyProof.Rows
theorem Mine.fresh_F5 {prog : Program} {w : World} {A : Around} {env : Env} {Q : Flow → Shared → Prop} {E : Value → Shared → Prop} {s : Shared} (h : Q .next s) : wpAny (model prog w) A (execs [] env) Q E s := by
  w_top off
  k_with_none
  walk1
  exact h
end
section
open PySem PySem.W PySem.Calls PyProof.Rows
set_option Elab.async false
set_option maxRecDepth 100000
set_option maxHeartbeats 8000000
set_option pp.deepTerms false
set_option pp.deepTerms.threshold 4
namespace Mine
theorem words_F6_1 : True := by
  k_with "k_steps" => (repeat' (first | (k_unfold; (try (refine (?_ : (fun T2 T1 : Prop => T2 → (T2 → T1) → T1) _ _) ?_ (by intro h; dsimp only; exact h); exact fun p _ => p))) | (k_end; kc_close) | (with_reducible refine st_x ‹Shared› fun _ => ?_; refine wpAny_execs_cons ?_; refine gen_q fun Qg hQg => ?_) | (refine st_x ‹Shared› fun _ => ?_; walk1) | ((refine (?_ : (fun T2 T1 : Prop => T2 → (T2 → T1) → T1) _ _) ?_ (by intro h; dsimp only; exact h); exact fun p _ => p); walk1) | walk1 | (leave1; walk_say "STEP leave1"; (try (refine (?_ : (fun T2 T1 : Prop => T2 → (T2 → T1) → T1) _ _) ?_ (by intro h; dsimp only; exact h); exact fun p _ => p))) | ((fail_if_success (with_reducible show wpAny _ _ _ _ _ _)); (subst ‹(_ : Flow → Shared → Prop) = _›); (try (refine (?_ : (fun T2 T1 : Prop => T2 → (T2 → T1) → T1) _ _) ?_ (by intro h; dsimp only; exact h); exact fun p _ => p))) | fail "no step"))
  k_with "m_sub" => repeat' (first | exact sub_nil | refine sub_cons (by k_mem) ?_)
  trivial
theorem fillF6 : PySem.Challenge.rw_mq0248_01 = PySem.Challenge.rw_mq0248_01 ∧ Mine.hd.heap_1 = Mine.hd.heap_1 := by
  k_fill
  exact ⟨rfl, rfl⟩
theorem words_F6_2 : True := by
  k_with "call ref" => (k_here; (k_dflt (refine use_equal (by k_asm) (by k_asm) (by k_asm) (by k_asm) (by assumption) (by k_mem) (by k_mem) (by k_mem) (by k_mem) (by assumption) (by k_mem) (by k_mem) (by k_mem) (by k_mem) (by assumption) (by assumption) (by rfl) (by exact Nat.le_of_ble_eq_true rfl) (by exact Nat.le_of_ble_eq_true rfl) ?_; k_whole)); intro _ _ _ _; (try k_sweep))
  k_with "call ref" => (k_here; (k_dflt (refine use_witness (by k_asm) (by k_asm) (by k_asm) (by k_asm) (by assumption) (by k_mem) (by k_mem) (by k_mem) (by k_mem) (by assumption) (by k_mem) (by k_mem) (by k_mem) (by k_mem) (by assumption) (by assumption) (by assumption) (by rfl) (by exact Nat.le_of_ble_eq_true rfl) (by exact Nat.le_of_ble_eq_true rfl) ?_; k_whole)); intro _ _ _ _ _ _ _ _ _ _ _ _; (try k_sweep))
  trivial
noncomputable abbrev sameN (c c' : Ws) : Prop := c.cnt = c'.cnt ∧ c.b = c'.b
noncomputable def cmpV (c c' : Ws) : Int := if sameN c c' then 0 else match firstW c c' with | some ts => level c ts - level c' ts | none => 0
section
variable {prog : Program} {w : World} {h₀ : Heap} {s : Shared} {p : Program} {loose : List Str} {mean : ExcName → Option Value} {mg mb : Str → Option Value} {r r' : WsR} {c c' : Ws} {ts : Int} {tk : Tok} {Q : Value → Shared → Prop} {E : Value → Shared → Prop}
theorem compare_spec (X₀ : (hd.heap_1 w.params).In h₀) (T : Top p loose mean mg mb h₀) (hO : Over h₀ s.heap) (I : WsAt w.params h₀ s.heap r c) (I' : WsAt w.params h₀ s.heap r' c') (hl : Small c) (hl' : Small c') (hw : ¬ sameN c c' → ∃ ts, firstW c c' = some ts)
    (hQ : ∀ h' tk' t, Over s.heap h' → Q (.int (cmpV c c') t) { s with heap := h', toks := tk' }) :
    wpAny (model prog w) A3 (call (.ref 115) [.ref r.x, .ref r'.x]) Q E s := by
  obtain ⟨hL, hI⟩ := I
  obtain ⟨hL', hI'⟩ := I'
  refine wpAny_call ?_
  refine enterE (wsLed w.params r c ++ wsLed w.params r' c') X₀ T hO (hL.append hL') (f := 115) (by k_is) (by k_is) (by decide) (binds := [(Str.ofString "one", .ref r.x), (Str.ofString "other", .ref r'.x)]) (BindsTo.of_eq rfl) (locs rfl) ?_ rfl rfl rfl (by decide)
  intro g L' h₁ hG hfr X' T' F' N' l1
  simp only [wsLed, List.cons_append, List.nil_append] at l1 N'
  k_lt l1
  (refine (?_ : (fun T2 T1 : Prop => T2 → (T2 → T1) → T1) _ _) ?_ (by intro h; dsimp only; exact h); exact fun p _ => p)
  by_cases hs : sameN c c'
  · have hc : cmpV c c' = 0 := if_pos hs
    rw [hc] at hQ
    have hs' : c.cnt = c'.cnt ∧ c.b = c'.b := hs
    k_steps
    ((try (refine (?_ : (fun T2 T1 : Prop => T2 → (T2 → T1) → T1) _ _) ?_ (by intro h; dsimp only; exact h); exact fun p _ => p)); exact ⟨_, _, by assumption, by assumption, by walk_at "m_sub", fun hk => hQ _ _ _ hk⟩)
  · obtain ⟨ts, ht⟩ := hw hs
    have hc : cmpV c c' = level c ts - level c' ts := by unfold cmpV; rw [if_neg hs, ht]
    rw [hc] at hQ
    have hs' : ¬ (c.cnt = c'.cnt ∧ c.b = c'.b) := hs
    k_steps
    ((try (refine (?_ : (fun T2 T1 : Prop => T2 → (T2 → T1) → T1) _ _) ?_ (by intro h; dsimp only; exact h); exact fun p _ => p)); exact ⟨_, _, by assumption, by assumption, by walk_at "m_sub", fun hk => hQ _ _ _ hk⟩)
end
end Mine
end
section
open PySem PySem.W PySem.Calls PyProof.Rows
theorem Mine.fresh_F6 {prog : Program} {w : World} {A : Around} {env : Env} {Q : Flow → Shared → Prop} {E : Value → Shared → Prop} {s : Shared} (h : Q .next s) : wpAny (model prog w) A (execs [] env) Q E s := by
  w_top off
  k_with_none
  walk1
  exact h
end
section
open PySem PySem.W PySem.Calls PyProof.Rows
set_option Elab.async false
set_option maxRecDepth 100000
set_option maxHeartbeats 8000000
set_option pp.deepTerms false
set_option pp.deepTerms.threshold 4
namespace Mine
theorem words_G1_om : True := by
  k_with "om" => (first | assumption | exact Nat.sub_le _ _ | exact Nat.lt_succ_self _ | exact Nat.le_add_right _ _ | exact Nat.zero_le _ | exact Nat.le_of_lt (by assumption) | exact Nat.lt_of_lt_of_le (by assumption) (by assumption) | exact Nat.lt_of_le_of_lt (by assumption) (by assumption) | exact Nat.le_trans (by assumption) (by assumption) | exact Nat.lt_trans (by assumption) (by assumption) | exact Nat.lt_of_le_of_lt (by assumption) (by decide) | exact Nat.le_trans (by assumption) (by decide) | exact Nat.lt_trans (by assumption) (by decide) | exact Nat.le_trans (Nat.le_of_lt (by assumption)) (by decide) | exact Nat.ne_of_lt (by assumption) | exact Nat.ne_of_gt (by assumption) | exact Ne.symm (by assumption) | exact Nat.ne_of_lt (Nat.lt_trans (by assumption) (by assumption)) | exact Nat.ne_of_gt (Nat.lt_trans (by assumption) (by assumption)) | exact Nat.lt_of_not_le (by assumption) | exact Nat.le_of_not_lt (by assumption) | exact Nat.lt_succ_of_lt (by assumption) | exact Nat.le_of_lt_succ (by assumption) | exact Nat.succ_le_of_lt (by assumption) | exact Nat.le_of_succ_le (by assumption) | exact Int.le_of_lt (by assumption) | exact Int.lt_of_lt_of_le (by assumption) (by assumption) | exact Int.lt_of_le_of_lt (by assumption) (by assumption) | exact Int.le_trans (by assumption) (by assumption) | exact Int.lt_trans (by assumption) (by assumption) | exact Int.lt_of_le_of_lt (by assumption) (by decide) | exact Int.lt_trans (by assumption) (by decide) | exact Int.not_le.mp (by assumption) | exact Int.not_lt.mp (by assumption) | fail "om")
  trivial
theorem words_G1_1 : True := by
  k_with "k_steps" => (repeat' (first | (k_unfold; (try dsimp only)) | (k_end; kc_close) | (with_reducible refine st_x ‹Shared› fun _ => ?_; walk1) | (dsimp only; walk1) | walk1 | (leave1; walk_say "STEP leave1"; (try dsimp only)) | fail "no step"))
  k_with "m_sub" => repeat' (first | exact sub_nil | refine sub_cons (by k_mem) ?_)
  trivial
theorem fillG1 : PySem.Challenge.rw_mq0248_01 = PySem.Challenge.rw_mq0248_01 ∧ Mine.hd.heap_1 = Mine.hd.heap_1 := by
  k_fill
  exact ⟨rfl, rfl⟩
theorem foldl_rep (ch : Nat) : ∀ (n : Nat) (acc : Array Nat), ((List.replicate n #[ch]).foldl (· ++ ·) acc).toList = acc.toList ++ List.replicate n ch
  | 0, acc => by simp
  | n + 1, acc => by rw [List.replicate_succ, List.foldl_cons, foldl_rep ch n]; simp [List.replicate_succ]
theorem mul_cps (ch : Nat) (n : Int) : (Txt.mul ⟨#[ch]⟩ n).cps.toList = List.replicate n.toNat ch := by
  unfold Txt.mul
  by_cases h : n < 1
  · rw [if_pos h]
    have : n.toNat = 0 := by omega
    rw [this]; rfl
  · rw [if_neg h]
    by_cases h1 : n = 1
    · subst h1; rfl
    · have e : (n == 1 || (Str.mk #[ch]).length == 0) = false := by simp [h1, Str.length]
      rw [if_neg (by rw [e]; simp)]
      show ((List.replicate n.toNat #[ch]).foldl (· ++ ·) #[]).toList = _
      rw [foldl_rep]; simp
theorem sp_is : Str.ofString " " = ⟨#[32]⟩ := by decide +kernel
theorem tab_is : Str.ofString "\t" = ⟨#[9]⟩ := by decide +kernel
theorem x_is : Str.ofString "x" = ⟨#[120]⟩ := by decide +kernel
theorem mul_len (ch : Nat) (n : Int) : (Txt.mul ⟨#[ch]⟩ n).length = n.toNat := by
  have := congrArg List.length (mul_cps ch n)
  simpa [Str.length] using this
theorem sp_len (y : Int) : (Txt.mul (Str.ofString " ") (y.fmod 3)).length ≤ 3 := by
  rw [sp_is, mul_len]
  have := fmod_hi y (n := 3) (by decide)
  omega
theorem tab_len2 (y : Int) : (Txt.mul (Str.ofString "\t") (y.fmod 2)).length ≤ 3 := by
  rw [tab_is, mul_len]
  have := fmod_hi y (n := 2) (by decide)
  omega
theorem tab_len3 (y : Int) : (Txt.mul (Str.ofString "\t") (y.fmod 3)).length ≤ 3 := by
  rw [tab_is, mul_len]
  have := fmod_hi y (n := 3) (by decide)
  omega
theorem x_len : (Str.ofString "x").length ≤ 3 := by decide +kernel
theorem app_len {a b : Str} {m n : Nat} (h1 : a.length ≤ m) (h2 : b.length ≤ n) : (a ++ b).length ≤ m + n := by rw [Str.length_append]; omega
theorem add_short {prog : Program} {w : World} {A : Around} {E : Value → Shared → Prop} {s : Shared} {x y : Str} {t u : Tok} {m n : Nat} {Q : Value → Shared → Prop} (h1 : x.length ≤ m) (h2 : y.length ≤ n) (hs : m + n ≤ 1000) (h : ∀ t' tk, Q (.str (x ++ y) t') { s with toks := tk }) :
    wpAny (model prog w) A (binaryOp .Add (.str x t) (.str y u)) Q E s := PyProof.Rows.add_str h (by rw [sizeLine_eq]; omega)
theorem words_G1_2 : True := by
  k_with "m_len" => repeat' (first | with_reducible exact sp_len _ | with_reducible exact tab_len2 _ | with_reducible exact tab_len3 _ | with_reducible exact x_len | with_reducible apply app_len)
  k_with "binaryOp Add str str" => (k_here; (k_dflt (refine add_short (by walk_at "m_len") (by walk_at "m_len") (by decide) ?_; k_whole)); intro _ _)
  trivial
noncomputable def leadS (x : Int) : Str := Txt.mul (Str.ofString " ") (x.fmod 3) ++ Txt.mul (Str.ofString "\t") ((x.fdiv 3).fmod 2) ++ Txt.mul (Str.ofString " ") ((x.fdiv 6).fmod 3) ++ Txt.mul (Str.ofString "\t") ((x.fdiv 18).fmod 3) ++ Txt.mul (Str.ofString " ") ((x.fdiv 54).fmod 3) ++ Str.ofString "x"
theorem leadS_cps (x : Int) : (leadS x).cps.toList = List.replicate (x.fmod 3).toNat 32 ++ List.replicate ((x.fdiv 3).fmod 2).toNat 9 ++ List.replicate ((x.fdiv 6).fmod 3).toNat 32 ++ List.replicate ((x.fdiv 18).fmod 3).toNat 9 ++ List.replicate ((x.fdiv 54).fmod 3).toNat 32 ++ [120] := by
  unfold leadS
  rw [sp_is, tab_is, x_is]
  simp only [Str.cps_append, Array.toList_append, mul_cps]
section
variable {prog : Program} {w : World} {h₀ : Heap} {s : Shared} {p : Program} {loose : List Str} {mean : ExcName → Option Value} {mg mb : Str → Option Value} {x : Int} {tk : Tok} {Q : Value → Shared → Prop} {E : Value → Shared → Prop}
theorem lead_spec (X₀ : (hd.heap_1 w.params).In h₀) (T : Top p loose mean mg mb h₀) (hO : Over h₀ s.heap)
    (hQ : ∀ h' tk' t, Over s.heap h' → Q (.str (leadS x) t) { s with heap := h', toks := tk' }) :
    wpAny (model prog w) A1 (call (.ref 101) [.int x tk]) Q E s := by
  refine wpAny_call ?_
  refine enterE [] X₀ T hO .nil (f := 101) (by k_is) (by k_is) (by decide) (binds := [(Str.ofString "x", .int x tk)]) (BindsTo.of_eq rfl) (locs rfl) ?_ rfl rfl rfl (by decide)
  intro g L' h₁ hG hfr X' T' F' N' l1
  clear l1
  dsimp only
  k_steps
  (dsimp only; exact ⟨_, _, by assumption, by assumption, by walk_at "m_sub", fun hk => hQ _ _ _ hk⟩)
end
end Mine
end
section
open PySem PySem.W PySem.Calls PyProof.Rows
theorem Mine.fresh_G1 {prog : Program} {w : World} {A : Around} {env : Env} {Q : Flow → Shared → Prop} {E : Value → Shared → Prop} {s : Shared} (h : Q .next s) : wpAny (model prog w) A (execs [] env) Q E s := by
  w_top off
  k_with_none
  walk1
  exact h
end
section
open PySem PySem.W PySem.Calls PyProof.Rows
set_option Elab.async false
set_option maxRecDepth 100000
set_option maxHeartbeats 8000000
set_option pp.deepTerms false
set_option pp.deepTerms.threshold 4
namespace Mine
theorem words_G2_om : True := by
  k_with "om" => (first | with_reducible exact Nat.sub_le _ _ | with_reducible exact Nat.lt_succ_self _ | with_reducible exact Nat.le_add_right _ _ | with_reducible exact Nat.zero_le _ | with_reducible exact Nat.le_of_lt (by with_reducible assumption) | with_reducible exact Nat.lt_of_lt_of_le (by with_reducible assumption) (by with_reducible assumption) | with_reducible exact Nat.lt_of_le_of_lt (by with_reducible assumption) (by with_reducible assumption) | with_reducible exact Nat.le_trans (by with_reducible assumption) (by with_reducible assumption) | with_reducible exact Nat.lt_trans (by with_reducible assumption) (by with_reducible assumption) | with_reducible exact Nat.ne_of_lt (by with_reducible assumption) | with_reducible exact Nat.ne_of_gt (by with_reducible assumption) | with_reducible exact Ne.symm (by with_reducible assumption) | with_reducible exact Nat.ne_of_lt (Nat.lt_trans (by with_reducible assumption) (by with_reducible assumption)) | with_reducible exact Nat.ne_of_gt (Nat.lt_trans (by with_reducible assumption) (by with_reducible assumption)) | with_reducible exact Nat.lt_of_not_le (by with_reducible assumption) | with_reducible exact Nat.le_of_not_lt (by with_reducible assumption) | with_reducible exact Nat.lt_succ_of_lt (by with_reducible assumption) | with_reducible exact Nat.le_of_lt_succ (by with_reducible assumption) | with_reducible exact Nat.succ_le_of_lt (by with_reducible assumption) | with_reducible exact Nat.le_of_succ_le (by with_reducible assumption) | with_reducible exact Nat.lt_of_le_of_lt (by with_reducible assumption) (by decide) | with_reducible exact Nat.le_trans (by with_reducible assumption) (by decide) | with_reducible exact Nat.lt_trans (by with_reducible assumption) (by decide) | with_reducible exact Nat.le_trans (Nat.le_of_lt (by with_reducible assumption)) (by decide) | with_reducible exact Int.le_of_lt (by with_reducible assumption) | with_reducible exact Int.lt_of_lt_of_le (by with_reducible assumption) (by with_reducible assumption) | with_reducible exact Int.lt_of_le_of_lt (by with_reducible assumption) (by with_reducible assumption) | with_reducible exact Int.le_trans (by with_reducible assumption) (by with_reducible assumption) | with_reducible exact Int.lt_trans (by with_reducible assumption) (by with_reducible assumption) | with_reducible exact Int.lt_of_le_of_lt (by with_reducible assumption) (by decide) | with_reducible exact Int.lt_trans (by with_reducible assumption) (by decide) | with_reducible exact Int.not_le.mp (by with_reducible assumption) | with_reducible exact Int.not_lt.mp (by with_reducible assumption) | with_reducible exact og1 (by with_reducible assumption) (by with_reducible assumption) | with_reducible exact og2 (by with_reducible assumption) (by with_reducible assumption) | with_reducible exact og3 (by with_reducible assumption) (by with_reducible assumption) (by with_reducible assumption) | with_reducible exact og4 (by with_reducible assumption) (by with_reducible assumption) | with_reducible exact og5 (by with_reducible assumption) (by with_reducible assumption) | with_reducible exact og6 (by with_reducible assumption) (by with_reducible assumption) | with_reducible exact Int.natCast_nonneg _ | with_reducible exact og7 _ | with_reducible exact oc1 (by with_reducible assumption) | with_reducible exact oc2 (by with_reducible assumption) | with_reducible exact oc3 (by with_reducible assumption) | with_reducible exact oc4 (by with_reducible assumption) | with_reducible exact oc5 (by with_reducible assumption) | with_reducible exact oe2 (by with_reducible assumption) | with_reducible exact oe3 (by with_reducible assumption) | with_reducible exact oe4 (by with_reducible assumption) | with_reducible exact oe5 (by with_reducible assumption) | with_reducible exact oe6 (by with_reducible assumption) | with_reducible exact Ne.symm (oc1 (by with_reducible assumption)) | with_reducible exact Ne.symm (oc2 (by with_reducible assumption)) | with_reducible exact Ne.symm (oc3 (by with_reducible assumption)) | with_reducible exact Ne.symm (oc4 (by with_reducible assumption)) | with_reducible exact Ne.symm (oc5 (by with_reducible assumption)) | with_reducible exact Ne.symm (oe2 (by with_reducible assumption)) | with_reducible exact Ne.symm (oe3 (by with_reducible assumption)) | with_reducible exact Ne.symm (oe4 (by with_reducible assumption)) | with_reducible exact Ne.symm (oe5 (by with_reducible assumption)) | with_reducible exact Ne.symm (oe6 (by with_reducible assumption)) | fail "om")
  trivial
theorem words_G2_1 : True := by
  k_with "k_steps" => (repeat' (first | (k_unfold; (try (refine (?_ : (fun T2 T1 : Prop => T2 → (T2 → T1) → T1) _ _) ?_ (by intro h; dsimp only; exact h); exact fun p _ => p))) | (k_end; kc_close) | (with_reducible refine st_x ‹Shared› fun _ => ?_; refine wpAny_execs_cons ?_; refine gen_q fun Qg hQg => ?_) | (refine st_x ‹Shared› fun _ => ?_; walk1) | ((refine (?_ : (fun T2 T1 : Prop => T2 → (T2 → T1) → T1) _ _) ?_ (by intro h; dsimp only; exact h); exact fun p _ => p); walk1) | walk1 | (leave1; walk_say "STEP leave1"; (try (refine (?_ : (fun T2 T1 : Prop => T2 → (T2 → T1) → T1) _ _) ?_ (by intro h; dsimp only; exact h); exact fun p _ => p))) | ((fail_if_success (with_reducible show wpAny _ _ _ _ _ _)); (subst ‹(_ : Flow → Shared → Prop) = _›); (try (refine (?_ : (fun T2 T1 : Prop => T2 → (T2 → T1) → T1) _ _) ?_ (by intro h; dsimp only; exact h); exact fun p _ => p))) | fail "no step"))
  k_with "m_sub" => repeat' (first | exact sub_nil | refine sub_cons (by k_mem) ?_)
  trivial
theorem fillG2 : PySem.Challenge.rw_mq0248_01 = PySem.Challenge.rw_mq0248_01 ∧ Mine.hd.heap_1 = Mine.hd.heap_1 := by
  k_fill
  exact ⟨rfl, rfl⟩
noncomputable def colStep (size col ch : Int) : Int := if ch = 32 then col + 1 else col - Int.fmod col size + size
noncomputable def colOf (codes : List Int) (size : Int) : Int := ((codes.takeWhile fun c => decide (c = 32 ∨ c = 9)).foldl (colStep size) 0)
theorem str1_sp {n : Nat} : ((⟨#[n]⟩ : Str) == Str.ofString " ") = decide (n = 32) := by
  have e : Str.ofString " " = ⟨#[32]⟩ := by decide +kernel
  rw [e]
  by_cases h : n = 32
  · subst h; decide
  · rw [decide_eq_false h]
    exact beq_eq_false_iff_ne.mpr fun q => h (by injection q with q; injection q with q; injection q)
theorem str1_tab {n : Nat} : ((⟨#[n]⟩ : Str) == Str.ofString "\t") = decide (n = 9) := by
  have e : Str.ofString "\t" = ⟨#[9]⟩ := by decide +kernel
  rw [e]
  by_cases h : n = 9
  · subst h; decide
  · rw [decide_eq_false h]
    exact beq_eq_false_iff_ne.mpr fun q => h (by injection q with q; injection q with q; injection q)
noncomputable abbrev BT (pre : List Int) : Prop := ∀ ch ∈ pre, ch = 32 ∨ ch = 9
theorem col_start2 {n : Int} : (0 : Int) = ([] : List Int).foldl (colStep n) 0 ∧ BT [] := ⟨rfl, fun _ h => nomatch h⟩
theorem bt_snoc {pre : List Int} {n : Int} (h : BT pre) (e : n = 32 ∨ n = 9) : BT (pre ++ [n]) := fun ch hc => by
  rcases List.mem_append.mp hc with hc | hc
  · exact h ch hc
  · rw [List.mem_singleton.mp hc]; exact e
theorem col_sp {size c : Int} {pre : List Int} {n : Nat} (h1 : c = pre.foldl (colStep size) 0) (h2 : BT pre) (e : ((⟨#[n]⟩ : Str) == Str.ofString " ") = true) : c + 1 = (pre ++ [(n : Int)]).foldl (colStep size) 0 ∧ BT (pre ++ [(n : Int)]) := by
  rw [str1_sp, decide_eq_true_eq] at e
  subst e
  refine ⟨?_, bt_snoc h2 (.inl rfl)⟩
  rw [List.foldl_append, ← h1]; rfl
theorem col_tab {size c : Int} {pre : List Int} {n : Nat} (h1 : c = pre.foldl (colStep size) 0) (h2 : BT pre) (e : ((⟨#[n]⟩ : Str) == Str.ofString "\t") = true) : c - Int.fmod c size + size = (pre ++ [(n : Int)]).foldl (colStep size) 0 ∧ BT (pre ++ [(n : Int)]) := by
  rw [str1_tab, decide_eq_true_eq] at e
  subst e
  refine ⟨?_, bt_snoc h2 (.inr rfl)⟩
  rw [List.foldl_append, ← h1]; rfl
theorem bt_take {pre post : List Int} {n : Int} (h : BT pre) (e : ¬ (n = 32 ∨ n = 9)) : (pre ++ n :: post).takeWhile (fun c => decide (c = 32 ∨ c = 9)) = pre := by
  rw [List.takeWhile_append_of_pos (fun a ha => decide_eq_true (h a ha)), List.takeWhile_cons, decide_eq_false e]
  simp
theorem bt_takeAll {pre : List Int} (h : BT pre) : pre.takeWhile (fun c => decide (c = 32 ∨ c = 9)) = pre := by
  have := List.takeWhile_append_of_pos (p := fun c => decide (c = 32 ∨ c = 9)) (l₁ := pre) (l₂ := []) (fun a ha => decide_eq_true (h a ha))
  simpa using this
theorem col_brk {size c : Int} {codes pre post : List Int} {n : Nat} (h1 : c = pre.foldl (colStep size) 0) (h2 : BT pre) (hc : codes = pre ++ (n : Int) :: post) (e1 : ((⟨#[n]⟩ : Str) == Str.ofString " ") = false) (e2 : ((⟨#[n]⟩ : Str) == Str.ofString "\t") = false) : c = colOf codes size := by
  rw [str1_sp, decide_eq_false_iff_not] at e1
  rw [str1_tab, decide_eq_false_iff_not] at e2
  unfold colOf
  rw [hc, bt_take h2 (by omega), h1]
theorem col_end {size c : Int} {codes : List Int} (h1 : c = codes.foldl (colStep size) 0) (h2 : BT codes) : c = colOf codes size := by
  unfold colOf
  rw [bt_takeAll h2, h1]
theorem ints_snocF {vs : List Value} {l : List Int} {f : Int → Int} {n c : Int} {t : Tok} (h : IntsAre vs (l.map f)) (e : c = f n) : IntsAre (vs ++ [.int c t]) ((l ++ [n]).map f) := by
  subst e
  rw [List.map_append]
  exact IntsAre.append h (.cons _ _ .nil)
section
variable {prog : Program} {w : World} {h₀ : Heap} {s : Shared} {p : Program} {loose : List Str} {mean : ExcName → Option Value} {mg mb : Str → Option Value} {x : Str} {tk : Tok} {Q : Value → Shared → Prop} {E : Value → Shared → Prop}
theorem columns_spec (X₀ : (hd.heap_1 w.params).In h₀) (T : Top p loose mean mg mb h₀) (hO : Over h₀ s.heap) (hx : x.length < 100)
    (hQ : ∀ h' tk' l n vs, Over s.heap h' → Led s.heap h' [(l, W.listOf vs.toArray n)] → IntsAre vs ((rangeKs 1 7).map (colOf (KStt.codes x))) → Q (.ref l) { s with heap := h', toks := tk' }) :
    wpAny (model prog w) A1 (call (.ref 108) [.str x tk]) Q E s := by
  refine wpAny_call ?_
  refine enterE [] X₀ T hO .nil (f := 108) (by k_is) (by k_is) (by decide) (binds := [(Str.ofString "text", .str x tk)]) (BindsTo.of_eq rfl) (locs rfl) ?_ rfl rfl rfl (by decide)
  intro g L' h₁ hG hfr X' T' F' N' l1
  clear l1
  (refine (?_ : (fun T2 T1 : Prop => T2 → (T2 → T1) → T1) _ _) ?_ (by intro h; dsimp only; exact h); exact fun p _ => p)
  k_with "exec For Name Call cons nil" => kpr_for
  k_with "state" => first | exact col_start2 | exact col_sp (by assumption) (by assumption) (by assumption) | exact col_tab (by assumption) (by assumption) (by assumption)
  iterate 19 (first | (k_unfold; (try (refine (?_ : (fun T2 T1 : Prop => T2 → (T2 → T1) → T1) _ _) ?_ (by intro h; dsimp only; exact h); exact fun p _ => p))) | walk1 | ((refine (?_ : (fun T2 T1 : Prop => T2 → (T2 → T1) → T1) _ _) ?_ (by intro h; dsimp only; exact h); exact fun p _ => p); walk1))
  (rename Fr _ _ _ _ => lF'); (rename News _ _ _ _ => lN'); (rename IsRange _ _ _ _ _ _ _ _ => rgX)
  refine' kst_range (n := 7) (σ := List Value × Nat) (fun c => [(_, W.listOf c.1.toArray c.2)]) (fun _ => []) (fun _ => True) [Str.ofString "column", Str.ofString "sign"] (fun pre c => IntsAre c.1 (pre.map (colOf (KStt.codes x)))) ([], 0) rfl rgX (by decide) (by decide) lF' lN' trivial (List.forall_mem_nil _) .nil ?_ ?_
  · intro kC kPre kN kT kU kH kTk kOwn kEq kLt kOff kFacts kInv kFr kNews
    obtain ⟨vs, n⟩ := kC
    clear lF' lN' rgX
    dsimp only [kstB] at kFr
    dsimp only at kInv kOff kNews
    simp only [List.cons_append, List.nil_append, List.map_cons, List.map_nil] at kNews kOff
    have hN1 : 1 ≤ kN := by omega
    have hN2 : kN ≤ 7 := by omega
    have hvl : vs.length < 7 := by have := kInv.length; simp at this; omega
    k_with "pyIter str" => k_state (fun pre column => column = pre.foldl (colStep kN) 0 ∧ BT pre) "column"
    k_steps
    all_goals (rename News _ _ _ _ => nE'; simp only [List.push_toArray] at nE')
    all_goals refine kst_end (_, _) (by assumption) nE' (by kst_in) (by intro p hp; kst_mem) (by rfl) trivial (List.forall_mem_nil _) (by kst_same) ?_
    · exact ints_snocF (by assumption) (col_brk (by assumption) (by assumption) (by assumption) (by assumption) (by assumption))
    · exact ints_snocF (by assumption) (col_end (by assumption) (by assumption))
  · intro kC kU kH kTk kFacts kInv kFr kNews
    obtain ⟨vs, n⟩ := kC
    clear lF' lN' rgX
    dsimp only [kstB] at kFr
    dsimp only at kInv kNews
    (refine (?_ : (fun T2 T1 : Prop => T2 → (T2 → T1) → T1) _ _) ?_ (by intro h; dsimp only; exact h); exact fun p _ => p)
    k_steps
    ((try (refine (?_ : (fun T2 T1 : Prop => T2 → (T2 → T1) → T1) _ _) ?_ (by intro h; dsimp only; exact h); exact fun p _ => p)); refine ⟨_, _, by assumption, by assumption, by walk_at "m_sub", fun hk => ?_⟩)
    exact hQ _ _ _ _ _ hk (.cons (kNews.get (.head _)) (hfr _ (kNews.fresh (.head _)) (List.forall_mem_nil _)) .nil) kInv
end
end Mine
end
section
open PySem PySem.W PySem.Calls PyProof.Rows
theorem Mine.fresh_G2 {prog : Program} {w : World} {A : Around} {env : Env} {Q : Flow → Shared → Prop} {E : Value → Shared → Prop} {s : Shared} (h : Q .next s) : wpAny (model prog w) A (execs [] env) Q E s := by
  w_top off
  k_with_none
  walk1
  exact h
end
section
open PySem PySem.W PySem.Calls PyProof.Rows
set_option Elab.async false
set_option maxRecDepth 100000
set_option maxHeartbeats 8000000
namespace Mine
/-- how a body's end is left that may change what was laid open -/
inductive BackM (g : Heap) (L' : Addr) (exp : List (Addr × Obj)) (h : Heap) (Q : Value → Shared → Prop) (v : Value) (s' : Shared) : Prop
  | mk m' news' (h0 : Fr g L' s'.heap m') (h1 : News g L' s'.heap news') (h2 : ((∀ b o, (∀ p ∈ exp, p.1 ≠ b) → h.get? b = some o → s'.heap.get? b = some o) → Q v s'))
section
variable {prog : Program} {w : World} {A : Around} {s : Shared} {h₀ : Heap} {K : Frag} {p : Program} {loose : List Str} {mean : ExcName → Option Value} {mg mb : Str → Option Value}
theorem enterM {R : Result → Shared → Prop} {name qual : Str} {params : Arguments} {body : List Stmt} {scope : Scope} {dV kV doc pm cdv ct oc : Value} {an od : Option Addr} {osl : Array (Option Value)} {f : Addr} {args : Args} {binds : List (Str × Value)}
    (exp : List (Addr × Obj))
    (X₀ : K.In h₀) (T : Top p loose mean mg mb h₀) (hO : Over h₀ s.heap) (hE : Led h₀ s.heap exp)
    (ho : K.lookup f = some ⟨oc, od, .func (fnOf name qual params body scope dV kV doc pm an cdv ct), osl⟩) (hcd : codeIn K cdv qual = true) (hroom : A.depth < recursionLimit)
    (hbind : BindsTo s (fnOf name qual params body scope dV kV doc pm an cdv ct) args binds) (hloc : ∀ y ∈ binds, scope.names.lookup y.1 = some .local)
    (h : ∀ g L' h₁, Over h₀ g → (∀ a, g.get? a = none → (∀ p ∈ exp, p.1 ≠ a) → s.heap.get? a = none) → K.In g → Top p loose mean mg mb g → Fr g L' h₁ (fun y => binds.reverse.lookup y) → News g L' h₁ exp → (∀ p ∈ exp, p.1 < L') →
      wpAny (model prog w) (A.deeper (envOf qual scope L' f cdv)) (execs body (envOf qual scope L' f cdv))
        (fun fl s' => BackM g L' exp s.heap (fun v s' => R (.ok (.ret v)) s') (match fl with | .ret v => v | _ => .none) s')
        (fun _ _ => False)
        { s with heap := h₁, toks := s.toks + binds.length })
    (hco : scope.isCoroutine = false) (hgen : scope.isGenerator = false) (hk : scope.kind = .function)
    (hcell : ∀ x ∈ scope.names, x.2 ≠ .cell) : codeAny (model prog w) A (.call (.ref f) args) R s := by
  have hs : Over h₀ (hideAll s.heap (exp.map Prod.fst)) := fun b o e => hideAll_get _ (hO b o e) fun q => by
    obtain ⟨p, hp, rfl⟩ := List.mem_map.mp q
    rw [(hE p hp).2] at e; cases e
  refine codeAny_call_def (fd := fnOf name qual params body scope dV kV doc pm an cdv ct) (body := body) (binds := binds) hroom (hO _ _ (X₀ _ _ ho)) rfl ((T.nolimit).keeps hO) (codeRec_of (X₀.keeps hO) hcd) rfl hbind hcell hloc (fun h₁ hns hk₁ => ?_) hco hgen hk
  have hfr : ∀ a, (hideAll s.heap (exp.map Prod.fst)).get? a = none → (∀ p ∈ exp, p.1 ≠ a) → s.heap.get? a = none := fun a e hn => by
    cases q : s.heap.get? a with
    | none => rfl
    | some o =>
      rw [hideAll_get (exp.map Prod.fst) q (fun hm => by obtain ⟨p, hp, rfl⟩ := List.mem_map.mp hm; exact hn p hp rfl)] at e
      cases e
  refine wpAny_mono (h (hideAll s.heap (exp.map Prod.fst)) s.heap.objs.size h₁ hs hfr (X₀.keeps hs) (T.keeps hs) ⟨hns, fun b o e => hk₁ b o (of_hideAll _ e), Nat.le_of_eq (hideAll_size _ _)⟩
    (fun p hp => ⟨hk₁ _ _ (hE p hp).1, Nat.ne_of_lt (Heap.lt_size (hE p hp).1), hideAll_none _ (List.mem_map_of_mem hp)⟩) (fun p hp => Heap.lt_size (hE p hp).1)) (fun fl s' hl => ?_) fun _ _ y => y.elim
  obtain ⟨m', news', F', N', k⟩ := hl
  refine k fun b o hn e => ?_
  exact F'.keep b o (hideAll_get _ e fun hb => by obtain ⟨p, hp, rfl⟩ := List.mem_map.mp hb; exact hn p hp rfl)
theorem make_over {C fI : Addr} {rest : List Value} {kw : List (Str × Value)} {R : Result → Shared → Prop} (X : K.In s.heap) (hm : makesIn K C = true)
    (hi : findIn K (.ref C) "__init__" = some (some (.ref fI))) (hf : typeIn K (.ref fI) = some (.type "function"))
    (h : ∀ x dx h', dx < x → Over s.heap h' → Led s.heap h' [(x, instObj C dx), (dx, dictOf [] 0)] →
      codeAny (model prog w) (A.under (.builtin "type.__call__" ⟨.ref C :: rest, kw⟩)) (.call (.ref fI) ⟨.ref x :: rest, kw⟩) (InitBack x R) { s with heap := h' }) :
    codeAny (model prog w) A (.call (.ref C) ⟨rest, kw⟩) R s := by
  obtain ⟨hh, g, d, t, os⟩ := s
  have fresh : ∀ a, hh.objs.size ≤ a → hh.get? a = none := fun a ha => by
    cases e : hh.get? a with
    | none => rfl
    | some o' => exact absurd (Heap.lt_size e) (Nat.not_lt.mpr ha)
  refine make_core (makes_of X hm) (looks_findIn X hi) (fun self => bind_fn X self hf) (.inl rfl) (h _ hh.objs.size _ (Nat.lt_succ_self _) (fun b o e => Heap.get?_push_of_some _ (Heap.get?_push_of_some _ e)) ?_)
  refine .cons ?_ (fresh _ (Nat.le_succ _)) (.cons ?_ (fresh _ (Nat.le_refl _)) .nil)
  · have := Heap.get?_push_size (hh.push emptyDict) (o := instObj C hh.objs.size) rfl
    rwa [Heap.size_push] at this
  · exact Heap.get?_push_of_some _ (Heap.get?_push_size _ rfl)
end
end Mine
end
section
open PySem PySem.W PySem.Calls PyProof.Rows
theorem Mine.fresh_GM {prog : Program} {w : World} {A : Around} {env : Env} {Q : Flow → Shared → Prop} {E : Value → Shared → Prop} {s : Shared} (h : Q .next s) : wpAny (model prog w) A (execs [] env) Q E s := by
  w_top off
  k_with_none
  walk1
  exact h
end
section
open PySem PySem.W PySem.Calls PyProof.Rows
set_option Elab.async false
set_option maxRecDepth 100000
set_option maxHeartbeats 8000000
set_option pp.deepTerms false
set_option pp.deepTerms.threshold 4
namespace Mine
theorem words_G3_1 : True := by
  k_with "k_steps" => (repeat' (first | (k_unfold; (try (refine (?_ : (fun T2 T1 : Prop => T2 → (T2 → T1) → T1) _ _) ?_ (by intro h; dsimp only; exact h); exact fun p _ => p))) | (k_end; kc_close) | (with_reducible refine st_x ‹Shared› fun _ => ?_; refine wpAny_execs_cons ?_; refine gen_q fun Qg hQg => ?_) | (refine st_x ‹Shared› fun _ => ?_; walk1) | ((refine (?_ : (fun T2 T1 : Prop => T2 → (T2 → T1) → T1) _ _) ?_ (by intro h; dsimp only; exact h); exact fun p _ => p); walk1) | walk1 | (leave1; walk_say "STEP leave1"; (try (refine (?_ : (fun T2 T1 : Prop => T2 → (T2 → T1) → T1) _ _) ?_ (by intro h; dsimp only; exact h); exact fun p _ => p))) | ((fail_if_success (with_reducible show wpAny _ _ _ _ _ _)); (subst ‹(_ : Flow → Shared → Prop) = _›); (try (refine (?_ : (fun T2 T1 : Prop => T2 → (T2 → T1) → T1) _ _) ?_ (by intro h; dsimp only; exact h); exact fun p _ => p))) | fail "no step"))
  k_with "m_sub" => repeat' (first | exact sub_nil | refine sub_cons (by k_mem) ?_)
  k_with "InvPostL" => (refine (?_ : (fun T2 T1 : Prop => T2 → (T2 → T1) → T1) _ _) ?_ (by intro h; dsimp only [InvPostL]; exact h); exact fun p _ => p)
  trivial
structure WsSt where
  b : Int
  n : Int
  nt : Int
  cnt : List Int
noncomputable def wsInit : WsSt := ⟨0, 0, 0, []⟩
noncomputable def grow (cnt : List Int) (b : Int) : List Int := if b ≥ (cnt.length : Int) then cnt ++ List.replicate (b - (cnt.length : Int) + 1).toNat 0 else cnt
noncomputable def bump (cnt : List Int) (b : Int) : List Int := (grow cnt b).set b.toNat ((grow cnt b).getD b.toNat 0 + 1)
noncomputable def wsStep (c : WsSt) (ch : Int) : WsSt := if ch = 32 then ⟨c.b + 1, c.n + 1, c.nt, c.cnt⟩ else ⟨0, c.n + 1, c.nt + 1, bump c.cnt c.b⟩
noncomputable abbrev wsPs (x l : Addr) (c : WsSt) (tb tn tnt : Tok) : List (Str × Value) := [(Str.ofString "self", .ref x), (Str.ofString "S", .str (Str.ofString " ") 220), (Str.ofString "T", .str (Str.ofString "\t") 221), (Str.ofString "count", .ref l), (Str.ofString "b", .int c.b tb), (Str.ofString "n", .int c.n tn), (Str.ofString "nt", .int c.nt tnt)]
noncomputable abbrev wsNews (P : Params) (x dx l : Addr) (xt : Str) (tk k1 : Tok) (vs : List Value) (e : Nat) : List (Addr × Obj) := [(l, W.listOf vs.toArray e), (x, instObj 90 dx), (dx, dictOf [⟨PyData.keyHash P (Str.ofString "raw"), .str (Str.ofString "raw") k1, .str xt tk⟩] 1)]
inductive WsJ (P : Params) (x dx : Addr) (xt : Str) (tk : Tok) (pre : List Int) (m : Str → Option Value) (news : List (Addr × Obj)) : Prop
  | mk (c : WsSt) (l : Addr) (vs : List Value) (e : Nat) (tb tn tnt k1 : Tok) (hc : c = pre.foldl wsStep wsInit) (hbt : BT pre) (hb : 0 ≤ c.b ∧ c.b ≤ (pre.length : Int) ∧ (c.cnt.length : Int) ≤ (pre.length : Int)) (hv : IntsAre vs c.cnt)
    (hm : ∀ p ∈ wsPs x l c tb tn tnt, m p.1 = some p.2) (hx : x < l) (hn : news = wsNews P x dx l xt tk k1 vs e)
theorem flat_rep (k : Nat) : (List.replicate k [(0 : Int)]).flatten = List.replicate k 0 := by
  induction k with
  | zero => rfl
  | succ k ih => rw [List.replicate_succ, List.flatten_cons, ih, List.replicate_succ]; rfl
theorem ints_grown {cnt : List Int} {b : Int} {vs : List Value} (h : (cnt.length : Int) ≤ b)
    (hi : IntsAre vs ((cnt ++ (List.replicate (b - (cnt.length : Int) + 1).toNat [0]).flatten).set b.toNat ((cnt ++ (List.replicate (b - (cnt.length : Int) + 1).toNat [0]).flatten).getD b.toNat 0 + 1))) : IntsAre vs (bump cnt b) := by
  rw [flat_rep] at hi
  unfold bump grow
  rw [if_pos h]
  exact hi
theorem ints_kept {cnt : List Int} {b : Int} {vs : List Value} (h : ¬ (cnt.length : Int) ≤ b)
    (hi : IntsAre vs (cnt.set b.toNat (cnt.getD b.toNat 0 + 1))) : IntsAre vs (bump cnt b) := by
  unfold bump grow
  rw [if_neg h]
  exact hi
theorem bump_len {cnt : List Int} {b m : Int} (h0 : 0 ≤ b) (h1 : b ≤ m) (h2 : (cnt.length : Int) ≤ m) : ((bump cnt b).length : Int) ≤ m + 1 := by
  unfold bump grow
  rw [List.length_set]
  split
  · rw [List.length_append, List.length_replicate]; omega
  · omega
theorem ws_sp {c : WsSt} {pre : List Int} {n : Nat} (hc : c = pre.foldl wsStep wsInit) (e : ((⟨#[n]⟩ : Str) == Str.ofString " ") = true) : (⟨c.b + 1, c.n + 1, c.nt, c.cnt⟩ : WsSt) = (pre ++ [(n : Int)]).foldl wsStep wsInit := by
  rw [str1_sp, decide_eq_true_eq] at e
  subst e
  rw [List.foldl_append, ← hc]; rfl
theorem ws_tab {c : WsSt} {pre : List Int} {n : Nat} (hc : c = pre.foldl wsStep wsInit) (e : ((⟨#[n]⟩ : Str) == Str.ofString " ") = false) : (⟨0, c.n + 1, c.nt + 1, bump c.cnt c.b⟩ : WsSt) = (pre ++ [(n : Int)]).foldl wsStep wsInit := by
  rw [str1_sp, decide_eq_false_iff_not] at e
  rw [List.foldl_append, ← hc]
  show _ = wsStep c (n : Int)
  unfold wsStep
  rw [if_neg (by omega)]
theorem bt_sp {pre : List Int} {n : Nat} (h : BT pre) (e : ((⟨#[n]⟩ : Str) == Str.ofString " ") = true) : BT (pre ++ [(n : Int)]) := by
  rw [str1_sp, decide_eq_true_eq] at e
  exact bt_snoc h (.inl (by omega))
theorem bt_tab {pre : List Int} {n : Nat} (h : BT pre) (e : ((⟨#[n]⟩ : Str) == Str.ofString "\t") = true) : BT (pre ++ [(n : Int)]) := by
  rw [str1_tab, decide_eq_true_eq] at e
  exact bt_snoc h (.inr (by omega))
theorem len_snoc (pre : List Int) (n : Int) : ((pre ++ [n]).length : Int) = pre.length + 1 := by simp
noncomputable def wsSt (xt : Str) : WsSt := ((KStt.codes xt).takeWhile fun c => decide (c = 32 ∨ c = 9)).foldl wsStep wsInit
noncomputable def wsDat (xt : Str) : Ws := ⟨xt, (wsSt xt).n, (wsSt xt).nt, (wsSt xt).cnt, (wsSt xt).b⟩
theorem wsSt_brk {xt : Str} {c : WsSt} {pre post : List Int} {n : Nat} (hc : c = pre.foldl wsStep wsInit) (h : BT pre) (hp : KStt.codes xt = pre ++ (n : Int) :: post) (e1 : ((⟨#[n]⟩ : Str) == Str.ofString " ") = false) (e2 : ((⟨#[n]⟩ : Str) == Str.ofString "\t") = false) : wsSt xt = c := by
  rw [str1_sp, decide_eq_false_iff_not] at e1
  rw [str1_tab, decide_eq_false_iff_not] at e2
  unfold wsSt
  rw [hp, bt_take h (by omega), hc]
theorem wsSt_end {xt : Str} {c : WsSt} (hc : c = (KStt.codes xt).foldl wsStep wsInit) (h : BT (KStt.codes xt)) : wsSt xt = c := by
  unfold wsSt
  rw [bt_takeAll h, hc]
theorem sub_all3 {α : Type} {q : α → Prop} {a b c : α} (h1 : q a) (h2 : q b) (h3 : q c) : ∀ p ∈ [a, b, c], q p := by
  simp only [List.forall_mem_cons, List.not_mem_nil, false_implies, implies_true, and_true]
  exact ⟨h1, h2, h3⟩
theorem sub_all7 {α : Type} {q : α → Prop} {a b c d e f g : α} (h1 : q a) (h2 : q b) (h3 : q c) (h4 : q d) (h5 : q e) (h6 : q f) (h7 : q g) : ∀ p ∈ [a, b, c, d, e, f, g], q p := by
  simp only [List.forall_mem_cons, List.not_mem_nil, false_implies, implies_true, and_true]
  exact ⟨h1, h2, h3, h4, h5, h6, h7⟩
theorem fillG3 : PySem.Challenge.rw_mq0248_01 = PySem.Challenge.rw_mq0248_01 ∧ Mine.hd.heap_1 = Mine.hd.heap_1 := by
  k_fill
  exact ⟨rfl, rfl⟩
theorem ow1 {b : Int} {n l : Nat} (h : b ≤ (l : Int)) (h2 : (l : Int) < 50) : b - n + 1 < 2 ^ 63 := by omega
theorem ow2 {b : Int} {n : Nat} (h : (n : Int) ≤ b) : -2 ^ 63 ≤ b - n + 1 := by omega
theorem ow3 {b : Int} {l : Nat} (h : b ≤ (l : Int)) (h2 : (l : Int) < 50) : b < 2 ^ 63 := by omega
theorem ow4 {n l : Nat} (h : (n : Int) ≤ (l : Int)) (h2 : (l : Int) < 50) : n < 2 ^ 62 := by omega
theorem ow5 {v n l : Nat} (e : v = n) (h : (n : Int) ≤ (l : Int)) (h2 : (l : Int) < 50) : v ≤ 1000 := by omega
theorem ow6 (l : Nat) : 0 ≤ (l : Int) + 1 := by omega
theorem ow7 {a b : Int} (h : a ≤ b) : a ≤ b + 1 := by omega
theorem ow8 (n : Nat) : ((n : Int) ≤ 1 ↔ n ≤ 1) := by omega
theorem ow9 {b : Int} {n l : Nat} (h : b ≤ (l : Int)) (h2 : (l : Int) < 50) : b - n + 1 ≤ ((1048576 : Nat) : Int) := by omega
theorem words_G3_om : True := by
  k_with "om" => (first | with_reducible exact Ne.symm (by with_reducible assumption) | with_reducible exact Nat.ne_of_lt (by with_reducible assumption) | with_reducible exact Nat.ne_of_gt (by with_reducible assumption) | with_reducible exact Nat.ne_of_gt (Nat.lt_trans (by with_reducible assumption) (by with_reducible assumption)) | with_reducible exact ow1 (by with_reducible assumption) (by with_reducible assumption) | with_reducible exact ow2 (by with_reducible assumption) | with_reducible exact ow3 (by with_reducible assumption) (by with_reducible assumption) | with_reducible exact ow4 (by with_reducible assumption) (by with_reducible assumption) | with_reducible exact ow5 (by with_reducible assumption) (by with_reducible assumption) (by with_reducible assumption) | with_reducible exact ow6 _ | with_reducible exact ow7 (by with_reducible assumption) | with_reducible exact Int.add_le_add_right (by with_reducible assumption) 1 | with_reducible exact ow8 _ | with_reducible exact ow9 (by with_reducible assumption) (by with_reducible assumption) | with_reducible exact oc1 (by with_reducible assumption) | with_reducible exact oc2 (by with_reducible assumption) | with_reducible exact oc3 (by with_reducible assumption) | with_reducible exact oc4 (by with_reducible assumption) | with_reducible exact oc5 (by with_reducible assumption) | with_reducible exact oe2 (by with_reducible assumption) | with_reducible exact oe3 (by with_reducible assumption) | with_reducible exact oe4 (by with_reducible assumption) | with_reducible exact oe5 (by with_reducible assumption) | with_reducible exact oe6 (by with_reducible assumption) | with_reducible exact Ne.symm (oc1 (by with_reducible assumption)) | with_reducible exact Ne.symm (oc2 (by with_reducible assumption)) | with_reducible exact Ne.symm (oc3 (by with_reducible assumption)) | with_reducible exact Ne.symm (oc4 (by with_reducible assumption)) | with_reducible exact Ne.symm (oc5 (by with_reducible assumption)) | with_reducible exact Ne.symm (oe2 (by with_reducible assumption)) | with_reducible exact Ne.symm (oe3 (by with_reducible assumption)) | with_reducible exact Ne.symm (oe4 (by with_reducible assumption)) | with_reducible exact Ne.symm (oe5 (by with_reducible assumption)) | with_reducible exact Ne.symm (oe6 (by with_reducible assumption)) | fail "om")
  trivial
section
variable {prog : Program} {w : World} {h₀ : Heap} {s : Shared} {p : Program} {loose : List Str} {mean : ExcName → Option Value} {mg mb : Str → Option Value} {xt : Str} {tx : Tok} {Q : Value → Shared → Prop} {E : Value → Shared → Prop}
theorem tuple_ofV {A : Around} {g : Heap} {L l : Addr} {m : Str → Option Value} {news : List (Addr × Obj)} {vs : List Value} (F : Fr g L s.heap m) (N : News g L s.heap news) (hl : s.heap.IsList l vs.toArray) (hz : vs.length ≤ 1000)
    (h : ∀ D h', Fr g L h' m → News g L h' ((D, tupObj vs) :: news) → (∀ p ∈ news, p.1 < D) → Q (.ref D) { s with heap := h' }) : wpAny (model prog w) A (call (.type "tuple") [.ref l]) Q E s :=
  kde_tupleOf F N hl (by simp only [List.size_toArray]; omega) rfl h
theorem words_G3_z : True := by
  k_with "call type:tuple" => (k_here; (k_dflt (refine tuple_ofV (by k_asm) (by k_asm) (by exact News.isList (by k_asm) (by k_mem)) (by omega) ?_; k_whole)); intro _ _ _ _ l1; (try k_lt l1); (try k_sweep))
  trivial
theorem news_drop2 {g h : Heap} {L : Addr} {a b : Addr × Obj} {r : List (Addr × Obj)} (N : News g L h (a :: b :: r)) : News g L h (a :: r) := fun p hp => N p (by
  rcases List.mem_cons.mp hp with rfl | hp
  · exact .head _
  · exact .tail _ (.tail _ hp))
theorem ws_fin {g h' hh : Heap} {L x dx D D' : Addr} {news : List (Addr × Obj)} {c : WsSt} {vs : List Value} {k1 k2 k3 k4 k5 tn tnt tb : Tok} {bv : Bool} {dd : Obj} {tk : Nat}
    (hQ : ∀ h' tk' r, Over s.heap h' → Led s.heap h' (wsLed w.params r (wsDat xt)) → IntsAre r.vs (wsDat xt).cnt → Q (.ref r.x) { s with heap := h', toks := tk' })
    (hk : Over s.heap h') (hled : Led s.heap h' [(x, instObj 90 dx), (dx, dd)])
    (hfr : ∀ a, g.get? a = none → (∀ p ∈ [(x, instObj 90 dx), (dx, dd)], p.1 ≠ a) → h'.get? a = none)
    (hk2 : ∀ b o, (∀ p ∈ [(x, instObj 90 dx), (dx, dd)], p.1 ≠ b) → h'.get? b = some o → hh.get? b = some o)
    (N : News g L hh news) (hst : wsSt xt = c) (hvs : IntsAre vs c.cnt)
    (m1 : (x, instObj 90 dx) ∈ news)
    (m2 : (dx, dictOf [⟨PyData.keyHash w.params (Str.ofString "raw"), .str (Str.ofString "raw") k1, .str xt tx⟩, ⟨PyData.keyHash w.params (Str.ofString "n"), .str (Str.ofString "n") k2, .int c.n tn⟩, ⟨PyData.keyHash w.params (Str.ofString "nt"), .str (Str.ofString "nt") k3, .int c.nt tnt⟩,
      ⟨PyData.keyHash w.params (Str.ofString "norm"), .str (Str.ofString "norm") k4, .ref D'⟩, ⟨PyData.keyHash w.params (Str.ofString "is_simple"), .str (Str.ofString "is_simple") k5, .bool bv⟩] 5) ∈ news)
    (m3 : (D', tupObj [.ref D, .int c.b tb]) ∈ news) (m4 : (D, tupObj vs) ∈ news) (hbv : bv = decide (c.cnt.length ≤ 1))
    (d1 : x ≠ D) (d2 : dx ≠ D) (d3 : x ≠ D') (d4 : dx ≠ D') : Q (.ref x) { s with heap := hh, toks := tk } := by
  subst hst hbv
  have new : ∀ a, s.heap.get? a = none → ∀ b o, s.heap.get? b = some o → a ≠ b := fun a e b o e' q => by subst q; rw [e] at e'; cases e'
  have hx := (hled _ (.head _)).2
  have hdx := (hled _ (.tail _ (.head _))).2
  have off : ∀ a, a ≠ x → a ≠ dx → ∀ p ∈ [(x, instObj 90 dx), (dx, dd)], p.1 ≠ a := fun a h1 h2 p hp => by
    rcases List.mem_cons.mp hp with rfl | hp
    · exact fun e => h1 e.symm
    · rw [List.mem_singleton.mp hp]; exact fun e => h2 e.symm
  have none' : ∀ a, h'.get? a = none → s.heap.get? a = none := fun a e => by
    cases q : s.heap.get? a with
    | none => rfl
    | some o => rw [hk _ _ q] at e; cases e
  refine hQ hh tk ⟨x, dx, D', D, k1, k2, k3, k4, k5, tx, tn, tnt, tb, vs⟩ (fun b o e => hk2 b o (off b (fun q => new _ hx b o e q.symm) (fun q => new _ hdx b o e q.symm)) (hk b o e)) ?_ hvs
  exact .cons (N.get m1) hx (.cons (N.get m2) hdx (.cons (N.get m3) (none' _ (hfr _ (N.fresh m3) (off _ (Ne.symm d3) (Ne.symm d4)))) (.cons (N.get m4) (none' _ (hfr _ (N.fresh m4) (off _ (Ne.symm d1) (Ne.symm d2)))) .nil)))
theorem ws_spec (X₀ : (hd.heap_1 w.params).In h₀) (T : Top p loose mean mg mb h₀) (hO : Over h₀ s.heap) (hx : xt.length < 50)
    (hQ : ∀ h' tk' r, Over s.heap h' → Led s.heap h' (wsLed w.params r (wsDat xt)) → IntsAre r.vs (wsDat xt).cnt → Q (.ref r.x) { s with heap := h', toks := tk' }) :
    wpAny (model prog w) A1 (call (.ref 90) [.str xt tx]) Q E s := by
  refine wpAny_call (make_over (K := hd.heap_1 w.params) (X₀.keeps hO) (by k_is) (fI := 45) (by k_is) (by k_is) ?_)
  intro x dx h' hlt hk hled
  have hO' : Over h₀ h' := Over.trans hO hk
  refine enterM [(x, instObj 90 dx), (dx, dictOf [] 0)] X₀ T hO' (hled.down hO) (f := 45) (by k_is) (by k_is) (by k_room) (binds := [(Str.ofString "self", .ref x), (Str.ofString "ws", .str xt tx)]) (BindsTo.of_eq rfl) (locs rfl) ?_ rfl rfl rfl (by decide)
  intro g L' h₁ hG hfr X' T' F' N' l1
  k_lt l1
  k_lt2 hlt
  (refine (?_ : (fun T2 T1 : Prop => T2 → (T2 → T1) → T1) _ _) ?_ (by intro h; dsimp only; exact h); exact fun p _ => p)
  refine gen_q fun Q₁ hQ₁ => ?_
  k_steps
  refine st_c ‹Shared› fun _ => ?_
  (rename Fr _ _ _ _ => lF'); (rename News _ _ _ _ => lN')
  have hj0 : BT [] := fun _ h => nomatch h
  refine text_gen (WsJ w.params x dx xt tx) rfl lF' (news_drop2 lN') ⟨wsInit, _, [], 0, _, _, _, _, rfl, hj0, ⟨by decide, by decide, by decide⟩, .nil, sub_all7 rfl rfl rfl rfl rfl rfl rfl, ?_, rfl⟩ ?_ ?_
  · have := ‹_ ∧ x < _ ∧ dx < _›
    exact this.2.1
  · intro pre post n t m₁ news₁ h tk2 I o hpre hJ hne F₁ N₁
    obtain ⟨c, l, vs, e, tb, tn, tnt, k1, hc, hbt, ⟨hb1, hb2, hb3⟩, hvs, hm, hxl, rfl⟩ := hJ
    replace F₁ := fr_ps hm F₁
    dsimp only [kstB, wsPs] at F₁
    clear lF' lN'
    have hlen : (pre.length : Int) < 50 := by
      have := congrArg List.length hpre
      rw [KStt.codes_length] at this
      simp at this
      omega
    have hvl := hvs.length
    simp only [wsNews, List.forall_mem_cons, List.not_mem_nil, false_implies, implies_true, and_true] at hne
    obtain ⟨hn1, hn2, hn3⟩ := hne
    replace hn1 := neN hn1
    replace hn2 := neN hn2
    replace hn3 := neN hn3
    k_lt2 hxl
    refine gen_q fun Q₂ hQ₂ => ?_
    k_steps
    all_goals (try subst hQ₂)
    · (rename Fr _ _ _ _ => F2); (rename News _ _ _ _ => N2)
      refine InvEndL.intro (wsNews w.params x dx l xt tx k1 vs e) F2 N2 (fun p hp => .tail _ hp) (.head _) (sub_all3 hn1 hn2 hn3) ?_
      exact ⟨_, l, vs, e, _, _, _, k1, ws_sp hc (by assumption), bt_sp hbt (by assumption), ⟨by dsimp only; omega, by rw [len_snoc]; (refine (?_ : (fun T2 T1 : Prop => T2 → (T2 → T1) → T1) _ _) ?_ (by intro h; dsimp only; exact h); exact fun p _ => p); omega, by rw [len_snoc]; (refine (?_ : (fun T2 T1 : Prop => T2 → (T2 → T1) → T1) _ _) ?_ (by intro h; dsimp only; exact h); exact fun p _ => p); omega⟩, hvs, sub_all7 rfl rfl rfl rfl rfl rfl rfl, hxl, rfl⟩
    · (rename Fr _ _ _ _ => F2); (rename News _ _ _ _ => N2)
      have hbl := bump_len hb1 hb2 hb3
      refine InvEndL.intro (wsNews w.params x dx _ xt tx k1 _ 0) F2 N2 ?_ (by k_mem) ?_ ⟨_, _, _, 0, _, _, _, k1, ws_tab hc (by assumption), bt_tab hbt (by assumption), ⟨Int.le_refl 0, by rw [len_snoc]; (refine (?_ : (fun T2 T1 : Prop => T2 → (T2 → T1) → T1) _ _) ?_ (by intro h; dsimp only; exact h); exact fun p _ => p); omega, by rw [len_snoc]; (refine (?_ : (fun T2 T1 : Prop => T2 → (T2 → T1) → T1) _ _) ?_ (by intro h; dsimp only; exact h); exact fun p _ => p); omega⟩, ints_grown (by assumption) (by assumption), sub_all7 rfl rfl rfl rfl rfl rfl rfl, ?_, rfl⟩
      · exact sub_all3 (.head _) (by k_mem) (by k_mem)
      · exact sub_all3 (neN (by omega)) hn2 hn3
      · exact ltN (by omega)
    · (rename Fr _ _ _ _ => F2); (rename News _ _ _ _ => N2)
      have hbl := bump_len hb1 hb2 hb3
      refine InvEndL.intro (wsNews w.params x dx l xt tx k1 _ e) F2 N2 ?_ (by k_mem) ?_ ⟨_, l, _, e, _, _, _, k1, ws_tab hc (by assumption), bt_tab hbt (by assumption), ⟨Int.le_refl 0, by rw [len_snoc]; (refine (?_ : (fun T2 T1 : Prop => T2 → (T2 → T1) → T1) _ _) ?_ (by intro h; dsimp only; exact h); exact fun p _ => p); omega, by rw [len_snoc]; (refine (?_ : (fun T2 T1 : Prop => T2 → (T2 → T1) → T1) _ _) ?_ (by intro h; dsimp only; exact h); exact fun p _ => p); omega⟩, ints_kept (by omega) (by assumption), sub_all7 rfl rfl rfl rfl rfl rfl rfl, hxl, rfl⟩
      · exact sub_all3 (by k_mem) (by k_mem) (by k_mem)
      · exact sub_all3 hn1 hn2 hn3
    · try (refine (?_ : (fun T2 T1 : Prop => T2 → (T2 → T1) → T1) _ _) ?_ (by intro h; dsimp only; exact h); exact fun p _ => p)
      k_steps
      try subst hQ₁
      try (refine (?_ : (fun T2 T1 : Prop => T2 → (T2 → T1) → T1) _ _) ?_ (by intro h; dsimp only; exact h); exact fun p _ => p)
      refine ⟨_, _, by assumption, by assumption, fun hk2 => ⟨rfl, ?_⟩⟩
      try (refine (?_ : (fun T2 T1 : Prop => T2 → (T2 → T1) → T1) _ _) ?_ (by intro h; dsimp only; exact h); exact fun p _ => p)
      rename News _ _ _ _ => nE
      refine ws_fin hQ hk hled hfr hk2 nE (wsSt_brk hc hbt hpre (by assumption) (by assumption)) hvs (by k_mem) (by k_mem) (by k_mem) (by k_mem) ?_ (neN (by omega)) (neN (by omega)) (neN (by omega)) (neN (by omega))
      exact decide_eq_decide.mpr (by omega)
  · intro m₁ news₁ h tk2 hJ F₁ N₁
    obtain ⟨c, l, vs, e, tb, tn, tnt, k1, hc, hbt, ⟨hb1, hb2, hb3⟩, hvs, hm, hxl, rfl⟩ := hJ
    replace F₁ := fr_ps' hm F₁
    dsimp only [kstB, wsPs] at F₁
    clear lF' lN'
    have hlen : ((KStt.codes xt).length : Int) < 50 := by
      rw [KStt.codes_length]
      omega
    have hvl := hvs.length
    k_lt2 hxl
    k_steps
    · try subst hQ₁
      try (refine (?_ : (fun T2 T1 : Prop => T2 → (T2 → T1) → T1) _ _) ?_ (by intro h; dsimp only; exact h); exact fun p _ => p)
      refine ⟨_, _, by assumption, by assumption, fun hk2 => ⟨rfl, ?_⟩⟩
      (refine (?_ : (fun T2 T1 : Prop => T2 → (T2 → T1) → T1) _ _) ?_ (by intro h; dsimp only; exact h); exact fun p _ => p)
      rename News _ _ _ _ => nE
      refine ws_fin hQ hk hled hfr hk2 nE (wsSt_end hc hbt) hvs (by k_mem) (by k_mem) (by k_mem) (by k_mem) ?_ (neN (by omega)) (neN (by omega)) (neN (by omega)) (neN (by omega))
      exact decide_eq_decide.mpr (by omega)
end
end Mine
end
section
open PySem PySem.W PySem.Calls PyProof.Rows
theorem Mine.fresh_G3 {prog : Program} {w : World} {A : Around} {env : Env} {Q : Flow → Shared → Prop} {E : Value → Shared → Prop} {s : Shared} (h : Q .next s) : wpAny (model prog w) A (execs [] env) Q E s := by
  w_top off
  k_with_none
  walk1
  exact h
end
section
open PySem PySem.W PySem.Calls PyProof.Rows
open PySem.SeqAt PySem.MeetsSeq PySem.MeetsSeq2 PySem.MeetsSeq3 PySem.SeqRoads2
open AutoSeq1 (wpAny_loadPart')
set_option Elab.async false
set_option maxRecDepth 100000
namespace Mine
/-- how two rows of ints of one length compare: f where they part, d where they don't -/
noncomputable def cmpRes (f : Int → Int → Bool) (d : Bool) : List Int → List Int → Bool
  | a :: r, b :: t => if a = b then cmpRes f d r t else f a b
  | _, _ => d

theorem arr_no {xs : List Value} {i : Nat} (h : xs.length ≤ i) : xs.toArray[((i : Nat) : Int).toNat]? = none := by
  rw [List.getElem?_toArray]
  exact List.getElem?_eq_none h
theorem arr_at {xs : List Value} {i : Nat} {v : Value} (h : xs[i]? = some v) : xs.toArray[((i : Nat) : Int).toNat]? = some v := by
  rw [List.getElem?_toArray]
  exact h
theorem lt_loop (l b : Addr) (xs ys : List Value) (ns ms : List Int) (n n2 : Nat) (dd dd2 : Option Addr) (sl sl2 : Array (Option Value)) (hx : IntsAre xs ns) (hy : IntsAre ys ms) (hsz : ns.length = ms.length) (k : Nat) :
    ∀ i : Nat, ns.length - i = k → Meets (Builtin.«list.__eq__.loop» ⟨[.ref l, .ref b, rawInt i, rawInt 0], []⟩)
      (fun A R s => s.heap.get? l = some { cls := .type "list", dict := dd, data := .seq xs.toArray n, slots := sl } ∧ s.heap.get? b = some { cls := .type "list", dict := dd2, data := .seq ys.toArray n2, slots := sl2 } ∧
        R (.ok (.ret (.bool (cmpRes (fun a b => decide (a < b)) false (ns.drop i) (ms.drop i))))) s) := by
  have lx := hx.length
  have ly := hy.length
  induction k with
  | zero =>
    intro i hk prog w A R s h
    obtain ⟨hp, g, d, tk, os⟩ := s; obtain ⟨hl, hb, h⟩ := h
    wp_walk using wpAny_loadPart' hl, wpAny_loadPart' hb
    have hi1 : xs.toArray[((i : Nat) : Int).toNat]? = none := arr_no (by rw [lx]; exact Nat.le_of_sub_eq_zero hk)
    have hi2 : ys.toArray[((i : Nat) : Int).toNat]? = none := arr_no (by rw [ly, ← hsz]; exact Nat.le_of_sub_eq_zero hk)
    have hd1 : ns.drop i = [] := List.drop_eq_nil_of_le (Nat.le_of_sub_eq_zero hk)
    rw [hd1] at h
    rw [hi1, hi2]
    wp_walk using wpAny_loadPart' hl, wpAny_loadPart' hb
    have e : xs.toArray.size = ys.toArray.size := by rw [List.size_toArray, List.size_toArray, lx, ly, hsz]
    show R (.ok (.ret (.bool (decide (xs.toArray.size < ys.toArray.size))))) _
    rw [e]
    simpa [cmpRes] using h
  | succ k ih =>
    intro i hk prog w A R s h
    obtain ⟨hp, g, d, tk, os⟩ := s; obtain ⟨hl, hb, h⟩ := h
    wp_walk using wpAny_loadPart' hl, wpAny_loadPart' hb
    have h1 : i < ns.length := Nat.lt_of_sub_pos (hk ▸ Nat.succ_pos k)
    have h2 : i < ms.length := hsz ▸ h1
    obtain ⟨t, ht⟩ := hx.get i ns[i] (List.getElem?_eq_getElem h1)
    obtain ⟨u, hu⟩ := hy.get i ms[i] (List.getElem?_eq_getElem h2)
    have hi1 : xs.toArray[((i : Nat) : Int).toNat]? = some (.int ns[i] t) := arr_at ht
    have hi2 : ys.toArray[((i : Nat) : Int).toNat]? = some (.int ms[i] u) := arr_at hu
    have hd1 : ns.drop i = ns[i] :: ns.drop (i + 1) := List.drop_eq_getElem_cons h1
    have hd2 : ms.drop i = ms[i] :: ms.drop (i + 1) := List.drop_eq_getElem_cons h2
    have hc : ((i : Int) + 1) = ((i + 1 : Nat) : Int) := by push_cast; rfl
    rw [hd1, hd2, cmpRes] at h
    rw [hi1, hi2]
    refine wpAny_bind (EqAt.int_int _ _ _ _ prog w _ _ ?_)
    by_cases e : ns[i] = ms[i]
    · rw [if_pos e] at h
      rw [beq_iff_eq.mpr e]
      wp_walk
      rw [hc]
      exact ⟨plainId_quiet plain_eq_loop _, codeAny_builtin entry_eq_loop (by
        rw [Around.under_plainId plain_eq_loop _]
        exact ih (i + 1) (by rw [Nat.sub_succ, hk]; rfl) prog w A R _ ⟨hl, hb, h⟩)⟩
    · rw [if_neg e] at h
      rw [beq_eq_false_iff_ne.mpr e]
      wp_walk using wpAny_loadPart' hl, wpAny_loadPart' hb
      rw [hi1, hi2]
      refine wpAny_bind (m := richCompare .Lt _ _) (PyProof.Rows.lt_int ?_)
      exact wpAny_pure h
theorem lt_lists {prog : Program} {w : World} {A : Around} {E : Value → Shared → Prop} {s : Shared} {l b : Addr} {xs ys : List Value} {ns ms : List Int} {Q : Value → Shared → Prop} (hl : s.heap.IsList l xs.toArray) (hb : s.heap.IsList b ys.toArray) (hx : IntsAre xs ns) (hy : IntsAre ys ms) (hsz : ns.length = ms.length) (hu : A.units < cLine)
    (h : Q (.bool (cmpRes (fun a b => decide (a < b)) false ns ms)) s) : wpAny (model prog w) A (compareOp .Lt (.ref l) (.ref b)) Q E s := by
  obtain ⟨⟨cls, dd, data, sl⟩, ho, hc, n, hd⟩ := id hl
  obtain ⟨⟨cls2, dd2, data2, sl2⟩, ho2, hc2, n2, hd2⟩ := id hb
  simp only at hc hd hc2 hd2
  subst hc hd hc2 hd2
  have m : Meets (Builtin.«list.__lt__» ⟨[.ref l, .ref b], []⟩)
      (fun A R s => s.heap.get? l = some { cls := .type "list", dict := dd, data := .seq xs.toArray n, slots := sl } ∧ s.heap.get? b = some { cls := .type "list", dict := dd2, data := .seq ys.toArray n2, slots := sl2 } ∧
        R (.ok (.ret (.bool (cmpRes (fun a b => decide (a < b)) false ns ms)))) s) := by
    intro prog w A R s h
    obtain ⟨hp, g, d, tk, os⟩ := s; obtain ⟨hl, hb, h⟩ := h
    have f3 := AutoSeq1.sub_list_list
    wp_walk using wpAny_loadPart' hl, wpAny_loadPart' hb
    exact ⟨plainId_quiet plain_eq_loop _, codeAny_builtin entry_eq_loop (by
      rw [Around.under_plainId plain_eq_loop _]
      exact lt_loop l b xs ys ns ms n n2 dd dd2 sl sl2 hx hy hsz _ 0 rfl prog w A R _ ⟨hl, hb, by simpa using h⟩)⟩
  show wpAny _ _ (richCompare .Lt _ _) _ _ _
  exact richCompare_meets_room (op := .Lt) ⟨_, ho, rfl⟩ ⟨_, ho2, rfl⟩ F.slot_list_lt F.entry_list_lt (F.args_list_lt_2 _ _) m
    ⟨ho, ho2, show Value.bool _ ≠ Value.notImplemented ∧ Q (.bool _) s from ⟨(fun x => nomatch x), h⟩⟩ hu

theorem le_loop (l b : Addr) (xs ys : List Value) (ns ms : List Int) (n n2 : Nat) (dd dd2 : Option Addr) (sl sl2 : Array (Option Value)) (hx : IntsAre xs ns) (hy : IntsAre ys ms) (hsz : ns.length = ms.length) (k : Nat) :
    ∀ i : Nat, ns.length - i = k → Meets (Builtin.«list.__eq__.loop» ⟨[.ref l, .ref b, rawInt i, rawInt 1], []⟩)
      (fun A R s => s.heap.get? l = some { cls := .type "list", dict := dd, data := .seq xs.toArray n, slots := sl } ∧ s.heap.get? b = some { cls := .type "list", dict := dd2, data := .seq ys.toArray n2, slots := sl2 } ∧
        R (.ok (.ret (.bool (cmpRes (fun a b => decide (a ≤ b)) true (ns.drop i) (ms.drop i))))) s) := by
  have lx := hx.length
  have ly := hy.length
  induction k with
  | zero =>
    intro i hk prog w A R s h
    obtain ⟨hp, g, d, tk, os⟩ := s; obtain ⟨hl, hb, h⟩ := h
    wp_walk using wpAny_loadPart' hl, wpAny_loadPart' hb
    have hi1 : xs.toArray[((i : Nat) : Int).toNat]? = none := arr_no (by rw [lx]; exact Nat.le_of_sub_eq_zero hk)
    have hi2 : ys.toArray[((i : Nat) : Int).toNat]? = none := arr_no (by rw [ly, ← hsz]; exact Nat.le_of_sub_eq_zero hk)
    have hd1 : ns.drop i = [] := List.drop_eq_nil_of_le (Nat.le_of_sub_eq_zero hk)
    rw [hd1] at h
    rw [hi1, hi2]
    wp_walk using wpAny_loadPart' hl, wpAny_loadPart' hb
    have e : xs.toArray.size = ys.toArray.size := by rw [List.size_toArray, List.size_toArray, lx, ly, hsz]
    show R (.ok (.ret (.bool (decide (xs.toArray.size ≤ ys.toArray.size))))) _
    rw [e]
    simpa [cmpRes] using h
  | succ k ih =>
    intro i hk prog w A R s h
    obtain ⟨hp, g, d, tk, os⟩ := s; obtain ⟨hl, hb, h⟩ := h
    wp_walk using wpAny_loadPart' hl, wpAny_loadPart' hb
    have h1 : i < ns.length := Nat.lt_of_sub_pos (hk ▸ Nat.succ_pos k)
    have h2 : i < ms.length := hsz ▸ h1
    obtain ⟨t, ht⟩ := hx.get i ns[i] (List.getElem?_eq_getElem h1)
    obtain ⟨u, hu⟩ := hy.get i ms[i] (List.getElem?_eq_getElem h2)
    have hi1 : xs.toArray[((i : Nat) : Int).toNat]? = some (.int ns[i] t) := arr_at ht
    have hi2 : ys.toArray[((i : Nat) : Int).toNat]? = some (.int ms[i] u) := arr_at hu
    have hd1 : ns.drop i = ns[i] :: ns.drop (i + 1) := List.drop_eq_getElem_cons h1
    have hd2 : ms.drop i = ms[i] :: ms.drop (i + 1) := List.drop_eq_getElem_cons h2
    have hc : ((i : Int) + 1) = ((i + 1 : Nat) : Int) := by push_cast; rfl
    rw [hd1, hd2, cmpRes] at h
    rw [hi1, hi2]
    refine wpAny_bind (EqAt.int_int _ _ _ _ prog w _ _ ?_)
    by_cases e : ns[i] = ms[i]
    · rw [if_pos e] at h
      rw [beq_iff_eq.mpr e]
      wp_walk
      rw [hc]
      exact ⟨plainId_quiet plain_eq_loop _, codeAny_builtin entry_eq_loop (by
        rw [Around.under_plainId plain_eq_loop _]
        exact ih (i + 1) (by rw [Nat.sub_succ, hk]; rfl) prog w A R _ ⟨hl, hb, h⟩)⟩
    · rw [if_neg e] at h
      rw [beq_eq_false_iff_ne.mpr e]
      wp_walk using wpAny_loadPart' hl, wpAny_loadPart' hb
      rw [hi1, hi2]
      refine wpAny_bind (m := richCompare .LtE _ _) (PyProof.Rows.le_int ?_)
      exact wpAny_pure h
theorem le_lists {prog : Program} {w : World} {A : Around} {E : Value → Shared → Prop} {s : Shared} {l b : Addr} {xs ys : List Value} {ns ms : List Int} {Q : Value → Shared → Prop} (hl : s.heap.IsList l xs.toArray) (hb : s.heap.IsList b ys.toArray) (hx : IntsAre xs ns) (hy : IntsAre ys ms) (hsz : ns.length = ms.length) (hu : A.units < cLine)
    (h : Q (.bool (cmpRes (fun a b => decide (a ≤ b)) true ns ms)) s) : wpAny (model prog w) A (compareOp .LtE (.ref l) (.ref b)) Q E s := by
  obtain ⟨⟨cls, dd, data, sl⟩, ho, hc, n, hd⟩ := id hl
  obtain ⟨⟨cls2, dd2, data2, sl2⟩, ho2, hc2, n2, hd2⟩ := id hb
  simp only at hc hd hc2 hd2
  subst hc hd hc2 hd2
  have m : Meets (Builtin.«list.__le__» ⟨[.ref l, .ref b], []⟩)
      (fun A R s => s.heap.get? l = some { cls := .type "list", dict := dd, data := .seq xs.toArray n, slots := sl } ∧ s.heap.get? b = some { cls := .type "list", dict := dd2, data := .seq ys.toArray n2, slots := sl2 } ∧
        R (.ok (.ret (.bool (cmpRes (fun a b => decide (a ≤ b)) true ns ms)))) s) := by
    intro prog w A R s h
    obtain ⟨hp, g, d, tk, os⟩ := s; obtain ⟨hl, hb, h⟩ := h
    have f3 := AutoSeq1.sub_list_list
    wp_walk using wpAny_loadPart' hl, wpAny_loadPart' hb
    exact ⟨plainId_quiet plain_eq_loop _, codeAny_builtin entry_eq_loop (by
      rw [Around.under_plainId plain_eq_loop _]
      exact le_loop l b xs ys ns ms n n2 dd dd2 sl sl2 hx hy hsz _ 0 rfl prog w A R _ ⟨hl, hb, by simpa using h⟩)⟩
  show wpAny _ _ (richCompare .LtE _ _) _ _ _
  exact richCompare_meets_room (op := .LtE) ⟨_, ho, rfl⟩ ⟨_, ho2, rfl⟩ F.slot_list_le F.entry_list_le (F.args_list_le_2 _ _) m
    ⟨ho, ho2, show Value.bool _ ≠ Value.notImplemented ∧ Q (.bool _) s from ⟨(fun x => nomatch x), h⟩⟩ hu

theorem gt_loop (l b : Addr) (xs ys : List Value) (ns ms : List Int) (n n2 : Nat) (dd dd2 : Option Addr) (sl sl2 : Array (Option Value)) (hx : IntsAre xs ns) (hy : IntsAre ys ms) (hsz : ns.length = ms.length) (k : Nat) :
    ∀ i : Nat, ns.length - i = k → Meets (Builtin.«list.__eq__.loop» ⟨[.ref l, .ref b, rawInt i, rawInt 4], []⟩)
      (fun A R s => s.heap.get? l = some { cls := .type "list", dict := dd, data := .seq xs.toArray n, slots := sl } ∧ s.heap.get? b = some { cls := .type "list", dict := dd2, data := .seq ys.toArray n2, slots := sl2 } ∧
        R (.ok (.ret (.bool (cmpRes (fun a b => decide (b < a)) false (ns.drop i) (ms.drop i))))) s) := by
  have lx := hx.length
  have ly := hy.length
  induction k with
  | zero =>
    intro i hk prog w A R s h
    obtain ⟨hp, g, d, tk, os⟩ := s; obtain ⟨hl, hb, h⟩ := h
    wp_walk using wpAny_loadPart' hl, wpAny_loadPart' hb
    have hi1 : xs.toArray[((i : Nat) : Int).toNat]? = none := arr_no (by rw [lx]; exact Nat.le_of_sub_eq_zero hk)
    have hi2 : ys.toArray[((i : Nat) : Int).toNat]? = none := arr_no (by rw [ly, ← hsz]; exact Nat.le_of_sub_eq_zero hk)
    have hd1 : ns.drop i = [] := List.drop_eq_nil_of_le (Nat.le_of_sub_eq_zero hk)
    rw [hd1] at h
    rw [hi1, hi2]
    wp_walk using wpAny_loadPart' hl, wpAny_loadPart' hb
    have e : xs.toArray.size = ys.toArray.size := by rw [List.size_toArray, List.size_toArray, lx, ly, hsz]
    show R (.ok (.ret (.bool (decide (xs.toArray.size > ys.toArray.size))))) _
    rw [e]
    simpa [cmpRes] using h
  | succ k ih =>
    intro i hk prog w A R s h
    obtain ⟨hp, g, d, tk, os⟩ := s; obtain ⟨hl, hb, h⟩ := h
    wp_walk using wpAny_loadPart' hl, wpAny_loadPart' hb
    have h1 : i < ns.length := Nat.lt_of_sub_pos (hk ▸ Nat.succ_pos k)
    have h2 : i < ms.length := hsz ▸ h1
    obtain ⟨t, ht⟩ := hx.get i ns[i] (List.getElem?_eq_getElem h1)
    obtain ⟨u, hu⟩ := hy.get i ms[i] (List.getElem?_eq_getElem h2)
    have hi1 : xs.toArray[((i : Nat) : Int).toNat]? = some (.int ns[i] t) := arr_at ht
    have hi2 : ys.toArray[((i : Nat) : Int).toNat]? = some (.int ms[i] u) := arr_at hu
    have hd1 : ns.drop i = ns[i] :: ns.drop (i + 1) := List.drop_eq_getElem_cons h1
    have hd2 : ms.drop i = ms[i] :: ms.drop (i + 1) := List.drop_eq_getElem_cons h2
    have hc : ((i : Int) + 1) = ((i + 1 : Nat) : Int) := by push_cast; rfl
    rw [hd1, hd2, cmpRes] at h
    rw [hi1, hi2]
    refine wpAny_bind (EqAt.int_int _ _ _ _ prog w _ _ ?_)
    by_cases e : ns[i] = ms[i]
    · rw [if_pos e] at h
      rw [beq_iff_eq.mpr e]
      wp_walk
      rw [hc]
      exact ⟨plainId_quiet plain_eq_loop _, codeAny_builtin entry_eq_loop (by
        rw [Around.under_plainId plain_eq_loop _]
        exact ih (i + 1) (by rw [Nat.sub_succ, hk]; rfl) prog w A R _ ⟨hl, hb, h⟩)⟩
    · rw [if_neg e] at h
      rw [beq_eq_false_iff_ne.mpr e]
      wp_walk using wpAny_loadPart' hl, wpAny_loadPart' hb
      rw [hi1, hi2]
      refine wpAny_bind (m := richCompare .Gt _ _) (PyProof.Rows.gt_int ?_)
      exact wpAny_pure h
theorem gt_lists {prog : Program} {w : World} {A : Around} {E : Value → Shared → Prop} {s : Shared} {l b : Addr} {xs ys : List Value} {ns ms : List Int} {Q : Value → Shared → Prop} (hl : s.heap.IsList l xs.toArray) (hb : s.heap.IsList b ys.toArray) (hx : IntsAre xs ns) (hy : IntsAre ys ms) (hsz : ns.length = ms.length) (hu : A.units < cLine)
    (h : Q (.bool (cmpRes (fun a b => decide (b < a)) false ns ms)) s) : wpAny (model prog w) A (compareOp .Gt (.ref l) (.ref b)) Q E s := by
  obtain ⟨⟨cls, dd, data, sl⟩, ho, hc, n, hd⟩ := id hl
  obtain ⟨⟨cls2, dd2, data2, sl2⟩, ho2, hc2, n2, hd2⟩ := id hb
  simp only at hc hd hc2 hd2
  subst hc hd hc2 hd2
  have m : Meets (Builtin.«list.__gt__» ⟨[.ref l, .ref b], []⟩)
      (fun A R s => s.heap.get? l = some { cls := .type "list", dict := dd, data := .seq xs.toArray n, slots := sl } ∧ s.heap.get? b = some { cls := .type "list", dict := dd2, data := .seq ys.toArray n2, slots := sl2 } ∧
        R (.ok (.ret (.bool (cmpRes (fun a b => decide (b < a)) false ns ms)))) s) := by
    intro prog w A R s h
    obtain ⟨hp, g, d, tk, os⟩ := s; obtain ⟨hl, hb, h⟩ := h
    have f3 := AutoSeq1.sub_list_list
    wp_walk using wpAny_loadPart' hl, wpAny_loadPart' hb
    exact ⟨plainId_quiet plain_eq_loop _, codeAny_builtin entry_eq_loop (by
      rw [Around.under_plainId plain_eq_loop _]
      exact gt_loop l b xs ys ns ms n n2 dd dd2 sl sl2 hx hy hsz _ 0 rfl prog w A R _ ⟨hl, hb, by simpa using h⟩)⟩
  show wpAny _ _ (richCompare .Gt _ _) _ _ _
  exact richCompare_meets_room (op := .Gt) ⟨_, ho, rfl⟩ ⟨_, ho2, rfl⟩ F.slot_list_gt F.entry_list_gt (F.args_list_gt_2 _ _) m
    ⟨ho, ho2, show Value.bool _ ≠ Value.notImplemented ∧ Q (.bool _) s from ⟨(fun x => nomatch x), h⟩⟩ hu

theorem ge_loop (l b : Addr) (xs ys : List Value) (ns ms : List Int) (n n2 : Nat) (dd dd2 : Option Addr) (sl sl2 : Array (Option Value)) (hx : IntsAre xs ns) (hy : IntsAre ys ms) (hsz : ns.length = ms.length) (k : Nat) :
    ∀ i : Nat, ns.length - i = k → Meets (Builtin.«list.__eq__.loop» ⟨[.ref l, .ref b, rawInt i, rawInt 5], []⟩)
      (fun A R s => s.heap.get? l = some { cls := .type "list", dict := dd, data := .seq xs.toArray n, slots := sl } ∧ s.heap.get? b = some { cls := .type "list", dict := dd2, data := .seq ys.toArray n2, slots := sl2 } ∧
        R (.ok (.ret (.bool (cmpRes (fun a b => decide (b ≤ a)) true (ns.drop i) (ms.drop i))))) s) := by
  have lx := hx.length
  have ly := hy.length
  induction k with
  | zero =>
    intro i hk prog w A R s h
    obtain ⟨hp, g, d, tk, os⟩ := s; obtain ⟨hl, hb, h⟩ := h
    wp_walk using wpAny_loadPart' hl, wpAny_loadPart' hb
    have hi1 : xs.toArray[((i : Nat) : Int).toNat]? = none := arr_no (by rw [lx]; exact Nat.le_of_sub_eq_zero hk)
    have hi2 : ys.toArray[((i : Nat) : Int).toNat]? = none := arr_no (by rw [ly, ← hsz]; exact Nat.le_of_sub_eq_zero hk)
    have hd1 : ns.drop i = [] := List.drop_eq_nil_of_le (Nat.le_of_sub_eq_zero hk)
    rw [hd1] at h
    rw [hi1, hi2]
    wp_walk using wpAny_loadPart' hl, wpAny_loadPart' hb
    have e : xs.toArray.size = ys.toArray.size := by rw [List.size_toArray, List.size_toArray, lx, ly, hsz]
    show R (.ok (.ret (.bool (decide (xs.toArray.size ≥ ys.toArray.size))))) _
    rw [e]
    simpa [cmpRes] using h
  | succ k ih =>
    intro i hk prog w A R s h
    obtain ⟨hp, g, d, tk, os⟩ := s; obtain ⟨hl, hb, h⟩ := h
    wp_walk using wpAny_loadPart' hl, wpAny_loadPart' hb
    have h1 : i < ns.length := Nat.lt_of_sub_pos (hk ▸ Nat.succ_pos k)
    have h2 : i < ms.length := hsz ▸ h1
    obtain ⟨t, ht⟩ := hx.get i ns[i] (List.getElem?_eq_getElem h1)
    obtain ⟨u, hu⟩ := hy.get i ms[i] (List.getElem?_eq_getElem h2)
    have hi1 : xs.toArray[((i : Nat) : Int).toNat]? = some (.int ns[i] t) := arr_at ht
    have hi2 : ys.toArray[((i : Nat) : Int).toNat]? = some (.int ms[i] u) := arr_at hu
    have hd1 : ns.drop i = ns[i] :: ns.drop (i + 1) := List.drop_eq_getElem_cons h1
    have hd2 : ms.drop i = ms[i] :: ms.drop (i + 1) := List.drop_eq_getElem_cons h2
    have hc : ((i : Int) + 1) = ((i + 1 : Nat) : Int) := by push_cast; rfl
    rw [hd1, hd2, cmpRes] at h
    rw [hi1, hi2]
    refine wpAny_bind (EqAt.int_int _ _ _ _ prog w _ _ ?_)
    by_cases e : ns[i] = ms[i]
    · rw [if_pos e] at h
      rw [beq_iff_eq.mpr e]
      wp_walk
      rw [hc]
      exact ⟨plainId_quiet plain_eq_loop _, codeAny_builtin entry_eq_loop (by
        rw [Around.under_plainId plain_eq_loop _]
        exact ih (i + 1) (by rw [Nat.sub_succ, hk]; rfl) prog w A R _ ⟨hl, hb, h⟩)⟩
    · rw [if_neg e] at h
      rw [beq_eq_false_iff_ne.mpr e]
      wp_walk using wpAny_loadPart' hl, wpAny_loadPart' hb
      rw [hi1, hi2]
      refine wpAny_bind (m := richCompare .GtE _ _) (PyProof.Rows.ge_int ?_)
      exact wpAny_pure h
theorem ge_lists {prog : Program} {w : World} {A : Around} {E : Value → Shared → Prop} {s : Shared} {l b : Addr} {xs ys : List Value} {ns ms : List Int} {Q : Value → Shared → Prop} (hl : s.heap.IsList l xs.toArray) (hb : s.heap.IsList b ys.toArray) (hx : IntsAre xs ns) (hy : IntsAre ys ms) (hsz : ns.length = ms.length) (hu : A.units < cLine)
    (h : Q (.bool (cmpRes (fun a b => decide (b ≤ a)) true ns ms)) s) : wpAny (model prog w) A (compareOp .GtE (.ref l) (.ref b)) Q E s := by
  obtain ⟨⟨cls, dd, data, sl⟩, ho, hc, n, hd⟩ := id hl
  obtain ⟨⟨cls2, dd2, data2, sl2⟩, ho2, hc2, n2, hd2⟩ := id hb
  simp only at hc hd hc2 hd2
  subst hc hd hc2 hd2
  have m : Meets (Builtin.«list.__ge__» ⟨[.ref l, .ref b], []⟩)
      (fun A R s => s.heap.get? l = some { cls := .type "list", dict := dd, data := .seq xs.toArray n, slots := sl } ∧ s.heap.get? b = some { cls := .type "list", dict := dd2, data := .seq ys.toArray n2, slots := sl2 } ∧
        R (.ok (.ret (.bool (cmpRes (fun a b => decide (b ≤ a)) true ns ms)))) s) := by
    intro prog w A R s h
    obtain ⟨hp, g, d, tk, os⟩ := s; obtain ⟨hl, hb, h⟩ := h
    have f3 := AutoSeq1.sub_list_list
    wp_walk using wpAny_loadPart' hl, wpAny_loadPart' hb
    exact ⟨plainId_quiet plain_eq_loop _, codeAny_builtin entry_eq_loop (by
      rw [Around.under_plainId plain_eq_loop _]
      exact ge_loop l b xs ys ns ms n n2 dd dd2 sl sl2 hx hy hsz _ 0 rfl prog w A R _ ⟨hl, hb, by simpa using h⟩)⟩
  show wpAny _ _ (richCompare .GtE _ _) _ _ _
  exact richCompare_meets_room (op := .GtE) ⟨_, ho, rfl⟩ ⟨_, ho2, rfl⟩ F.slot_list_ge F.entry_list_ge (F.args_list_ge_2 _ _) m
    ⟨ho, ho2, show Value.bool _ ≠ Value.notImplemented ∧ Q (.bool _) s from ⟨(fun x => nomatch x), h⟩⟩ hu

end Mine
end
section
open PySem PySem.W PySem.Calls PyProof.Rows
theorem Mine.fresh_H1 {prog : Program} {w : World} {A : Around} {env : Env} {Q : Flow → Shared → Prop} {E : Value → Shared → Prop} {s : Shared} (h : Q .next s) : wpAny (model prog w) A (execs [] env) Q E s := by
  w_top off
  k_with_none
  walk1
  exact h
end
section
open PySem PySem.W PySem.Calls PyProof.Rows
set_option Elab.async false
namespace Mine
/-- a for loop over the iterator `it`, that raises nothing -/
noncomputable def LoopC (prog : Program) (w : World) (A : Around) (env : Env) (target : Expr) (body : List Stmt) (Q : Flow → Shared → Prop) (it : Value) (s : Shared) : Prop :=
  codeAny (model prog w) A (.forLoop target it body [] env) (fun r s' => match r with | .ok f => Q f s' | .error _ => False) s
section
variable {prog : Program} {w : World} {A : Around} {s : Shared} {env : Env} {h₀ : Heap} {target : Expr} {body : List Stmt} {Q : Flow → Shared → Prop}
theorem for_any {iter : Expr} {pos : Pos} (h : wpAny (model prog w) A (eval iter env) (fun x s₁ => wpAny (model prog w) A (pyIter x) (fun it s₂ => LoopC prog w A env target body Q it s₂) (fun _ _ => False) s₁) (fun _ _ => False) s)
    (hs : ∀ x, foldedSetIterable iter env x = pure x) : wpAny (model prog w) A (exec (.For target iter body [] pos) env) Q (fun _ _ => False) s := by
  refine wpAny_For (wpAny_mono h (fun x s₁ h₁ => wpAny_mono h₁ (fun it s₂ h₂ => ?_) fun _ _ e => e) fun _ _ e => e) hs
  exact codeAny_mono h₂ (fun r s' q => by cases r with | ok f => exact q | error e => exact q.elim)
theorem loopC_gen {I : Addr} {fp : List Addr} {n : Nat} {P : Nat → Value → Prop} {St : Nat → Heap → Prop} {m₀ : Str → Option Value} {news keepL : List (Addr × Obj)} (J : Nat → (Str → Option Value) → List (Addr × Obj) → Prop)
    (W : Walks prog w A I fp [I] n P St) (hlive : ∀ i h, St i h → ∃ o, h.get? I = some o) (hLI : env.locals ≠ I) (hI0 : h₀.get? I = none) (hnw : ∀ p ∈ news, p.1 ≠ I) (hst : St 0 s.heap)
    (F : Fr h₀ env.locals s.heap m₀) (N : News h₀ env.locals s.heap news) (hj : J 0 m₀ news)
    (hkp : ∀ i m nx, J i m nx → ∀ q ∈ keepL, q ∈ nx) (hother : ∀ b ∈ fp, b ≠ I → (∃ o, h₀.get? b = some o) ∨ ∃ o, (b, o) ∈ keepL)
    (turn : ∀ i v m₁ news₁ h tk o, i < n → P i v → J i m₁ news₁ → (∀ p ∈ news₁, p.1 ≠ I) → Fr h₀ env.locals h m₁ → News h₀ env.locals h ((I, o) :: news₁) →
      wpAny (model prog w) A (assign target env v) (fun _ s₂ => wpAny (model prog w) A (execs body env) (fun f s₃ => InvPostL h₀ env.locals (J (i + 1)) (I, o) { s with heap := h, toks := tk } Q f s₃) (fun _ _ => False) s₂) (fun _ _ => False) { s with heap := h, toks := tk })
    (done : ∀ m₁ news₁ h tk, J n m₁ news₁ → Fr h₀ env.locals h m₁ → News h₀ env.locals h news₁ → Q .next { s with heap := h, toks := tk })
    (ht : ∀ v, letOwnedTupleGo target (.ref I) v = pure ()) : LoopC prog w A env target body Q (.ref I) s := by
  have up : ∀ {h h' : Heap} {m₁ : Str → Option Value} {news₁ : List (Addr × Obj)}, Fr h₀ env.locals h m₁ → News h₀ env.locals h news₁ → (∀ p ∈ news₁, p.1 ≠ I) → (∀ b o, b ∉ [I] → h.get? b = some o → h'.get? b = some o) → Fr h₀ env.locals h' m₁ ∧ News h₀ env.locals h' news₁ := by
    intro h h' m₁ news₁ F₁ N₁ hne k
    obtain ⟨⟨oL, es, ep, hL, r⟩, kp, ab⟩ := F₁
    refine ⟨⟨⟨oL, es, ep, k _ _ (by simpa using hLI) hL, r⟩, fun b o e => k b o (fun q => ?_) (kp b o e), ab⟩, fun p hp => ⟨k _ _ (by simpa using hne p hp) (N₁ p hp).1, (N₁ p hp).2⟩⟩
    rw [List.mem_singleton.mp q, hI0] at e
    cases e
  refine codeAny_forLoop (fun k s' => ∃ h' tk m' news' i, s' = { s with heap := h', toks := tk } ∧ St i h' ∧ Fr h₀ env.locals h' m' ∧ News h₀ env.locals h' news' ∧ (∀ p ∈ news', p.1 ≠ I) ∧ J i m' news' ∧ i ≤ n ∧ k = n + 1 - i) ?_ (n + 1)
    ⟨s.heap, s.toks, m₀, news, 0, rfl, hst, F, N, hnw, hj, Nat.zero_le _, rfl⟩ ht
  rintro k s' ⟨h, tk, m₁, news₁, i, rfl, hst', F₁, N₁, hne, hJ, hi, rfl⟩
  by_cases hlt : i < n
  · refine W.item i _ _ _ hlt hst' fun v h' tk' hP hst₂ hk => ?_
    obtain ⟨F₂, N₂⟩ := up F₁ N₁ hne hk
    obtain ⟨o, ho⟩ := hlive _ _ hst₂
    have N₃ : News h₀ env.locals h' ((I, o) :: news₁) := fun p hp => by
      rcases List.mem_cons.mp hp with rfl | hp
      · exact ⟨ho, Ne.symm hLI, hI0⟩
      · exact N₂ p hp
    refine wpAny_mono (turn i v m₁ news₁ h' tk' o hlt hP hJ hne F₂ N₃) (fun _ s₂ h₂ => wpAny_mono h₂ (fun f s₃ h₃ => ?_) fun _ _ e => e.elim) fun _ _ e => e.elim
    have fin : InvEndL h₀ env.locals (J (i + 1)) (I, o) { s with heap := h', toks := tk' } s₃ → ∃ m, m < n + 1 - i ∧ ∃ h' tk m' news' j, s₃ = { s with heap := h', toks := tk } ∧ St j h' ∧ Fr h₀ env.locals h' m' ∧ News h₀ env.locals h' news' ∧ (∀ p ∈ news', p.1 ≠ I) ∧ J j m' news' ∧ j ≤ n ∧ m = n + 1 - j := by
      rintro ⟨h₄, tk₄, m₄, news₄, nx, rfl, F₄, N₄, hn, hq, ha, hm⟩
      refine ⟨n + 1 - (i + 1), by omega, h₄, tk₄, m₄, nx, i + 1, rfl, ?_, F₄, fun p hp => N₄ p (hn p hp), ha, hm, hlt, rfl⟩
      refine W.frame _ _ _ hst₂ fun b hb o' e => ?_
      by_cases hbI : b = I
      · subst hbI
        rw [ho] at e
        cases e
        exact (N₄ _ hq).1
      · rcases hother b hb hbI with ⟨ob, eb⟩ | ⟨ob, eb⟩
        · have := F₂.keep _ _ eb
          rw [e] at this
          cases this
          exact F₄.keep _ _ eb
        · have := (N₂ _ (hkp _ _ _ hJ _ eb)).1
          rw [e] at this
          cases this
          exact (N₄ _ (hn _ (hkp _ _ _ hm _ eb))).1
    cases f with
    | ret v => exact h₃
    | brk => exact h₃
    | next => exact fin h₃
    | cont => exact fin h₃
  · have hin : i = n := by omega
    subst hin
    refine W.done _ _ _ hst' fun h' tk' hk => ?_
    obtain ⟨F₂, N₂⟩ := up F₁ N₁ hne hk
    exact wpAny_execs_nil (done m₁ news₁ h' tk' hJ F₂ N₂)
theorem rangeC {r : Addr} {a₀ b₀ : Int} {t₀ u₀ v₀ : Tok} {n : Nat} {m₀ : Str → Option Value} {news : List (Addr × Obj)} (J : Nat → (Str → Option Value) → List (Addr × Obj) → Prop)
    (hh : A.handled = none) (hr : IsRange s.heap r a₀ b₀ 1 t₀ u₀ v₀) (hsmall : Builtin.Range.small a₀ b₀ 1 = true) (hn : Builtin.Range.rangeSize a₀ b₀ 1 = (n : Int)) (F : Fr h₀ env.locals s.heap m₀) (N : News h₀ env.locals s.heap news) (hj : J 0 m₀ news)
    (turn : ∀ i t m₁ news₁ h tk I o, i < n → J i m₁ news₁ → (∀ p ∈ news₁, p.1 ≠ I) → Fr h₀ env.locals h m₁ → News h₀ env.locals h ((I, o) :: news₁) →
      wpAny (model prog w) A (assign target env (.int (a₀ + (i : Int)) t)) (fun _ s₂ => wpAny (model prog w) A (execs body env) (fun f s₃ => InvPostL h₀ env.locals (J (i + 1)) (I, o) { s with heap := h, toks := tk } Q f s₃) (fun _ _ => False) s₂) (fun _ _ => False) { s with heap := h, toks := tk })
    (done : ∀ m₁ news₁ h tk, J n m₁ news₁ → Fr h₀ env.locals h m₁ → News h₀ env.locals h news₁ → Q .next { s with heap := h, toks := tk })
    (ht : ∀ I v, letOwnedTupleGo target (.ref I) v = pure ()) {E : Value → Shared → Prop} :
    wpAny (model prog w) A (pyIter (.ref r)) (fun it s₂ => LoopC prog w A env target body Q it s₂) E s := by
  have hI0 : h₀.get? s.heap.objs.size = none := next_is_new F
  refine wpAny_pyIter_range hr hsmall ?_
  have W : Walks prog w A s.heap.objs.size [s.heap.objs.size] [s.heap.objs.size] n (fun i v => i < n ∧ ∃ t, v = .int (a₀ + i * 1) t)
      (fun i h => IsRangeIter h s.heap.objs.size (a₀ + (i : Nat) * 1) ((n : Int) - (i : Nat)) 1) := (Walks.range hh _ a₀ 1 n).bound
  refine loopC_gen (keepL := []) J W (fun i h q => ⟨_, q⟩) (fun e => absurd F.ns.lt (e ▸ Nat.lt_irrefl _)) hI0 ?_ (by show IsRangeIter _ _ _ _ _; rw [hn]; simpa using Heap.get?_push_size _ rfl) (F.push _) (fun p hp => ⟨Heap.get?_push_of_some _ (N p hp).1, (N p hp).2⟩) hj (fun _ _ _ _ _ h => nomatch h) ?_ ?_ done (ht _)
  · intro p hp hI
    exact absurd (Heap.lt_size (N p hp).1) (hI ▸ Nat.lt_irrefl _)
  · intro b hb hne
    exact absurd (List.mem_singleton.mp hb) hne
  · rintro i v m₁ news₁ h tk o hi ⟨_, t, rfl⟩ hJ hne F₁ N₁
    rw [Int.mul_one]
    exact turn i t m₁ news₁ h tk _ o hi hJ hne F₁ N₁
/-- over a list that lies in the ground, or in the ledger's part that stays -/
theorem listC {l : Addr} {vs : List Value} {m₀ : Str → Option Value} {news keepL : List (Addr × Obj)} (J : Nat → (Str → Option Value) → List (Addr × Obj) → Prop)
    (hh : A.handled = none) (hl : s.heap.IsList l vs.toArray) (hwh : (∃ o, h₀.get? l = some o) ∨ ∃ o, (l, o) ∈ keepL) (F : Fr h₀ env.locals s.heap m₀) (N : News h₀ env.locals s.heap news) (hj : J 0 m₀ news)
    (hkp : ∀ i m nx, J i m nx → ∀ q ∈ keepL, q ∈ nx)
    (turn : ∀ i v m₁ news₁ h tk I o, vs[i]? = some v → J i m₁ news₁ → (∀ p ∈ news₁, p.1 ≠ I) → Fr h₀ env.locals h m₁ → News h₀ env.locals h ((I, o) :: news₁) →
      wpAny (model prog w) A (assign target env v) (fun _ s₂ => wpAny (model prog w) A (execs body env) (fun f s₃ => InvPostL h₀ env.locals (J (i + 1)) (I, o) { s with heap := h, toks := tk } Q f s₃) (fun _ _ => False) s₂) (fun _ _ => False) { s with heap := h, toks := tk })
    (done : ∀ m₁ news₁ h tk, J vs.length m₁ news₁ → Fr h₀ env.locals h m₁ → News h₀ env.locals h news₁ → Q .next { s with heap := h, toks := tk })
    (ht : ∀ I v, letOwnedTupleGo target (.ref I) v = pure ()) {E : Value → Shared → Prop} :
    wpAny (model prog w) A (pyIter (.ref l)) (fun it s₂ => LoopC prog w A env target body Q it s₂) E s := by
  have hI0 : h₀.get? s.heap.objs.size = none := next_is_new F
  obtain ⟨ol, hol, _⟩ := id hl
  have hne : l ≠ s.heap.objs.size := Nat.ne_of_lt (Heap.lt_size hol)
  refine wpAny_pyIter_list hl ?_
  have W := Walks.list (prog := prog) (w := w) hh s.heap.objs.size l hne vs.toArray
  rw [List.size_toArray] at W
  refine loopC_gen (keepL := keepL) J W (fun i h q => ⟨_, q.1.choose_spec.1⟩) (fun e => absurd F.ns.lt (e ▸ Nat.lt_irrefl _)) hI0 ?_ ⟨⟨_, Heap.get?_push_size _ rfl, rfl, rfl⟩, hl.at fun o e => Heap.get?_push_of_some _ e⟩ (F.push _) (fun p hp => ⟨Heap.get?_push_of_some _ (N p hp).1, (N p hp).2⟩) hj hkp ?_ ?_ done (ht _)
  · intro p hp hI
    exact absurd (Heap.lt_size (N p hp).1) (hI ▸ Nat.lt_irrefl _)
  · intro b hb hbI
    rcases List.mem_cons.mp hb with e | hb
    · exact absurd e hbI
    · rw [List.mem_singleton.mp hb]; exact hwh
  · intro i v m₁ news₁ h tk o hi hP hJ hne F₁ N₁
    exact turn i v m₁ news₁ h tk _ o (arr_get hP) hJ hne F₁ N₁
end
end Mine
end
section
open PySem PySem.W PySem.Calls PyProof.Rows
theorem Mine.fresh_MFor {prog : Program} {w : World} {A : Around} {env : Env} {Q : Flow → Shared → Prop} {E : Value → Shared → Prop} {s : Shared} (h : Q .next s) : wpAny (model prog w) A (execs [] env) Q E s := by
  w_top off
  k_with_none
  walk1
  exact h
end
section
open PySem PySem.W PySem.Calls PyProof.Rows PyProof.Rows.LCg PyProof.Rows.LCt
set_option Elab.async false
namespace Mine
theorem compEnd_mono {h₀ : Heap} {L I C D : Addr} {m : Str → Option Value} {s₁ : Shared} {oI oC oD : Obj} {S : List (Addr × Obj) → Prop} {r r' : Value → List (Addr × Obj) → Prop} {y : Value} {s₂ : Shared}
    (x : CompEnd h₀ L m s₁ I oI C oC D oD S r y s₂) (k : ∀ y nw, r y nw → r' y nw) : CompEnd h₀ L m s₁ I oI C oC D oD S r' y s₂ := by
  obtain ⟨h', tk, nw, e, F, N, o, hS, hr⟩ := x
  exact ⟨h', tk, nw, e, F, N, o, hS, k _ _ hr⟩
section
variable {prog : Program} {w : World} {A : Around} {E : Value → Shared → Prop} {s : Shared} {h₀ : Heap} {L : Addr} {m : Str → Option Value} {env : Env}
  {ct elt : Expr} {x : Str} {scope : Scope} {cl : List (Str × Addr)} {S : List (Addr × Obj) → Prop} {P : Nat → Value → Prop} {Fin : List Value → List (Addr × Obj) → Prop}
theorem restT_inv {n : Nat} (J : Nat → List Value → List (Addr × Obj) → Prop)
    (turn : ∀ i v I oI C oC D m₂ ys nw h tk (E' : Value → Shared → Prop), i < n → J i ys nw → P i v → NsObj oC m₂ → m₂ x = some v → Fr h₀ L h m → News h₀ L h ((I, oI) :: (C, oC) :: (D, lst ys) :: nw) → Off3 I C D nw → ((@Ne Nat I C) ∧ (@Ne Nat I D) ∧ (@Ne Nat C D)) →
      wpAny (model prog w) A (isTrue ct (compEnvC scope cl C env) (eval ct (compEnvC scope cl C env))) (fun ok s' => if ok = true then
        wpAny (model prog w) A (eval elt (compEnvC scope cl C env)) (CompEnd h₀ L m { s with heap := h, toks := tk } I oI C oC D (lst ys) S (fun y nw' => J (i + 1) (ys ++ [y]) nw')) E' s'
        else CompEnd h₀ L m { s with heap := h, toks := tk } I oI C oC D (lst ys) S (fun _ nw' => J (i + 1) ys nw') Value.none s') E' { s with heap := h, toks := tk })
    (fin : ∀ ys nw, J n ys nw → Fin ys nw) : ∀ k i ys nw, i + k = n → J i ys nw → CompRestT prog w A h₀ L m env ct elt x scope cl s S P Fin k i ys nw := by
  intro k
  induction k with
  | zero =>
    intro i ys nw e hj
    obtain rfl : i = n := by omega
    exact fin _ _ hj
  | succ k ih =>
    intro i ys nw e hj
    refine CompRestT.succ fun v I oI C oC D m₂ h tk E' hv hC hx F N off ne => ?_
    refine wpAny_mono (turn i v I oI C oC D m₂ ys nw h tk E' (by omega) hj hv hC hx F N off ne) (fun ok s' q => ?_) fun _ _ e => e
    cases ok with
    | true =>
      rw [if_pos rfl] at q ⊢
      exact wpAny_mono q (fun y s₂ z => compEnd_mono z fun y nw' hj' => ih (i + 1) _ _ (by omega) hj') fun _ _ e => e
    | false =>
      rw [if_neg (by decide)] at q ⊢
      exact compEnd_mono q fun y nw' hj' => ih (i + 1) _ _ (by omega) hj'
theorem rest_inv {n : Nat} (J : Nat → List Value → List (Addr × Obj) → Prop)
    (turn : ∀ i v I oI C oC D m₂ ys nw h tk (E' : Value → Shared → Prop), i < n → J i ys nw → P i v → NsObj oC m₂ → m₂ x = some v → Fr h₀ L h m → News h₀ L h ((I, oI) :: (C, oC) :: (D, lst ys) :: nw) → Off3 I C D nw → ((@Ne Nat I C) ∧ (@Ne Nat I D) ∧ (@Ne Nat C D)) →
        wpAny (model prog w) A (eval elt (compEnvC scope cl C env)) (CompEnd h₀ L m { s with heap := h, toks := tk } I oI C oC D (lst ys) S (fun y nw' => J (i + 1) (ys ++ [y]) nw')) E' { s with heap := h, toks := tk })
    (fin : ∀ ys nw, J n ys nw → Fin ys nw) : ∀ k i ys nw, i + k = n → J i ys nw → CompRest prog w A h₀ L m env elt x scope cl s S P Fin k i ys nw := by
  intro k
  induction k with
  | zero =>
    intro i ys nw e hj
    obtain rfl : i = n := by omega
    exact fin _ _ hj
  | succ k ih =>
    intro i ys nw e hj
    refine CompRest.succ fun v I oI C oC D m₂ h tk E' hv hC hx F N off ne => ?_
    exact wpAny_mono (turn i v I oI C oC D m₂ ys nw h tk E' (by omega) hj hv hC hx F N off ne) (fun y s₂ z => compEnd_mono z fun y nw' hj' => ih (i + 1) _ _ (by omega) hj') fun _ _ e => e
theorem storeC {M : Model} {env : Env} {x : Str} {v : Value} {c : Addr} {o : Obj} {v₀ : Option Value} {Q : Unit → Shared → Prop} (pre post : List (Addr × Obj)) (hk : env.scope.kind = .function) (hx : env.kindOf x = some .cell) (hc : env.cells.lookup x = some c)
    (F : Fr h₀ L s.heap m) (N : News h₀ L s.heap (pre ++ (c, o) :: post)) (h1 : ∀ p ∈ pre, p.1 ≠ c) (h2 : ∀ p ∈ post, p.1 ≠ c) (hd : o.data = .cell v₀)
    (h : ∀ h' o', Fr h₀ L h' m → News h₀ L h' (pre ++ (c, o') :: post) → o'.data = .cell (some v) → Q () { s with heap := h' }) : wpAny M A (storeName env x v) Q E s := by
  have hmem := N (c, o) (List.mem_append_right _ (.head _))
  refine wpAny_storeName_cell hk hx hc ⟨o, hmem.1, hd⟩ fun h' hv hs => ?_
  obtain ⟨o', ho', hd'⟩ := hv
  refine h h' o' ⟨F.ns.sameBut hs (Ne.symm hmem.2.1), fun b ob e => (hs.2 b (fun q => ?_)).trans (F.keep b ob e), F.above⟩ (N.setAt h1 h2 hs ho') hd'
  rw [q, hmem.2.2] at e; cases e
theorem item_at {value slice : Expr} {l : Addr} {items : List Value} {k : Int} {u : Tok} {y : Value} {Q : Value → Shared → Prop} (hl : s.heap.IsList l items.toArray) (h0 : 0 ≤ k) (hb : k < 2 ^ 63) (hx : items[k.toNat]? = some y) (h : Q y s)
    (hs : subscripted slice false (.ref l) (.int k u) = operate [.ref l, .int k u] (getItem (.ref l) (.int k u))) :
    wpAny (model prog w) A (subscriptTail value slice (.ref l) (.int k u)) Q E s :=
  tail_any hl.typeIs slot_list_getitem.lookup (wpAny_getItem_list hl h0 hb (by simpa using hx) h) hs
theorem ints_snoc {vs : List Value} {ns : List Int} {k : Int} {t : Tok} (h : IntsAre vs ns) : IntsAre (vs ++ [.int k t]) (ns ++ [k]) := by
  exact IntsAre.append h (.cons k t .nil)
end
end Mine
end
section
open PySem PySem.W PySem.Calls PyProof.Rows
theorem Mine.fresh_MComp {prog : Program} {w : World} {A : Around} {env : Env} {Q : Flow → Shared → Prop} {E : Value → Shared → Prop} {s : Shared} (h : Q .next s) : wpAny (model prog w) A (execs [] env) Q E s := by
  w_top off
  k_with_none
  walk1
  exact h
end
section
open PySem PySem.W PySem.Calls PyProof.Rows
set_option Elab.async false
set_option maxRecDepth 100000
set_option maxHeartbeats 8000000
set_option pp.deepTerms false
set_option pp.deepTerms.threshold 4
namespace Mine
theorem words_H2_om : True := by
  k_with "om" => (first | assumption | exact Nat.sub_le _ _ | exact Nat.lt_succ_self _ | exact Nat.le_add_right _ _ | exact Nat.zero_le _ | exact Nat.le_of_lt (by assumption) | exact Nat.lt_of_lt_of_le (by assumption) (by assumption) | exact Nat.lt_of_le_of_lt (by assumption) (by assumption) | exact Nat.le_trans (by assumption) (by assumption) | exact Nat.lt_trans (by assumption) (by assumption) | exact Nat.lt_of_le_of_lt (by assumption) (by decide) | exact Nat.le_trans (by assumption) (by decide) | exact Nat.lt_trans (by assumption) (by decide) | exact Nat.le_trans (Nat.le_of_lt (by assumption)) (by decide) | exact Nat.ne_of_lt (by assumption) | exact Nat.ne_of_gt (by assumption) | exact Ne.symm (by assumption) | exact Nat.ne_of_lt (Nat.lt_trans (by assumption) (by assumption)) | exact Nat.ne_of_gt (Nat.lt_trans (by assumption) (by assumption)) | exact Nat.lt_of_not_le (by assumption) | exact Nat.le_of_not_lt (by assumption) | exact Nat.lt_succ_of_lt (by assumption) | exact Nat.le_of_lt_succ (by assumption) | exact Nat.succ_le_of_lt (by assumption) | exact Nat.le_of_succ_le (by assumption) | exact Int.le_of_lt (by assumption) | exact Int.lt_of_lt_of_le (by assumption) (by assumption) | exact Int.lt_of_le_of_lt (by assumption) (by assumption) | exact Int.le_trans (by assumption) (by assumption) | exact Int.lt_trans (by assumption) (by assumption) | exact Int.lt_of_le_of_lt (by assumption) (by decide) | exact Int.lt_trans (by assumption) (by decide) | exact Int.not_le.mp (by assumption) | exact Int.not_lt.mp (by assumption) | fail "om")
  trivial
theorem words_H2_1 : True := by
  k_with "k_steps" => (repeat' (first | (k_unfold; (try (refine (?_ : (fun T2 T1 : Prop => T2 → (T2 → T1) → T1) _ _) ?_ (by intro h; dsimp only; exact h); exact fun p _ => p))) | (k_end; kc_close) | ((refine (?_ : (fun T2 T1 : Prop => T2 → (T2 → T1) → T1) _ _) ?_ (by intro h; dsimp only; exact h); exact fun p _ => p); refine wpAny_execs_cons ?_; refine gen_q fun Qg hQg => ?_) | (refine wpAny_execs_cons ?_; refine gen_q fun Qg hQg => ?_) | ((refine (?_ : (fun T2 T1 : Prop => T2 → (T2 → T1) → T1) _ _) ?_ (by intro h; dsimp only; exact h); exact fun p _ => p); walk1) | walk1 | (leave1; walk_say "STEP leave1"; (try (refine (?_ : (fun T2 T1 : Prop => T2 → (T2 → T1) → T1) _ _) ?_ (by intro h; dsimp only; exact h); exact fun p _ => p))) | ((fail_if_success (with_reducible show wpAny _ _ _ _ _ _)); (subst ‹(_ : Flow → Shared → Prop) = _›); (try (refine (?_ : (fun T2 T1 : Prop => T2 → (T2 → T1) → T1) _ _) ?_ (by intro h; dsimp only; exact h); exact fun p _ => p))) | fail "no step"))
  k_with "InvPostL" => (refine (?_ : (fun T2 T1 : Prop => T2 → (T2 → T1) → T1) _ _) ?_ (by intro h; dsimp only [InvPostL]; exact h); exact fun p _ => p)
  k_with "m_sub" => repeat' (first | exact sub_nil | refine sub_cons (by k_mem) ?_)
  trivial
noncomputable def BackC (g : Heap) (L' : Addr) (Q : Value → Shared → Prop) (v : Value) (s' : Shared) : Prop := ∃ m', Fr g L' s'.heap m' ∧ (Over g s'.heap → Q v s')
section
variable {prog : Program} {w : World} {A : Around} {s : Shared} {h₀ : Heap} {K : Frag} {p : Program} {loose : List Str} {mean : ExcName → Option Value} {mg mb : Str → Option Value}
/-- a def with cells of its own, called with nothing laid open: all that stands is the ground -/
theorem enterC {R : Result → Shared → Prop} {name qual : Str} {params : Arguments} {body : List Stmt} {scope : Scope} {dV kV doc pm cdv ct oc : Value} {an od : Option Addr} {osl : Array (Option Value)} {f : Addr} {args : Args} {binds : List (Str × Value)}
    (X₀ : K.In h₀) (T : Top p loose mean mg mb h₀) (hO : Over h₀ s.heap)
    (ho : K.lookup f = some ⟨oc, od, .func (fnOf name qual params body scope dV kV doc pm an cdv ct), osl⟩) (hcd : codeIn K cdv qual = true) (hroom : A.depth < recursionLimit)
    (hbind : BindsTo s (fnOf name qual params body scope dV kV doc pm an cdv ct) args binds)
    (hkind : (binds.all fun y => scope.names.lookup y.1 == some .local || scope.names.lookup y.1 == some .cell) = true)
    (hnd : ((cellsFrom 0 scope.names []).map (·.1)).Nodup)
    (h : ∀ L' h₁ tk cells, K.In s.heap → Top p loose mean mg mb s.heap → Fr s.heap L' h₁ (bindL (envOfC qual scope L' f cdv).kindOf binds fun _ => none) → News s.heap L' h₁ cells →
      CellsAre (bindC (envOfC qual scope L' f cdv).kindOf binds fun _ => none) (cellsFrom (L' + 1) scope.names []) cells →
      wpAny (model prog w) (A.deeper (envOfC qual scope L' f cdv)) (execs body (envOfC qual scope L' f cdv))
        (fun fl s' => BackC s.heap L' (fun v s' => R (.ok (.ret v)) s') (match fl with | .ret v => v | _ => .none) s') (fun _ _ => False)
        { s with heap := h₁, toks := tk })
    (hco : scope.isCoroutine = false) (hgen : scope.isGenerator = false) (hk : scope.kind = .function) : codeAny (model prog w) A (.call (.ref f) args) R s := by
  refine codeAny_call_function hroom (hO _ _ (X₀ _ _ ho)) rfl hco hgen rfl (codeRec_of (X₀.keeps hO) hcd) (hbind _ _ _ _ ?_)
  refine wpAny_newFunctionEnv_cells hk (kindsX hkind _) fun env' he s' x => ?_
  subst he
  refine ⟨(T.nolimit.keeps hO).keeps x.toInCall.keep, codeAny_func ?_⟩
  obtain ⟨h₁, tk, rfl, _⟩ := x.done
  have hk₁ := x.toInCall.keep
  obtain ⟨cells, NC, Y⟩ := Cl.news (h₀ := s.heap) (Nat.le_refl _) fun n c hm => ⟨x.cell n c (lookup_of_mem_nodup (cellsFrom_names scope.names 0 (s.heap.objs.size + 1) [] [] rfl ▸ hnd) hm), x.above n c hm⟩
  exact wpAny_mono (h s.heap.objs.size h₁ tk cells (X₀.keeps hO) (T.keeps hO) ⟨x.toInCall.ns, hk₁, Nat.le_refl _⟩ NC Y) (fun fl s' hl => hl.choose_spec.2 hl.choose_spec.1.keep) fun _ _ y => y.elim
end
theorem fillH2 : PySem.Challenge.rw_mq0248_01 = PySem.Challenge.rw_mq0248_01 ∧ Mine.hd.heap_1 = Mine.hd.heap_1 := by
  k_fill
  exact ⟨rfl, rfl⟩
/-- at `a` stands a list of these ints -/
noncomputable def IntList (h : Heap) (a : Addr) (ns : List Int) : Prop := ∃ vs : List Value, h.IsList a vs.toArray ∧ IntsAre vs ns
theorem IntList.over {h h' : Heap} {a : Addr} {ns : List Int} (x : IntList h a ns) (k : Over h h') : IntList h' a ns := by
  obtain ⟨vs, ⟨o, ho, r⟩, hi⟩ := x
  exact ⟨vs, ⟨o, k _ _ ho, r⟩, hi⟩
/-- at `C` stands a list of lists of ints -/
noncomputable def Cols (h : Heap) (C : Addr) (cols : List (List Int)) : Prop := ∃ as : List Addr, h.IsList C (as.map Value.ref).toArray ∧ as.length = cols.length ∧ ∀ (i : Nat) (a : Addr), as[i]? = some a → ∃ ns, cols[i]? = some ns ∧ IntList h a ns
theorem Cols.over {h h' : Heap} {C : Addr} {cols : List (List Int)} (x : Cols h C cols) (k : Over h h') : Cols h' C cols := by
  obtain ⟨as, ⟨o, ho, r⟩, hl, hi⟩ := x
  exact ⟨as, ⟨o, k _ _ ho, r⟩, hl, fun i a e => let ⟨ns, e1, e2⟩ := hi i a e; ⟨ns, e1, e2.over k⟩⟩
section
variable {prog : Program} {w : World} {h₀ : Heap} {s : Shared} {p : Program} {loose : List Str} {mean : ExcName → Option Value} {mg mb : Str → Option Value} {C : Addr} {cols : List (List Int)} {Q : Value → Shared → Prop} {E : Value → Shared → Prop}
theorem cols_at {h : Heap} (hC : Cols h C cols) {i : Nat} (hi : i < cols.length) : ∃ (as : List Addr) (a : Addr) (vs : List Value), h.IsList C (as.map Value.ref).toArray ∧ (as.map Value.ref)[i]? = some (.ref a) ∧ h.IsList a vs.toArray ∧ IntsAre vs (cols[i]'hi) ∧ as.length = cols.length := by
  obtain ⟨as, hl, hn, hx⟩ := hC
  have hi' : i < as.length := by omega
  obtain ⟨ns, e, vs, h1, h2⟩ := hx i as[i] (List.getElem?_eq_getElem hi')
  rw [List.getElem?_eq_getElem hi] at e
  cases e
  exact ⟨as, as[i], vs, hl, by simp [hi'], h1, h2, hn⟩
noncomputable def le7 (a b : List Int) : Bool := cmpRes (fun a b => decide (a ≤ b)) true a b
noncomputable def gt7 (a b : List Int) : Bool := cmpRes (fun a b => decide (b < a)) false a b
noncomputable def colAt (cols : List (List Int)) (k : Int) : List Int := cols.getD k.toNat []
noncomputable def laidStep (cols : List (List Int)) (row : List Int) (k : Int) : List Int := row.filter (fun m => le7 (colAt cols m) (colAt cols k)) ++ [k] ++ row.filter (fun m => gt7 (colAt cols m) (colAt cols k))
noncomputable def laid (cols : List (List Int)) (n : Nat) : List Int := (rangeKs 0 n).foldl (laidStep cols) []
theorem item_cols {g : Heap} {L : Addr} {A : Around} {m : Str → Option Value} {value slice : Expr} {k : Int} {u : Tok} (F : Fr g L s.heap m) (hC : Cols g C cols) (hb : cols.length < 20) (h0 : 0 ≤ k) (h1 : k.toNat < cols.length)
    (h : ∀ a vs, g.IsList a vs.toArray → s.heap.IsList a vs.toArray → IntsAre vs (colAt cols k) → Q (.ref a) s)
    (hs : subscripted slice false (.ref C) (.int k u) = operate [.ref C, .int k u] (getItem (.ref C) (.int k u)) := by with_unfolding_all rfl) :
    wpAny (model prog w) A (subscriptTail value slice (.ref C) (.int k u)) Q E s := by
  obtain ⟨as, a, vs, hl, ha, hla, hi, hn⟩ := cols_at hC h1
  refine item_at (hl.at fun o e => F.keep _ _ e) h0 (by omega) ha (h a vs hla (hla.at fun o e => F.keep _ _ e) ?_) hs
  rw [colAt, List.getD_eq_getElem?_getD, List.getElem?_eq_getElem h1]
  exact hi
theorem laid_succ (n : Nat) : laid cols (n + 1) = laidStep cols (laid cols n) n := by
  simp only [laid]
  rw [show rangeKs 0 (n + 1) = rangeKs 0 n ++ [(n : Int)] from by simp [rangeKs, List.range_succ]]
  simp
theorem laid_mem (n : Nat) : ∀ k ∈ laid cols n, 0 ≤ k ∧ k < n := by
  induction n with
  | zero => intro k hk; simp [laid, rangeKs] at hk
  | succ n ih =>
    intro k hk
    rw [laid_succ] at hk
    simp only [laidStep, List.mem_append, List.mem_filter, List.mem_singleton] at hk
    rcases hk with (⟨hk, _⟩ | rfl) | ⟨hk, _⟩
    · have := ih k hk; omega
    · omega
    · have := ih k hk; omega
theorem gt_le : ∀ a b : List Int, gt7 a b = !le7 a b
  | [], _ => rfl
  | _ :: _, [] => rfl
  | a :: r, b :: t => by
    have ih := gt_le r t
    simp only [gt7, le7, cmpRes] at ih ⊢
    split
    · exact ih
    · by_cases h : a ≤ b
      · simp [h]
      · simp [h]; omega
theorem filter_both {α : Type} (f : α → Bool) : ∀ l : List α, (l.filter f).length + (l.filter fun x => !f x).length = l.length
  | [] => rfl
  | a :: r => by
    have := filter_both f r
    cases h : f a <;> simp [h] <;> omega
theorem laid_len (n : Nat) : (laid cols n).length = n := by
  induction n with
  | zero => simp [laid, rangeKs]
  | succ n ih =>
    rw [laid_succ]
    have := filter_both (fun m => le7 (colAt cols m) (colAt cols n)) (laid cols n)
    simp only [laidStep, List.length_append, List.length_singleton]
    simp only [gt_le]
    omega
theorem laid_bnd {n : Nat} {k : Int} (hk : k ∈ laid cols n) (hn : n < cols.length) : 0 ≤ k ∧ k.toNat < cols.length := by
  have := laid_mem n k hk
  omega
theorem nat_bnd {n : Nat} (hn : n < cols.length) : 0 ≤ (n : Int) ∧ ((n : Int)).toNat < cols.length := by omega
theorem colAt_len (hW : ∀ c ∈ cols, c.length = 7) {k : Int} (h : k.toNat < cols.length) : (colAt cols k).length = 7 := by
  rw [colAt, List.getD_eq_getElem?_getD, List.getElem?_eq_getElem h]
  exact hW _ (List.getElem_mem h)
theorem take_filter_snoc {ns : List Int} {j : Nat} {k : Int} (h : ns[j]? = some k) (f : Int → Bool) : (ns.take (j + 1)).filter f = (ns.take j).filter f ++ if f k then [k] else [] := by
  rw [List.take_add_one, h, List.filter_append]
  cases hf : f k <;> simp [hf]
theorem words_H2_2 : True := by
  k_with "compareOp LtE ref ref" => (refine le_lists (by assumption) (by assumption) (by assumption) (by assumption) (by rw [colAt_len (by assumption) (by assumption), colAt_len (by assumption) (by assumption)]) (Nat.le_of_ble_eq_true rfl) ?_; (first | change wpAny _ _ (truthy (.bool (le7 _ _))) _ _ _ | change wpAny _ _ (truthy (.bool (gt7 _ _))) _ _ _))
  k_with "compareOp Gt ref ref" => (refine gt_lists (by assumption) (by assumption) (by assumption) (by assumption) (by rw [colAt_len (by assumption) (by assumption), colAt_len (by assumption) (by assumption)]) (Nat.le_of_ble_eq_true rfl) ?_; (first | change wpAny _ _ (truthy (.bool (le7 _ _))) _ _ _ | change wpAny _ _ (truthy (.bool (gt7 _ _))) _ _ _))
  k_with "subscriptTail Name Name ref int" => (refine item_cols (by assumption) (by assumption) (by assumption) (by assumption) (by assumption) ?_; intro _ _ _ _ _)
  trivial
theorem sum_fit {a b : Nat} (h1 : a ≤ 50) (h2 : b ≤ 50) : a + b ≤ sizeLine := by rw [sizeLine_eq]; omega
theorem fil_fit {n : Nat} (hn : n < cols.length) (hlen : cols.length < 20) (f : Int → Bool) (k : Int) : ((laid cols n).filter f).length ≤ 50 ∧ ((laid cols n).filter f ++ [k]).length ≤ 50 := by
  have := List.length_filter_le f (laid cols n)
  rw [laid_len] at this
  simp only [List.length_append, List.length_singleton]
  omega
theorem words_H2_z : True := by
  k_with "binaryOp Add ref ref" => (refine kmk_add_ints (by k_asm) (by k_asm) (by kmk_list) (by kmk_list) (by first | assumption | exact .cons _ _ .nil) (by first | assumption | exact .cons _ _ .nil) ?_ (by exact sum_fit (by first | assumption | exact Nat.le_of_ble_eq_true rfl) (by first | assumption | exact Nat.le_of_ble_eq_true rfl)); intro _ _ _ _ _ l1 _; (try k_lt l1); (try k_sweep))
  trivial
theorem words_H2_3 : True := by
  k_with "CompEnd" => (refine LCg.CompEnd.intro (by assumption) (by assumption) _ (fun _ hp => hp) (by assumption) (by assumption) ⟨rfl, ?_⟩)
  k_with "eval ListComp" => (k_dflt (refine LCt.ListComp_T (F₀ := by k_asm) (by with_unfolding_all rfl) (by decide) (by rfl) (by decide) (by rfl) ?_))
  trivial
inductive LJ (cols : List (List Int)) (C L' : Addr) (i : Nat) (m : Str → Option Value) (nx : List (Addr × Obj)) : Prop
  | mk (l : Addr) (vs : List Value) (n : Nat) (oc ok : Obj) (ov : Option Value) (h0 : nx = [(l, listOf vs.toArray n), (L' + 1 + 1, ok), (L' + 1, oc)]) (h1 : m (Str.ofString "row") = some (.ref l)) (h2 : oc.data = .cell (some (.ref C))) (h3 : ok.data = .cell ov) (h4 : IntsAre vs (laid cols i)) (h5 : L' + 1 + 1 < l) (h6 : L' + 1 < l)
theorem laid_spec (X₀ : (hd.heap_1 w.params).In h₀) (T : Top p loose mean mg mb h₀) (hO : Over h₀ s.heap) (hC : Cols s.heap C cols) (hlen : cols.length < 20) (hW : ∀ c ∈ cols, c.length = 7)
    (hQ : ∀ h' tk' r, Over s.heap h' → IntList h' r (laid cols cols.length) → Q (.ref r) { s with heap := h', toks := tk' }) :
    wpAny (model prog w) A1 (call (.ref 120) [.ref C]) Q E s := by
  refine wpAny_call ?_
  refine enterC X₀ T hO (f := 120) (by k_is) (by k_is) (by decide) (binds := [(Str.ofString "columns", .ref C)]) (BindsTo.of_eq rfl) (by rfl) (by decide +kernel) ?_ rfl rfl rfl
  intro L' h₁ tk cells X' T' F' N' Y'
  k_cells Y'
  (refine (?_ : (fun T2 T1 : Prop => T2 → (T2 → T1) → T1) _ _) ?_ (by intro h; dsimp only; exact h); exact fun p _ => p)
  k_steps
  rename_i ok oc dk dc l hz lt h₂ F₂ N₂
  have dc' : oc.data = .cell (some (.ref C)) := dc
  obtain ⟨as, hl, hn, hx⟩ := id hC
  refine for_any ?_ (by intro _; rfl)
  k_steps
  refine call_len_list (hl.at fun o e => F₂.keep _ _ e) (by simp; omega) ?_
  simp only [List.size_toArray, List.length_map, hn]
  k_steps
  rename_i h₃ tk₃ t₁ u₁ v₁ hr F₃ N₃ ov₃
  refine rangeC (LJ cols C L') rfl hr (small_one (by omega) (by omega) (by omega) (by omega)) (by rw [rangeSize_nat]) F₃ N₃ ⟨l, [], 0, oc, ok, _, rfl, by simp, dc', dk, .nil, lt.1, lt.2⟩ ?_ ?_ (by intros; rfl)
  · rintro i t m₁ news₁ h tk₄ I o hi ⟨l, vs, n, oc, ok, ov, rfl, hrow, dc, dk, hvs, hl1, hl2⟩ hne F₄ N₄
    replace F₄ := fr_ps' (ps := [(Str.ofString "row", .ref l)]) (by intro q hq; rw [List.mem_singleton.mp hq]; exact hrow) F₄
    change Fr s.heap L' _ _ at F₄
    change News s.heap L' _ _ at N₄
    refine wpAny_assign_Name (storeC [(I, o), (l, listOf vs.toArray n)] [(L' + 1, oc)] rfl rfl (c := L' + 1 + 1) rfl F₄ N₄ (List.forall_mem_cons.mpr ⟨Ne.symm (hne (L' + 1 + 1, ok) (by k_mem)), List.forall_mem_cons.mpr ⟨Nat.ne_of_gt hl1, List.forall_mem_nil _⟩⟩) (List.forall_mem_cons.mpr ⟨Nat.ne_of_lt (Nat.lt_succ_self _), List.forall_mem_nil _⟩) dk ?_)
    intro h₅ ok' F₅ N₅ dk'
    clear F₄ N₄
    simp only [List.cons_append, List.nil_append, Int.zero_add] at N₅ dk'
    refine wpAny_execs_cons ?_
    refine LCt.Assign_ListComp_T (F₀ := by exact F₅) (by rfl) (by with_unfolding_all rfl) (by with_unfolding_all rfl) (by decide) (by rfl) (by decide) (by rfl) (by rfl) (by rfl) ?_
    walk1
    obtain ⟨hi0, hi1⟩ := nat_bnd hi
    have hvl : vs.length = i := by rw [hvs.length, laid_len]
    refine LCt.CompSrcT.ledger (by rfl) F₅ N₅ (by k_mem) (by rw [sizeLine_eq, List.size_toArray, hvl]; exact Nat.le_trans (Nat.le_of_lt hi) (Nat.le_trans (Nat.le_of_lt hlen) (by decide))) ?_
    intro g'
    have hsrc : LCg.SrcAt s.heap l vs.toArray [(I, o), (l, listOf vs.toArray n), (L' + 1 + 1, ok'), (L' + 1, oc)] := .inr ⟨_, by k_mem, rfl, _, rfl⟩
    refine restT_inv (n := vs.toArray.size) (fun j ys nw => nw = [(I, o), (l, listOf vs.toArray n), (L' + 1 + 1, ok'), (L' + 1, oc)] ∧ IntsAre ys (((laid cols i).take j).filter fun m => le7 (colAt cols m) (colAt cols i))) ?_ ?_ _ 0 [] _ (Nat.zero_add _) ⟨rfl, .nil⟩
    · rintro j v I2 oI C2 oC D m₂ ys nw hh tk₆ E' hj ⟨rfl, hys⟩ hv hoC hm₂ F₆ N₆ off ne
      obtain ⟨k, t, rfl, hk⟩ := hvs.at j v (by simpa using hv)
      obtain ⟨hk0, hk1⟩ := laid_bnd (List.mem_of_getElem? hk) hi
      have hts := take_filter_snoc hk fun m => le7 (colAt cols m) (colAt cols i)
      k_steps
      · rename_i hb
        rw [hts, if_pos hb]
        exact ints_snoc hys
      · rename_i hb
        rw [hts, if_neg (by rw [hb]; decide), List.append_nil]
        exact hys
    · rintro ys nw ⟨rfl, hys⟩
      obtain ⟨z1, z2⟩ := fil_fit hi hlen (fun m => le7 (colAt cols m) (colAt cols i)) i
      obtain ⟨z3, _⟩ := fil_fit hi hlen (fun m => gt7 (colAt cols m) (colAt cols i)) i
      rw [List.size_toArray, hvl, List.take_of_length_le (Nat.le_of_eq (laid_len i))] at hys
      k_steps
      rename_i DA hA tkA oA lK hB lB DB us hC₁ FC NC hIC lC
      replace NC : News s.heap L' hC₁ [(DB, listOf us.toArray 0), (I, o), (l, listOf vs.toArray n), (L' + 1 + 1, ok'), (L' + 1, oc)] := fun q hq => NC q (sub_cons (by k_mem) (sub_cons (by k_mem) (sub_cons (by k_mem) (sub_cons (by k_mem) (sub_cons (by k_mem) sub_nil)))) q hq)
      clear oA lB
      refine LCt.CompSrcT.ledger (by rfl) FC NC (by k_mem) (by rw [sizeLine_eq, List.size_toArray, hvl]; exact Nat.le_trans (Nat.le_of_lt hi) (Nat.le_trans (Nat.le_of_lt hlen) (by decide))) ?_
      intro g₂
      clear hsrc
      have hsrc : LCg.SrcAt s.heap l vs.toArray [(DB, listOf us.toArray 0), (I, o), (l, listOf vs.toArray n), (L' + 1 + 1, ok'), (L' + 1, oc)] := .inr ⟨_, by k_mem, rfl, _, rfl⟩
      refine restT_inv (n := vs.toArray.size) (fun j zs nw => nw = [(DB, listOf us.toArray 0), (I, o), (l, listOf vs.toArray n), (L' + 1 + 1, ok'), (L' + 1, oc)] ∧ IntsAre zs (((laid cols i).take j).filter fun m => gt7 (colAt cols m) (colAt cols i))) ?_ ?_ _ 0 [] _ (Nat.zero_add _) ⟨rfl, .nil⟩
      · rintro j v I2 oI C2 oC D m₂ zs nw hh tk₆ E' hj ⟨rfl, hys⟩ hv hoC hm₂ F₆ N₆ off ne
        obtain ⟨k, t, rfl, hk⟩ := hvs.at j v (by simpa using hv)
        obtain ⟨hk0, hk1⟩ := laid_bnd (List.mem_of_getElem? hk) hi
        have hts := take_filter_snoc hk fun m => gt7 (colAt cols m) (colAt cols i)
        k_steps
        · rename_i hb
          rw [hts, if_pos hb]
          exact ints_snoc hys
        · rename_i hb
          rw [hts, if_neg (by rw [hb]; decide), List.append_nil]
          exact hys
      · rintro zs nw ⟨rfl, hzs⟩
        rw [List.size_toArray, hvl, List.take_of_length_le (Nat.le_of_eq (laid_len i))] at hzs
        k_steps
        rename_i D2 h2 tk2 o2 D3 us3 h3 hI3 l3 h4 F4 N4
        refine InvEndL.intro [(D3, listOf us3.toArray 0), (L' + 1 + 1, ok'), (L' + 1, oc)] F4 N4 (by walk_at "m_sub") (by k_mem) ?_ ⟨D3, us3, 0, oc, ok', _, rfl, rfl, dc, dk', ?_, ?_, ?_⟩
        · obtain ⟨q1, q2, q3, q4, q5, q6⟩ := l3
          exact List.forall_mem_cons.mpr ⟨Nat.ne_of_gt q3, List.forall_mem_cons.mpr ⟨hne (L' + 1 + 1, ok) (by k_mem), List.forall_mem_cons.mpr ⟨hne (L' + 1, oc) (by k_mem), List.forall_mem_nil _⟩⟩⟩
        · rw [laid_succ]
          exact hI3
        · exact l3.2.2.2.2.1
        · exact l3.2.2.2.2.2
  · rintro m₁ news₁ h tk₄ ⟨l, vs, n, oc, ok, ov, rfl, hrow, dc, dk, hvs, hl1, hl2⟩ F₄ N₄
    replace F₄ := fr_ps' (ps := [(Str.ofString "row", .ref l)]) (by intro q hq; rw [List.mem_singleton.mp hq]; exact hrow) F₄
    k_steps
    try (refine (?_ : (fun T2 T1 : Prop => T2 → (T2 → T1) → T1) _ _) ?_ (by intro h; dsimp only; exact h); exact fun p _ => p)
    refine ⟨_, F₄, fun hk => ?_⟩
    exact hQ _ _ _ hk ⟨vs, PySem.IsL.isList (n := n) (N₄ _ (by k_mem)).1, hvs⟩
end
end Mine
end
section
open PySem PySem.W PySem.Calls PyProof.Rows
theorem Mine.fresh_H2 {prog : Program} {w : World} {A : Around} {env : Env} {Q : Flow → Shared → Prop} {E : Value → Shared → Prop} {s : Shared} (h : Q .next s) : wpAny (model prog w) A (execs [] env) Q E s := by
  w_top off
  k_with_none
  walk1
  exact h
end
section
open PySem PySem.W PySem.Calls PyProof.Rows
set_option Elab.async false
set_option maxRecDepth 100000
set_option maxHeartbeats 8000000
set_option pp.deepTerms false
set_option pp.deepTerms.threshold 4
namespace Mine
theorem words_H3_1 : True := by
  k_with "InvPostL" => (refine (?_ : (fun T2 T1 : Prop => T2 → (T2 → T1) → T1) _ _) ?_ (by intro h; dsimp only [InvPostL]; exact h); exact fun p _ => p)
  k_with "m_sub" => repeat' (first | exact sub_nil | refine sub_cons (by k_mem) ?_)
  trivial
section
variable {prog : Program} {w : World} {A : Around} {s : Shared} {h₀ : Heap} {K : Frag} {p : Program} {loose : List Str} {mean : ExcName → Option Value} {mg mb : Str → Option Value}
/-- a plain def, called with nothing laid open: all that stands is the ground -/
theorem enterP {R : Result → Shared → Prop} {name qual : Str} {params : Arguments} {body : List Stmt} {scope : Scope} {dV kV doc pm cdv ct oc : Value} {an od : Option Addr} {osl : Array (Option Value)} {f : Addr} {args : Args} {binds : List (Str × Value)}
    (X₀ : K.In h₀) (T : Top p loose mean mg mb h₀) (hO : Over h₀ s.heap)
    (ho : K.lookup f = some ⟨oc, od, .func (fnOf name qual params body scope dV kV doc pm an cdv ct), osl⟩) (hcd : codeIn K cdv qual = true) (hroom : A.depth < recursionLimit)
    (hbind : BindsTo s (fnOf name qual params body scope dV kV doc pm an cdv ct) args binds) (hloc : ∀ y ∈ binds, scope.names.lookup y.1 = some .local)
    (h : ∀ L' h₁, K.In s.heap → Top p loose mean mg mb s.heap → Fr s.heap L' h₁ (fun y => binds.reverse.lookup y) → News s.heap L' h₁ [] →
      wpAny (model prog w) (A.deeper (envOf qual scope L' f cdv)) (execs body (envOf qual scope L' f cdv))
        (fun fl s' => BackC s.heap L' (fun v s' => R (.ok (.ret v)) s') (match fl with | .ret v => v | _ => .none) s')
        (fun _ _ => False)
        { s with heap := h₁, toks := s.toks + binds.length })
    (hco : scope.isCoroutine = false) (hgen : scope.isGenerator = false) (hk : scope.kind = .function)
    (hcell : ∀ x ∈ scope.names, x.2 ≠ .cell) : codeAny (model prog w) A (.call (.ref f) args) R s := by
  refine codeAny_call_def (fd := fnOf name qual params body scope dV kV doc pm an cdv ct) (body := body) (binds := binds) hroom (hO _ _ (X₀ _ _ ho)) rfl ((T.nolimit).keeps hO) (codeRec_of (X₀.keeps hO) hcd) rfl hbind hcell hloc (fun h₁ hns hk₁ => ?_) hco hgen hk
  exact wpAny_mono (h s.heap.objs.size h₁ (X₀.keeps hO) (T.keeps hO) ⟨hns, hk₁, Nat.le_refl _⟩ (fun _ h => nomatch h)) (fun fl s' hl => hl.choose_spec.2 hl.choose_spec.1.keep) fun _ _ y => y.elim
end
theorem fillH3 : PySem.Challenge.rw_mq0248_01 = PySem.Challenge.rw_mq0248_01 ∧ Mine.hd.heap_1 = Mine.hd.heap_1 := by
  k_fill
  exact ⟨rfl, rfl⟩
noncomputable def ws0 : Ws := ⟨⟨#[]⟩, 0, 0, [], 0⟩
noncomputable def leadAt (leads : List Ws) (k : Int) : Ws := leads.getD k.toNat ws0
/-- at `C` stands a list of Whitespaces -/
noncomputable def Leads (P : Params) (h₀ h : Heap) (C : Addr) (leads : List Ws) : Prop :=
  ∃ rs : List WsR, h.IsList C (rs.map fun r => Value.ref r.x).toArray ∧ rs.length = leads.length ∧ ∀ (i : Nat) (r : WsR) (c : Ws), rs[i]? = some r → leads[i]? = some c → WsAt P h₀ h r c
theorem wsAt_over {P : Params} {h₀ h h' : Heap} {r : WsR} {c : Ws} (x : WsAt P h₀ h r c) (k : Over h h') : WsAt P h₀ h' r c := ⟨x.1.over k, x.2⟩
theorem Leads.over {P : Params} {h₀ h h' : Heap} {C : Addr} {leads : List Ws} (x : Leads P h₀ h C leads) (k : Over h h') : Leads P h₀ h' C leads := by
  obtain ⟨rs, ⟨o, ho, r⟩, hl, hi⟩ := x
  exact ⟨rs, ⟨o, k _ _ ho, r⟩, hl, fun i r c e e' => wsAt_over (hi i r c e e') k⟩
section
variable {prog : Program} {w : World} {A : Around} {h₀ g : Heap} {L : Addr} {m : Str → Option Value} {s : Shared} {p : Program} {loose : List Str} {mean : ExcName → Option Value} {mg mb : Str → Option Value} {C R : Addr} {leads : List Ws} {row : List Int} {r r' : WsR} {c c' : Ws} {Q : Value → Shared → Prop} {E : Value → Shared → Prop}
theorem item_leads {value slice : Expr} {k : Int} {u : Tok} (F : Fr g L s.heap m) (hL : Leads w.params h₀ g C leads) (hb : leads.length < 20) (h0 : 0 ≤ k) (h1 : k.toNat < leads.length)
    (h : ∀ r, WsAt w.params h₀ g r (leadAt leads k) → Q (.ref r.x) s)
    (hs : subscripted slice false (.ref C) (.int k u) = operate [.ref C, .int k u] (getItem (.ref C) (.int k u))) :
    wpAny (model prog w) A (subscriptTail value slice (.ref C) (.int k u)) Q E s := by
  obtain ⟨rs, hl, hn, hx⟩ := hL
  have h2 : k.toNat < rs.length := by omega
  refine item_at (hl.at fun o e => F.keep _ _ e) h0 (by omega) (y := .ref rs[k.toNat].x) (by simp [h2]) (h _ (hx k.toNat _ _ (List.getElem?_eq_getElem h2) ?_)) hs
  rw [leadAt, List.getD_eq_getElem?_getD, List.getElem?_eq_getElem h1]
  rfl
theorem ws_inst (F : Fr g L s.heap m) (W : WsAt w.params h₀ g r c) : InstAt s.heap r.x (instObj 90 r.dx) 90 (some (dictOf (wsEntries w.params r c) 5)) :=
  ⟨F.keep _ _ (W.1 (r.x, instObj 90 r.dx) (by k_mem)).1, rfl, rfl, F.keep _ _ (W.1 (r.dx, dictOf (wsEntries w.params r c) 5) (by k_mem)).1⟩
theorem ws_equal {pl : Sem Bool} {Q : Value × List Value → Shared → Prop} (F : Fr g L s.heap m) (X : (hd.heap_1 w.params).In g) (W : WsAt w.params h₀ g r c) (h : Q (.ref 66, [.ref r.x]) s) :
    wpAny (model prog w) A (getMethod (.ref r.x) (Str.ofString "equal") pl) Q E s :=
  method_inst F X (ws_inst F W) (by k_is) (by k_is) (by k_is) (by k_get) h
theorem ws_less {pl : Sem Bool} {Q : Value × List Value → Shared → Prop} (F : Fr g L s.heap m) (X : (hd.heap_1 w.params).In g) (W : WsAt w.params h₀ g r c) (h : Q (.ref 80, [.ref r.x]) s) :
    wpAny (model prog w) A (getMethod (.ref r.x) (Str.ofString "less") pl) Q E s :=
  method_inst F X (ws_inst F W) (by k_is) (by k_is) (by k_is) (by k_get) h
theorem call_equal {news : List (Addr × Obj)} (F : Fr g L s.heap m) (N : News g L s.heap news) (W : WsAt w.params h₀ g r c) (W' : WsAt w.params h₀ g r' c') (X₀ : (hd.heap_1 w.params).In h₀) (T : Top p loose mean mg mb h₀) (hO : Over h₀ g) (hl : Small c) (hl' : Small c')
    (hA : A.handled = none) (hd : A.depth ≤ 900) (hu : A.units ≤ 9000)
    (h : ∀ h' tk', Fr g L h' m → News g L h' news → Q (.bool (decide (sameN c c'))) { s with heap := h', toks := tk' }) :
    wpAny (model prog w) A (call (.ref 66) [.ref r.x, .ref r'.x]) Q E s :=
  wpAny_le hA hd rfl rfl hu (equal_spec X₀ T (hO.trans F.keep) (wsAt_over W F.keep) (wsAt_over W' F.keep) (by have := hl.1; omega) (by have := hl'.1; omega) fun h' tk' hk => h h' tk' (fr_over F hk) (news_over N hk))
theorem call_less {news : List (Addr × Obj)} (F : Fr g L s.heap m) (N : News g L s.heap news) (W : WsAt w.params h₀ g r c) (W' : WsAt w.params h₀ g r' c') (X₀ : (hd.heap_1 w.params).In h₀) (T : Top p loose mean mg mb h₀) (hO : Over h₀ g) (hl : Small c) (hl' : Small c')
    (hA : A.handled = none) (hd : A.depth ≤ 850) (hu : A.units ≤ 8500)
    (h : ∀ h' tk', Fr g L h' m → News g L h' news → Q (.bool (lessB c c')) { s with heap := h', toks := tk' }) :
    wpAny (model prog w) A (call (.ref 80) [.ref r.x, .ref r'.x]) Q E s :=
  wpAny_le hA hd rfl rfl hu (less_spec X₀ T (hO.trans F.keep) (wsAt_over W F.keep) (wsAt_over W' F.keep) hl.1 hl'.1 hl.2.1 hl.2.2 hl'.2.1 hl'.2.2 fun h' tk' hk => h h' tk' (fr_over F hk) (news_over N hk))
end
end Mine
end
section
open PySem PySem.W PySem.Calls PyProof.Rows
theorem Mine.fresh_H3 {prog : Program} {w : World} {A : Around} {env : Env} {Q : Flow → Shared → Prop} {E : Value → Shared → Prop} {s : Shared} (h : Q .next s) : wpAny (model prog w) A (execs [] env) Q E s := by
  w_top off
  k_with_none
  walk1
  exact h
end
section
open PySem PySem.W PySem.Calls PyProof.Rows
set_option Elab.async false
set_option maxRecDepth 100000
set_option maxHeartbeats 8000000
set_option pp.deepTerms false
set_option pp.deepTerms.threshold 4
namespace Mine
theorem words_H4_om : True := by
  k_with "om" => (first | assumption | exact Nat.sub_le _ _ | exact Nat.lt_succ_self _ | exact Nat.le_add_right _ _ | exact Nat.zero_le _ | exact Nat.le_of_lt (by assumption) | exact Nat.lt_of_lt_of_le (by assumption) (by assumption) | exact Nat.lt_of_le_of_lt (by assumption) (by assumption) | exact Nat.le_trans (by assumption) (by assumption) | exact Nat.lt_trans (by assumption) (by assumption) | exact Nat.lt_of_le_of_lt (by assumption) (by decide) | exact Nat.le_trans (by assumption) (by decide) | exact Nat.lt_trans (by assumption) (by decide) | exact Nat.le_trans (Nat.le_of_lt (by assumption)) (by decide) | exact Nat.ne_of_lt (by assumption) | exact Nat.ne_of_gt (by assumption) | exact Ne.symm (by assumption) | exact Nat.ne_of_lt (Nat.lt_trans (by assumption) (by assumption)) | exact Nat.ne_of_gt (Nat.lt_trans (by assumption) (by assumption)) | exact Nat.lt_of_not_le (by assumption) | exact Nat.le_of_not_lt (by assumption) | exact Nat.lt_succ_of_lt (by assumption) | exact Nat.le_of_lt_succ (by assumption) | exact Nat.succ_le_of_lt (by assumption) | exact Nat.le_of_succ_le (by assumption) | exact Int.le_of_lt (by assumption) | exact Int.lt_of_lt_of_le (by assumption) (by assumption) | exact Int.lt_of_le_of_lt (by assumption) (by assumption) | exact Int.le_trans (by assumption) (by assumption) | exact Int.lt_trans (by assumption) (by assumption) | exact Int.lt_of_le_of_lt (by assumption) (by decide) | exact Int.lt_trans (by assumption) (by decide) | exact Int.not_le.mp (by assumption) | exact Int.not_lt.mp (by assumption) | fail "om")
  trivial
theorem words_H4_1 : True := by
  k_with "k_steps" => (repeat' (first | (k_unfold; (try (refine (?_ : (fun T2 T1 : Prop => T2 → (T2 → T1) → T1) _ _) ?_ (by intro h; dsimp only; exact h); exact fun p _ => p))) | (k_end; kc_close) | ((refine (?_ : (fun T2 T1 : Prop => T2 → (T2 → T1) → T1) _ _) ?_ (by intro h; dsimp only; exact h); exact fun p _ => p); walk1) | walk1 | (leave1; walk_say "STEP leave1"; (try (refine (?_ : (fun T2 T1 : Prop => T2 → (T2 → T1) → T1) _ _) ?_ (by intro h; dsimp only; exact h); exact fun p _ => p))) | fail "no step"))
  k_with "InvPostL" => (refine (?_ : (fun T2 T1 : Prop => T2 → (T2 → T1) → T1) _ _) ?_ (by intro h; dsimp only [InvPostL]; exact h); exact fun p _ => p)
  k_with "m_sub" => repeat' (first | exact sub_nil | refine sub_cons (by k_mem) ?_)
  k_with "exec For" => (k_here; k_dflt (refine for_any ?_ (by intro _; rfl)))
  trivial
theorem fillH4 : PySem.Challenge.rw_mq0248_01 = PySem.Challenge.rw_mq0248_01 ∧ Mine.hd.heap_1 = Mine.hd.heap_1 := by
  k_fill
  exact ⟨rfl, rfl⟩
noncomputable def partsStep (leads : List Ws) (st : List (List Int) × List Int) (k : Int) : List (List Int) × List Int :=
  if sameN (leadAt leads (st.2.getLastD 0)) (leadAt leads k) ∨ lessB (leadAt leads (st.2.getLastD 0)) (leadAt leads k) = true then (st.1, st.2 ++ [k]) else (st.1 ++ [st.2], [k])
noncomputable def partsSt (leads : List Ws) (k₀ : Int) (row : List Int) (i : Nat) : List (List Int) × List Int := (row.take i).foldl (partsStep leads) ([], [k₀])
noncomputable def partsOf (leads : List Ws) (k₀ : Int) (row : List Int) : List (List Int) := (partsSt leads k₀ row row.length).1 ++ [(partsSt leads k₀ row row.length).2]
theorem partsSt_succ {leads : List Ws} {k₀ : Int} {row : List Int} {i : Nat} {k : Int} (h : row[i]? = some k) : partsSt leads k₀ row (i + 1) = partsStep leads (partsSt leads k₀ row i) k := by
  simp [partsSt, List.take_add_one, h]
noncomputable def PRows (dn : List (Addr × Obj)) (as : List Addr) (closed : List (List Int)) : Prop :=
  as.length = closed.length ∧ ∀ (i : Nat) (a : Addr) (ns : List Int), as[i]? = some a → closed[i]? = some ns → ∃ vs n, (a, listOf (List.toArray vs) n) ∈ dn ∧ IntsAre vs ns
inductive PJ (leads : List Ws) (k₀ : Int) (row : List Int) (C D : Addr) (oD : Obj) (i : Nat) (m : Str → Option Value) (nx : List (Addr × Obj)) : Prop
  | mk (P : Addr) (n : Nat) (as : List Addr) (aL : Addr) (vsL : List Value) (nL : Nat) (dn : List (Addr × Obj)) (h0 : nx = (P, listOf (as.map Value.ref ++ [Value.ref aL]).toArray n) :: (aL, listOf vsL.toArray nL) :: (D, oD) :: dn) (h1 : m (Str.ofString "parts") = some (.ref P)) (h2 : m (Str.ofString "leads") = some (.ref C)) (h3 : PRows dn as (partsSt leads k₀ row i).1) (h4 : IntsAre vsL (partsSt leads k₀ row i).2) (h5 : (P ≠ aL ∧ D ≠ aL ∧ D ≠ P)) (h6 : ∀ q ∈ dn, q.1 ≠ P ∧ q.1 ≠ aL ∧ q.1 ≠ D)
theorem parts_inv {leads : List Ws} {k₀ : Int} {row : List Int} (i : Nat) (hi : i ≤ row.length) : (∀ x ∈ (partsSt leads k₀ row i).2, x ∈ k₀ :: row) ∧ (partsSt leads k₀ row i).2 ≠ [] ∧ (partsSt leads k₀ row i).2.length ≤ i + 1 ∧ (partsSt leads k₀ row i).1.length ≤ i := by
  induction i with
  | zero => simp [partsSt]
  | succ i ih =>
    have hlt : i < row.length := by omega
    obtain ⟨a, b, c, d⟩ := ih (by omega)
    rw [partsSt_succ (List.getElem?_eq_getElem hlt)]
    have hm : row[i] ∈ k₀ :: row := List.mem_cons_of_mem _ (List.getElem_mem hlt)
    unfold partsStep
    split
    · refine ⟨fun x hx => ?_, by simp, by simp; omega, by simp; omega⟩
      rcases List.mem_append.mp hx with hx | hx
      · exact a x hx
      · rw [List.mem_singleton.mp hx]; exact hm
    · refine ⟨fun x hx => ?_, by simp, by simp, by simp; omega⟩
      rw [List.mem_singleton.mp hx]; exact hm
theorem ints_last {vs : List Value} {ns : List Int} (h : IntsAre vs ns) : ns ≠ [] → ∃ vs' t, vs = vs' ++ [.int (ns.getLastD 0) t] := by
  induction h with
  | nil => intro h; exact absurd rfl h
  | cons n t r ih =>
    intro _
    cases r with
    | nil => exact ⟨[], t, rfl⟩
    | cons a u r =>
      obtain ⟨vs', t', e⟩ := ih (fun h => nomatch h)
      exact ⟨.int n t :: vs', t', by rw [e]; rfl⟩
section
variable {prog : Program} {w : World} {A : Around} {h₀ g : Heap} {L : Addr} {m : Str → Option Value} {s : Shared} {p : Program} {loose : List Str} {mean : ExcName → Option Value} {mg mb : Str → Option Value} {C R : Addr} {leads : List Ws} {row : List Int} {k₀ : Int} {r r' : WsR} {c c' : Ws} {Q : Value → Shared → Prop} {E : Value → Shared → Prop}
theorem item_last {value slice : Expr} {l : Addr} {xs : List Value} {y : Value} {u : Tok} (hl : s.heap.IsList l (xs ++ [y]).toArray) (h : Q y s)
    (hs : subscripted slice false (.ref l) (.int (-1) u) = operate [.ref l, .int (-1) u] (getItem (.ref l) (.int (-1) u))) :
    wpAny (model prog w) A (subscriptTail value slice (.ref l) (.int (-1) u)) Q E s := by
  refine tail_any hl.typeIs slot_list_getitem.lookup (wpAny_getItem_list_neg hl (by decide) (by simp; omega) (by decide) ?_ h) hs
  have : ((-1 : Int) + ((xs ++ [y]).toArray.size : Nat)).toNat = xs.length := by simp; omega
  rw [this]
  simp
theorem words_H4_2 : True := by
  k_with "subscriptTail Name UnaryOp ref int" => (k_here; k_dflt (refine item_last (by kmk_list) ?_ (by with_unfolding_all rfl)))
  k_with "subscriptTail Subscript" => (k_here; k_dflt (refine item_last (by kmk_list) ?_ (by with_unfolding_all rfl)))
  k_with "subscriptTail Name" => (k_here; k_dflt (refine item_leads (by k_asm) (by assumption) (by assumption) (by assumption) (by assumption) ?_ (by with_unfolding_all rfl)); intro _ _)
  k_with "subscriptTail Name Name ref int" => (k_here; k_dflt (refine item_leads (by k_asm) (by assumption) (by assumption) (by assumption) (by assumption) ?_ (by with_unfolding_all rfl)); intro _ _)
  trivial
theorem appendC {D : Addr} {its : Array Value} {n : Nat} {y : Value} (pre post : List (Addr × Obj)) (F : Fr g L s.heap m) (N : News g L s.heap (pre ++ (D, listOf its n) :: post)) (h1 : ∀ p ∈ pre, p.1 ≠ D) (h2 : ∀ p ∈ post, p.1 ≠ D) (hsz : its.size ≤ sizeLine)
    (h : ∀ h', Fr g L h' m → News g L h' (pre ++ (D, listOf (its.push y) (n + 1)) :: post) → Q .none { s with heap := h' }) : wpAny (model prog w) A (call (.builtin "list.append") [.ref D, y]) Q E s := by
  have hmem := N (D, listOf its n) (List.mem_append_right _ (.head _))
  refine append_at (hsz := hsz) hmem.1 fun h' hs hD => ?_
  refine h h' ⟨F.ns.sameBut hs (Ne.symm hmem.2.1), fun b ob e => (hs.2 b (fun q => ?_)).trans (F.keep b ob e), F.above⟩ (N.setAt h1 h2 hs hD)
  rw [q, hmem.2.2] at e; cases e
theorem all_cons {α : Type} {P : α → Prop} {a : α} {l : List α} (h : P a) (r : ∀ p ∈ l, P p) : ∀ p ∈ a :: l, P p := List.forall_mem_cons.mpr ⟨h, r⟩
theorem PRows.snoc {dn : List (Addr × Obj)} {as : List Addr} {closed : List (List Int)} {a : Addr} {vs : List Value} {n : Nat} {ns : List Int} (h : PRows dn as closed) (hi : IntsAre vs ns) : PRows ((a, listOf vs.toArray n) :: dn) (as ++ [a]) (closed ++ [ns]) := by
  obtain ⟨hl, hx⟩ := h
  refine ⟨by simp [hl], fun i b ms e1 e2 => ?_⟩
  by_cases hi' : i < as.length
  · rw [List.getElem?_append_left hi'] at e1
    rw [List.getElem?_append_left (by omega)] at e2
    obtain ⟨us, k, hm, hu⟩ := hx i b ms e1 e2
    exact ⟨us, k, List.mem_cons_of_mem _ hm, hu⟩
  · rw [List.getElem?_append_right (by omega)] at e1 e2
    rw [hl] at e1
    cases hq : i - closed.length with
    | zero =>
      rw [hq] at e1 e2
      simp at e1 e2
      subst e1 e2
      exact ⟨vs, n, List.mem_cons_self, hi⟩
    | succ k => rw [hq] at e1; simp at e1
theorem fit2 {a i r : Nat} (h : a ≤ i + 1) (hi : i < r) (hr : r < 50) : a ≤ sizeLine := by rw [sizeLine_eq]; omega
theorem allLt_mem {d : Addr} : ∀ {l : List (Addr × Obj)}, AllLt d l → ∀ p ∈ l, p.1 < d
  | [], _, _, h => nomatch h
  | _ :: _, x, p, h => by
    rcases List.mem_cons.mp h with rfl | h
    · exact x.1
    · exact allLt_mem x.2 p h
theorem small_at (hsm : ∀ c ∈ leads, Small c) {k : Int} (h1 : k.toNat < leads.length) : Small (leadAt leads k) := by
  rw [leadAt, List.getD_eq_getElem?_getD, List.getElem?_eq_getElem h1]
  exact hsm _ (List.getElem_mem h1)
theorem words_H4_3 : True := by
  k_with "getMethod ref" => (k_here; k_dflt (first | refine ws_equal (by k_asm) (by assumption) (by assumption) ?_ | refine ws_less (by k_asm) (by assumption) (by assumption) ?_))
  k_with "call ref" => (k_here; k_dflt (refine call_equal (by k_asm) (by k_asm) (by assumption) (by assumption) (by assumption) (by assumption) (by assumption) (by assumption) (by assumption) (by rfl) (by exact Nat.le_of_ble_eq_true rfl) (by exact Nat.le_of_ble_eq_true rfl) ?_; k_whole); intro _ _ _ _; (try k_sweep))
  k_with "call ref" => (k_here; k_dflt (refine call_less (by k_asm) (by k_asm) (by assumption) (by assumption) (by assumption) (by assumption) (by assumption) (by assumption) (by assumption) (by rfl) (by exact Nat.le_of_ble_eq_true rfl) (by exact Nat.le_of_ble_eq_true rfl) ?_; k_whole); intro _ _ _ _; (try k_sweep))
  trivial
theorem parts_spec (X₀ : (hd.heap_1 w.params).In h₀) (T : Top p loose mean mg mb h₀) (hO : Over h₀ s.heap) (hL : Leads w.params h₀ s.heap C leads) (hlen : leads.length < 20) (hsm : ∀ c ∈ leads, Small c)
    (hR : IntList s.heap R (k₀ :: row)) (hb : ∀ k ∈ k₀ :: row, 0 ≤ k ∧ k.toNat < leads.length) (hrl : row.length < 50)
    (hQ : ∀ h' tk' r n as rows, Over s.heap h' → Led s.heap h' ((r, listOf (as.map Value.ref).toArray n) :: rows) → PRows rows as (partsOf leads k₀ row) → Q (.ref r) { s with heap := h', toks := tk' }) :
    wpAny (model prog w) A3 (call (.ref 134) [.ref C, .ref R]) Q E s := by
  refine wpAny_call ?_
  refine enterP X₀ T hO (f := 134) (by k_is) (by k_is) (by decide) (binds := [(Str.ofString "leads", .ref C), (Str.ofString "row", .ref R)]) (BindsTo.of_eq rfl) (locs rfl) ?_ rfl rfl rfl (by decide)
  intro L' h₁ X' T' F' N'
  refine by_goal fun Gg hGg => ?_
  obtain ⟨vs, hvl, hvs⟩ := hR
  refine hGg ?_
  clear hGg Gg
  (refine (?_ : (fun T2 T1 : Prop => T2 → (T2 → T1) → T1) _ _) ?_ (by intro h; dsimp only; exact h); exact fun p _ => p)
  k_steps
  rename_i tk0 t0 a0 hz1 _ P0 hz2 lt0 hz3 D ws hD FD ND hI _ _ ltD
  replace ND : News s.heap L' hD [(P0, _), (a0, _), (D, listOf ws.toArray 0)] := fun q hq => ND q (sub_cons (by k_mem) (sub_cons (by k_mem) (sub_cons (by k_mem) sub_nil)) q hq)
  refine listC (keepL := [(D, listOf ws.toArray 0)]) (PJ leads k₀ row C D (listOf ws.toArray 0)) rfl (PySem.IsL.isList (n := 0) (ND (D, listOf ws.toArray 0) (by k_mem)).1) (.inr ⟨_, List.mem_singleton.mpr rfl⟩) FD ND ?_ ?_ ?_ ?_ (by intros; rfl)
  · exact ⟨P0, _, [], a0, _, _, [], rfl, rfl, rfl, ⟨rfl, fun i a ns e => by simp at e⟩, .cons _ _ .nil, ⟨Nat.ne_of_gt lt0, Nat.ne_of_gt ltD.2, Nat.ne_of_gt ltD.1⟩, fun q hq => nomatch hq⟩
  · rintro i m nx ⟨P, n, as, aL, vsL, nL, dn, rfl, _⟩ q hq
    rw [List.mem_singleton.mp hq]
    k_mem
  · rintro i v m₁ nx h tk₄ I o hv ⟨P, n, as, aL, vsL, nL, dn, rfl, hmp, hml, hrows, hlast, hne3, hdn⟩ hneI F₄ N₄
    replace F₄ := fr_ps' (ps := [(Str.ofString "parts", .ref P), (Str.ofString "leads", .ref C)]) (List.forall_mem_cons.mpr ⟨hmp, List.forall_mem_cons.mpr ⟨hml, List.forall_mem_nil _⟩⟩) F₄
    change Fr s.heap L' _ _ at F₄
    change News s.heap L' _ _ at N₄
    refine by_goal fun Gg hGg => ?_
    obtain ⟨k, t, rfl, hk⟩ := hI.at i v hv
    refine hGg ?_
    clear hGg Gg
    have hk : row[i]? = some k := hk
    have hir : i < row.length := (List.getElem?_eq_some_iff.mp hk).1
    refine by_goal fun Gg hGg => ?_
    obtain ⟨pm, pn, pl, pc⟩ := parts_inv (leads := leads) (k₀ := k₀) (row := row) i (Nat.le_of_lt hir)
    refine hGg ?_
    clear hGg Gg
    refine by_goal fun Gg hGg => ?_
    obtain ⟨vs', tL, rfl⟩ := ints_last hlast pn
    refine hGg ?_
    clear hGg Gg
    generalize hkL : (partsSt leads k₀ row i).2.getLastD 0 = kL at N₄ hlast
    have hkLm : kL ∈ k₀ :: row := pm _ (by rw [← hkL]; cases hq : (partsSt leads k₀ row i).2 with | nil => exact absurd hq pn | cons a r => simp [List.getLastD])
    obtain ⟨hkL0, hkL1⟩ := hb kL hkLm
    obtain ⟨hk0, hk1⟩ := hb k (List.mem_cons_of_mem _ (List.mem_of_getElem? hk))
    have sL := small_at hsm hkL1
    have sk := small_at hsm hk1
    have hiI : P ≠ I ∧ aL ≠ I ∧ D ≠ I ∧ ∀ q ∈ dn, q.1 ≠ I := ⟨hneI _ List.mem_cons_self, hneI _ (List.mem_cons_of_mem _ List.mem_cons_self), hneI _ (List.mem_cons_of_mem _ (List.mem_cons_of_mem _ List.mem_cons_self)), fun q hq => hneI q (List.mem_cons_of_mem _ (List.mem_cons_of_mem _ (List.mem_cons_of_mem _ hq)))⟩
    refine by_goal fun Gg hGg => ?_
    obtain ⟨iP, iA, iD, iN⟩ := id hiI
    refine hGg ?_
    clear hGg Gg
    refine by_goal fun Gg hGg => ?_
    obtain ⟨n1, n2, n3⟩ := id hne3
    refine hGg ?_
    clear hGg Gg
    clear hneI
    have hsv : (vs' ++ [Value.int kL tL]).toArray.size ≤ sizeLine := by
      rw [List.size_toArray, hlast.length]
      exact fit2 pl hir hrl
    have hsp : (as.map Value.ref ++ [Value.ref aL]).toArray.size ≤ sizeLine := by
      rw [List.size_toArray, List.length_append, List.length_map, hrows.1]
      exact fit2 (Nat.succ_le_succ pc) hir hrl
    have hst := partsSt_succ (leads := leads) (k₀ := k₀) hk
    have hfin : ∀ {h' : Heap} {tk' : Nat} {m' : Str → Option Value}, (sameN (leadAt leads kL) (leadAt leads k) ∨ lessB (leadAt leads kL) (leadAt leads k) = true) → Fr s.heap L' h' m' → News s.heap L' h' ([(I, o), (P, listOf (as.map Value.ref ++ [Value.ref aL]).toArray n)] ++ (aL, listOf ((vs' ++ [Value.int kL tL]).toArray.push (.int k t)) (nL + 1)) :: (D, listOf ws.toArray 0) :: dn) →
        m' (Str.ofString "parts") = some (.ref P) → m' (Str.ofString "leads") = some (.ref C) → InvEndL s.heap L' (PJ leads k₀ row C D (listOf ws.toArray 0) (i + 1)) (I, o) { s with heap := h, toks := tk₄ } { s with heap := h', toks := tk' } := by
      intro h' tk' m' hor F N e1 e2
      rw [List.push_toArray, List.cons_append, List.cons_append, List.nil_append] at N
      refine InvEndL.intro ((P, listOf (as.map Value.ref ++ [Value.ref aL]).toArray n) :: (aL, listOf (vs' ++ [Value.int kL tL] ++ [Value.int k t]).toArray (nL + 1)) :: (D, listOf ws.toArray 0) :: dn) F N (fun q hq => List.mem_cons_of_mem _ hq) List.mem_cons_self (all_cons iP (all_cons iA (all_cons iD iN))) ⟨P, n, as, aL, _, _, dn, rfl, e1, e2, ?_, ?_, hne3, hdn⟩
      · rw [hst, partsStep, hkL, if_pos hor]
        exact hrows
      · rw [hst, partsStep, hkL, if_pos hor]
        exact ints_snoc hlast
    k_steps
    · rename_i hs
      refine appendC [(I, o), (P, _)] ((D, _) :: dn) (by assumption) (by assumption) (all_cons (Ne.symm iA) (all_cons n1 (List.forall_mem_nil _))) (all_cons n2 fun q hq => (hdn q hq).2.1) hsv fun h' F' N' => ?_
      k_steps
      exact hfin (.inl hs) F' N' rfl rfl
    · rename_i hs
      refine appendC [(I, o), (P, _)] ((D, _) :: dn) (by assumption) (by assumption) (all_cons (Ne.symm iA) (all_cons n1 (List.forall_mem_nil _))) (all_cons n2 fun q hq => (hdn q hq).2.1) hsv fun h' F' N' => ?_
      k_steps
      exact hfin (.inr hs) F' N' rfl rfl
    · rename_i hs1 _ _ _ _ hs2 l₂ h₂ F₂ N₂ lt₂
      refine by_goal fun Gg hGg => ?_
      obtain ⟨j1, j2, j3, j4, j5⟩ := lt₂
      refine hGg ?_
      clear hGg Gg
      refine appendC [(l₂, listOf [Value.int k t].toArray 0), (I, o)] ((aL, listOf (vs' ++ [Value.int kL tL]).toArray nL) :: (D, listOf ws.toArray 0) :: dn) F₂ N₂ (all_cons (Nat.ne_of_gt j2) (all_cons (Ne.symm iP) (List.forall_mem_nil _))) (all_cons (Ne.symm n1) (all_cons n3 fun q hq => (hdn q hq).1)) hsp fun h' F' N' => ?_
      k_steps
      rw [List.push_toArray, List.cons_append, List.cons_append, List.nil_append] at N'
      have hor : ¬ (sameN (leadAt leads kL) (leadAt leads k) ∨ lessB (leadAt leads kL) (leadAt leads k) = true) := by
        rintro (hx | hx)
        · exact hs1 hx
        · rw [hs2] at hx; cases hx
      have j6 : ∀ q ∈ dn, q.1 < l₂ := allLt_mem j5
      refine InvEndL.intro ((P, listOf ((as ++ [aL]).map Value.ref ++ [Value.ref l₂]).toArray (n + 1)) :: (l₂, listOf [Value.int k t].toArray 0) :: (D, listOf ws.toArray 0) :: (aL, listOf (vs' ++ [Value.int kL tL]).toArray nL) :: dn) F' N' ?_ (by k_mem) (all_cons iP (all_cons (Nat.ne_of_gt j1) (all_cons iD (all_cons iA iN)))) ⟨P, n + 1, as ++ [aL], l₂, _, _, _, rfl, rfl, rfl, ?_, ?_, ⟨Nat.ne_of_lt j2, Nat.ne_of_lt j4, n3⟩, ?_⟩
      · refine all_cons ?_ (all_cons (by k_mem) (all_cons (by k_mem) (all_cons (by k_mem) fun q hq => (by repeat (first | exact hq | refine List.Mem.tail _ ?_)))))
        rw [List.map_append]
        simp
      · rw [hst, partsStep, hkL, if_neg hor]
        exact hrows.snoc hlast
      · rw [hst, partsStep, hkL, if_neg hor]
        exact .cons _ _ .nil
      · exact all_cons ⟨Ne.symm n1, Nat.ne_of_lt j3, Ne.symm n2⟩ fun q hq => ⟨(hdn q hq).1, Nat.ne_of_lt (j6 q hq), (hdn q hq).2.2⟩
  · rintro m₁ nx h tk₄ ⟨P, n, as, aL, vsL, nL, dn, rfl, hmp, hml, hrows, hlast, hne3, hdn⟩ F₄ N₄
    replace F₄ := fr_ps' (ps := [(Str.ofString "parts", .ref P), (Str.ofString "leads", .ref C)]) (List.forall_mem_cons.mpr ⟨hmp, List.forall_mem_cons.mpr ⟨hml, List.forall_mem_nil _⟩⟩) F₄
    have hwl : ws.length = row.length := by rw [hI.length]; rfl
    rw [hwl] at hrows hlast
    k_steps
    (refine (?_ : (fun T2 T1 : Prop => T2 → (T2 → T1) → T1) _ _) ?_ (by intro h; dsimp only; exact h); exact fun p _ => p)
    refine ⟨_, F₄, fun hk => ?_⟩
    refine hQ _ _ _ n (as ++ [aL]) ((aL, listOf vsL.toArray nL) :: dn) hk (fun q hq => ?_) (hrows.snoc hlast)
    have hq' : q ∈ (P, listOf (as.map Value.ref ++ [Value.ref aL]).toArray n) :: (aL, listOf vsL.toArray nL) :: (D, listOf ws.toArray 0) :: dn := by
      rw [List.map_append] at hq
      rcases List.mem_cons.mp hq with e | hq
      · exact List.mem_cons.mpr (.inl e)
      · rcases List.mem_cons.mp hq with e | hq
        · rw [e]; k_mem
        · exact (by repeat (first | exact hq | refine List.Mem.tail _ ?_))
    exact ⟨(N₄ q hq').1, (N₄ q hq').2.2⟩
end
end Mine
end
section
open PySem PySem.W PySem.Calls PyProof.Rows
theorem Mine.fresh_H4 {prog : Program} {w : World} {A : Around} {env : Env} {Q : Flow → Shared → Prop} {E : Value → Shared → Prop} {s : Shared} (h : Q .next s) : wpAny (model prog w) A (execs [] env) Q E s := by
  w_top off
  k_with_none
  walk1
  exact h
end
section
open PySem PySem.W PySem.Calls PyProof.Rows
set_option Elab.async false
set_option maxRecDepth 100000
set_option maxHeartbeats 8000000
set_option pp.deepTerms false
set_option pp.deepTerms.threshold 4
namespace Mine
theorem words_H5_1 : True := by
  k_with "k_steps" => (repeat' (first | (k_unfold; (try (refine (?_ : (fun T2 T1 : Prop => T2 → (T2 → T1) → T1) _ _) ?_ (by intro h; dsimp only; exact h); exact fun p _ => p))) | (k_end; kc_close) | (with_reducible refine st_x ‹Shared› fun _ => ?_; walk1) | ((refine (?_ : (fun T2 T1 : Prop => T2 → (T2 → T1) → T1) _ _) ?_ (by intro h; dsimp only; exact h); exact fun p _ => p); walk1) | walk1 | (leave1; walk_say "STEP leave1"; (try (refine (?_ : (fun T2 T1 : Prop => T2 → (T2 → T1) → T1) _ _) ?_ (by intro h; dsimp only; exact h); exact fun p _ => p))) | fail "no step"))
  trivial
theorem fillH5 : PySem.Challenge.rw_mq0248_01 = PySem.Challenge.rw_mq0248_01 ∧ Mine.hd.heap_1 = Mine.hd.heap_1 := by
  k_fill
  exact ⟨rfl, rfl⟩
noncomputable def lt7 (a b : List Int) : Bool := cmpRes (fun a b => decide (a < b)) false a b
noncomputable def ge7 (a b : List Int) : Bool := cmpRes (fun a b => decide (b ≤ a)) true a b
theorem words_H5_2 : True := by
  k_with "compareOp Lt ref ref" => (refine lt_lists (by assumption) (by assumption) (by assumption) (by assumption) (by assumption) (Nat.le_of_ble_eq_true rfl) ?_)
  k_with "compareOp LtE ref ref" => (refine le_lists (by assumption) (by assumption) (by assumption) (by assumption) (by assumption) (Nat.le_of_ble_eq_true rfl) ?_)
  k_with "compareOp Gt ref ref" => (refine gt_lists (by assumption) (by assumption) (by assumption) (by assumption) (by assumption) (Nat.le_of_ble_eq_true rfl) ?_)
  k_with "compareOp GtE ref ref" => (refine ge_lists (by assumption) (by assumption) (by assumption) (by assumption) (by assumption) (Nat.le_of_ble_eq_true rfl) ?_)
  trivial
section
variable {prog : Program} {w : World} {A : Around} {h₀ g : Heap} {L : Addr} {m : Str → Option Value} {s : Shared} {p : Program} {loose : List Str} {mean : ExcName → Option Value} {mg mb : Str → Option Value} {a b : Addr} {ns ms : List Int} {Q : Value → Shared → Prop} {E : Value → Shared → Prop}
theorem answers_cols (X₀ : (hd.heap_1 w.params).In h₀) (T : Top p loose mean mg mb h₀) (hO : Over h₀ s.heap) (ha : IntList s.heap a ns) (hb : IntList s.heap b ms) (hn : ns.length = ms.length) (hm : ms.length = 7)
    (hQ : ∀ h' tk' r, Over s.heap h' → h'.IsList r [Value.bool (lt7 ns ms), .bool (le7 ns ms), .bool (decide (ns = ms)), .bool (ge7 ns ms), .bool (gt7 ns ms)].toArray → Q (.ref r) { s with heap := h', toks := tk' }) :
    wpAny (model prog w) A3 (call (.ref 127) [.ref a, .ref b]) Q E s := by
  refine wpAny_call ?_
  refine enterP X₀ T hO (f := 127) (by k_is) (by k_is) (by decide) (binds := [(Str.ofString "one", .ref a), (Str.ofString "other", .ref b)]) (BindsTo.of_eq rfl) (locs rfl) ?_ rfl rfl rfl (by decide)
  intro L' h₁ X' T' F' N'
  obtain ⟨xs, hxl, hxs⟩ := ha
  obtain ⟨ys, hyl, hys⟩ := hb
  have hx1 : h₁.IsList a xs.toArray := hxl.at fun o e => F'.keep _ _ e
  have hy1 : h₁.IsList b ys.toArray := hyl.at fun o e => F'.keep _ _ e
  (refine (?_ : (fun T2 T1 : Prop => T2 → (T2 → T1) → T1) _ _) ?_ (by intro h; dsimp only; exact h); exact fun p _ => p)
  k_steps
  rename_i l₂ h₂ F₂ N₂ lt₂
  refine ⟨_, F₂, fun hk => ?_⟩
  refine hQ _ _ _ hk ?_
  exact PySem.IsL.isList (n := 0) (N₂ (l₂, _) (by k_mem)).1
end
end Mine
end
section
open PySem PySem.W PySem.Calls PyProof.Rows
theorem Mine.fresh_H5 {prog : Program} {w : World} {A : Around} {env : Env} {Q : Flow → Shared → Prop} {E : Value → Shared → Prop} {s : Shared} (h : Q .next s) : wpAny (model prog w) A (execs [] env) Q E s := by
  w_top off
  k_with_none
  walk1
  exact h
end
section
open PySem PySem.W PySem.Calls PyProof.Rows PyProof.Rows.LCg
set_option Elab.async false
namespace Mine
section
variable {M : Model} {A : Around} {E : Value → Shared → Prop} {s : Shared}
theorem newEnvCC {scope : Scope} {globals : Addr} {cl : List (Str × Addr)} {qual : Str} {env : Env} {x : Str} {Q : Env → Shared → Prop}
    (hp : ∀ h : Heap, pushCells h scope.names = h.push { cls := .type "cell", data := .cell none }) (hc : ∀ n acc, cellsFrom n scope.names acc = (x, n) :: acc)
    (hQ : Q { scope, locals := s.heap.objs.size, globals, cells := (x, s.heap.objs.size + 1) :: cl, qual, func := none, code := env.code, frame := env.frame, builtins := env.builtins }
      { s with heap := (s.heap.push { cls := .type "dict", data := .dict #[] }).push { cls := .type "cell", data := .cell none } }) :
    wpAny M A (newFunctionEnv scope globals cl [] qual none .none (some env)) Q E s := by
  simp only [newFunctionEnv, Option.isSome_some, if_true]
  refine wpAny_bind (wpAny_alloc ?_)
  refine wpAny_bind (wpAny_layCells _ (fun name kind cells => by cases hkc : kind == NameKind.cell <;> simp [hkc]) _ _ _ _ ?_)
  rw [hp, hc, Heap.size_push]
  exact wpAny_bind (wpAny_pure (wpAny_pure hQ))
end
section
variable {prog : Program} {w : World} {A : Around} {s : Shared} {elt t0 i0 t1 i1 : Expr} {scope : Scope} {pos : Pos} {it acc : Value} {env : Env} {Q : Shared → Prop}
noncomputable def okQ (Q : Shared → Prop) (r : Result) (s' : Shared) : Prop := match r with | .ok f => f = .next ∧ Q s' | .error _ => False
theorem turn2 : compTurn (.ListComp elt [⟨t0, i0, [], 0⟩, ⟨t1, i1, [], 0⟩] scope pos) 0 it acc env = (do
      standAt i0.pos
      match ← pyNext it with
      | none => pure (.done .next)
      | some v =>
        letOwnedTupleGo t0 it v
        assign t0 env v
        let x ← eval i1 env
        standAt i1.pos
        let x ← foldedSetIterable i1 env x
        let _ ← runOwn (.compStart (.ListComp elt [⟨t0, i0, [], 0⟩, ⟨t1, i1, [], 0⟩] scope pos) 1 (← holding [x] (pyIter x)) acc env) env
        again (.compLoop (.ListComp elt [⟨t0, i0, [], 0⟩, ⟨t1, i1, [], 0⟩] scope pos) 0 it acc env)) := by rfl
theorem turn21 : compTurn (.ListComp elt [⟨t0, i0, [], 0⟩, ⟨t1, i1, [], 0⟩] scope pos) 1 it acc env = (do
      standAt i1.pos
      match ← pyNext it with
      | none => pure (.done .next)
      | some v =>
        letOwnedTupleGo t1 it v
        assign t1 env v
        (do let _ ← call (.builtin "list.append") [acc, ← eval elt env])
        again (.compLoop (.ListComp elt [⟨t0, i0, [], 0⟩, ⟨t1, i1, [], 0⟩] scope pos) 1 it acc env)) := by rfl
theorem loop2 (I : Nat → Shared → Prop)
    (turn : ∀ n s, I n s → wpAny (model prog w) A (pyNext it) (fun r s₁ => match r with
      | none => Q s₁
      | some v => wpAny (model prog w) A (assign t0 env v) (fun _ s₂ => wpAny (model prog w) A (eval i1 env) (fun x s₃ => wpAny (model prog w) A (pyIter x) (fun it' s₄ =>
          codeAny (model prog w) (A.mark none) (.compStart (.ListComp elt [⟨t0, i0, [], 0⟩, ⟨t1, i1, [], 0⟩] scope pos) 1 it' acc env) (okQ fun s₅ => ∃ m, m < n ∧ I m s₅) s₄) (fun _ _ => False) s₃) (fun _ _ => False) s₂) (fun _ _ => False) s₁) (fun _ _ => False) s)
    (n : Nat) (h : I n s) (ht : ∀ v, letOwnedTupleGo t0 it v = pure ()) (hs : ∀ x, foldedSetIterable i1 env x = pure x) :
    codeAny (model prog w) A (.compLoop (.ListComp elt [⟨t0, i0, [], 0⟩, ⟨t1, i1, [], 0⟩] scope pos) 0 it acc env) (okQ Q) s := by
  refine codeAny_loop rfl I (fun n s hI => ?_) n h
  show wpAny _ A ((compTurn (.ListComp elt [⟨t0, i0, [], 0⟩, ⟨t1, i1, [], 0⟩] scope pos) 0 it acc env).onRaise (fun x => do noteFrame x env; theTreesLotGoes x)) _ _ s
  refine wpAny_noted ?_
  rw [turn2]
  refine wpAny_bind (wpAny_standAt (wpAny_bind (wpAny_mono (turn n s hI) (fun r s₁ h₁ => ?_) fun _ _ h' => h'.elim)))
  cases r with
  | none => exact wpAny_pure ⟨rfl, h₁⟩
  | some v =>
    refine wpAny_bind (wpAny_of_eq (ht v) ?_)
    refine wpAny_bind (wpAny_mono h₁ (fun _ s₂ h₂ => ?_) fun _ _ h' => h'.elim)
    refine wpAny_bind (wpAny_mono h₂ (fun x s₃ h₃ => ?_) fun _ _ h' => h'.elim)
    refine wpAny_bind (wpAny_standAt (wpAny_bind (wpAny_of_eq (hs x) ?_)))
    refine wpAny_bind (wpAny_holding (wpAny_mono h₃ (fun it' s₄ h₄ => ?_) fun _ _ h' => h'.elim))
    refine wpAny_bind (wpAny_runOwn (codeAny_mono h₄ fun r s' q => ?_))
    cases r with
    | error e => exact q.elim
    | ok f => exact wpAny_pure ⟨rfl, q.2⟩
theorem loop21 (I : Nat → Shared → Prop)
    (turn : ∀ n s, I n s → wpAny (model prog w) A (pyNext it) (fun r s₁ => match r with
      | none => Q s₁
      | some v => wpAny (model prog w) A (assign t1 env v) (fun _ s₂ => wpAny (model prog w) A (eval elt env) (fun x s₃ => wpAny (model prog w) A (call (.builtin "list.append") [acc, x]) (fun _ s₄ =>
          ∃ m, m < n ∧ I m s₄) (fun _ _ => False) s₃) (fun _ _ => False) s₂) (fun _ _ => False) s₁) (fun _ _ => False) s)
    (n : Nat) (h : I n s) (ht : ∀ v, letOwnedTupleGo t1 it v = pure ()) :
    codeAny (model prog w) A (.compLoop (.ListComp elt [⟨t0, i0, [], 0⟩, ⟨t1, i1, [], 0⟩] scope pos) 1 it acc env) (okQ Q) s := by
  refine codeAny_loop rfl I (fun n s hI => ?_) n h
  show wpAny _ A ((compTurn (.ListComp elt [⟨t0, i0, [], 0⟩, ⟨t1, i1, [], 0⟩] scope pos) 1 it acc env).onRaise (fun x => do noteFrame x env; theTreesLotGoes x)) _ _ s
  refine wpAny_noted ?_
  rw [turn21]
  refine wpAny_bind (wpAny_standAt (wpAny_bind (wpAny_mono (turn n s hI) (fun r s₁ h₁ => ?_) fun _ _ h' => h'.elim)))
  cases r with
  | none => exact wpAny_pure ⟨rfl, h₁⟩
  | some v =>
    refine wpAny_bind (wpAny_of_eq (ht v) ?_)
    refine wpAny_bind (wpAny_mono h₁ (fun _ s₂ h₂ => ?_) fun _ _ h' => h'.elim)
    exact wpAny_bind (wpAny_bind (wpAny_mono h₂ (fun x s₃ h₃ => wpAny_bind (wpAny_mono h₃ (fun _ s₄ h₄ => wpAny_pure (wpAny_pure ⟨rfl, h₄⟩)) fun _ _ h' => h'.elim)) fun _ _ h' => h'.elim))
theorem start21 {R : Result → Shared → Prop}
    (h0 : codeAny (model prog w) A (.compLoop (.ListComp elt [⟨t0, i0, [], 0⟩, ⟨t1, i1, [], 0⟩] scope pos) 1 it acc env) R s)
    (h : wpAny (model prog w) A (pyIter it) (fun it' s' => codeAny (model prog w) A (.compLoop (.ListComp elt [⟨t0, i0, [], 0⟩, ⟨t1, i1, [], 0⟩] scope pos) 1 it' acc env) R s') (fun _ _ => False) s) :
    codeAny (model prog w) A (.compStart (.ListComp elt [⟨t0, i0, [], 0⟩, ⟨t1, i1, [], 0⟩] scope pos) 1 it acc env) R s := by
  refine codeAny_of_tree ?_
  show wpAny _ _ ((compStart (.ListComp elt [⟨t0, i0, [], 0⟩, ⟨t1, i1, [], 0⟩] scope pos) 1 it acc env).onRaise (fun x => do noteFrame x env; standAt theWindowsPlace)) _ _ s
  refine wpAny_notedAt ?_
  unfold compStart
  show wpAny _ _ (ask >>= _) _ _ s
  refine wpAny_bind (wpAny_askSetting (wpAny_ite ?_))
  split
  · first
      | exact wpAny_bind (wpAny_pure (wpAny_pure (And.intro rfl h0)))
      | exact wpAny_pure (And.intro rfl h0)
  · first
      | exact wpAny_bind (wpAny_rule (wpAny_bind (wpAny_standAt (wpAny_bind (wpAny_mono h (fun it' s' h' => wpAny_pure (And.intro rfl h')) fun _ _ x => x.elim)))))
      | (refine wpAny_bind (wpAny_rule ?_); show wpAny _ _ (standAt i1.pos >>= _) _ _ s; exact wpAny_bind (wpAny_standAt (wpAny_bind (wpAny_mono h (fun it' s' h' => wpAny_pure (And.intro rfl h')) fun _ _ x => x.elim))))
end
section
variable {prog : Program} {w : World} {A : Around} {s : Shared} {h₀ : Heap} {L : Addr} {m : Str → Option Value}
inductive DInv (h₀ : Heap) (L : Addr) (m : Str → Option Value) (s : Shared) (I : Addr) (n : Nat) (St : Nat → Heap → Prop) (J : Nat → List (Addr × Obj) → Prop) (k : Nat) (s' : Shared) : Prop
  | mk h' tk news' i (h0 : s' = { s with heap := h', toks := tk }) (h1 : St i h') (h2 : Fr h₀ L h' m) (h3 : News h₀ L h' news') (h4 : (∀ p ∈ news', p.1 ≠ I)) (h5 : J i news') (h6 : i ≤ n) (h7 : k = n + 1 - i)
inductive DEnd (h₀ : Heap) (L : Addr) (m : Str → Option Value) (s : Shared) (q : Addr × Obj) (J : List (Addr × Obj) → Prop) (s' : Shared) : Prop
  | mk h' tk nx (h0 : s' = { s with heap := h', toks := tk }) (h1 : Fr h₀ L h' m) (h2 : News h₀ L h' (q :: nx)) (h3 : (∀ p ∈ nx, p.1 ≠ q.1)) (h4 : J nx)
theorem drive {B : Value → (Shared → Prop) → Shared → Prop} (hB : ∀ v (K K' : Shared → Prop) s, (∀ s, K s → K' s) → B v K s → B v K' s) {I : Addr} {fp : List Addr} {n : Nat} {P : Nat → Value → Prop} {St : Nat → Heap → Prop} {keepL : List (Addr × Obj)} (J : Nat → List (Addr × Obj) → Prop) {Done : Shared → Prop}
    (W : Walks prog w A I fp [I] n P St) (hlive : ∀ i h, St i h → ∃ o, h.get? I = some o) (hLI : L ≠ I) (hI0 : h₀.get? I = none)
    (hkp : ∀ i nx, J i nx → ∀ q ∈ keepL, q ∈ nx) (hother : ∀ b ∈ fp, b ≠ I → (∃ o, h₀.get? b = some o) ∨ ∃ o, (b, o) ∈ keepL)
    (turn : ∀ i v nx h tk o, i < n → P i v → J i nx → (∀ p ∈ nx, p.1 ≠ I) → Fr h₀ L h m → News h₀ L h ((I, o) :: nx) → B v (DEnd h₀ L m s (I, o) (J (i + 1))) { s with heap := h, toks := tk })
    (done : ∀ nx h tk, J n nx → Fr h₀ L h m → News h₀ L h nx → Done { s with heap := h, toks := tk }) :
    ∀ k s', DInv h₀ L m s I n St J k s' → wpAny (model prog w) A (pyNext (.ref I)) (fun r s₁ => match r with | none => Done s₁ | some v => B v (fun s₅ => ∃ j, j < k ∧ DInv h₀ L m s I n St J j s₅) s₁) (fun _ _ => False) s' := by
  have up : ∀ {h h' : Heap} {news₁ : List (Addr × Obj)}, Fr h₀ L h m → News h₀ L h news₁ → (∀ p ∈ news₁, p.1 ≠ I) → (∀ b o, b ∉ [I] → h.get? b = some o → h'.get? b = some o) → Fr h₀ L h' m ∧ News h₀ L h' news₁ := by
    intro h h' news₁ F₁ N₁ hne k
    obtain ⟨⟨oL, es, ep, hL, r⟩, kp, ab⟩ := F₁
    refine ⟨⟨⟨oL, es, ep, k _ _ (by simpa using hLI) hL, r⟩, fun b o e => k b o (fun q => ?_) (kp b o e), ab⟩, fun p hp => ⟨k _ _ (by simpa using hne p hp) (N₁ p hp).1, (N₁ p hp).2⟩⟩
    rw [List.mem_singleton.mp q, hI0] at e
    cases e
  rintro k s' ⟨h, tk, nx, i, rfl, hst', F₁, N₁, hne, hJ, hi, rfl⟩
  by_cases hlt : i < n
  · refine W.item i _ _ _ hlt hst' fun v h' tk' hP hst₂ hk => ?_
    obtain ⟨F₂, N₂⟩ := up F₁ N₁ hne hk
    obtain ⟨o, ho⟩ := hlive _ _ hst₂
    have N₃ : News h₀ L h' ((I, o) :: nx) := fun p hp => by
      rcases List.mem_cons.mp hp with rfl | hp
      · exact ⟨ho, Ne.symm hLI, hI0⟩
      · exact N₂ p hp
    refine hB v _ _ _ (fun s₃ h₃ => ?_) (turn i v nx h' tk' o hlt hP hJ hne F₂ N₃)
    obtain ⟨h₄, tk₄, nx₄, rfl, F₄, N₄, ha, hm⟩ := h₃
    refine ⟨n + 1 - (i + 1), by omega, h₄, tk₄, nx₄, i + 1, rfl, ?_, F₄, fun p hp => N₄ p (List.mem_cons_of_mem _ hp), ha, hm, hlt, rfl⟩
    refine W.frame _ _ _ hst₂ fun b hb o' e => ?_
    by_cases hbI : b = I
    · subst hbI
      rw [ho] at e
      cases e
      exact (N₄ _ List.mem_cons_self).1
    · rcases hother b hb hbI with ⟨ob, eb⟩ | ⟨ob, eb⟩
      · have := F₂.keep _ _ eb
        rw [e] at this
        cases this
        exact F₄.keep _ _ eb
      · have := (N₂ _ (hkp _ _ hJ _ eb)).1
        rw [e] at this
        cases this
        exact (N₄ _ (List.mem_cons_of_mem _ (hkp _ _ hm _ eb))).1
  · have hin : i = n := by omega
    subst hin
    refine W.done _ _ _ hst' fun h' tk' hk => ?_
    obtain ⟨F₂, N₂⟩ := up F₁ N₁ hne hk
    exact done nx h' tk' hJ F₂ N₂
end
end Mine
end
section
open PySem PySem.W PySem.Calls PyProof.Rows
theorem Mine.fresh_MCC {prog : Program} {w : World} {A : Around} {env : Env} {Q : Flow → Shared → Prop} {E : Value → Shared → Prop} {s : Shared} (h : Q .next s) : wpAny (model prog w) A (execs [] env) Q E s := by
  w_top off
  k_with_none
  walk1
  exact h
end
section
open PySem PySem.W PySem.Calls PyProof.Rows PyProof.Rows.LCg
set_option Elab.async false
namespace Mine
section
variable {prog : Program} {w : World} {A : Around} {E : Value → Shared → Prop} {s : Shared} {h₀ : Heap} {L : Addr} {m : Str → Option Value} {env : Env}
theorem all_cons' {α : Type} {P : α → Prop} {a : α} {l : List α} (h : P a) (r : ∀ p ∈ l, P p) : ∀ p ∈ a :: l, P p := List.forall_mem_cons.mpr ⟨h, r⟩
theorem storeL {M : Model} {env' : Env} {x : Str} {px : Pos} {v : Value} {C : Addr} {oC : Obj} {m₂ : Str → Option Value} {Q : Unit → Shared → Prop} (pre post : List (Addr × Obj)) (hCe : env'.locals = C) (hk : env'.kindOf x = some .local)
    (hp : (env'.scope.kind == .class || (env'.scope.kind == .module && env'.locals != env'.globals)) = false)
    (F : Fr h₀ L s.heap m) (N : News h₀ L s.heap (pre ++ (C, oC) :: post)) (h1 : ∀ p ∈ pre, p.1 ≠ C) (h2 : ∀ p ∈ post, p.1 ≠ C) (hoC : NsObj oC m₂)
    (h : ∀ h' oC', Fr h₀ L h' m → News h₀ L h' (pre ++ (C, oC') :: post) → NsObj oC' (fun y => if y = x then some v else m₂ y) → Q () { s with heap := h', toks := s.toks + 1 }) :
    wpAny M A (assign (.Name x px) env' v) Q E s := by
  have hmem := N (C, oC) (List.mem_append_right _ (.head _))
  subst hCe
  refine wpAny_assign_Name (wpAny_storeName_local hk (hoC.ns hmem.1) (fun h₃ hn₃ hs₃ => ?_) hp)
  obtain ⟨o', ho', hd'⟩ := ns_obj hn₃
  refine h h₃ o' ⟨F.ns.sameBut hs₃ (Ne.symm hmem.2.1), fun b ob e => (hs₃.2 b (fun q => ?_)).trans (F.keep b ob e), F.above⟩ (N.setAt h1 h2 hs₃ ho') hd'
  rw [q, hmem.2.2] at e; cases e
theorem flat_len {its : List Value} (g : Value → Value → Value) : ∀ l : List Value, (l.flatMap fun v => its.map (g v)).length = l.length * its.length
  | [] => by simp
  | a :: r => by
    rw [List.flatMap_cons, List.length_append, flat_len g r, List.length_map, List.length_cons, Nat.succ_mul, Nat.add_comm]
theorem fit_sq {a b c n : Nat} (h1 : a = c * n) (h2 : b ≤ n) (hc : c ≤ n) (hn : n < 50) : a + b ≤ sizeLine := by
  rw [sizeLine_eq]
  have : c * n ≤ 50 * 50 := Nat.mul_le_mul (by omega) (by omega)
  omega
/-- two clauses over one list of the ground; the element is a pure value -/
theorem listComp2 {elt i0 i1 : Expr} {x y : Str} {px py : Pos} {scope : Scope} {cl : List (Str × Addr)} {pos : Pos} {ax : Addr} {its : List Value} {news : List (Addr × Obj)} {Q : Value → Shared → Prop} (g : Value → Value → Value)
    (hh : A.handled = none) (hl : h₀.IsList ax its.toArray) (hsz : its.length < 50) (F : Fr h₀ L s.heap m) (N : News h₀ L s.heap news)
    (hclos : closureFor scope env = pure cl) (hcell : ∀ y ∈ scope.names, y.2 ≠ .cell) (hkind : scope.kind = .function)
    (hnames : ∀ y ∈ scope.names, y.2 = .local → scope.names.lookup y.1 = some .local) (hx : scope.names.lookup x = some .local) (hy : scope.names.lookup y = some .local) (hxy : x ≠ y)
    (he0 : ∀ Q : Value → Shared → Prop, Q (.ref ax) s → wpAny (model prog w) A (eval i0 env) Q E s)
    (he1 : ∀ C h tk (Q : Value → Shared → Prop) E', News h₀ L h news → Fr h₀ L h m → Q (.ref ax) { s with heap := h, toks := tk } → wpAny (model prog w) A (eval i1 (compEnvC scope cl C env)) Q E' { s with heap := h, toks := tk })
    (hel : ∀ v v' C oC m₂ h tk (Q : Value → Shared → Prop), v ∈ its → v' ∈ its → NsObj oC m₂ → m₂ x = some v → m₂ y = some v' → Fr h₀ L h m → News h₀ L h ((C, oC) :: news) →
      (∀ tk', Q (g v v') { s with heap := h, toks := tk' }) → wpAny (model prog w) A (eval elt (compEnvC scope cl C env)) Q (fun _ _ => False) { s with heap := h, toks := tk })
    (hQ : ∀ D h' tk', Fr h₀ L h' m → News h₀ L h' ((D, lst (its.flatMap fun v => its.map (g v))) :: news) → (∀ p ∈ news, p.1 ≠ D) → Q (.ref D) { s with heap := h', toks := tk' })
    (hs0 : ∀ x, foldedSetIterable i0 env x = pure x) (hs1 : ∀ C x, foldedSetIterable i1 (compEnvC scope cl C env) x = pure x) :
    wpAny (model prog w) A (eval (.ListComp elt [⟨.Name x px, i0, [], 0⟩, ⟨.Name y py, i1, [], 0⟩] scope pos) env) Q E s := by
  rw [eval_ListComp]
  refine wpAny_comprehension_free (use := none) rfl hs0 hclos hkind hnames (he0 _ ?_)
  obtain ⟨ol, hol, hlr⟩ := id hl
  have hlt : ax < s.heap.objs.size := Heap.lt_size (F.keep _ _ hol)
  refine wpAny_pyIter_list (hl.at fun o e => F.keep _ _ e) ?_
  refine wpAny_newObj_type (wpAny_newFunctionEnv hcell (by intro y hy; simp at hy) (fun h₁ hns₁ hsb₁ => ?_) hkind)
  dsimp only at hns₁ hsb₁ ⊢
  generalize hI : s.heap.objs.size = I at *
  generalize hHi : s.heap.push { cls := Value.type "list_iterator", data := Data.fields #[Value.ref ax, Value.int 0 0] } = Hi at hns₁ hsb₁ ⊢
  generalize hD : Hi.objs.size = D at *
  generalize hH2 : Hi.push { cls := Value.type "list", data := Data.seq #[] } = H2 at hns₁ hsb₁ ⊢
  generalize hC : H2.objs.size = C at *
  have eD : D = I + 1 := by rw [← hD, ← hHi, Heap.size_push, hI]
  have eC : C = I + 1 + 1 := by rw [← hC, ← hH2, Heap.size_push, hD, eD]
  have up1 : ∀ b o, s.heap.get? b = some o → h₁.get? b = some o := fun b o e => by
    have hb : b < I := hI ▸ Heap.lt_size e
    refine hsb₁.extBut b o (Nat.ne_of_lt (by rw [eC]; exact Nat.lt_succ_of_lt (Nat.lt_succ_of_lt hb))) (Heap.get?_push_of_some _ ?_)
    rw [← hH2]
    refine Heap.get?_push_of_some _ ?_
    rw [← hHi]
    exact Heap.get?_push_of_some _ e
  have hns : ∀ {h' : Heap} {m' : Str → Option Value}, h'.Ns C m' → True := fun _ => trivial
  have gI : h₁.get? I = some { cls := Value.type "list_iterator", data := Data.fields #[Value.ref ax, Value.int 0 0] } := by
    refine hsb₁.extBut I _ (Nat.ne_of_lt (by rw [eC]; exact Nat.lt_succ_of_lt (Nat.lt_succ_self _))) (Heap.get?_push_of_some _ ?_)
    rw [← hH2]
    refine Heap.get?_push_of_some _ ?_
    rw [← hHi, ← hI]
    exact Heap.get?_push_size _ rfl
  have gD : h₁.get? D = some (lst []) := by
    refine hsb₁.extBut D _ (Nat.ne_of_lt (by rw [eC, eD]; exact Nat.lt_succ_self _)) (Heap.get?_push_of_some _ ?_)
    rw [← hH2, ← hD]
    exact Heap.get?_push_size _ rfl
  obtain ⟨oC₀, gC, nC₀⟩ := ns_obj hns₁
  have fresh : ∀ a, I ≤ a → h₀.get? a = none ∧ a ≠ L := fun a ha => by
    have hn : s.heap.get? a = none := by
      cases e : s.heap.get? a with
      | none => rfl
      | some o => exact absurd (Heap.lt_size e) (Nat.not_lt.mpr (hI ▸ ha))
    refine ⟨?_, fun e => ?_⟩
    · cases e : h₀.get? a with
      | none => rfl
      | some o => rw [F.keep _ _ e] at hn; cases hn
    · have := F.ns.lt
      rw [hI, ← e] at this
      exact absurd this (Nat.not_lt.mpr ha)
  have ltN : ∀ p ∈ news, p.1 < I := fun p hp => hI ▸ Heap.lt_size (N p hp).1
  have hID : I ≠ D := Nat.ne_of_lt (by rw [eD]; exact Nat.lt_succ_self _)
  have hIC : I ≠ C := Nat.ne_of_lt (by rw [eC]; exact Nat.lt_succ_of_lt (Nat.lt_succ_self _))
  have hDC : D ≠ C := Nat.ne_of_lt (by rw [eC, eD]; exact Nat.lt_succ_self _)
  have nI : ∀ p ∈ news, p.1 ≠ I := fun p hp => Nat.ne_of_lt (ltN p hp)
  have nD : ∀ p ∈ news, p.1 ≠ D := fun p hp => Nat.ne_of_lt (by rw [eD]; exact Nat.lt_succ_of_lt (ltN p hp))
  have nC : ∀ p ∈ news, p.1 ≠ C := fun p hp => Nat.ne_of_lt (by rw [eC]; exact Nat.lt_succ_of_lt (Nat.lt_succ_of_lt (ltN p hp)))
  have fI := fresh I (Nat.le_refl _)
  have fD := fresh D (by rw [eD]; exact Nat.le_succ _)
  have fC := fresh C (by rw [eC]; exact Nat.le_succ_of_le (Nat.le_succ _))
  have F₁ : Fr h₀ L h₁ m := fr_over F up1
  have N₁ : News h₀ L h₁ ((C, oC₀) :: (D, lst []) :: news) := all_cons' ⟨gC, fC.2, fC.1⟩ (all_cons' ⟨gD, fD.2, fD.1⟩ (news_over N up1))
  have hax : ax ≠ I := fun e => by rw [e, fI.1] at hol; cases hol
  have W := Walks.list (prog := prog) (w := w) hh I ax hax its.toArray
  rw [List.size_toArray] at W
  have hCe : (compEnvC scope cl C env).locals = C := rfl
  have hkp : ((compEnvC scope cl C env).scope.kind == .class || ((compEnvC scope cl C env).scope.kind == .module && (compEnvC scope cl C env).locals != (compEnvC scope cl C env).globals)) = false := by simp [compEnvC, relabel, hkind]
  have loop : ∀ s₃ : Shared, (∃ tk, s₃ = { s with heap := h₁, toks := tk }) → codeAny (model prog w) A (.compLoop (.ListComp elt [⟨.Name x px, i0, [], 0⟩, ⟨.Name y py, i1, [], 0⟩] scope pos) 0 (.ref I) (.ref D) (compEnvC scope cl C env)) (compPost (model prog w) A E none Q (.ref D) C) s₃ := by
    rintro s₃ ⟨tk₁, rfl⟩
    refine codeAny_mono (loop2 (Q := fun s' => ∃ h' tk oC m₂, s' = { s with heap := h', toks := tk } ∧ Fr h₀ L h' m ∧ NsObj oC m₂ ∧ News h₀ L h' ((C, oC) :: (D, lst (its.flatMap fun v => its.map (g v))) :: news))
      (DInv h₀ L m s I its.length (fun i h => h.IsListIter I ax i ∧ h.IsList ax its.toArray) (fun i nx => ∃ oC m₂, nx = (C, oC) :: (D, lst ((its.take i).flatMap fun v => its.map (g v))) :: news ∧ NsObj oC m₂))
      (drive (B := fun v K s₁ => wpAny (model prog w) A (assign (.Name x px) (compEnvC scope cl C env) v) (fun _ s₂ => wpAny (model prog w) A (eval i1 (compEnvC scope cl C env)) (fun xv s₃ => wpAny (model prog w) A (pyIter xv) (fun it' s₄ =>
          codeAny (model prog w) (A.mark none) (.compStart (.ListComp elt [⟨.Name x px, i0, [], 0⟩, ⟨.Name y py, i1, [], 0⟩] scope pos) 1 it' (.ref D) (compEnvC scope cl C env)) (okQ K) s₄) (fun _ _ => False) s₃) (fun _ _ => False) s₂) (fun _ _ => False) s₁) ?hB (keepL := []) _ W ?live (Ne.symm fI.2) fI.1 ?kp ?ot ?turn ?done) (its.length + 1) ?init ?ht (hs1 C)) ?post
    case hB =>
      intro v K K' s₁ hK q
      refine wpAny_mono q (fun _ _ q => wpAny_mono q (fun _ _ q => wpAny_mono q (fun _ _ q => codeAny_mono q fun r s' z => ?_) fun _ _ e => e) fun _ _ e => e) fun _ _ e => e
      cases r with
      | ok f => exact ⟨z.1, hK _ z.2⟩
      | error e => exact z.elim
    case live => exact fun i h q => ⟨_, q.1.choose_spec.1⟩
    case kp => exact fun _ _ _ _ h => nomatch h
    case ot =>
      intro b hb hbI
      rcases List.mem_cons.mp hb with e | hb
      · exact absurd e hbI
      · rw [List.mem_singleton.mp hb]; exact .inl ⟨ol, hol⟩
    case done =>
      rintro nx h tk ⟨oC, m₂, rfl, hoC⟩ F₂ N₂
      rw [List.take_length] at N₂
      exact ⟨h, tk, oC, m₂, rfl, F₂, hoC, N₂⟩
    case init => exact ⟨h₁, _, _, 0, rfl, ⟨⟨_, gI, rfl, rfl⟩, hl.at fun o e => F₁.keep _ _ e⟩, F₁, N₁, all_cons' (Ne.symm hIC) (all_cons' (Ne.symm hID) nI), ⟨oC₀, _, rfl, nC₀⟩, Nat.zero_le _, rfl⟩
    case ht => intro v; rfl
    case post =>
      intro r s' q
      cases r with
      | error e => exact q.elim
      | ok f =>
        obtain ⟨rfl, h', tk, oC, m₂, rfl, F₂, hoC, N₂⟩ := q
        refine ⟨m₂, hoC.ns (N₂ _ List.mem_cons_self).1, fun h'' hs'' => hQ D h'' tk (F₂.change hs'' fC.2 fC.1) (fun p hp => ?_) nD⟩
        refine ⟨hs''.extBut _ _ ?_ (N₂ p (List.mem_cons_of_mem _ hp)).1, (N₂ p (List.mem_cons_of_mem _ hp)).2⟩
        rcases List.mem_cons.mp hp with rfl | hp
        · exact hDC
        · exact nC p hp
    case turn =>
      rintro i v _ h tk o hi hP ⟨oC, m₂, rfl, hoC⟩ hne F₂ N₂
      refine storeL [(I, o)] ((D, lst ((its.take i).flatMap fun v => its.map (g v))) :: news) hCe (lookup_relabel_local hx) hkp F₂ N₂ (all_cons' hIC (List.forall_mem_nil _)) (all_cons' hDC nC) hoC fun h₃ oC₃ F₃ N₃ hoC₃ => ?_
      refine he1 C h₃ _ _ _ (fun q hq => N₃ q (by repeat (first | exact hq | refine List.Mem.tail _ ?_))) F₃ ?_
      refine wpAny_pyIter_list (hl.at fun o e => F₃.keep _ _ e) ?_
      rw [Around.mark_none]
      have hv : its[i]? = some v := arr_get hP
      have hvm : v ∈ its := List.mem_of_getElem? hv
      have hpre : (its.take (i + 1)).flatMap (fun v => its.map (g v)) = (its.take i).flatMap (fun v => its.map (g v)) ++ its.map (g v) := by
        rw [List.take_add_one, hv, List.flatMap_append]; simp
      have hpl : ((its.take i).flatMap (fun v => its.map (g v))).length = (its.take i).length * its.length := flat_len g _
      generalize hpe : (its.take i).flatMap (fun v => its.map (g v)) = pre at *
      (refine (?_ : (fun T2 T1 : Prop => T2 → (T2 → T1) → T1) _ _) ?_ (by intro h; dsimp only; exact h); exact fun p _ => p)
      have hz0 : h₀.get? h₃.objs.size = none := next_is_new F₃
      have hzL : L ≠ h₃.objs.size := Nat.ne_of_lt F₃.ns.lt
      have nZ : ∀ p ∈ (I, o) :: (C, oC₃) :: (D, lst pre) :: news, p.1 ≠ h₃.objs.size := fun p hp => Nat.ne_of_lt (Heap.lt_size (N₃ p hp).1)
      have upz : ∀ b ob, h₃.get? b = some ob → (h₃.push { cls := Value.type "list_iterator", data := Data.fields #[Value.ref ax, Value.int 0 0] }).get? b = some ob := fun b ob e => Heap.get?_push_of_some _ e
      have gZ : (h₃.push { cls := Value.type "list_iterator", data := Data.fields #[Value.ref ax, Value.int 0 0] }).get? h₃.objs.size = some { cls := Value.type "list_iterator", data := Data.fields #[Value.ref ax, Value.int 0 0] } := Heap.get?_push_size _ rfl
      generalize h₃.push { cls := Value.type "list_iterator", data := Data.fields #[Value.ref ax, Value.int 0 0] } = h₄ at *
      have F₄ : Fr h₀ L h₄ m := fr_over F₃ upz
      have N₄ : News h₀ L h₄ ((I, o) :: (C, oC₃) :: (D, lst pre) :: news) := news_over N₃ upz
      generalize h₃.objs.size = Z at *
      have haz : ax ≠ Z := fun e => by rw [e, hz0] at hol; cases hol
      have W1 := Walks.list (prog := prog) (w := w) hh Z ax haz its.toArray
      rw [List.size_toArray] at W1
      have loop1 : ∀ s₅ : Shared, (∃ tk, s₅ = { s with heap := h₄, toks := tk }) → codeAny (model prog w) A (.compLoop (.ListComp elt [⟨.Name x px, i0, [], 0⟩, ⟨.Name y py, i1, [], 0⟩] scope pos) 1 (.ref Z) (.ref D) (compEnvC scope cl C env))
          (okQ (DEnd h₀ L m s (I, o) (fun nx => ∃ oC m₂, nx = (C, oC) :: (D, lst ((its.take (i + 1)).flatMap fun v => its.map (g v))) :: news ∧ NsObj oC m₂))) s₅ := by
        rintro s₅ ⟨tk₅, rfl⟩
        refine loop21 (DInv h₀ L m s Z its.length (fun i h => h.IsListIter Z ax i ∧ h.IsList ax its.toArray) (fun j nx => ∃ oC m₂, nx = (I, o) :: (C, oC) :: (D, lst (pre ++ (its.take j).map (g v))) :: news ∧ NsObj oC m₂ ∧ m₂ x = some v))
          (drive (B := fun v' K s₁ => wpAny (model prog w) A (assign (.Name y py) (compEnvC scope cl C env) v') (fun _ s₂ => wpAny (model prog w) A (eval elt (compEnvC scope cl C env)) (fun b s₃ => wpAny (model prog w) A (call (.builtin "list.append") [.ref D, b]) (fun _ s₄ => K s₄) (fun _ _ => False) s₃) (fun _ _ => False) s₂) (fun _ _ => False) s₁)
            ?hB (keepL := []) _ W1 ?live hzL hz0 ?kp ?ot ?turn ?done) (its.length + 1) ?init ?ht
        case hB => exact fun v' K K' s₁ hK q => wpAny_mono q (fun _ _ q => wpAny_mono q (fun _ _ q => wpAny_mono q (fun _ _ q => hK _ q) fun _ _ e => e) fun _ _ e => e) fun _ _ e => e
        case live => exact fun i h q => ⟨_, q.1.choose_spec.1⟩
        case kp => exact fun _ _ _ _ h => nomatch h
        case ot =>
          intro b hb hbI
          rcases List.mem_cons.mp hb with e | hb
          · exact absurd e hbI
          · rw [List.mem_singleton.mp hb]; exact .inl ⟨ol, hol⟩
        case ht => intro v; rfl
        case init =>
          refine ⟨h₄, _, _, 0, rfl, ⟨⟨_, gZ, rfl, rfl⟩, hl.at fun o e => F₄.keep _ _ e⟩, F₄, N₄, nZ, ⟨oC₃, _, ?_, hoC₃, by simp⟩, Nat.zero_le _, rfl⟩
          simp
        case done =>
          rintro nx h tk ⟨oC, m₂, rfl, hoC, _⟩ F₅ N₅
          rw [List.take_length, ← hpre] at N₅
          exact ⟨h, tk, _, rfl, F₅, N₅, all_cons' (Ne.symm hIC) (all_cons' (Ne.symm hID) nI), oC, m₂, rfl, hoC⟩
        case turn =>
          rintro j v' _ h tk o' hj hP' ⟨oC, m₂, rfl, hoC, hmx⟩ hne F₅ N₅
          have hv' : its[j]? = some v' := arr_get hP'
          refine storeL [(Z, o'), (I, o)] ((D, lst (pre ++ (its.take j).map (g v))) :: news) hCe (lookup_relabel_local hy) hkp F₅ N₅ (all_cons' (Ne.symm (hne (C, oC) (by k_mem))) (all_cons' hIC (List.forall_mem_nil _))) (all_cons' hDC nC) hoC fun h₆ oC₆ F₆ N₆ hoC₆ => ?_
          refine hel v v' C oC₆ _ h₆ _ _ hvm (List.mem_of_getElem? hv') hoC₆ (by simp [hxy, hmx]) (by simp) F₆ (all_cons' (N₆ (C, oC₆) (by k_mem)) fun q hq => N₆ q (by repeat (first | exact hq | refine List.Mem.tail _ ?_))) fun tk' => ?_
          have zD := N₆ (D, lst (pre ++ (its.take j).map (g v))) (by k_mem)
          refine append_at (hsz := ?_) zD.1 fun h₇ hs₇ hD₇ => ?_
          rotate_left
          · rw [List.size_toArray, List.length_append, List.length_map]
            exact fit_sq hpl (by rw [List.length_take]; exact Nat.min_le_right _ _) (by rw [List.length_take]; exact Nat.min_le_right _ _) hsz
          · rw [lst_snoc] at hD₇
            have N₇ := News.setAt (own := [(Z, o'), (I, o), (C, oC₆)]) (rest := news) (d := D) (o := lst (pre ++ (its.take j).map (g v))) N₆ (all_cons' (Ne.symm (hne (D, lst (pre ++ (its.take j).map (g v))) (by k_mem))) (all_cons' hID (all_cons' (Ne.symm hDC) (List.forall_mem_nil _)))) nD hs₇ hD₇
            refine ⟨h₇, tk', (I, o) :: (C, oC₆) :: (D, lst (pre ++ (its.take (j + 1)).map (g v))) :: news, rfl, ⟨F₆.ns.sameBut hs₇ (Ne.symm fD.2), fun b ob e => (hs₇.2 b (fun q => ?_)).trans (F₆.keep b ob e), F₆.above⟩, ?_, ?_, oC₆, _, rfl, hoC₆, by simp [hxy, hmx]⟩
            · rw [q, fD.1] at e; cases e
            · rw [List.take_add_one, hv', List.map_append]
              simpa using N₇
            · exact all_cons' (hne (I, o) (by k_mem)) (all_cons' (hne (C, oC) (by k_mem)) (all_cons' (hne (D, lst (pre ++ (its.take j).map (g v))) (by k_mem)) fun q hq => hne q (by repeat (first | exact hq | refine List.Mem.tail _ ?_))))
      exact start21 (loop1 _ ⟨_, rfl⟩) (W1.self 0 _ _ _ ⟨⟨_, gZ, rfl, rfl⟩, hl.at fun o e => F₄.keep _ _ e⟩ (loop1 _ ⟨_, rfl⟩))
  exact codeAny_compStart_list (loop _ ⟨_, rfl⟩) (W.self 0 _ _ _ ⟨⟨_, gI, rfl, rfl⟩, hl.at fun o e => F₁.keep _ _ e⟩ (loop _ ⟨_, rfl⟩))
end
end Mine
end
section
open PySem PySem.W PySem.Calls PyProof.Rows
theorem Mine.fresh_MC2 {prog : Program} {w : World} {A : Around} {env : Env} {Q : Flow → Shared → Prop} {E : Value → Shared → Prop} {s : Shared} (h : Q .next s) : wpAny (model prog w) A (execs [] env) Q E s := by
  w_top off
  k_with_none
  walk1
  exact h
end
section
open PySem PySem.W PySem.Calls PyProof.Rows PyProof.Rows.LCg
set_option Elab.async false
namespace Mine
section
variable {prog : Program} {w : World} {A : Around} {s : Shared} {elt t0 i0 : Expr} {scope : Scope} {pos : Pos} {it acc : Value} {env : Env} {Q : Shared → Prop}
theorem turn11 : compTurn (.ListComp elt [⟨t0, i0, [], 0⟩] scope pos) 0 it acc env = (do
      standAt i0.pos
      match ← pyNext it with
      | none => pure (.done .next)
      | some v =>
        letOwnedTupleGo t0 it v
        assign t0 env v
        (do let _ ← call (.builtin "list.append") [acc, ← eval elt env])
        again (.compLoop (.ListComp elt [⟨t0, i0, [], 0⟩] scope pos) 0 it acc env)) := by rfl
theorem loop11 (I : Nat → Shared → Prop)
    (turn : ∀ n s, I n s → wpAny (model prog w) A (pyNext it) (fun r s₁ => match r with
      | none => Q s₁
      | some v => wpAny (model prog w) A (assign t0 env v) (fun _ s₂ => wpAny (model prog w) A (eval elt env) (fun x s₃ => wpAny (model prog w) A (call (.builtin "list.append") [acc, x]) (fun _ s₄ =>
          ∃ m, m < n ∧ I m s₄) (fun _ _ => False) s₃) (fun _ _ => False) s₂) (fun _ _ => False) s₁) (fun _ _ => False) s)
    (n : Nat) (h : I n s) (ht : ∀ v, letOwnedTupleGo t0 it v = pure ()) :
    codeAny (model prog w) A (.compLoop (.ListComp elt [⟨t0, i0, [], 0⟩] scope pos) 0 it acc env) (okQ Q) s := by
  refine codeAny_loop rfl I (fun n s hI => ?_) n h
  show wpAny _ A ((compTurn (.ListComp elt [⟨t0, i0, [], 0⟩] scope pos) 0 it acc env).onRaise (fun x => do noteFrame x env; theTreesLotGoes x)) _ _ s
  refine wpAny_noted ?_
  rw [turn11]
  refine wpAny_bind (wpAny_standAt (wpAny_bind (wpAny_mono (turn n s hI) (fun r s₁ h₁ => ?_) fun _ _ h' => h'.elim)))
  cases r with
  | none => exact wpAny_pure ⟨rfl, h₁⟩
  | some v =>
    refine wpAny_bind (wpAny_of_eq (ht v) ?_)
    refine wpAny_bind (wpAny_mono h₁ (fun _ s₂ h₂ => ?_) fun _ _ h' => h'.elim)
    exact wpAny_bind (wpAny_bind (wpAny_mono h₂ (fun x s₃ h₃ => wpAny_bind (wpAny_mono h₃ (fun _ s₄ h₄ => wpAny_pure (wpAny_pure ⟨rfl, h₄⟩)) fun _ _ h' => h'.elim)) fun _ _ h' => h'.elim))
end
section
variable {prog : Program} {w : World} {A : Around} {E E' : Value → Shared → Prop} {s : Shared} {h₀ : Heap} {L : Addr} {m : Str → Option Value} {env : Env}
/-- the environment of a comprehension whose one name is a cell -/
noncomputable abbrev envCC (scope : Scope) (cl : List (Str × Addr)) (C : Addr) (x : Str) (env : Env) : Env :=
  { scope := relabel scope env, locals := C, globals := env.globals, cells := (x, C + 1) :: cl, qual := env.qual, func := none, code := env.code, frame := env.frame, builtins := env.builtins }
noncomputable def Off4 (I C D : Addr) (nx : List (Addr × Obj)) : Prop := ∀ p ∈ nx, p.1 ≠ I ∧ p.1 ≠ C ∧ p.1 ≠ C + 1 ∧ p.1 ≠ D
structure CEnd (h₀ : Heap) (L : Addr) (m : Str → Option Value) (s : Shared) (I : Addr) (oI : Obj) (C : Addr) (oC oX : Obj) (D : Addr) (oD : Obj) (J : Value → List (Addr × Obj) → Prop) (y : Value) (s' : Shared) : Prop where
  ex : ∃ h' tk nx, s' = { s with heap := h', toks := tk } ∧ Fr h₀ L h' m ∧ News h₀ L h' ((I, oI) :: (C, oC) :: (C + 1, oX) :: (D, oD) :: nx) ∧ Off4 I C D nx ∧ J y nx
theorem block1C {elt i0 : Expr} {x : Str} {px : Pos} {scope : Scope} {cl : List (Str × Addr)} {pos : Pos} {r : Addr} {n : Nat} {t₀ u₀ v₀ : Tok} {news : List (Addr × Obj)} {Q : Value → Shared → Prop} (J : Nat → List Value → List (Addr × Obj) → Prop)
    (hh : A.handled = none) (hr : IsRange s.heap r 0 n 1 t₀ u₀ v₀) (hsz : n < 50) (F : Fr h₀ L s.heap m) (N : News h₀ L s.heap news)
    (hp : ∀ h : Heap, pushCells h scope.names = h.push { cls := .type "cell", data := .cell none }) (hc : ∀ n acc, cellsFrom n scope.names acc = (x, n) :: acc)
    (hkind : scope.kind = .function) (hx : (envCC scope cl 0 x env).kindOf x = some .cell)
    (hj : J 0 [] news)
    (hel : ∀ i t I oI C oC oX D ys nx h tk, i < n → J i ys nx → NsObj oC (fun _ => none) → oX.data = .cell (some (.int (i : Nat) t)) → Fr h₀ L h m → News h₀ L h ((I, oI) :: (C, oC) :: (C + 1, oX) :: (D, lst ys) :: nx) → Off4 I C D nx →
      wpAny (model prog w) A (eval elt (envCC scope cl C x env)) (CEnd h₀ L m { s with heap := h, toks := tk } I oI C oC oX D (lst ys) (fun y nx' => J (i + 1) (ys ++ [y]) nx')) (fun _ _ => False) { s with heap := h, toks := tk })
    (hQ : ∀ D ys nx h' tk', J n ys nx → Fr h₀ L h' m → News h₀ L h' ((D, lst ys) :: nx) → (∀ p ∈ nx, p.1 ≠ D) → Q (.ref D) { s with heap := h', toks := tk' })
    (hlen : ∀ i ys nx, J i ys nx → ys.length = i) :
    wpAny (model prog w) A (pyIter (.ref r)) (fun it s₂ => wpAny (model prog w) A (newList []) (fun acc s₃ => wpAny (model prog w) A (newFunctionEnv scope env.globals cl [] env.qual none .none (some env)) (fun cenv s₄ =>
      codeAny (model prog w) A (.compStart (.ListComp elt [⟨.Name x px, i0, [], 0⟩] scope pos) 0 it acc { cenv with scope := relabel scope env }) (compPost (model prog w) A E none Q acc cenv.locals) s₄) E s₃) E s₂) E s := by
  refine wpAny_pyIter_range hr (small_one (by omega) (by omega) (by omega) (by omega)) ?_
  refine wpAny_newObj_type (newEnvCC hp hc ?_)
  (refine (?_ : (fun T2 T1 : Prop => T2 → (T2 → T1) → T1) _ _) ?_ (by intro h; dsimp only; exact h); exact fun p _ => p)
  have hsize : Builtin.Range.rangeSize 0 (n : Int) 1 = (n : Int) := by rw [rangeSize_nat]; omega
  rw [hsize]
  generalize hI : s.heap.objs.size = I at *
  generalize hHi : s.heap.push { cls := Value.type "range_iterator", data := Data.fields #[rawInt 0, rawInt (n : Int), rawInt 1] } = Hi at *
  generalize hD : Hi.objs.size = D at *
  generalize hH2 : Hi.push { cls := Value.type "list", data := Data.seq ([] : List Value).toArray } = H2 at *
  generalize hC : H2.objs.size = C at *
  generalize hH3 : H2.push { cls := Value.type "dict", data := Data.dict #[] } = H3 at *
  generalize hh₁ : H3.push { cls := Value.type "cell", data := Data.cell none } = h₁ at *
  have eD : D = I + 1 := by rw [← hD, ← hHi, Heap.size_push, hI]
  have eC : C = I + 1 + 1 := by rw [← hC, ← hH2, Heap.size_push, hD, eD]
  have eX : H3.objs.size = C + 1 := by rw [← hH3, Heap.size_push, hC]
  have up : ∀ b o, Hi.get? b = some o → h₁.get? b = some o := fun b o e => by
    rw [← hh₁, ← hH3, ← hH2]
    exact Heap.get?_push_of_some _ (Heap.get?_push_of_some _ (Heap.get?_push_of_some _ e))
  have up1 : ∀ b o, s.heap.get? b = some o → h₁.get? b = some o := fun b o e => up b o (by rw [← hHi]; exact Heap.get?_push_of_some _ e)
  have gI : h₁.get? I = some { cls := Value.type "range_iterator", data := Data.fields #[rawInt 0, rawInt (n : Int), rawInt 1] } := up _ _ (by rw [← hHi, ← hI]; exact Heap.get?_push_size _ rfl)
  have gD : h₁.get? D = some (lst []) := by
    rw [← hh₁, ← hH3]
    refine Heap.get?_push_of_some _ (Heap.get?_push_of_some _ ?_)
    rw [← hH2, ← hD]
    exact Heap.get?_push_size _ rfl
  have gC : h₁.get? C = some { cls := Value.type "dict", data := Data.dict #[] } := by
    rw [← hh₁]
    refine Heap.get?_push_of_some _ ?_
    rw [← hH3, ← hC]
    exact Heap.get?_push_size _ rfl
  have gX : h₁.get? (C + 1) = some { cls := Value.type "cell", data := Data.cell none } := by
    rw [← hh₁, ← eX]
    exact Heap.get?_push_size _ rfl
  have nC₀ : NsObj { cls := Value.type "dict", data := Data.dict #[] } (fun _ => none) := ⟨#[], _, rfl, by intro e he; simp at he, fun name => by simp only [nsFind]; rfl⟩
  have fresh : ∀ a, I ≤ a → h₀.get? a = none ∧ a ≠ L := fun a ha => by
    have hn : s.heap.get? a = none := by
      cases e : s.heap.get? a with
      | none => rfl
      | some o => exact absurd (Heap.lt_size e) (Nat.not_lt.mpr (hI ▸ ha))
    refine ⟨?_, fun e => ?_⟩
    · cases e : h₀.get? a with
      | none => rfl
      | some o => rw [F.keep _ _ e] at hn; cases hn
    · have := F.ns.lt
      rw [hI, ← e] at this
      exact absurd this (Nat.not_lt.mpr ha)
  have ltN : ∀ p ∈ news, p.1 < I := fun p hp => hI ▸ Heap.lt_size (N p hp).1
  have hID : I ≠ D := Nat.ne_of_lt (by rw [eD]; exact Nat.lt_succ_self _)
  have hIC : I ≠ C := Nat.ne_of_lt (by rw [eC]; exact Nat.lt_succ_of_lt (Nat.lt_succ_self _))
  have hIX : I ≠ C + 1 := Nat.ne_of_lt (by rw [eC]; exact Nat.lt_succ_of_lt (Nat.lt_succ_of_lt (Nat.lt_succ_self _)))
  have hDC : D ≠ C := Nat.ne_of_lt (by rw [eC, eD]; exact Nat.lt_succ_self _)
  have hDX : D ≠ C + 1 := Nat.ne_of_lt (by rw [eC, eD]; exact Nat.lt_succ_of_lt (Nat.lt_succ_self _))
  have hCX : C ≠ C + 1 := Nat.ne_of_lt (Nat.lt_succ_self _)
  have off : Off4 I C D news := fun p hp => by
    have h := ltN p hp
    exact ⟨Nat.ne_of_lt h, Nat.ne_of_lt (by rw [eC]; exact Nat.lt_succ_of_lt (Nat.lt_succ_of_lt h)), Nat.ne_of_lt (by rw [eC]; exact Nat.lt_succ_of_lt (Nat.lt_succ_of_lt (Nat.lt_succ_of_lt h))), Nat.ne_of_lt (by rw [eD]; exact Nat.lt_succ_of_lt h)⟩
  have fI := fresh I (Nat.le_refl _)
  have fD := fresh D (by rw [eD]; exact Nat.le_succ _)
  have fC := fresh C (by rw [eC]; exact Nat.le_succ_of_le (Nat.le_succ _))
  have fX := fresh (C + 1) (by rw [eC]; exact Nat.le_succ_of_le (Nat.le_succ_of_le (Nat.le_succ _)))
  have F₁ : Fr h₀ L h₁ m := fr_over F up1
  have N₁ : News h₀ L h₁ ((C, { cls := Value.type "dict", data := Data.dict #[] }) :: (C + 1, { cls := Value.type "cell", data := Data.cell none }) :: (D, lst []) :: news) :=
    all_cons' ⟨gC, fC.2, fC.1⟩ (all_cons' ⟨gX, fX.2, fX.1⟩ (all_cons' ⟨gD, fD.2, fD.1⟩ (news_over N up1)))
  have W : Walks prog w A I [I] [I] n (fun i v => i < n ∧ ∃ t, v = .int (0 + i * 1) t) (fun i h => IsRangeIter h I (0 + (i : Nat) * 1) ((n : Int) - (i : Nat)) 1) := (Walks.range hh _ 0 1 n).bound
  have hce : (envCC scope cl C x env).kindOf x = some .cell := hx
  have hkf : (envCC scope cl C x env).scope.kind = .function := hkind
  have cE : ({ scope, locals := C, globals := env.globals, cells := (x, C + 1) :: cl, qual := env.qual, func := none, code := env.code, frame := env.frame, builtins := env.builtins } : Env) = { scope, locals := C, globals := env.globals, cells := (x, C + 1) :: cl, qual := env.qual, func := none, code := env.code, frame := env.frame, builtins := env.builtins } := rfl
  have loop : ∀ s₃ : Shared, (∃ tk, s₃ = { s with heap := h₁, toks := tk }) → codeAny (model prog w) A (.compLoop (.ListComp elt [⟨.Name x px, i0, [], 0⟩] scope pos) 0 (.ref I) (.ref D) (envCC scope cl C x env)) (compPost (model prog w) A E none Q (.ref D) C) s₃ := by
    rintro s₃ ⟨tk₁, rfl⟩
    refine codeAny_mono (loop11 (Q := fun s' => ∃ h' tk oC oX ys nx, s' = { s with heap := h', toks := tk } ∧ Fr h₀ L h' m ∧ NsObj oC (fun _ => none) ∧ News h₀ L h' ((C, oC) :: (C + 1, oX) :: (D, lst ys) :: nx) ∧ Off4 I C D nx ∧ J n ys nx)
      (DInv h₀ L m s I n (fun i h => IsRangeIter h I (0 + (i : Nat) * 1) ((n : Int) - (i : Nat)) 1) (fun i nw => ∃ oC oX v₀ ys nx, nw = (C, oC) :: (C + 1, oX) :: (D, lst ys) :: nx ∧ NsObj oC (fun _ => none) ∧ oX.data = .cell v₀ ∧ Off4 I C D nx ∧ J i ys nx))
      (drive (B := fun v K s₁ => wpAny (model prog w) A (assign (.Name x px) (envCC scope cl C x env) v) (fun _ s₂ => wpAny (model prog w) A (eval elt (envCC scope cl C x env)) (fun b s₃ => wpAny (model prog w) A (call (.builtin "list.append") [.ref D, b]) (fun _ s₄ => K s₄) (fun _ _ => False) s₃) (fun _ _ => False) s₂) (fun _ _ => False) s₁)
        ?hB (keepL := []) _ W ?live (Ne.symm fI.2) fI.1 ?kp ?ot ?turn ?done) (n + 1) ?init ?ht) ?post
    case hB => exact fun v' K K' s₁ hK q => wpAny_mono q (fun _ _ q => wpAny_mono q (fun _ _ q => wpAny_mono q (fun _ _ q => hK _ q) fun _ _ e => e) fun _ _ e => e) fun _ _ e => e
    case live => exact fun i h q => ⟨_, q⟩
    case kp => exact fun _ _ _ _ h => nomatch h
    case ot =>
      intro b hb hbI
      exact absurd (List.mem_singleton.mp hb) hbI
    case ht => intro v; rfl
    case init => exact ⟨h₁, _, _, 0, rfl, (by show IsRangeIter _ _ _ _ _; simpa using gI), F₁, N₁, all_cons' (Ne.symm hIC) (all_cons' (Ne.symm hIX) (all_cons' (Ne.symm hID) fun p hp => (off p hp).1)), ⟨_, _, none, [], news, rfl, nC₀, rfl, off, hj⟩, Nat.zero_le _, rfl⟩
    case done =>
      rintro nw h tk ⟨oC, oX, v₀, ys, nx, rfl, hoC, _, ho, hJ⟩ F₂ N₂
      exact ⟨h, tk, oC, oX, ys, nx, rfl, F₂, hoC, N₂, ho, hJ⟩
    case post =>
      intro r s' q
      cases r with
      | error e => exact q.elim
      | ok f =>
        refine by_goal fun Gg hGg => ?_
        obtain ⟨rfl, h', tk, oC, oX, ys, nx, rfl, F₂, hoC, N₂, ho, hJ⟩ := q
        refine hGg ?_
        clear hGg Gg
        refine ⟨_, hoC.ns (N₂ _ List.mem_cons_self).1, fun h'' hs'' => hQ D ys nx h'' tk hJ (F₂.change hs'' fC.2 fC.1) (fun p hp => ?_) fun p hp => (ho p hp).2.2.2⟩
        refine ⟨hs''.extBut _ _ ?_ (N₂ p (List.mem_cons_of_mem _ (List.mem_cons_of_mem _ hp))).1, (N₂ p (List.mem_cons_of_mem _ (List.mem_cons_of_mem _ hp))).2⟩
        rcases List.mem_cons.mp hp with rfl | hp
        · exact hDC
        · exact (ho p hp).2.1
    case turn =>
      rintro i v _ h tk o hi ⟨_, t, rfl⟩ ⟨oC, oX, v₀, ys, nx, rfl, hoC, hoX, ho, hJ⟩ hne F₂ N₂
      refine wpAny_assign_Name (storeC [(I, o), (C, oC)] ((D, lst ys) :: nx) hkf hce (by simp [envCC]) F₂ N₂ (all_cons' hIX (all_cons' hCX (List.forall_mem_nil _))) (all_cons' hDX fun p hp => (ho p hp).2.2.1) hoX fun h₃ oX₃ F₃ N₃ hX₃ => ?_)
      refine wpAny_mono (hel i t I o C oC oX₃ D ys nx h₃ _ hi hJ hoC (by rw [hX₃]; simp) F₃ N₃ ho) (fun y s₄ q => ?_) fun _ _ e => e
      refine by_goal fun Gg hGg => ?_
      obtain ⟨h₄, tk₄, nx₄, rfl, F₄, N₄, ho₄, hJ₄⟩ := q.ex
      refine hGg ?_
      clear hGg Gg
      have zD := N₄ (D, lst ys) (by k_mem)
      refine append_at (hsz := ?_) zD.1 fun h₇ hs₇ hD₇ => ?_
      rotate_left
      · rw [List.size_toArray, hlen _ _ _ hJ, sizeLine_eq]; omega
      · rw [lst_snoc] at hD₇
        have N₇ := News.setAt (own := [(I, o), (C, oC), (C + 1, oX₃)]) (rest := nx₄) (d := D) (o := lst ys) N₄ (all_cons' hID (all_cons' (Ne.symm hDC) (all_cons' (Ne.symm hDX) (List.forall_mem_nil _)))) (fun p hp => (ho₄ p hp).2.2.2) hs₇ hD₇
        refine ⟨h₇, tk₄, (C, oC) :: (C + 1, oX₃) :: (D, lst (ys ++ [y])) :: nx₄, rfl, ⟨F₄.ns.sameBut hs₇ (Ne.symm fD.2), fun b ob e => (hs₇.2 b (fun q => ?_)).trans (F₄.keep b ob e), F₄.above⟩, N₇, all_cons' (Ne.symm hIC) (all_cons' (Ne.symm hIX) (all_cons' (Ne.symm hID) fun p hp => (ho₄ p hp).1)), oC, oX₃, _, ys ++ [y], nx₄, rfl, hoC, hX₃, ho₄, hJ₄⟩
        rw [q, fD.1] at e; cases e
  exact codeAny_compStart_list (loop _ ⟨_, rfl⟩) (W.self 0 _ _ _ (by show IsRangeIter _ _ _ _ _; simpa using gI) (loop _ ⟨_, rfl⟩))
end
end Mine
end
section
open PySem PySem.W PySem.Calls PyProof.Rows
theorem Mine.fresh_MC3 {prog : Program} {w : World} {A : Around} {env : Env} {Q : Flow → Shared → Prop} {E : Value → Shared → Prop} {s : Shared} (h : Q .next s) : wpAny (model prog w) A (execs [] env) Q E s := by
  w_top off
  k_with_none
  walk1
  exact h
end
section
open PySem PySem.W PySem.Calls PyProof.Rows
set_option Elab.async false
namespace Mine
/-- a ledger over a ground: entries of `h` that do not lie in the ground, each at its own place -/
structure Lg (g h : Heap) (l : List (Addr × Obj)) : Prop where
  keep : Over g h
  ent : ∀ p ∈ l, h.get? p.1 = some p.2 ∧ g.get? p.1 = none
  nd : (l.map (·.1)).Nodup
section
variable {g h h' : Heap} {l l' : List (Addr × Obj)} {a b : Addr} {o o' : Obj}
theorem Lg.get (D : Lg g h l) (hm : (a, o) ∈ l) : h.get? a = some o := (D.ent _ hm).1
theorem Lg.over (D : Lg g h l) (k : Over h h') : Lg g h' l := ⟨D.keep.trans k, fun p hp => ⟨k _ _ (D.ent p hp).1, (D.ent p hp).2⟩, D.nd⟩
theorem Lg.add (D : Lg g h l) (ho : h.get? a = some o) (hg : g.get? a = none) (hn : a ∉ l.map (·.1)) : Lg g h ((a, o) :: l) :=
  ⟨D.keep, fun p hp => by rcases List.mem_cons.mp hp with rfl | hp; exact ⟨ho, hg⟩; exact D.ent p hp, List.nodup_cons.mpr ⟨hn, D.nd⟩⟩
theorem Lg.new (D : Lg g h l) (hs : h.objs.size ≤ a) : g.get? a = none ∧ a ∉ l.map (·.1) := by
  constructor
  · cases q : g.get? a with
    | none => rfl
    | some o => exact absurd (Heap.lt_size (D.keep _ _ q)) (Nat.not_lt.mpr hs)
  · intro hm
    obtain ⟨p, hp, rfl⟩ := List.mem_map.mp hm
    exact absurd (Heap.lt_size (D.ent p hp).1) (Nat.not_lt.mpr hs)
theorem Lg.push (D : Lg g h l) (hf : o.isFreed = false) : Lg g (h.push o) ((h.objs.size, o) :: l) :=
  (D.over fun _ _ e => Heap.get?_push_of_some _ e).add (Heap.get?_push_size _ hf) (D.new (Nat.le_refl _)).1 (D.new (Nat.le_refl _)).2
/-- one entry changes -/
inductive LUpd (a : Addr) (o o' : Obj) : List (Addr × Obj) → List (Addr × Obj) → Prop
  | head {r} : LUpd a o o' ((a, o) :: r) ((a, o') :: r)
  | tail {p r r'} : LUpd a o o' r r' → LUpd a o o' (p :: r) (p :: r')
theorem LUpd.keys {l l'} (u : LUpd a o o' l l') : l'.map (·.1) = l.map (·.1) := by
  induction u with
  | head => rfl
  | tail u ih => exact congrArg (_ :: ·) ih
theorem LUpd.mem {l l'} (u : LUpd a o o' l l') : (a, o) ∈ l := by
  induction u with
  | head => exact .head _
  | tail u ih => exact .tail _ ih
theorem LUpd.ent {l l'} (u : LUpd a o o' l l') : (l.map (·.1)).Nodup → ∀ p ∈ l', p = (a, o') ∨ (p ∈ l ∧ p.1 ≠ a) := by
  induction u with
  | head =>
    intro hn p hp
    rw [List.map_cons, List.nodup_cons] at hn
    rcases List.mem_cons.mp hp with rfl | hp
    · exact .inl rfl
    · refine .inr ⟨.tail _ hp, fun e => hn.1 ?_⟩
      have := List.mem_map_of_mem (f := (·.1)) hp
      rw [e] at this; exact this
  | tail u ih =>
    intro hn p hp
    rw [List.map_cons, List.nodup_cons] at hn
    rcases List.mem_cons.mp hp with rfl | hp
    · refine .inr ⟨.head _, fun e => hn.1 ?_⟩
      have := List.mem_map_of_mem (f := (·.1)) u.mem
      rw [← e] at this; exact this
    · rcases ih hn.2 p hp with q | ⟨q1, q2⟩
      · exact .inl q
      · exact .inr ⟨.tail _ q1, q2⟩
theorem Lg.extBut (D : Lg g h l) (u : LUpd a o o' l l') (k : Heap.ExtBut a h h') (ho : h'.get? a = some o') : Lg g h' l' := by
  have ha := (D.ent _ u.mem)
  refine ⟨fun b ob e => k b ob (fun q => ?_) (D.keep _ _ e), fun p hp => ?_, u.keys ▸ D.nd⟩
  · rw [q, ha.2] at e; cases e
  · rcases u.ent D.nd p hp with rfl | ⟨hm, hne⟩
    · exact ⟨ho, ha.2⟩
    · exact ⟨k _ _ hne (D.ent p hm).1, (D.ent p hm).2⟩
theorem Lg.update (D : Lg g h l) {f : Obj → Obj} (u : LUpd a o o' l l') (e : f o = o') (hf : o'.isFreed = false) : Lg g (h.update a f) l' :=
  D.extBut u (Heap.SameBut.update ..).extBut (by have := D.get u.mem; rw [← e]; exact Heap.get?_update_self f this (by rw [e]; exact hf))
theorem Lg.drop (D : Lg g h l) (hs : ∀ p ∈ l', p ∈ l) (hn : (l'.map (·.1)).Nodup) : Lg g h l' := ⟨D.keep, fun p hp => D.ent p (hs p hp), hn⟩
theorem Lg.dropHd {p : Addr × Obj} (D : Lg g h (p :: l)) : Lg g h l := D.drop (fun _ hp => .tail _ hp) (List.nodup_cons.mp D.nd).2
end
section
variable {α : Type} {M : Model} {A : Around} {E : Value → Shared → Prop} {h g : Heap} {gs : Array GenState} {d : Drawn} {t : Nat} {os : OsState} {l l' : List (Addr × Obj)} {a : Addr} {o o' : Obj} {Q : α → Shared → Prop} {part : Option Value}
theorem jn_load {k : Obj → Sem α} (D : Lg g h l) (hm : (a, o) ∈ l) (q : wpAny M A (k o) Q E ⟨h, gs, d, t, os⟩) : wpAny M A (.load a part k) Q E ⟨h, gs, d, t, os⟩ := nd_load (D.get hm) q
theorem jn_loadG {k : Obj → Sem α} (D : Lg g h l) (e : g.get? a = some o) (q : wpAny M A (k o) Q E ⟨h, gs, d, t, os⟩) : wpAny M A (.load a part k) Q E ⟨h, gs, d, t, os⟩ := nd_load (D.keep _ _ e) q
theorem jn_alloc {k : Addr → Sem α} (D : Lg g h l) (hf : o.isFreed = false) (q : ∀ a h', Lg g h' ((a, o) :: l) → wpAny M A (k a) Q E ⟨h', gs, d, t, os⟩) : wpAny M A (.alloc o k) Q E ⟨h, gs, d, t, os⟩ := nd_alloc (q _ _ (D.push hf))
theorem jn_update {f : Obj → Obj} {k : Unit → Sem α} (D : Lg g h l) (u : LUpd a o o' l l') (e : f o = o') (hf : o'.isFreed = false) (q : ∀ h', Lg g h' l' → wpAny M A (k ()) Q E ⟨h', gs, d, t, os⟩) : wpAny M A (.update a part f k) Q E ⟨h, gs, d, t, os⟩ :=
  fun Γ p hΓ => ⟨by show (h.get? a).isSome = true; rw [D.get u.mem]; rfl, q _ (D.update u e hf) Γ p hΓ⟩
end
section
variable {M : Model} {A : Around} {E : Value → Shared → Prop} {h g : Heap} {gs : Array GenState} {d : Drawn} {t : Nat} {os : OsState} {l l' : List (Addr × Obj)} {a : Addr} {es es' : List DictEntry} {n n' : Nat} {name : Str} {v : Value} {r : Option Value}
theorem any_false_of {name : Str} {es : List DictEntry} (e : (getL name es).isSome = true) : aRefKeyMayBeTheName name es.toArray = false := by
  rw [aRefKeyMayBeTheName_at]
  unfold getL at e
  cases hf : es.find? (·.key.isStr name) with
  | some en =>
    have : es.toArray.any (·.key.isStr name) = true := by
      rw [← Array.any_toList]
      exact List.any_eq_true.mpr ⟨en, List.mem_of_find?_eq_some hf, by simpa using List.find?_some hf⟩
    rw [this]; rfl
  | none =>
    rw [hf] at e
    have : es.toArray.any (·.refKey) = false := by
      rw [← Array.any_toList]
      cases q : es.any (·.refKey) with
      | false => rfl
      | true => simp only [q] at e; cases e
    rw [this, Bool.and_false]
theorem jn_nsSet {Q : Unit → Shared → Prop} {P : Params} (hP : M.w.params = P) (D : Lg g h l) (hs : (getL name es).isSome = true) (hp : (putL name (PyData.keyHash P name) (.str name t) v es, putN name es n) = (es', n')) (u : LUpd a (dictOf es n) (dictOf es' n') l l')
    (q : ∀ h', Lg g h' l' → Q () ⟨h', gs, d, t + 1, os⟩) : wpAny M A (nsSet a name v) Q E ⟨h, gs, d, t, os⟩ := by
  subst hP
  unfold nsSet
  refine wpAny_bind (m := strHash name) (wpAny_bind (wpAny_askSetting (wpAny_pure (wpAny_bind (wpAny_mkText (wpAny_bind (wpAny_loadPart (D.get u.mem) ?_)))))))
  (refine (?_ : (fun T2 T1 : Prop => T2 → (T2 → T1) → T1) _ _) ?_ (by intro h; dsimp only; exact h); exact fun p _ => p)
  rw [any_false_of hs]
  refine wpAny_updatePart (D.get u.mem) (q _ (D.update u ?_ rfl))
  have h1 : putL name (PyData.keyHash M.w.params name) (.str name t) v es = es' := congrArg Prod.fst hp
  have h2 : putN name es n = n' := congrArg Prod.snd hp
  rw [← h1, ← h2]
  exact putName_dict _ _ _ _ _ _
end
end Mine
end
section
open PySem PySem.W PySem.Calls PyProof.Rows
theorem Mine.fresh_JA {prog : Program} {w : World} {A : Around} {env : Env} {Q : Flow → Shared → Prop} {E : Value → Shared → Prop} {s : Shared} (h : Q .next s) : wpAny (model prog w) A (execs [] env) Q E s := by
  w_top off
  k_with_none
  walk1
  exact h
end
section
open PySem PySem.W PySem.Calls PyProof.Rows
set_option Elab.async false
set_option maxRecDepth 100000
set_option maxHeartbeats 8000000
set_option pp.deepTerms false
set_option pp.deepTerms.threshold 4
namespace Mine
theorem fillKA : PySem.Challenge.rw_mq0248_01 = PySem.Challenge.rw_mq0248_01 ∧ Mine.hd.heap_1 = Mine.hd.heap_1 := by
  k_fill
  exact ⟨rfl, rfl⟩
noncomputable abbrev A4 : Around := { handled := none, depth := 750, frames := none, guards := none, units := 7500 }
/-- an object with one slot -/
noncomputable abbrev slotInst (C dx : Addr) (v : Value) : Obj := { instObj C dx with slots := #[some v] }
noncomputable abbrev cmpBody (op : CmpOp) (p1 p2 p3 p4 p5 p6 p7 p8 p9 : Pos) : List Stmt :=
  [.Return (some (.Compare (.Call (.Name (Str.ofString "mycmp") p1) [.Attribute (.Name (Str.ofString "self") p2) (Str.ofString "obj") p3, .Attribute (.Name (Str.ofString "other") p4) (Str.ofString "obj") p5] [] p6) [op] [.Constant (.int 0) 0 p7] p8)) p9]
noncomputable abbrev cmpScope : Scope := { kind := .function, names := [(Str.ofString "self", .local), (Str.ofString "other", .local), (Str.ofString "mycmp", .free)], isGenerator := false, isCoroutine := false }
noncomputable abbrev cmpArgs (a1 a2 : Pos) : Arguments := { posonlyargs := [], args := [{ arg := Str.ofString "self", annotation := none, pos := a1 }, { arg := Str.ofString "other", annotation := none, pos := a2 }], vararg := none, kwonlyargs := [], kw_defaults := [], kwarg := none, defaults := [] }
structure KIn (K : Frag) (h : Heap) : Prop where
  x : K.In h
/-- `f` is one of the five -/
inductive CmpFn (K : Frag) (f cell : Addr) (op : CmpOp) : Prop
  | mk (oc : Value) (od : Option Addr) (sl : Array (Option Value)) (nm ql : Str) (a1 a2 p1 p2 p3 p4 p5 p6 p7 p8 p9 : Pos) (doc pm cdv ct : Value) (an : Option Addr) (h0 : K.lookup f = some ⟨oc, od, .func (fnX nm ql (cmpArgs a1 a2) (cmpBody op p1 p2 p3 p4 p5 p6 p7 p8 p9) cmpScope [(Str.ofString "mycmp", cell)] .none .none doc pm an cdv ct), sl⟩) (h1 : codeIn K cdv ql = true)
structure KGet (K : Frag) (C md cell : Addr) : Prop where
  plain : plainGet K C (Str.ofString "obj") = true
  isC : isClsIn K C = true
  obj : findIn K (.ref C) (Str.ofString "obj") = some (some (.ref md))
  get : specialIn K (.ref md) "__get__" = some (some (.builtin "member_descriptor.__get__"))
  takes : takesIn K (.ref md) = some true
  slot : slotIn K md C = some 0
  cell : ∃ oc od sl, K.lookup cell = some ⟨oc, od, .cell (some (.ref 115)), sl⟩
noncomputable def opRes : CmpOp → Int → Bool
  | .Lt, x => decide (x < 0)
  | .Gt, x => decide (0 < x)
  | .Eq, x => x == 0
  | .LtE, x => decide (x ≤ 0)
  | .GtE, x => decide (0 ≤ x)
  | _, _ => false
section
variable {prog : Program} {w : World} {A : Around} {h₀ g : Heap} {L : Addr} {m : Str → Option Value} {s : Shared} {p : Program} {loose : List Str} {mean : ExcName → Option Value} {mg mb : Str → Option Value} {K : Frag} {C md cell f i j di dj : Addr} {r r' : WsR} {c c' : Ws} {Q : Value → Shared → Prop} {E : Value → Shared → Prop}
theorem get_obj {expr : Bool} (F : Fr g L s.heap m) (X₀ : KIn K g) (G : KGet K C md cell) (hi : g.get? i = some (slotInst C di (.ref j))) (hd : g.get? di = some (dictOf [] 0))
    (h : Q (.ref j) { s with toks := s.toks + 1 }) : wpAny (model prog w) A (getAttr (.ref i) (Str.ofString "obj") expr) Q E s :=
  get_slot F X₀.x ⟨F.keep _ _ hi, rfl, rfl, F.keep _ _ hd⟩ G.plain G.isC G.obj G.get G.takes G.slot rfl rfl h
theorem call_compare {news : List (Addr × Obj)} (X₀ : (hd.heap_1 w.params).In h₀) (T : Top p loose mean mg mb h₀) (hO : Over h₀ g) (F : Fr g L s.heap m) (N : News g L s.heap news) (W : WsAt w.params h₀ g r c) (W' : WsAt w.params h₀ g r' c') (hl : Small c) (hl' : Small c')
    (hw : ¬ sameN c c' → ∃ ts, firstW c c' = some ts)
    (hA : A.handled = none) (hd : A.depth ≤ 800) (hu : A.units ≤ 8000)
    (h : ∀ h' tk' t, Fr g L h' m → News g L h' news → Q (.int (cmpV c c') t) { s with heap := h', toks := tk' }) :
    wpAny (model prog w) A (call (.ref 115) [.ref r.x, .ref r'.x]) Q E s :=
  wpAny_le hA hd rfl rfl hu (compare_spec X₀ T (hO.trans F.keep) (wsAt_over W F.keep) (wsAt_over W' F.keep) hl hl' hw fun h' tk' t hk => h h' tk' t (fr_over F hk) (news_over N hk))
/-- a def that closes over cells, called with nothing laid open -/
theorem enterX {R : Result → Shared → Prop} {name qual : Str} {params : Arguments} {body : List Stmt} {scope : Scope} {cl : List (Str × Addr)} {dV kV doc pm cdv ct oc : Value} {an od : Option Addr} {osl : Array (Option Value)} {f : Addr} {args : Args} {binds : List (Str × Value)}
    (T : Top p loose mean mg mb h₀) (hO : Over h₀ s.heap)
    (ho : s.heap.get? f = some ⟨oc, od, .func (fnX name qual params body scope cl dV kV doc pm an cdv ct), osl⟩) (hcd : s.heap.CodeRec cdv qual) (hroom : A.depth < recursionLimit)
    (hbind : BindsTo s (fnX name qual params body scope cl dV kV doc pm an cdv ct) args binds) (hloc : ∀ y ∈ binds, scope.names.lookup y.1 = some .local)
    (h : ∀ L' h₁, Top p loose mean mg mb s.heap → Fr s.heap L' h₁ (fun y => binds.reverse.lookup y) → News s.heap L' h₁ [] →
      wpAny (model prog w) (A.deeper (envX qual scope L' f cdv cl)) (execs body (envX qual scope L' f cdv cl))
        (fun fl s' => BackC s.heap L' (fun v s' => R (.ok (.ret v)) s') (match fl with | .ret v => v | _ => .none) s')
        (fun _ _ => False)
        { s with heap := h₁, toks := s.toks + binds.length })
    (hco : scope.isCoroutine = false) (hgen : scope.isGenerator = false) (hk : scope.kind = .function)
    (hcell : ∀ x ∈ scope.names, x.2 ≠ .cell) : codeAny (model prog w) A (.call (.ref f) args) R s := by
  refine codeAny_call_def (fd := fnX name qual params body scope cl dV kV doc pm an cdv ct) (body := body) (binds := binds) hroom ho rfl ((T.nolimit).keeps hO) hcd rfl hbind hcell hloc (fun h₁ hns hk₁ => ?_) hco hgen hk
  exact wpAny_mono (h s.heap.objs.size h₁ (T.keeps hO) ⟨hns, hk₁, Nat.le_refl _⟩ (fun _ h => nomatch h)) (fun fl s' hl => hl.choose_spec.2 hl.choose_spec.1.keep) fun _ _ y => y.elim
theorem ldX {ql x : Str} {cdv : Value} {cl : List (Str × Addr)} {pos : Pos} {v : Value} {sc : Scope} (F : Fr g L s.heap m) (hv : m x = some v) (h : Q v s) (hk : sc.kind = .function) (hl : (envX ql sc L f cdv cl).kindOf x = some .local) (hd : (x == ("__debug__" : Str)) = false) :
    wpAny (model prog w) A (eval (.Name x pos) (envX ql sc L f cdv cl)) Q E s := wpAny_Name (wpAny_loadName_local hk hl F.ns hv h) hd
theorem cmp_call {op : CmpOp} (ho : op ∈ [CmpOp.Lt, .Gt, .Eq, .LtE, .GtE]) (X₀ : (hd.heap_1 w.params).In h₀) (T : Top p loose mean mg mb h₀) (hO : Over h₀ s.heap) (XK : KIn K s.heap) (G : KGet K C md cell) (D : CmpFn K f cell op)
    (hi : s.heap.get? i = some (slotInst C di (.ref r.x))) (hdi : s.heap.get? di = some (dictOf [] 0)) (hj : s.heap.get? j = some (slotInst C dj (.ref r'.x))) (hdj : s.heap.get? dj = some (dictOf [] 0))
    (W : WsAt w.params h₀ s.heap r c) (W' : WsAt w.params h₀ s.heap r' c') (hl : Small c) (hl' : Small c') (hw : ¬ sameN c c' → ∃ ts, firstW c c' = some ts)
    (hQ : ∀ h' tk', Over s.heap h' → Q (.bool (opRes op (cmpV c c'))) { s with heap := h', toks := tk' }) :
    wpAny (model prog w) A4 (call (.ref f) [.ref i, .ref j]) Q E s := by
  obtain ⟨oc, od, sl, nm, ql, a1, a2, p1, p2, p3, p4, p5, p6, p7, p8, p9, doc, pm, cdv, ct, an, hf, hcr⟩ := D
  refine wpAny_call ?_
  refine enterX T hO (XK.x _ _ hf) (codeRec_of XK.x hcr) (by k_room) (binds := [(Str.ofString "self", .ref i), (Str.ofString "other", .ref j)]) (BindsTo.of_eq rfl) (locs rfl) ?_ rfl rfl rfl (by decide)
  intro L' h₁ T' F N
  have X := X₀.keeps hO
  (refine (?_ : (fun T2 T1 : Prop => T2 → (T2 → T1) → T1) _ _) ?_ (by intro h; dsimp only; exact h); exact fun p _ => p)
  iterate 3 (first | (k_unfold; (try (refine (?_ : (fun T2 T1 : Prop => T2 → (T2 → T1) → T1) _ _) ?_ (by intro h; dsimp only; exact h); exact fun p _ => p))) | walk1 | ((refine (?_ : (fun T2 T1 : Prop => T2 → (T2 → T1) → T1) _ _) ?_ (by intro h; dsimp only; exact h); exact fun p _ => p); walk1))
  obtain ⟨oc', od', sl', hcell⟩ := G.cell
  refine wpAny_Call_NameR ?_
  refine nameX_FK F XK.x rfl hcell ?_
  refine callWith_K X (by k_is) ?_
  walk1
  refine Attribute_name (ldX F rfl ?_ (by rfl) (by rfl) (by decide))
  refine get_obj F XK G hi hdi ?_
  walk1
  refine Attribute_name (ldX F rfl ?_ (by rfl) (by rfl) (by decide))
  refine get_obj F XK G hj hdj ?_
  walk1
  refine ⟨X.keeps F.keep, ?_⟩
  refine call_compare X₀ T hO F N W W' hl hl' hw rfl (Nat.le_of_ble_eq_true rfl) (Nat.le_of_ble_eq_true rfl) fun h' tk' t F' N' => ?_
  (refine (?_ : (fun T2 T1 : Prop => T2 → (T2 → T1) → T1) _ _) ?_ (by intro h; dsimp only; exact h); exact fun p _ => p)
  walk1
  simp only [List.mem_cons, List.not_mem_nil, or_false] at ho
  rcases ho with rfl | rfl | rfl | rfl | rfl
  all_goals walk1
  all_goals exact ⟨_, F', fun hk => hQ _ _ hk⟩
end
noncomputable abbrev initBody (p1 p2 p3 p4 : Pos) : List Stmt := [.Assign [.Attribute (.Name (Str.ofString "self") p1) (Str.ofString "obj") p2] (.Name (Str.ofString "obj") p3) p4]
noncomputable abbrev initScope : Scope := { kind := .function, names := [(Str.ofString "self", .local), (Str.ofString "obj", .local)], isGenerator := false, isCoroutine := false }
noncomputable abbrev initArgs (a1 a2 : Pos) : Arguments := { posonlyargs := [], args := [{ arg := Str.ofString "self", annotation := none, pos := a1 }, { arg := Str.ofString "obj", annotation := none, pos := a2 }], vararg := none, kwonlyargs := [], kw_defaults := [], kwarg := none, defaults := [] }
inductive InitFn (K : Frag) (C : Addr) : Prop
  | mk (fI : Addr) (oc : Value) (od : Option Addr) (sl : Array (Option Value)) (nm ql : Str) (a1 a2 p1 p2 p3 p4 : Pos) (doc pm cdv ct : Value) (an : Option Addr) (h0 : findIn K (.ref C) "__init__" = some (some (.ref fI))) (h1 : typeIn K (.ref fI) = some (.type "function")) (h2 : K.lookup fI = some ⟨oc, od, .func (fnOf nm ql (initArgs a1 a2) (initBody p1 p2 p3 p4) initScope .none .none doc pm an cdv ct), sl⟩) (h3 : codeIn K cdv ql = true)
/-- what K's calls want -/
structure KMk (K : Frag) (C md : Addr) : Prop where
  makes : makesIn K C = true
  slot : slotIn K md C = some 0
  setter : findIn K (.ref C) "__setattr__" = some (some (.builtin "object.__setattr__"))
  over : plainOver K C = true
  taker : takerIn K C (Str.ofString "obj") = some (some (.ref md))
  mdT : typeIn K (.ref md) = some (.type "member_descriptor")
  init : InitFn K C
/-- the class that cmp_to_key made, and what it wants of its part of the heap -/
structure KPure (K : Frag) (C : Addr) : Prop where
  ex : ∃ (md cell : Addr) (fs : CmpOp → Addr), KGet K C md cell ∧ KMk K C md ∧ ∀ op ∈ [CmpOp.Lt, .Gt, .Eq, .LtE, .GtE], findIn K (.ref C) (cmpInfo op).2.1 = some (some (.ref (fs op))) ∧ isFn K (.ref (fs op)) = true ∧ CmpFn K (fs op) cell op
structure KCls (h : Heap) (C : Addr) : Prop where
  ex : ∃ K, KIn K h ∧ KPure K C
theorem KCls.over {h h' : Heap} {C : Addr} (x : KCls h C) (k : Over h h') : KCls h' C := by
  obtain ⟨K, a, b⟩ := x.ex
  exact ⟨K, ⟨a.x.keeps k⟩, b⟩
/-- at `i` stands a key of the Whitespace `r` -/
structure KInst (h : Heap) (C i y : Addr) : Prop where
  ex : ∃ di, h.get? i = some (slotInst C di (.ref y)) ∧ h.get? di = some (dictOf [] 0)
theorem KInst.over {h h' : Heap} {C i y : Addr} (x : KInst h C i y) (k : Over h h') : KInst h' C i y := let ⟨d, a, b⟩ := x.ex; ⟨d, k _ _ a, k _ _ b⟩
section
variable {prog : Program} {w : World} {A : Around} {h₀ g : Heap} {L : Addr} {m : Str → Option Value} {s : Shared} {p : Program} {loose : List Str} {mean : ExcName → Option Value} {mg mb : Str → Option Value} {K : Frag} {C md cell f i j di dj : Addr} {r r' : WsR} {c c' : Ws} {Q : Value → Shared → Prop} {E : Value → Shared → Prop}
theorem rich_same {op : CmpOp} {K : Frag} {x y fn : Addr} {ox : Obj} {od : Option Obj} (hu : A.units < cLine) (X : K.In s.heap) (I : InstAt s.heap x ox C od) (hy : Looks (model prog w) s.heap (typeOf (.ref y)) (.ref C))
    (hs : findIn K (.ref C) (cmpInfo op).2.1 = some (some (.ref fn))) (hf : isFn K (.ref fn) = true)
    (h : wpAny (model prog w) A (call (.ref fn) [.ref x, .ref y]) (PySem.W.CmpBack Q) E s) : wpAny (model prog w) A (richCompare op (.ref x) (.ref y)) Q E s := by
  have one : wpAny (model prog w) A (tryCompare (.ref x) (cmpInfo op).2.1 (.ref y)) (fun r s' => ∃ v, r = some v ∧ Q v s') E s := by
    unfold tryCompare
    refine wpAny_bind (ifBound_K X I hs hf (wpAny_mono h (fun v s' hv => ?_) fun _ _ e => e))
    cases v <;> first | exact hv.elim | exact wpAny_pure ⟨_, rfl, hv⟩
  unfold richCompare
  simp only [oneThing_ref]
  refine wpAny_holding (wpAny_bind (wpAny_cRoomFor hu (wpAny_bind (I.type.here (wpAny_bind (hy.here ?_))))))
  rw [if_neg (by simp)]
  refine wpAny_bind (wpAny_pure ?_)
  simp only [Bool.false_eq_true, if_false]
  refine wpAny_bind (wpAny_mono one (fun r s' z => ?_) fun _ _ e => e)
  obtain ⟨v, rfl, hq⟩ := z
  exact wpAny_pure hq
theorem inst_cmp {op : CmpOp} (ho : op ∈ [CmpOp.Lt, .Gt, .Eq, .LtE, .GtE]) (X₀ : (hd.heap_1 w.params).In h₀) (T : Top p loose mean mg mb h₀) (hO : Over h₀ s.heap) (XC : KCls s.heap C) (I : KInst s.heap C i r.x) (J : KInst s.heap C j r'.x)
    (W : WsAt w.params h₀ s.heap r c) (W' : WsAt w.params h₀ s.heap r' c') (hl : Small c) (hl' : Small c') (hw : ¬ sameN c c' → ∃ ts, firstW c c' = some ts)
    (hA : A.handled = none) (hd : A.depth ≤ 750) (hu : A.units ≤ 7500)
    (hQ : ∀ h' tk', Over s.heap h' → Q (.bool (opRes op (cmpV c c'))) { s with heap := h', toks := tk' }) :
    wpAny (model prog w) A (richCompare op (.ref i) (.ref j)) Q E s := by
  obtain ⟨K, XK, P⟩ := XC.ex
  obtain ⟨md, cell, fs, G, _, O⟩ := P.ex
  obtain ⟨di, hi, hdi⟩ := I.ex
  obtain ⟨dj, hj, hdj⟩ := J.ex
  obtain ⟨a, b, D⟩ := O op ho
  refine wpAny_le (A' := { A4 with handled := none }) hA hd rfl rfl hu ?_
  refine rich_same (K := K) (od := some (dictOf [] 0)) (Nat.le_of_ble_eq_true rfl) XK.x ⟨hi, rfl, rfl, hdi⟩ ((Looks.ld hj).andThen .now) a b ?_
  exact cmp_call ho X₀ T hO XK G D hi hdi hj hdj W W' hl hl' hw hQ
end
end Mine
end
section
open PySem PySem.W PySem.Calls PyProof.Rows
theorem Mine.fresh_KA {prog : Program} {w : World} {A : Around} {env : Env} {Q : Flow → Shared → Prop} {E : Value → Shared → Prop} {s : Shared} (h : Q .next s) : wpAny (model prog w) A (execs [] env) Q E s := by
  w_top off
  k_with_none
  walk1
  exact h
end
section
open PySem PySem.W PySem.Calls PyProof.Rows
set_option Elab.async false
set_option maxRecDepth 100000
set_option maxHeartbeats 8000000
set_option pp.deepTerms false
set_option pp.deepTerms.threshold 4
namespace Mine
theorem fillKA2 : PySem.Challenge.rw_mq0248_01 = PySem.Challenge.rw_mq0248_01 ∧ Mine.hd.heap_1 = Mine.hd.heap_1 := by
  k_fill
  exact ⟨rfl, rfl⟩
section
variable {prog : Program} {w : World} {A : Around} {h₀ g : Heap} {L : Addr} {m : Str → Option Value} {s : Shared} {p : Program} {loose : List Str} {mean : ExcName → Option Value} {mg mb : Str → Option Value} {K : Frag} {C md cell f i j di dj : Addr} {y : Addr} {Q : Value → Shared → Prop} {E : Value → Shared → Prop}
theorem ldO {ql x : Str} {cdv : Value} {pos : Pos} {v : Value} {sc : Scope} (F : Fr g L s.heap m) (hv : m x = some v) (h : Q v s) (hk : sc.kind = .function) (hl : (envOf ql sc L f cdv).kindOf x = some .local) (hd : (x == ("__debug__" : Str)) = false) :
    wpAny (model prog w) A (eval (.Name x pos) (envOf ql sc L f cdv)) Q E s := wpAny_Name (wpAny_loadName_local hk hl F.ns hv h) hd
theorem key_make (T : Top p loose mean mg mb h₀) (hO : Over h₀ s.heap) (XC : KCls s.heap C)
    (hQ : ∀ h' tk' x dx, Over s.heap h' → Led s.heap h' [(x, slotInst C dx (.ref y)), (dx, dictOf [] 0)] → Q (.ref x) { s with heap := h', toks := tk' }) :
    wpAny (model prog w) A4 (call (.ref C) [.ref y]) Q E s := by
  obtain ⟨K, XK, P⟩ := XC.ex
  obtain ⟨md, cell, fs, _, M, _⟩ := P.ex
  obtain ⟨fI, oc, od, sl, nm, ql, a1, a2, p1, p2, p3, p4, doc, pm, cdv, ct, an, hI, hT, hf, hcd⟩ := M.init
  refine wpAny_call (make_over (K := K) XK.x M.makes (fI := fI) hI hT ?_)
  intro x dx h' hlt hk hled
  refine enterM [(x, instObj C dx), (dx, dictOf [] 0)] XK.x (T.keeps hO) hk hled hf hcd (by k_room) (binds := [(Str.ofString "self", .ref x), (Str.ofString "obj", .ref y)]) (BindsTo.of_eq rfl) (locs rfl) ?_ rfl rfl rfl (by decide)
  intro g L' h₁ hG hfr X' T' F' N' l1
  have XK' : KIn K g := ⟨X'⟩
  clear X'
  (refine (?_ : (fun T2 T1 : Prop => T2 → (T2 → T1) → T1) _ _) ?_ (by intro h; dsimp only; exact h); exact fun p _ => p)
  walk1
  refine plainObj_wpAny_Assign_Attribute ?_ (by with_unfolding_all rfl)
  refine ldO F' rfl ?_ (by rfl) (by rfl) (by decide)
  refine ldO F' rfl ?_ (by rfl) (by rfl) (by decide)
  refine set_slot F' XK'.x N' (ox' := slotInst C dx (.ref y)) (news' := [(x, slotInst C dx (.ref y)), (dx, dictOf [] 0)]) ⟨(N' (x, instObj C dx) (by simp)).1, rfl, rfl, (N' (dx, dictOf [] 0) (by simp)).1⟩ M.setter M.over M.taker M.mdT M.slot (by decide) rfl rfl (Upd.head ?_) fun h2 F2 N2 => ?_
  · intro q hq
    rw [List.mem_singleton.mp hq]
    exact Nat.ne_of_lt hlt
  walk1
  (refine (?_ : (fun T2 T1 : Prop => T2 → (T2 → T1) → T1) _ _) ?_ (by intro h; dsimp only; exact h); exact fun p _ => p)
  refine ⟨_, _, F2, N2, fun hk2 => ⟨rfl, ?_⟩⟩
  have new : ∀ a, s.heap.get? a = none → ∀ b o, s.heap.get? b = some o → a ≠ b := fun a e b o e' q => by subst q; rw [e] at e'; cases e'
  refine hQ _ _ x dx (fun b o e => hk2 b o (fun q hq => ?_) (hk _ _ e)) (.cons (N2 (x, _) (by k_mem)).1 (hled _ (.head _)).2 (.cons (N2 (dx, _) (by k_mem)).1 (hled _ (.tail _ (.head _))).2 .nil))
  rcases List.mem_cons.mp hq with rfl | hq
  · exact new _ (hled _ (.head _)).2 _ _ e
  · rw [List.mem_singleton.mp hq]; exact new _ (hled _ (.tail _ (.head _))).2 _ _ e
end
end Mine
end
section
open PySem PySem.W PySem.Calls PyProof.Rows
theorem Mine.fresh_KA2 {prog : Program} {w : World} {A : Around} {env : Env} {Q : Flow → Shared → Prop} {E : Value → Shared → Prop} {s : Shared} (h : Q .next s) : wpAny (model prog w) A (execs [] env) Q E s := by
  w_top off
  k_with_none
  walk1
  exact h
end
section
open PySem PySem.W PySem.Calls PyProof.Rows PySem.W.X
set_option Elab.async false
set_option maxRecDepth 100000
set_option maxHeartbeats 8000000
namespace Mine
section
variable {h h' : Heap} {chg news : List (Addr × Obj)}
theorem lookup_nd : ∀ {l : List (Addr × Obj)}, (l.map (·.1)).Pairwise (· > ·) → ∀ {a o}, (a, o) ∈ l → l.lookup a = some o
  | [], _, _, _, hm => nomatch hm
  | (b, p) :: l, hp, a, o, hm => by
    rw [List.map_cons, List.pairwise_cons] at hp
    rcases List.mem_cons.mp hm with e | hm
    · cases e; simp [List.lookup_cons]
    · have : b ≠ a := Nat.ne_of_gt (hp.1 a (List.mem_map_of_mem (f := (·.1)) hm))
      rw [List.lookup_cons]
      have : (a == b) = false := beq_eq_false_iff_ne.mpr (Ne.symm this)
      rw [this]
      exact lookup_nd hp.2 hm
theorem mem_lookup : ∀ {l : List (Addr × Obj)} {a o}, l.lookup a = some o → (a, o) ∈ l
  | [], _, _, h => nomatch h
  | (b, p) :: l, a, o, h => by
    rw [List.lookup_cons] at h
    split at h
    · rename_i q; cases h; rw [beq_iff_eq.mp q]; exact .head _
    · exact .tail _ (mem_lookup h)
theorem news_in (D : Mem h h' chg news) : Frag.In news h' := fun _ _ e => (D.nw _ (mem_lookup e)).1
end
section
variable {K : Frag} {C N md cell : Addr} {cd : ClassData} {tC tN tc : Value} {dC dN dm dc : Option Addr} {sC sN sm sc : Array (Option Value)} {es : Array DictEntry} {n : Nat} {vm : Array Value}
theorem find_own {name : Str} {v : Value} (hC : K.lookup C = some ⟨tC, dC, .cls cd, sC⟩) (hN : K.lookup N = some ⟨tN, dN, .dict es n, sN⟩) (e1 : cd.mro = [.ref C, .type "object"]) (e2 : cd.ns = N)
    (hv : (es.toList.find? (·.key.isStr name)).map (·.val) = some v) : findIn K (.ref C) name = some (some v) := by
  obtain ⟨en, he, rfl⟩ := Option.map_eq_some_iff.mp hv
  simp only [findIn, hC, e1, alongIn, ownIn, nsIn, e2, hN, he]
theorem find_obj {name : Str} {r : Option Value} (hC : K.lookup C = some ⟨tC, dC, .cls cd, sC⟩) (hN : K.lookup N = some ⟨tN, dN, .dict es n, sN⟩) (e1 : cd.mro = [.ref C, .type "object"]) (e2 : cd.ns = N)
    (hv : (es.toList.find? (·.key.isStr name)).isNone = true) (hr : es.toList.any (·.refKey) = false) (ho : alongIn [] name [.type "object"] = some r) : findIn K (.ref C) name = some r := by
  have ho' : alongIn K name [.type "object"] = some r := ho
  have hv' := Option.isNone_iff_eq_none.mp hv
  simp only [findIn, hC, e1, alongIn, ownIn, nsIn, e2, hN, hv', hr, if_false, Bool.false_eq_true]
  exact ho'
noncomputable def bodyPos : FuncBody → List Pos
  | .stmts [.Return (some (.Compare (.Call (.Name _ p1) [.Attribute (.Name _ p2) _ p3, .Attribute (.Name _ p4) _ p5] [] p6) _ [.Constant _ _ p7] p8)) p9] => [p1, p2, p3, p4, p5, p6, p7, p8, p9]
  | .stmts [.Assign [.Attribute (.Name _ p1) _ p2] (.Name _ p3) p4] => [p1, p2, p3, p4]
  | _ => []
noncomputable def pAt (fd : FuncData) (i : Nat) : Pos := (bodyPos fd.body).getD i default
noncomputable def argPos (fd : FuncData) (i : Nat) : Pos := match fd.params.args[i]? with | some a => a.pos | none => default
noncomputable def cmpFd (op : CmpOp) (cell : Addr) (fd : FuncData) : FuncData :=
  fnX fd.name fd.qualname (cmpArgs (argPos fd 0) (argPos fd 1)) (cmpBody op (pAt fd 0) (pAt fd 1) (pAt fd 2) (pAt fd 3) (pAt fd 4) (pAt fd 5) (pAt fd 6) (pAt fd 7) (pAt fd 8)) cmpScope [(Str.ofString "mycmp", cell)] .none .none fd.doc fd.pyModule fd.annotations fd.code fd.closureTuple
noncomputable def initFd (fd : FuncData) : FuncData :=
  fnOf fd.name fd.qualname (initArgs (argPos fd 0) (argPos fd 1)) (initBody (pAt fd 0) (pAt fd 1) (pAt fd 2) (pAt fd 3)) initScope .none .none fd.doc fd.pyModule fd.annotations fd.code fd.closureTuple
noncomputable def codeHas (vs : Array Value) (q : Str) : Bool := match vs.toList with | _ :: .str n _ :: _ => n == q | _ => false
theorem code_in {c : Addr} {tk : Value} {dk : Option Addr} {sk : Array (Option Value)} {vs : Array Value} {q : Str} {cdv : Value} (hk : K.lookup c = some ⟨tk, dk, .fields vs, sk⟩) (e : cdv = .ref c) (h : codeHas vs q = true) : codeIn K cdv q = true := by
  subst e
  unfold codeIn
  (refine (?_ : (fun T2 T1 : Prop => T2 → (T2 → T1) → T1) _ _) ?_ (by intro h; dsimp only; exact h); exact fun p _ => p)
  rw [hk]
  exact h
theorem ti_of {K : Frag} {a : Addr} {o : Obj} (h : K.lookup a = some o) : typeIn K (.ref a) = some o.cls := by
  show (K.lookup a).map _ = _
  rw [h]; rfl
theorem ci_of {K : Frag} {C : Addr} {t : Value} {d : Option Addr} {cd : ClassData} {sl : Array (Option Value)} (h : K.lookup C = some ⟨t, d, .cls cd, sl⟩) : clsIn K C = some cd := by
  unfold clsIn
  rw [h]
/-- one of the five, as it lies in the part -/
structure FnFact (K : Frag) (C f cell : Addr) (op : CmpOp) : Prop where
  find : findIn K (.ref C) (cmpInfo op).2.1 = some (some (.ref f))
  fn : isFn K (.ref f) = true
  cmp : CmpFn K f cell op
theorem fn_fact {f c : Addr} {op : CmpOp} {tf tk : Value} {df dk : Option Addr} {sf sk : Array (Option Value)} {fd : FuncData} {vs : Array Value} (hC : K.lookup C = some ⟨tC, dC, .cls cd, sC⟩) (hN : K.lookup N = some ⟨tN, dN, .dict es n, sN⟩) (e1 : cd.mro = [.ref C, .type "object"]) (e2 : cd.ns = N)
    (hf : K.lookup f = some ⟨tf, df, .func fd, sf⟩) (hk : K.lookup c = some ⟨tk, dk, .fields vs, sk⟩)
    (hv : (es.toList.find? (·.key.isStr (cmpInfo op).2.1)).map (·.val) = some (.ref f)) (ht : tf = .type "function") (ef : fd = cmpFd op cell fd) (ec : fd.code = .ref c) (hq : codeHas vs fd.qualname = true) : FnFact K C f cell op := by
  refine ⟨find_own hC hN e1 e2 hv, ?_, ?_⟩
  · show (typeIn K (.ref f) == some (.type "function")) = true
    rw [ti_of hf, ht]
    exact beq_self_eq_true _
  · refine ⟨tf, df, sf, fd.name, fd.qualname, argPos fd 0, argPos fd 1, pAt fd 0, pAt fd 1, pAt fd 2, pAt fd 3, pAt fd 4, pAt fd 5, pAt fd 6, pAt fd 7, pAt fd 8, fd.doc, fd.pyModule, fd.code, fd.closureTuple, fd.annotations, ?_, code_in hk ec hq⟩
    rw [hf]
    exact congrArg (fun x => some (Obj.mk tf df (.func x) sf)) ef
noncomputable def vStr : Value → Bool
  | .str _ _ => true
  | _ => false
noncomputable def vBi (s : String) : Value → Bool
  | .builtin g => g == s
  | _ => false
noncomputable def vInt0 : Value → Bool
  | .int b _ => b == 0
  | _ => false
theorem vStr_of {v : Value} (h : vStr v = true) : ∃ n t, v = .str n t := by
  cases v with
  | str n t => exact ⟨n, t, rfl⟩
  | _ => cases h
theorem vBi_of {v : Value} {s : String} (h : vBi s v = true) : v = .builtin s := by
  cases v with
  | builtin g => exact congrArg Value.builtin (beq_iff_eq.mp h)
  | _ => cases h
theorem vInt0_of {v : Value} (h : vInt0 v = true) : ∃ t, v = .int 0 t := by
  cases v with
  | int b t => exact ⟨t, congrArg (fun b => Value.int b t) (beq_iff_eq.mp h)⟩
  | _ => cases h
noncomputable def vmIs (vm : Array Value) : Bool := match vm.toList with
  | [a, _, g, t, b] => vStr a && (vBi "proto.slot" g && (vBi "proto.slot#set" t && vInt0 b))
  | _ => false
theorem vm_of {vm : Array Value} {C : Addr} (h : vmIs vm = true) (h1 : vm.toList[1]? = some (.ref C)) : ∃ nm t t', vm.toList = [.str nm t, .ref C, .builtin "proto.slot", .builtin "proto.slot#set", .int 0 t'] := by
  unfold vmIs at h
  generalize vm.toList = l at h h1 ⊢
  cases l with
  | nil => exact Bool.noConfusion (h : false = true)
  | cons a l => cases l with
    | nil => exact Bool.noConfusion (h : false = true)
    | cons o l => cases l with
      | nil => exact Bool.noConfusion (h : false = true)
      | cons g l => cases l with
        | nil => exact Bool.noConfusion (h : false = true)
        | cons s l => cases l with
          | nil => exact Bool.noConfusion (h : false = true)
          | cons b l => cases l with
            | cons c r => exact Bool.noConfusion (h : false = true)
            | nil =>
              obtain ⟨ha, h⟩ := Bool.and_eq_true_iff.mp h
              obtain ⟨hg, h⟩ := Bool.and_eq_true_iff.mp h
              obtain ⟨hs, hb⟩ := Bool.and_eq_true_iff.mp h
              obtain ⟨n, t, rfl⟩ := vStr_of ha
              obtain ⟨u, rfl⟩ := vInt0_of hb
              have := vBi_of hg
              subst this
              have := vBi_of hs
              subst this
              have : o = .ref C := Option.some.inj h1
              subst this
              exact ⟨_, _, _, rfl⟩
structure ClsFact (cd : ClassData) (C N md : Addr) (tC : Value) (sC : Array (Option Value)) (es : Array DictEntry) (vm : Array Value) (tm : Value) : Prop where
  mro : cd.mro = [.ref C, .type "object"]
  ns : cd.ns = N
  abs : cd.abstract = false
  del : cd.hasDel = false
  slots : cd.slotNames.length = 1
  typ : tC = .type "type"
  new : (sC.toList[4]?).join = some (.builtin "object.__new__")
  any : es.toList.any (·.refKey) = false
  obj : (es.toList.find? (·.key.isStr (Str.ofString "obj"))).map (·.val) = some (.ref md)
  ga : (es.toList.find? (·.key.isStr "__getattribute__")).isNone = true
  gt : (es.toList.find? (·.key.isStr "__getattr__")).isNone = true
  sa : (es.toList.find? (·.key.isStr "__setattr__")).isNone = true
  mdT : tm = .type "member_descriptor"
  vmOk : vmIs vm = true
  owner : vm.toList[1]? = some (.ref C)
theorem special_md (hm : K.lookup md = some ⟨.type "member_descriptor", dm, .fields vm, sm⟩) {name : Str} {r : Option Value} (e : findIn [] (.type "member_descriptor") name = some r) : specialIn K (.ref md) name = some r := by
  show (typeIn K (.ref md)).bind _ = _
  rw [ti_of hm]
  exact e
theorem md_get : findIn [] (.type "member_descriptor") "__get__" = some (some (.builtin "member_descriptor.__get__")) := by kernel_rfl
theorem md_set : ∃ v, findIn [] (.type "member_descriptor") "__set__" = some (some v) := ⟨.builtin "member_descriptor.__set__", by kernel_rfl⟩
theorem obj_ga : alongIn [] "__getattribute__" [.type "object"] = some (some (.builtin "object.__getattribute__")) := by kernel_rfl
theorem obj_gt : alongIn [] "__getattr__" [.type "object"] = some none := by kernel_rfl
theorem obj_sa : alongIn [] "__setattr__" [.type "object"] = some (some (.builtin "object.__setattr__")) := by kernel_rfl
theorem ty_call : findIn [] (.type "type") "__call__" = some (some (.builtin "type.__call__")) := by kernel_rfl
theorem ty_ty : subIn [] (.type "type") (.type "type") = some true := by kernel_rfl
theorem kget_of {tm : Value} (hC : K.lookup C = some ⟨tC, dC, .cls cd, sC⟩) (hN : K.lookup N = some ⟨tN, dN, .dict es n, sN⟩) (hm : K.lookup md = some ⟨tm, dm, .fields vm, sm⟩) (hc : K.lookup cell = some ⟨tc, dc, .cell (some (.ref 115)), sc⟩) (Z : ClsFact cd C N md tC sC es vm tm) : KGet K C md cell := by
  have e := Z.mdT
  subst e
  have hcl : clsIn K C = some cd := ci_of hC
  obtain ⟨nm, t, t', ev⟩ := vm_of Z.vmOk Z.owner
  have hsl : slotIn K md C = some 0 := by
    unfold slotIn recIn
    rw [hm, hcl]
    (refine (?_ : (fun T2 T1 : Prop => T2 → (T2 → T1) → T1) _ _) ?_ (by intro h; dsimp only; exact h); exact fun p _ => p)
    rw [if_pos (beq_self_eq_true _), ev]
    (refine (?_ : (fun T2 T1 : Prop => T2 → (T2 → T1) → T1) _ _) ?_ (by intro h; dsimp only; exact h); exact fun p _ => p)
    simp [Z.mro, Z.slots]
  refine ⟨?_, ?_, find_own hC hN Z.mro Z.ns Z.obj, special_md hm md_get, ?_, hsl, ⟨_, _, _, hc⟩⟩
  · simp only [plainGet, find_obj hC hN Z.mro Z.ns Z.ga Z.any obj_ga, find_obj hC hN Z.mro Z.ns Z.gt Z.any obj_gt]
    rfl
  · show (clsIn K C).isSome = true
    rw [hcl]; rfl
  · obtain ⟨v, hv⟩ := md_set
    simp only [takesIn, special_md hm hv]
theorem kmk_of {tm : Value} {fI cI : Addr} {tf tk : Value} {df dk : Option Addr} {sf sk : Array (Option Value)} {fd : FuncData} {vs : Array Value} (hC : K.lookup C = some ⟨tC, dC, .cls cd, sC⟩) (hN : K.lookup N = some ⟨tN, dN, .dict es n, sN⟩) (hm : K.lookup md = some ⟨tm, dm, .fields vm, sm⟩) (G : KGet K C md cell) (Z : ClsFact cd C N md tC sC es vm tm)
    (hf : K.lookup fI = some ⟨tf, df, .func fd, sf⟩) (hk : K.lookup cI = some ⟨tk, dk, .fields vs, sk⟩)
    (hv : (es.toList.find? (·.key.isStr "__init__")).map (·.val) = some (.ref fI)) (ht : tf = .type "function") (ef : fd = initFd fd) (ec : fd.code = .ref cI) (hq : codeHas vs fd.qualname = true) : KMk K C md := by
  have e := Z.mdT
  subst e
  have e := Z.typ
  subst e
  have hcl : clsIn K C = some cd := ci_of hC
  have htC : typeIn K (.ref C) = some (.type "type") := ti_of hC
  refine ⟨?_, G.slot, find_obj hC hN Z.mro Z.ns Z.sa Z.any obj_sa, ?_, ?_, ti_of hm, fI, tf, df, sf, fd.name, fd.qualname, argPos fd 0, argPos fd 1, pAt fd 0, pAt fd 1, pAt fd 2, pAt fd 3, fd.doc, fd.pyModule, fd.code, fd.closureTuple, fd.annotations, find_own hC hN Z.mro Z.ns hv, by simp [typeIn, hf, ht], ?_, code_in hk ec hq⟩
  · have h1 : specialIn K (.ref C) "__call__" = some (some (.builtin "type.__call__")) := by
      show (typeIn K (.ref C)).bind _ = _
      rw [htC]
      exact ty_call
    have h2 : instIn K (.ref C) (.type "type") = some true := by
      unfold instIn
      rw [htC]
      exact ty_ty
    unfold makesIn
    rw [hC]
    (refine (?_ : (fun T2 T1 : Prop => T2 → (T2 → T1) → T1) _ _) ?_ (by intro h; dsimp only; exact h); exact fun p _ => p)
    rw [Z.abs, Z.del, Z.new, Z.mro, h1, h2]
    simp
  · show (clsIn K C).any _ = true
    rw [hcl]
    show onlyObject cd.mro = true
    rw [Z.mro]; rfl
  · simp only [takerIn, G.obj, G.takes, Option.bind_some, Option.map_some, if_true]
  · rw [hf]
    exact congrArg (fun x => some (Obj.mk tf df (.func x) sf)) ef
theorem kpure_of {f1 f2 f3 f4 f5 : Addr} (G : KGet K C md cell) (M : KMk K C md) (h1 : FnFact K C f1 cell .Lt) (h2 : FnFact K C f2 cell .Gt) (h3 : FnFact K C f3 cell .Eq) (h4 : FnFact K C f4 cell .LtE) (h5 : FnFact K C f5 cell .GtE) : KPure K C := by
  refine ⟨md, cell, fun op => match op with | .Lt => f1 | .Gt => f2 | .Eq => f3 | .LtE => f4 | _ => f5, G, M, fun op ho => ?_⟩
  simp only [List.mem_cons, List.not_mem_nil, or_false] at ho
  rcases ho with rfl | rfl | rfl | rfl | rfl
  · exact ⟨h1.find, h1.fn, h1.cmp⟩
  · exact ⟨h2.find, h2.fn, h2.cmp⟩
  · exact ⟨h3.find, h3.fn, h3.cmp⟩
  · exact ⟨h4.find, h4.fn, h4.cmp⟩
  · exact ⟨h5.find, h5.fn, h5.cmp⟩
theorem kpure_all {tm tfI tkI : Value} {dfI dkI : Option Addr} {sfI skI : Array (Option Value)} {fdI : FuncData} {vsI : Array Value} {fI cI : Addr} {f1 c1 : Addr} {tf1 tk1 : Value} {df1 dk1 : Option Addr} {sf1 sk1 : Array (Option Value)} {fd1 : FuncData} {vs1 : Array Value} {f2 c2 : Addr} {tf2 tk2 : Value} {df2 dk2 : Option Addr} {sf2 sk2 : Array (Option Value)} {fd2 : FuncData} {vs2 : Array Value} {f3 c3 : Addr} {tf3 tk3 : Value} {df3 dk3 : Option Addr} {sf3 sk3 : Array (Option Value)} {fd3 : FuncData} {vs3 : Array Value} {f4 c4 : Addr} {tf4 tk4 : Value} {df4 dk4 : Option Addr} {sf4 sk4 : Array (Option Value)} {fd4 : FuncData} {vs4 : Array Value} {f5 c5 : Addr} {tf5 tk5 : Value} {df5 dk5 : Option Addr} {sf5 sk5 : Array (Option Value)} {fd5 : FuncData} {vs5 : Array Value}
    (hC : K.lookup C = some ⟨tC, dC, .cls cd, sC⟩) (hN : K.lookup N = some ⟨tN, dN, .dict es n, sN⟩) (hm : K.lookup md = some ⟨tm, dm, .fields vm, sm⟩) (hc : K.lookup cell = some ⟨tc, dc, .cell (some (.ref 115)), sc⟩)
    (lI : K.lookup fI = some ⟨tfI, dfI, .func fdI, sfI⟩) (lIc : K.lookup cI = some ⟨tkI, dkI, .fields vsI, skI⟩)
    (l1 : K.lookup f1 = some ⟨tf1, df1, .func fd1, sf1⟩) (m1 : K.lookup c1 = some ⟨tk1, dk1, .fields vs1, sk1⟩)
    (l2 : K.lookup f2 = some ⟨tf2, df2, .func fd2, sf2⟩) (m2 : K.lookup c2 = some ⟨tk2, dk2, .fields vs2, sk2⟩)
    (l3 : K.lookup f3 = some ⟨tf3, df3, .func fd3, sf3⟩) (m3 : K.lookup c3 = some ⟨tk3, dk3, .fields vs3, sk3⟩)
    (l4 : K.lookup f4 = some ⟨tf4, df4, .func fd4, sf4⟩) (m4 : K.lookup c4 = some ⟨tk4, dk4, .fields vs4, sk4⟩)
    (l5 : K.lookup f5 = some ⟨tf5, df5, .func fd5, sf5⟩) (m5 : K.lookup c5 = some ⟨tk5, dk5, .fields vs5, sk5⟩)
    (Z : ClsFact cd C N md tC sC es vm tm)
    (vI : (es.toList.find? (·.key.isStr "__init__")).map (·.val) = some (.ref fI)) (tI : tfI = .type "function") (eI : fdI = initFd fdI) (kI : fdI.code = .ref cI) (qI : codeHas vsI fdI.qualname = true)
    (v1 : (es.toList.find? (·.key.isStr (cmpInfo .Lt).2.1)).map (·.val) = some (.ref f1)) (t1 : tf1 = .type "function") (e1 : fd1 = cmpFd .Lt cell fd1) (k1 : fd1.code = .ref c1) (q1 : codeHas vs1 fd1.qualname = true)
    (v2 : (es.toList.find? (·.key.isStr (cmpInfo .Gt).2.1)).map (·.val) = some (.ref f2)) (t2 : tf2 = .type "function") (e2 : fd2 = cmpFd .Gt cell fd2) (k2 : fd2.code = .ref c2) (q2 : codeHas vs2 fd2.qualname = true)
    (v3 : (es.toList.find? (·.key.isStr (cmpInfo .Eq).2.1)).map (·.val) = some (.ref f3)) (t3 : tf3 = .type "function") (e3 : fd3 = cmpFd .Eq cell fd3) (k3 : fd3.code = .ref c3) (q3 : codeHas vs3 fd3.qualname = true)
    (v4 : (es.toList.find? (·.key.isStr (cmpInfo .LtE).2.1)).map (·.val) = some (.ref f4)) (t4 : tf4 = .type "function") (e4 : fd4 = cmpFd .LtE cell fd4) (k4 : fd4.code = .ref c4) (q4 : codeHas vs4 fd4.qualname = true)
    (v5 : (es.toList.find? (·.key.isStr (cmpInfo .GtE).2.1)).map (·.val) = some (.ref f5)) (t5 : tf5 = .type "function") (e5 : fd5 = cmpFd .GtE cell fd5) (k5 : fd5.code = .ref c5) (q5 : codeHas vs5 fd5.qualname = true) : KPure K C := by
  have G := kget_of hC hN hm hc Z
  exact kpure_of G (kmk_of hC hN hm G Z lI lIc vI tI eI kI qI) (fn_fact hC hN Z.mro Z.ns l1 m1 v1 t1 e1 k1 q1) (fn_fact hC hN Z.mro Z.ns l2 m2 v2 t2 e2 k2 q2) (fn_fact hC hN Z.mro Z.ns l3 m3 v3 t3 e3 k3 q3) (fn_fact hC hN Z.mro Z.ns l4 m4 v4 t4 e4 k4 q4) (fn_fact hC hN Z.mro Z.ns l5 m5 v5 t5 e5 k5 q5)
end
end Mine
end
section
open PySem PySem.W PySem.Calls PyProof.Rows
theorem Mine.fresh_KC0 {prog : Program} {w : World} {A : Around} {env : Env} {Q : Flow → Shared → Prop} {E : Value → Shared → Prop} {s : Shared} (h : Q .next s) : wpAny (model prog w) A (execs [] env) Q E s := by
  w_top off
  k_with_none
  walk1
  exact h
end
section
open PySem PySem.W PySem.Calls PyProof.Rows PySem.W.X
set_option Elab.async false
set_option maxRecDepth 100000
set_option maxHeartbeats 0
set_option pp.deepTerms false
set_option pp.deepTerms.threshold 8
namespace Mine
noncomputable abbrev AX : Around := { handled := none, depth := 950, frames := none, guards := none, units := 9500 }
theorem Lg.mem {g h h' : Heap} {l news : List (Addr × Obj)} (D : Lg g h l) (M : Mem h h' [] news) : Lg g h' (news ++ l) := by
  have k : Over h h' := fun b o e => M.keep b o e (by simp [away])
  refine ⟨D.keep.trans k, fun p hp => ?_, ?_⟩
  · rcases List.mem_append.mp hp with hp | hp
    · refine ⟨(M.nw p hp).1, ?_⟩
      cases q : g.get? p.1 with
      | none => rfl
      | some o => have := (M.nw p hp).2; rw [D.keep _ _ q] at this; cases this
    · exact ⟨k _ _ (D.ent p hp).1, (D.ent p hp).2⟩
  · rw [List.map_append, List.nodup_append]
    refine ⟨M.ord.imp (fun h => Nat.ne_of_gt h), D.nd, fun a ha b hb e => ?_⟩
    obtain ⟨p, hp, rfl⟩ := List.mem_map.mp ha
    obtain ⟨q, hq, rfl⟩ := List.mem_map.mp hb
    have := (M.nw p hp).2
    rw [e, (D.ent q hq).1] at this
    cases this
section
variable {α : Type} {M : Model} {A : Around} {E : Value → Shared → Prop} {h g : Heap} {gs : Array GenState} {d : Drawn} {t : Nat} {os : OsState} {r : List (Addr × Obj)} {a : Addr} {o o' : Obj} {p p2 : Addr × Obj} {Q : α → Shared → Prop} {part : Option Value}
theorem jn_upd0 {f : Obj → Obj} {k : Unit → Sem α} (D : Lg g h ((a, o) :: r)) (e : f o = o') (hf : o'.isFreed = false) (q : ∀ h', Lg g h' ((a, o') :: r) → wpAny M A (k ()) Q E ⟨h', gs, d, t, os⟩) : wpAny M A (.update a part f k) Q E ⟨h, gs, d, t, os⟩ := jn_update D .head e hf q
theorem jn_upd1 {f : Obj → Obj} {k : Unit → Sem α} (D : Lg g h (p :: (a, o) :: r)) (e : f o = o') (hf : o'.isFreed = false) (q : ∀ h', Lg g h' (p :: (a, o') :: r) → wpAny M A (k ()) Q E ⟨h', gs, d, t, os⟩) : wpAny M A (.update a part f k) Q E ⟨h, gs, d, t, os⟩ := jn_update D (.tail .head) e hf q
theorem jn_upd2 {f : Obj → Obj} {k : Unit → Sem α} (D : Lg g h (p :: p2 :: (a, o) :: r)) (e : f o = o') (hf : o'.isFreed = false) (q : ∀ h', Lg g h' (p :: p2 :: (a, o') :: r) → wpAny M A (k ()) Q E ⟨h', gs, d, t, os⟩) : wpAny M A (.update a part f k) Q E ⟨h, gs, d, t, os⟩ := jn_update D (.tail (.tail .head)) e hf q
end
section
variable {prog : Program} {w : World} {A : Around} {E : Value → Shared → Prop} {g h : Heap} {gs : Array GenState} {d : Drawn} {t : Nat} {os : OsState} {ls : Addr} {u3 : Tok} {l : List (Addr × Obj)}
theorem collect0 {Q : Value → Shared → Prop} (hls : h.get? ls = some ⟨.type "list", none, .seq ⟨[.str (Str.ofString "obj") u3]⟩ 0, ⟨[]⟩⟩) (hq : ∀ a h' t' n, Mem h h' [] [(a, ⟨.type "list", none, .seq ⟨[.str (Str.ofString "obj") u3]⟩ n, ⟨[]⟩⟩)] → Q (.ref a) ⟨h', gs, d, t', os⟩) :
    wpAny (model prog w) AX (runValue (.builtin "proto.collect" ⟨[.ref ls], []⟩)) Q E ⟨h, gs, d, t, os⟩ := by
  show wpAny _ _ (run _ >>= _) _ _ _
  refine wpAny_bind ?_
  x_run
theorem collect_ls {Q : Value → Shared → Prop} (hA : A.handled = none) (hd : A.depth ≤ 950) (hu : A.units ≤ 9500) (D : Lg g h l) (hls : g.get? ls = some ⟨.type "list", none, .seq ⟨[.str (Str.ofString "obj") u3]⟩ 0, ⟨[]⟩⟩) (hq : ∀ a h' t' n, Lg g h' ((a, ⟨.type "list", none, .seq ⟨[.str (Str.ofString "obj") u3]⟩ n, ⟨[]⟩⟩) :: l) → Q (.ref a) ⟨h', gs, d, t', os⟩) :
    wpAny (model prog w) A (runValue (.builtin "proto.collect" ⟨[.ref ls], []⟩)) Q E ⟨h, gs, d, t, os⟩ :=
  wpAny_le hA hd rfl rfl hu (collect0 (D.keep _ _ hls) fun a h' t' n M => hq a h' t' n (D.mem M))
end
theorem lookup_nodup : ∀ {l : List (Addr × Obj)}, (l.map (·.1)).Nodup → ∀ {a o}, (a, o) ∈ l → l.lookup a = some o
  | [], _, _, _, hm => nomatch hm
  | (b, p) :: l, hn, a, o, hm => by
    rw [List.map_cons, List.nodup_cons] at hn
    rcases List.mem_cons.mp hm with e | hm
    · cases e; simp [List.lookup_cons]
    · have : b ≠ a := fun e => hn.1 (e ▸ List.mem_map_of_mem (f := (·.1)) hm)
      rw [List.lookup_cons]
      have : (a == b) = false := beq_eq_false_iff_ne.mpr (Ne.symm this)
      rw [this]
      exact lookup_nodup hn.2 hm
theorem Lg.frag {g h : Heap} {l : List (Addr × Obj)} (D : Lg g h l) : Frag.In l h := fun _ _ e => (D.ent _ (mem_lookup e)).1
theorem obj_new : alongIn [] "__new__" [.type "object"] = some (some (.builtin "object.__new__")) := by kernel_rfl
section
variable {M : Model} {g h : Heap} {l : List (Addr × Obj)} {a N : Addr} {tC tN : Value} {dC dN : Option Addr} {cd : ClassData} {sC sN : Array (Option Value)} {es : Array DictEntry} {n : Nat}
theorem refresh_lk (D : Lg g h l) (hC : (a, (⟨tC, dC, .cls cd, sC⟩ : Obj)) ∈ l) (hN : (N, (⟨tN, dN, .dict es n, sN⟩ : Obj)) ∈ l) (e1 : cd.mro = [.ref a, .type "object"]) (e2 : cd.ns = N)
    (hs : (sC[4]?).join = some (.builtin "object.__new__")) (hv : (es.toList.find? (·.key.isStr "__new__")).isNone = true) (hr : es.toList.any (·.refKey) = false) : Looks M h (Bind.refreshMaker a) () := by
  have f := find_obj (K := l) (lookup_nodup D.nd hC) (lookup_nodup D.nd hN) e1 e2 hv hr obj_new
  have f1 : Looks M h (typeLookup (.ref a) "__new__") (some (.builtin "object.__new__")) := looks_findIn D.frag f
  have f2 : Looks M h (slotAt a 4) (some (.builtin "object.__new__")) := by
    have := (Looks.ld (M := M) (part := some (slotPart 4)) (D.get hC)).andThen (f := fun o => pure (o.slots[4]?.join)) .now
    dsimp only at this
    rw [hs] at this
    exact this
  unfold Bind.refreshMaker
  refine f2.andThen ?_
  (refine (?_ : (fun T2 T1 : Prop => T2 → (T2 → T1) → T1) _ _) ?_ (by intro h; dsimp only [Option.isNone]; exact h); exact fun p _ => p)
  refine f1.andThen ?_
  (refine (?_ : (fun T2 T1 : Prop => T2 → (T2 → T1) → T1) _ _) ?_ (by intro h; dsimp only; exact h); exact fun p _ => p)
  rw [show ("object.__new__".endsWith ".__new__") = true from by kernel_rfl]
  exact .now
end
theorem inst_of {M : Model} {h : Heap} {a : Addr} {o : Obj} {T : String} {b : Value} {r : Bool} (e : h.get? a = some o) (hc : o.cls = .type T) (hs : subIn [] (.type T) b = some r) : Looks M h (isInstance (.ref a) b) r := by
  have t1 : Looks M h (typeOf (.ref a)) (.type T) := by
    have := (Looks.ld (M := M) (part := none) e).andThen (f := fun o => pure o.cls) .now
    rw [hc] at this
    exact this
  exact t1.andThen (looks_subIn (K := []) (fun _ _ h => nomatch h) hs)
theorem spec_of {M : Model} {h : Heap} {a : Addr} {o : Obj} {T : String} {name : Str} {r : Option Value} (e : h.get? a = some o) (hc : o.cls = .type T) (hs : findIn [] (.type T) name = some r) : Looks M h (specialOf (.ref a) name) r := by
  have t1 : Looks M h (typeOf (.ref a)) (.type T) := by
    have := (Looks.ld (M := M) (part := none) e).andThen (f := fun o => pure o.cls) .now
    rw [hc] at this
    exact this
  exact t1.andThen (looks_findIn (K := []) (fun _ _ h => nomatch h) hs)
theorem sub_of {M : Model} {h : Heap} {T : String} {b : Value} {r : Bool} (hs : subIn [] (.type T) b = some r) : Looks M h (isSubtype (.type T) b) r := looks_subIn (K := []) (fun _ _ h => nomatch h) hs
end Mine
end
section
open PySem PySem.W PySem.Calls PyProof.Rows
theorem Mine.fresh_KU {prog : Program} {w : World} {A : Around} {env : Env} {Q : Flow → Shared → Prop} {E : Value → Shared → Prop} {s : Shared} (h : Q .next s) : wpAny (model prog w) A (execs [] env) Q E s := by
  w_top off
  k_with_none
  walk1
  exact h
end
section
open PySem PySem.W PySem.Calls PyProof.Rows PySem.W.X
set_option Elab.async false
set_option maxRecDepth 100000
set_option maxHeartbeats 0
set_option pp.deepTerms false
set_option pp.deepTerms.threshold 8
namespace Mine
theorem w_itef {α : Type} {M : Model} {A : Around} {E : Value → Shared → Prop} {s : Shared} {Q : α → Shared → Prop} {b : Bool} {x y : Sem α} (hb : b = false) (q : wpAny M A y Q E s) : wpAny M A (if b = true then x else y) Q E s := by rw [hb]; exact q
theorem w_itet {α : Type} {M : Model} {A : Around} {E : Value → Shared → Prop} {s : Shared} {Q : α → Shared → Prop} {b : Bool} {x y : Sem α} (hb : b = true) (q : wpAny M A x Q E s) : wpAny M A (if b = true then x else y) Q E s := by rw [hb]; exact q
theorem entry_sg : entryFor table "super.__getattribute__" = some Builtin.«super.__getattribute__» := entryFor_of_tree (by kernel_rfl)
theorem sg_plain : plainId "super.__getattribute__" = true := by decide +kernel
theorem sg_kind : builtinKind "super.__getattribute__" = some .slot := by decide +kernel
theorem sg_split : splitId "super.__getattribute__" = some ("super", "__getattribute__") := by decide +kernel
theorem sg_args (a b : Value) : argsOk "super.__getattribute__" ⟨[a, b], []⟩ := by unfold argsOk; kernel_rfl
theorem tl_sg : typeLookup (.type "super") (Str.ofString "__getattribute__") = pure (some (.builtin "super.__getattribute__")) := by rw [typeLookup_type, builtinLookup_eq_fast]; kernel_rfl
theorem bs_sg (o : Value) : bindSpecial (.builtin "super.__getattribute__") o = pure (.builtin "super.__getattribute__", [o]) := by
  first | kernel_rfl | (unfold bindSpecial; kernel_rfl)
theorem own_is : classOwn (.type "object") (Str.ofString "__init_subclass__") = pure (some (.builtin "object.__init_subclass__")) := by kernel_rfl
theorem ty_is : typeOf (.builtin "object.__init_subclass__") = pure (.type "classmethod_descriptor") := by kernel_rfl
theorem tl_is : typeLookup (.type "classmethod_descriptor") (Str.ofString "__get__") = pure (some (.builtin "classmethod_descriptor.__get__")) := by rw [typeLookup_type, builtinLookup_eq_fast]; kernel_rfl
theorem after_is (C : Addr) : List.drop 1 (List.dropWhile (fun x => x != Value.ref C) [Value.ref C, Value.type "object"]) = [Value.type "object"] := by simp
section
variable {prog : Program} {w : World} {A : Around} {E : Value → Shared → Prop} {g h : Heap} {gs : Array GenState} {d : Drawn} {t : Nat} {os : OsState} {C N S f : Addr} {l : List (Addr × Obj)} {sl : Array (Option Value)}
noncomputable abbrev kcd (C N : Addr) : ClassData := { name := Str.ofString "K", bases := [.type "object"], mro := [.ref C, .type "object"], ns := N, qualname := Str.ofString "cmp_to_key.<locals>.K", hasDict := false, slotNames := [Str.ofString "obj"], subclasses := [], abstract := false, collection := none, hasDel := false }
noncomputable abbrev supObj (C : Addr) : Obj := ⟨.type "super", none, .fields ⟨[.ref C, .ref C, .ref C]⟩, ⟨[]⟩⟩
noncomputable abbrev isObj (C : Addr) : Obj := ⟨.type "builtin_function_or_method", none, .fields ⟨[.builtin "object.__init_subclass__", .ref C]⟩, ⟨[]⟩⟩
theorem super0 {Q : Value → Shared → Prop} (hC : h.get? C = some ⟨.type "type", none, .cls { name := Str.ofString "K", bases := [.type "object"], mro := [.ref C, .type "object"], ns := N, qualname := Str.ofString "cmp_to_key.<locals>.K", hasDict := false, slotNames := [Str.ofString "obj"], subclasses := [], abstract := false, collection := none, hasDel := false }, sl⟩)
    (hq : ∀ a h' t', Mem h h' [] [(a, ⟨.type "super", none, .fields ⟨[.ref C, .ref C, .ref C]⟩, ⟨[]⟩⟩)] → Q (.ref a) ⟨h', gs, d, t', os⟩) :
    wpAny (model prog w) AX (call (.type "super") [.ref C, .ref C]) Q E ⟨h, gs, d, t, os⟩ := by
  x_run
theorem cmget0 {Q : Value → Shared → Prop} (hC : h.get? C = some ⟨.type "type", none, .cls { name := Str.ofString "K", bases := [.type "object"], mro := [.ref C, .type "object"], ns := N, qualname := Str.ofString "cmp_to_key.<locals>.K", hasDict := false, slotNames := [Str.ofString "obj"], subclasses := [], abstract := false, collection := none, hasDel := false }, sl⟩)
    (hq : ∀ a h' t', Mem h h' [] [(a, ⟨.type "builtin_function_or_method", none, .fields ⟨[.builtin "object.__init_subclass__", .ref C]⟩, ⟨[]⟩⟩)] → Q (.ref a) ⟨h', gs, d, t', os⟩) :
    wpAny (model prog w) AX (call (.builtin "classmethod_descriptor.__get__") [.builtin "object.__init_subclass__", .none, .ref C]) Q E ⟨h, gs, d, t, os⟩ := by
  x_run
theorem initsub0 {Q : Value → Shared → Prop} (hC : h.get? C = some ⟨.type "type", none, .cls { name := Str.ofString "K", bases := [.type "object"], mro := [.ref C, .type "object"], ns := N, qualname := Str.ofString "cmp_to_key.<locals>.K", hasDict := false, slotNames := [Str.ofString "obj"], subclasses := [], abstract := false, collection := none, hasDel := false }, sl⟩)
    (hf : h.get? f = some ⟨.type "builtin_function_or_method", none, .fields ⟨[.builtin "object.__init_subclass__", .ref C]⟩, ⟨[]⟩⟩)
    (hq : ∀ t', Q .none ⟨h, gs, d, t', os⟩) :
    wpAny (model prog w) AX (call (.ref f) []) Q E ⟨h, gs, d, t, os⟩ := by
  x_run
theorem super_lg {Q : Value → Shared → Prop} (hA : A.handled = none) (hd : A.depth ≤ 950) (hu : A.units ≤ 9500) (D : Lg g h l) (hC : (C, (⟨.type "type", none, .cls (kcd C N), sl⟩ : Obj)) ∈ l)
    (hq : ∀ a h' t', Lg g h' ((a, supObj C) :: l) → Q (.ref a) ⟨h', gs, d, t', os⟩) : wpAny (model prog w) A (call (.type "super") [.ref C, .ref C]) Q E ⟨h, gs, d, t, os⟩ :=
  wpAny_le hA hd rfl rfl hu (super0 (D.get hC) fun a h' t' M => hq a h' t' (D.mem M))
theorem cmget_lg {Q : Value → Shared → Prop} (hA : A.handled = none) (hd : A.depth ≤ 950) (hu : A.units ≤ 9500) (D : Lg g h l) (hC : (C, (⟨.type "type", none, .cls (kcd C N), sl⟩ : Obj)) ∈ l)
    (hq : ∀ a h' t', Lg g h' ((a, isObj C) :: l) → Q (.ref a) ⟨h', gs, d, t', os⟩) : wpAny (model prog w) A (call (.builtin "classmethod_descriptor.__get__") [.builtin "object.__init_subclass__", .none, .ref C]) Q E ⟨h, gs, d, t, os⟩ :=
  wpAny_le hA hd rfl rfl hu (cmget0 (D.get hC) fun a h' t' M => hq a h' t' (D.mem M))
theorem initsub_lg {Q : Value → Shared → Prop} (hA : A.handled = none) (hd : A.depth ≤ 950) (hu : A.units ≤ 9500) (D : Lg g h l) (hC : (C, (⟨.type "type", none, .cls (kcd C N), sl⟩ : Obj)) ∈ l) (hf : (f, isObj C) ∈ l)
    (hq : ∀ t', Q .none ⟨h, gs, d, t', os⟩) : wpAny (model prog w) A (call (.ref f) []) Q E ⟨h, gs, d, t, os⟩ :=
  wpAny_le hA hd rfl rfl hu (initsub0 (D.get hC) (D.get hf) hq)
theorem typeOf_sup {M : Model} (D : Lg g h l) (hS : (S, supObj C) ∈ l) : Looks M h (typeOf (.ref S)) (.type "super") := (Looks.ld (part := none) (D.get hS)).andThen .now
theorem super_tree {Q : Value → Shared → Prop} {tk : Tok} (KY : (hy w.params).In g) (hA : A.handled = none) (hd : A.depth ≤ 900) (hu : A.units ≤ 9000) (D : Lg g h l) (hC : (C, (⟨.type "type", none, .cls (kcd C N), sl⟩ : Obj)) ∈ l) (hS : (S, supObj C) ∈ l)
    (hq : ∀ a h' t', Lg g h' ((a, isObj C) :: l) → Q (.ref a) ⟨h', gs, d, t', os⟩) :
    wpAny (model prog w) A (Builtin.«super.__getattribute__» ⟨[.ref S, .str (Str.ofString "__init_subclass__") tk], []⟩) (fun fin s' => match fin with | .done (.ret v) => Q v s' | _ => False) E ⟨h, gs, d, t, os⟩ := by
  have e1 : (Value.ref C == Value.none) = false := rfl
  unfold Builtin.«super.__getattribute__»
  repeat ((first | ((with_reducible show wpAny _ _ (forIn (List.drop 1 _) _ _) _ _ _); show wpAny _ _ (forIn (List.drop 1 (List.dropWhile (fun x => x != Value.ref C) [Value.ref C, Value.type "object"])) _ _) _ _ _; rw [after_is]; (try with_reducible show wpAny _ _ _ _ _ _)) | ((with_reducible show wpAny _ _ (nsGet cStatics _) _ _ _); refine Looks.at (looks_nsIn (K := hy w.params) (KY.keeps D.keep) (r := none) (by kernel_rfl)) ?_; (try with_reducible show wpAny _ _ _ _ _ _)) | ((with_reducible show wpAny _ _ (typeOf (Value.ref S)) _ _ _); refine Looks.at (typeOf_sup D hS) ?_; (try with_reducible show wpAny _ _ _ _ _ _)) | ((with_reducible show wpAny _ _ (classOwn (Value.type "object") (Str.ofString "__init_subclass__")) _ _ _); refine Looks.at (Looks.of_pure own_is) ?_; (try with_reducible show wpAny _ _ _ _ _ _)) | ((with_reducible show wpAny _ _ (typeOf (Value.builtin "object.__init_subclass__")) _ _ _); refine Looks.at (Looks.of_pure ty_is) ?_; (try with_reducible show wpAny _ _ _ _ _ _)) | ((with_reducible show wpAny _ _ (typeLookup (Value.type "classmethod_descriptor") _) _ _ _); refine Looks.at (Looks.of_pure tl_is) ?_; (try with_reducible show wpAny _ _ _ _ _ _)) | ((with_reducible show wpAny _ _ (PySem.call (Value.builtin "classmethod_descriptor.__get__") _ _) _ _ _); show wpAny _ _ (PySem.call _ [Value.builtin "object.__init_subclass__", if (Value.ref C == Value.ref C) = true then Value.none else Value.ref C, Value.ref C] []) _ _ _; rw [if_pos (show (Value.ref C == Value.ref C) = true by simp)]; refine cmget_lg hA (Nat.le_trans hd (Nat.le_of_ble_eq_true rfl)) (Nat.le_trans hu (Nat.le_of_ble_eq_true rfl)) D hC ?_; intro a h' t' D2; (try with_reducible show wpAny _ _ _ _ _ _)) | with_reducible refine wpAny_tryCatch ?_ | with_reducible refine wpAny_bind ?_ | with_reducible refine nd_bind ?_ | with_reducible refine wpAny_holding ?_ | with_reducible refine wpAny_onRaise ?_ | (with_reducible refine wpAny_pure ?_; (try with_reducible show wpAny _ _ _ _ _ _)) | (with_reducible refine nd_pure ?_; (try with_reducible show wpAny _ _ _ _ _ _)) | ((with_reducible show wpAny _ _ (Sem.load _ _ _) _ _ _); first | refine jn_load (by assumption) (by k_mem) ?_ | refine jn_load (by assumption) (by assumption) ?_ | refine jn_loadG (by assumption) (by assumption) ?_; (try with_reducible show wpAny _ _ _ _ _ _)) | ((with_reducible show wpAny _ _ (Sem.alloc _ _) _ _ _); refine jn_alloc (by assumption) rfl ?_; intro a h' D; (try with_reducible show wpAny _ _ _ _ _ _)) | (with_reducible refine nd_fresh ?_; (try with_reducible show wpAny _ _ _ _ _ _)) | (with_reducible refine nd_rule ?_; (try with_reducible show wpAny _ _ _ _ _ _)) | (with_reducible refine nd_point ?_; (try with_reducible show wpAny _ _ _ _ _ _)) | (with_reducible refine nd_ask ?_; (try with_reducible show wpAny _ _ _ _ _ _)) | k_node | (with_reducible refine w_itef (by assumption) ?_) | (refine w_itef (by kernel_rfl) ?_) | (refine w_itet (by kernel_rfl) ?_) | rw [after_is]))
  exact hq _ _ _ D2
theorem sg_call {Q : Value → Shared → Prop} {tk : Tok} (hA : A.in1.handled = none) (hd : A.in1.depth ≤ 900) (hu : A.in1.units ≤ 9000) (KY : (hy w.params).In g) (D : Lg g h l) (hC : (C, (⟨.type "type", none, .cls (kcd C N), sl⟩ : Obj)) ∈ l) (hS : (S, supObj C) ∈ l)
    (hq : ∀ a h' t', Lg g h' ((a, isObj C) :: l) → Q (.ref a) ⟨h', gs, d, t', os⟩) :
    wpAny (model prog w) A (call (.builtin "super.__getattribute__") [.ref S, .str (Str.ofString "__init_subclass__") tk]) Q E ⟨h, gs, d, t, os⟩ := by
  have F1 := inst_of (M := model prog w) (b := .type "super") (r := true) (D.get hS) rfl (by kernel_rfl)
  refine wpAny_call ?_
  refine codeAny_call_builtin sg_plain entry_sg (@check_slot (model prog w) _ _ _ "super.__getattribute__" "super" "__getattribute__" (.ref S) [.str (Str.ofString "__init_subclass__") tk] [] _ sg_kind sg_split F1 (sg_args (.ref S) (.str (Str.ofString "__init_subclass__") tk)) ?_)
  have z := super_tree (prog := prog) (A := A.in1) (Q := Q) (E := E) (tk := tk) (gs := gs) (d := d) (t := t) (os := os) KY hA hd hu D hC hS hq
  refine wpAny_mono z (fun fin s' x => ?_) (fun e s' x => ?_)
  · cases fin with
    | done f => cases f with
      | ret v => exact x
      | brk => exact x.elim
      | cont => exact x.elim
      | next => exact x.elim
    | again c => exact x.elim
  · exact x
end
end Mine
end
section
open PySem PySem.W PySem.Calls PyProof.Rows
theorem Mine.fresh_KU2 {prog : Program} {w : World} {A : Around} {env : Env} {Q : Flow → Shared → Prop} {E : Value → Shared → Prop} {s : Shared} (h : Q .next s) : wpAny (model prog w) A (execs [] env) Q E s := by
  w_top off
  k_with_none
  walk1
  exact h
end
section
open PySem PySem.W PySem.Calls PyProof.Rows PySem.W.X
set_option Elab.async false
set_option maxRecDepth 100000
set_option maxHeartbeats 400000
set_option pp.deepTerms false
set_option pp.deepTerms.threshold 8
namespace Mine
section
variable {prog : Program} {w : World} {A : Around} {E : Value → Shared → Prop} {g h : Heap} {gs : Array GenState} {d : Drawn} {t : Nat} {os : OsState} {C N S f : Addr} {l : List (Addr × Obj)} {sl : Array (Option Value)}
theorem super_attr {Q : Value → Shared → Prop} (hA : A.in1.handled = none) (hd : A.in1.depth ≤ 900) (hu : A.in1.units ≤ 9000) (KY : (hy w.params).In g) (D : Lg g h l) (hC : (C, (⟨.type "type", none, .cls (kcd C N), sl⟩ : Obj)) ∈ l) (hS : (S, supObj C) ∈ l)
    (hq : ∀ a h' t', Lg g h' ((a, isObj C) :: l) → Q (.ref a) ⟨h', gs, d, t', os⟩) :
    wpAny (model prog w) A (getAttr (.ref S) (Str.ofString "__init_subclass__")) Q E ⟨h, gs, d, t, os⟩ := by
  unfold getAttr getAttrBy
  refine wpAny_bind (wpAny_mkText (wpAny_holding (wpAny_bind ((typeOf_sup D hS).at (wpAny_bind (wpAny_of_eq tl_sg ?_))))))
  show wpAny _ _ (getAttrByItsOwn (.ref S) (.str (Str.ofString "__init_subclass__") t) (.type "super") (.builtin "super.__getattribute__") true false) Q E ⟨h, gs, d, t + 1, os⟩
  unfold getAttrByItsOwn
  refine wpAny_bind ?_
  refine wpAny_of_eq (show hookBefore (.type "super") = pure none from rfl) ?_
  refine wpAny_bind (wpAny_attempt (wpAny_holding ?_))
  show wpAny _ _ (boundAndCalled (.builtin "super.__getattribute__") (.ref S) (.str (Str.ofString "__init_subclass__") t)) _ _ _
  unfold boundAndCalled
  refine wpAny_bind (wpAny_of_eq (bs_sg _) ?_)
  show wpAny _ _ (PySem.call (.builtin "super.__getattribute__") [.ref S, .str (Str.ofString "__init_subclass__") t] []) _ _ ⟨h, gs, d, t + 1, os⟩
  refine sg_call (tk := t) hA hd hu KY D hC hS fun a h' t' D' => ?_
  exact wpAny_pure (hq _ _ _ D')
end
end Mine
end
section
open PySem PySem.W PySem.Calls PyProof.Rows
theorem Mine.fresh_KU3 {prog : Program} {w : World} {A : Around} {env : Env} {Q : Flow → Shared → Prop} {E : Value → Shared → Prop} {s : Shared} (h : Q .next s) : wpAny (model prog w) A (execs [] env) Q E s := by
  w_top off
  k_with_none
  walk1
  exact h
end
section
open PySem PySem.W PySem.Calls PyProof.Rows
set_option Elab.async false
set_option maxRecDepth 100000
set_option maxHeartbeats 4000000
set_option pp.deepTerms false
set_option pp.deepTerms.threshold 8
namespace Mine
theorem mro_obj : mroOf (.type "object") = pure [.type "object"] := by kernel_rfl
theorem ext_obj : Builtin.extendedBase [.type "object"] = pure (.type "object") := by kernel_rfl
theorem turned_obj : Builtin.notOverATurnedClass [.type "object"] = pure () := by kernel_rfl
theorem typeOf_obj : typeOf (.type "object") = pure (.type "type") := by kernel_rfl
theorem isType_obj : isType (.type "object") = pure true := by kernel_rfl
theorem id_obj : Builtin.Slots.isIdentifier (Str.ofString "obj") = some true := by kernel_rfl
theorem filt_self (a : Addr) : List.filter (fun x => x != Value.ref a) (Value.ref a :: (fun x => Value.type "object" :: x) []) = [Value.type "object"] := by
  simp
theorem made_obj : Bind.madeBy (.type "object") = pure (some "object.__new__") := by kernel_rfl
theorem weak_obj : Builtin.Slots.givesWeak (.type "object") = pure false := by kernel_rfl
theorem dict_obj : Builtin.Slots.givesDict (.type "object") = pure false := by kernel_rfl
theorem own_new : classOwn (.type "object") (Str.ofString "__new__") = pure (some (.builtin "object.__new__")) := by kernel_rfl
theorem note_obj (a : Addr) : Builtin.noteSubclassOfBuiltin "object" a = pure () := by kernel_rfl
noncomputable def tokOf (o : Obj) : Tok := match o.data with | .fields vs => (match (vs[0]? : Option Value) with | some (.str _ t) => t | _ => 0) | _ => 0
noncomputable def entTok (o : Obj) (i : Nat) : Tok := match o.data with | .dict es _ => (match (es[i]? : Option DictEntry) with | some e => (match e.key with | .str _ t => t | _ => 0) | none => 0) | _ => 0
noncomputable def epoOf (o : Obj) : Nat := match o.data with | .dict _ n => n | _ => 0
noncomputable abbrev mdF (t : Tok) (C : Addr) : Obj := ⟨.type "member_descriptor", none, .fields ⟨[.str (Str.ofString "obj") t, .ref C, .builtin "proto.slot", .builtin "proto.slot#set", .int 0 0]⟩, ⟨[]⟩⟩
section
variable {w : World} {B N0 ls sa f0 f1 f2 f3 f4 f5 : Addr} {k0 k2 k3 k4 k5 k6 k7 k8 k9 k10 k11 u0 u1 u2 u3 u4 tn : Tok}
noncomputable abbrev clsF (B : Addr) (tn u1 : Tok) (C N : Addr) : Obj := ⟨.type "type", none, .cls (kcd C N), ⟨[some (.ref B), none, some (.str (Str.ofString "K") tn), some (.str (Str.ofString "cmp_to_key.<locals>.K") u1), some (.builtin "object.__new__"), some (.bool false)]⟩⟩
noncomputable abbrev nsEs (w : World) (ls sa f0 f1 f2 f3 f4 f5 : Addr) (k0 k2 k3 k4 k5 k6 k7 k8 k9 k10 k11 u0 u2 : Tok) (md : Addr) (ta tb : Tok) : List DictEntry := [⟨PyData.keyHash w.params (Str.ofString "__module__"), .str (Str.ofString "__module__") k0, .str (Str.ofString "cpy313.functools") u0⟩, ⟨PyData.keyHash w.params (Str.ofString "__firstlineno__"), .str (Str.ofString "__firstlineno__") k2, .int 7 u2⟩, ⟨PyData.keyHash w.params (Str.ofString "__slots__"), .str (Str.ofString "__slots__") k3, .ref ls⟩, ⟨PyData.keyHash w.params (Str.ofString "__init__"), .str (Str.ofString "__init__") k4, .ref f0⟩, ⟨PyData.keyHash w.params (Str.ofString "__lt__"), .str (Str.ofString "__lt__") k5, .ref f1⟩, ⟨PyData.keyHash w.params (Str.ofString "__gt__"), .str (Str.ofString "__gt__") k6, .ref f2⟩, ⟨PyData.keyHash w.params (Str.ofString "__eq__"), .str (Str.ofString "__eq__") k7, .ref f3⟩, ⟨PyData.keyHash w.params (Str.ofString "__le__"), .str (Str.ofString "__le__") k8, .ref f4⟩, ⟨PyData.keyHash w.params (Str.ofString "__ge__"), .str (Str.ofString "__ge__") k9, .ref f5⟩, ⟨PyData.keyHash w.params (Str.ofString "__hash__"), .str (Str.ofString "__hash__") k10, .none⟩, ⟨PyData.keyHash w.params (Str.ofString "__static_attributes__"), .str (Str.ofString "__static_attributes__") k11, .ref sa⟩, ⟨PyData.keyHash w.params (Str.ofString "obj"), .str (Str.ofString "obj") ta, .ref md⟩, ⟨PyData.keyHash w.params (Str.ofString "__doc__"), .str (Str.ofString "__doc__") tb, .none⟩]
theorem tn_conv {g h : Heap} {md C N L0 : Addr} {o1 o2 o3 o4 : Obj} (D : Lg g h [(md, o1), (C, o2), (N, o3), (L0, o4)]) (e1 : o1 = mdF (tokOf o1) C) (e2 : o2 = clsF B tn u1 C N) (e3 : o3 = ⟨.type "dict", none, .dict (nsEs w ls sa f0 f1 f2 f3 f4 f5 k0 k2 k3 k4 k5 k6 k7 k8 k9 k10 k11 u0 u2 md (entTok o3 11) (entTok o3 12)).toArray (epoOf o3), ⟨[]⟩⟩) :
    ∃ ta tb tc n, Lg g h [(md, mdF ta C), (C, clsF B tn u1 C N), (N, ⟨.type "dict", none, .dict (nsEs w ls sa f0 f1 f2 f3 f4 f5 k0 k2 k3 k4 k5 k6 k7 k8 k9 k10 k11 u0 u2 md tb tc).toArray n, ⟨[]⟩⟩), (L0, o4)] := by
  refine ⟨tokOf o1, entTok o3 11, entTok o3 12, epoOf o3, ?_⟩
  rw [← e1, ← e2, ← e3]
  exact D
end
theorem entry_tn : entryFor table "type.__new__" = some Builtin.«type.__new__» := entryFor_of_tree (by kernel_rfl)
section
variable {prog : Program} {w : World} {A : Around} {R : Result → Shared → Prop} {h : Heap} {gs : Array GenState} {d : Drawn} {t : Nat} {os : OsState} {B N0 ls sa f0 f1 f2 f3 f4 f5 : Addr} {k0 k1 k2 k3 k4 k5 k6 k7 k8 k9 k10 k11 u0 u1 u2 u3 u4 tn : Tok} {fd0 fd1 fd2 fd3 fd4 fd5 : FuncData} {vsa : Array Value}
theorem tnew0 (KY : (hy w.params).In h) (hA1 : (A.under (.builtin "type.__new__" ⟨[.type "type", .str (Str.ofString "K") tn, .ref B, .ref N0], []⟩)).in1.handled = none) (hd1 : (A.under (.builtin "type.__new__" ⟨[.type "type", .str (Str.ofString "K") tn, .ref B, .ref N0], []⟩)).in1.depth ≤ 900) (hu1 : (A.under (.builtin "type.__new__" ⟨[.type "type", .str (Str.ofString "K") tn, .ref B, .ref N0], []⟩)).in1.units ≤ 9000)
    (hq : ∀ l C N md ta tb tc n h' t', Lg h h' l → (md, mdF ta C) ∈ l → (C, clsF B tn u1 C N) ∈ l → (N, (⟨.type "dict", none, .dict (nsEs w ls sa f0 f1 f2 f3 f4 f5 k0 k2 k3 k4 k5 k6 k7 k8 k9 k10 k11 u0 u2 md tb tc).toArray n, ⟨[]⟩⟩ : Obj)) ∈ l → R (.ok (.ret (.ref C))) ⟨h', gs, d, t', os⟩)
    (hB : h.get? B = some ⟨.type "tuple", none, .seq ⟨[.type "object"]⟩ 0, ⟨[]⟩⟩) (hN : h.get? N0 = some ⟨.type "dict", none, .dict ⟨[⟨PyData.keyHash w.params (Str.ofString "__module__"), .str (Str.ofString "__module__") k0, .str (Str.ofString "cpy313.functools") u0⟩, ⟨PyData.keyHash w.params (Str.ofString "__qualname__"), .str (Str.ofString "__qualname__") k1, .str (Str.ofString "cmp_to_key.<locals>.K") u1⟩, ⟨PyData.keyHash w.params (Str.ofString "__firstlineno__"), .str (Str.ofString "__firstlineno__") k2, .int 7 u2⟩, ⟨PyData.keyHash w.params (Str.ofString "__slots__"), .str (Str.ofString "__slots__") k3, .ref ls⟩, ⟨PyData.keyHash w.params (Str.ofString "__init__"), .str (Str.ofString "__init__") k4, .ref f0⟩, ⟨PyData.keyHash w.params (Str.ofString "__lt__"), .str (Str.ofString "__lt__") k5, .ref f1⟩, ⟨PyData.keyHash w.params (Str.ofString "__gt__"), .str (Str.ofString "__gt__") k6, .ref f2⟩, ⟨PyData.keyHash w.params (Str.ofString "__eq__"), .str (Str.ofString "__eq__") k7, .ref f3⟩, ⟨PyData.keyHash w.params (Str.ofString "__le__"), .str (Str.ofString "__le__") k8, .ref f4⟩, ⟨PyData.keyHash w.params (Str.ofString "__ge__"), .str (Str.ofString "__ge__") k9, .ref f5⟩, ⟨PyData.keyHash w.params (Str.ofString "__hash__"), .str (Str.ofString "__hash__") k10, .none⟩, ⟨PyData.keyHash w.params (Str.ofString "__static_attributes__"), .str (Str.ofString "__static_attributes__") k11, .ref sa⟩]⟩ 12, ⟨[]⟩⟩)
    (hls : h.get? ls = some ⟨.type "list", none, .seq ⟨[.str (Str.ofString "obj") u3]⟩ 0, ⟨[]⟩⟩) (hsa : h.get? sa = some ⟨.type "tuple", none, .seq vsa 0, ⟨[]⟩⟩)
    (h0 : h.get? f0 = some ⟨.type "function", none, .func fd0, ⟨[]⟩⟩) (h1 : h.get? f1 = some ⟨.type "function", none, .func fd1, ⟨[]⟩⟩) (h2 : h.get? f2 = some ⟨.type "function", none, .func fd2, ⟨[]⟩⟩)
    (h3 : h.get? f3 = some ⟨.type "function", none, .func fd3, ⟨[]⟩⟩) (h4 : h.get? f4 = some ⟨.type "function", none, .func fd4, ⟨[]⟩⟩) (h5 : h.get? f5 = some ⟨.type "function", none, .func fd5, ⟨[]⟩⟩) (hN1 : (N0 == sysModules) = false) (hA : (A.under (.builtin "type.__new__" ⟨[.type "type", .str (Str.ofString "K") tn, .ref B, .ref N0], []⟩)).handled = none) (hd : (A.under (.builtin "type.__new__" ⟨[.type "type", .str (Str.ofString "K") tn, .ref B, .ref N0], []⟩)).depth ≤ 900) (hu : (A.under (.builtin "type.__new__" ⟨[.type "type", .str (Str.ofString "K") tn, .ref B, .ref N0], []⟩)).units ≤ 9000) :
    codeAny (model prog w) A (.builtin "type.__new__" ⟨[.type "type", .str (Str.ofString "K") tn, .ref B, .ref N0], []⟩) R ⟨h, gs, d, t, os⟩ := by
  refine codeAny_builtin entry_tn ?_
  unfold Builtin.«type.__new__»
  have D : Lg h h [] := ⟨Over.rfl, (fun _ h => nomatch h), List.nodup_nil⟩
  repeat ((fail_if_success (with_reducible show wpAny _ _ (PySem.Sem.tryCatch _ _) _ _ _)); (first | ((with_reducible show wpAny _ _ (PySem.runValue _) _ _ _); refine collect_ls (ls := ls) hA (Nat.le_trans hd (Nat.le_of_ble_eq_true rfl)) (Nat.le_trans hu (Nat.le_of_ble_eq_true rfl)) (by assumption) hls ?_; intro a h' t' n D; (try with_reducible show wpAny _ _ _ _ _ _)) | ((with_reducible show wpAny _ _ (isInstance (Value.ref B) _) _ _ _); refine Looks.at (inst_of (r := true) (Lg.keep (by assumption) _ _ hB) rfl (by kernel_rfl)) ?_; (try with_reducible show wpAny _ _ _ _ _ _)) | ((with_reducible show wpAny _ _ (isInstance (Value.ref N0) _) _ _ _); refine Looks.at (inst_of (r := true) (Lg.keep (by assumption) _ _ hN) rfl (by kernel_rfl)) ?_; (try with_reducible show wpAny _ _ _ _ _ _)) | ((with_reducible show wpAny _ _ (Builtin.notOverATurnedClass _) _ _ _); refine Looks.at (Looks.of_pure turned_obj) ?_; (try with_reducible show wpAny _ _ _ _ _ _)) | ((with_reducible show wpAny _ _ (Builtin.extendedBase _) _ _ _); refine Looks.at (Looks.of_pure ext_obj) ?_; (try with_reducible show wpAny _ _ _ _ _ _)) | ((with_reducible show wpAny _ _ (specialOf (Value.ref N0) _) _ _ _); refine Looks.at (spec_of (r := some (.builtin "dict.__iter__")) (Lg.keep (by assumption) _ _ hN) rfl (by kernel_rfl)) ?_; (try with_reducible show wpAny _ _ _ _ _ _)) | ((with_reducible show wpAny _ _ (typeOf (Value.type "object")) _ _ _); refine Looks.at (Looks.of_pure typeOf_obj) ?_; (try with_reducible show wpAny _ _ _ _ _ _)) | ((with_reducible show wpAny _ _ (isType (Value.type "object")) _ _ _); refine Looks.at (Looks.of_pure isType_obj) ?_; (try with_reducible show wpAny _ _ _ _ _ _)) | ((with_reducible show wpAny _ _ (isSubtype (Value.type "type") (Value.type "type")) _ _ _); refine Looks.at (sub_of (r := true) (by kernel_rfl)) ?_; (try with_reducible show wpAny _ _ _ _ _ _)) | ((with_reducible show wpAny _ _ (Bind.madeBy _) _ _ _); refine Looks.at (Looks.of_pure made_obj) ?_; (try with_reducible show wpAny _ _ _ _ _ _)) | ((with_reducible show wpAny _ _ (Builtin.Slots.givesWeak (Value.type "object")) _ _ _); refine Looks.at (Looks.of_pure weak_obj) ?_; (try with_reducible show wpAny _ _ _ _ _ _)) | ((with_reducible show wpAny _ _ (Builtin.Slots.givesDict (Value.type "object")) _ _ _); refine Looks.at (Looks.of_pure dict_obj) ?_; (try with_reducible show wpAny _ _ _ _ _ _)) | ((with_reducible show wpAny _ _ (classOwn (Value.type "object") (Str.ofString "__new__")) _ _ _); refine Looks.at (Looks.of_pure own_new) ?_; (try with_reducible show wpAny _ _ _ _ _ _)) | ((with_reducible show wpAny _ _ (Bind.refreshMaker _) _ _ _); refine Looks.at (refresh_lk D List.mem_cons_self (List.mem_cons_of_mem _ List.mem_cons_self) rfl rfl (by kernel_rfl) (by kernel_rfl) (by kernel_rfl)) ?_; (try with_reducible show wpAny _ _ _ _ _ _)) | ((with_reducible show wpAny _ _ (Builtin.noteSubclassOfBuiltin "object" _) _ _ _); refine Looks.at (Looks.of_pure (note_obj _)) ?_; (try with_reducible show wpAny _ _ _ _ _ _)) | with_reducible refine wpAny_tryCatch ?_ | with_reducible refine wpAny_bind ?_ | with_reducible refine nd_bind ?_ | with_reducible refine wpAny_holding ?_ | with_reducible refine wpAny_onRaise ?_ | (with_reducible refine wpAny_pure ?_; (try with_reducible show wpAny _ _ _ _ _ _)) | (with_reducible refine nd_pure ?_; (try with_reducible show wpAny _ _ _ _ _ _)) | ((with_reducible show wpAny _ _ (Sem.load _ _ _) _ _ _); first | refine jn_load (by assumption) (by k_mem) ?_ | refine jn_loadG (by assumption) (by assumption) ?_; (try with_reducible show wpAny _ _ _ _ _ _)) | ((with_reducible show wpAny _ _ (Sem.alloc _ _) _ _ _); refine jn_alloc (by assumption) rfl ?_; intro a h' D; (try with_reducible show wpAny _ _ _ _ _ _)) | ((with_reducible show wpAny _ _ (Sem.update _ _ (Obj.dropName _) _) _ _ _); refine jn_upd1 (o' := ⟨.type "dict", none, .dict ⟨[⟨PyData.keyHash w.params (Str.ofString "__module__"), .str (Str.ofString "__module__") k0, .str (Str.ofString "cpy313.functools") u0⟩, ⟨PyData.keyHash w.params (Str.ofString "__firstlineno__"), .str (Str.ofString "__firstlineno__") k2, .int 7 u2⟩, ⟨PyData.keyHash w.params (Str.ofString "__slots__"), .str (Str.ofString "__slots__") k3, .ref ls⟩, ⟨PyData.keyHash w.params (Str.ofString "__init__"), .str (Str.ofString "__init__") k4, .ref f0⟩, ⟨PyData.keyHash w.params (Str.ofString "__lt__"), .str (Str.ofString "__lt__") k5, .ref f1⟩, ⟨PyData.keyHash w.params (Str.ofString "__gt__"), .str (Str.ofString "__gt__") k6, .ref f2⟩, ⟨PyData.keyHash w.params (Str.ofString "__eq__"), .str (Str.ofString "__eq__") k7, .ref f3⟩, ⟨PyData.keyHash w.params (Str.ofString "__le__"), .str (Str.ofString "__le__") k8, .ref f4⟩, ⟨PyData.keyHash w.params (Str.ofString "__ge__"), .str (Str.ofString "__ge__") k9, .ref f5⟩, ⟨PyData.keyHash w.params (Str.ofString "__hash__"), .str (Str.ofString "__hash__") k10, .none⟩, ⟨PyData.keyHash w.params (Str.ofString "__static_attributes__"), .str (Str.ofString "__static_attributes__") k11, .ref sa⟩]⟩ 1, ⟨[]⟩⟩) D (by kernel_rfl) rfl ?_; intro h' D; (try with_reducible show wpAny _ _ _ _ _ _)) | ((with_reducible show wpAny _ _ (Sem.update _ _ _ _) _ _ _); (first | refine jn_upd0 D rfl rfl ?_ | refine jn_upd1 D rfl rfl ?_ | refine jn_upd2 D rfl rfl ?_); intro h' D; (try dsimp only [Obj.mapCls] at D); (try with_reducible show wpAny _ _ _ _ _ _)) | (with_reducible refine nd_fresh ?_; (try with_reducible show wpAny _ _ _ _ _ _)) | (with_reducible refine nd_rule ?_; (try with_reducible show wpAny _ _ _ _ _ _)) | (with_reducible refine nd_point ?_; (try with_reducible show wpAny _ _ _ _ _ _)) | (with_reducible refine nd_ask ?_; (try with_reducible show wpAny _ _ _ _ _ _)) | k_node | (with_reducible refine w_itef (by assumption) ?_) | (refine w_itef (by kernel_rfl) ?_) | (refine w_itet (by kernel_rfl) ?_) | rw [id_obj] | rw [filt_self]))
  obtain ⟨ta, tb, tc, ne, D'⟩ := tn_conv (w := w) (ls := ls) (sa := sa) (f0 := f0) (f1 := f1) (f2 := f2) (f3 := f3) (f4 := f4) (f5 := f5) (k0 := k0) (k2 := k2) (k3 := k3) (k4 := k4) (k5 := k5) (k6 := k6) (k7 := k7) (k8 := k8) (k9 := k9) (k10 := k10) (k11 := k11) (u0 := u0) (u2 := u2) (B := B) (tn := tn) (u1 := u1) D (by kernel_rfl) (by kernel_rfl) (by kernel_rfl)
  clear D
  have D := D'
  clear D'
  repeat (first | ((with_reducible show wpAny _ _ (PySem.Sem.tryCatch _ _) _ _ _); refine wpAny_tryCatch ?_; (try with_reducible show wpAny _ _ _ _ _ _)) | ((with_reducible show wpAny _ _ (PySem.call (Value.type "super") _ _) _ _ _); refine super_lg hA (Nat.le_trans hd (Nat.le_of_ble_eq_true rfl)) (Nat.le_trans hu (Nat.le_of_ble_eq_true rfl)) D (by k_mem) ?_; clear D; intro S h' t' D; (try with_reducible show wpAny _ _ _ _ _ _)) | ((with_reducible show wpAny _ _ (getAttr _ _ _) _ _ _); refine super_attr hA1 hd1 hu1 KY D (by k_mem) (by k_mem) ?_; clear D; intro f h' t' D; (try with_reducible show wpAny _ _ _ _ _ _)) | ((with_reducible show wpAny _ _ (PySem.call (Value.ref _) _ _) _ _ _); refine initsub_lg hA (Nat.le_trans hd (Nat.le_of_ble_eq_true rfl)) (Nat.le_trans hu (Nat.le_of_ble_eq_true rfl)) D (by k_mem) (by k_mem) ?_; intro t'; (try with_reducible show wpAny _ _ _ _ _ _)) | ((with_reducible show wpAny _ _ (PySem.runValue _) _ _ _); refine collect_ls (ls := ls) hA (Nat.le_trans hd (Nat.le_of_ble_eq_true rfl)) (Nat.le_trans hu (Nat.le_of_ble_eq_true rfl)) (by assumption) hls ?_; intro a h' t' n D; (try with_reducible show wpAny _ _ _ _ _ _)) | ((with_reducible show wpAny _ _ (isInstance (Value.ref B) _) _ _ _); refine Looks.at (inst_of (r := true) (Lg.keep (by assumption) _ _ hB) rfl (by kernel_rfl)) ?_; (try with_reducible show wpAny _ _ _ _ _ _)) | ((with_reducible show wpAny _ _ (isInstance (Value.ref N0) _) _ _ _); refine Looks.at (inst_of (r := true) (Lg.keep (by assumption) _ _ hN) rfl (by kernel_rfl)) ?_; (try with_reducible show wpAny _ _ _ _ _ _)) | ((with_reducible show wpAny _ _ (Builtin.notOverATurnedClass _) _ _ _); refine Looks.at (Looks.of_pure turned_obj) ?_; (try with_reducible show wpAny _ _ _ _ _ _)) | ((with_reducible show wpAny _ _ (Builtin.extendedBase _) _ _ _); refine Looks.at (Looks.of_pure ext_obj) ?_; (try with_reducible show wpAny _ _ _ _ _ _)) | ((with_reducible show wpAny _ _ (specialOf (Value.ref N0) _) _ _ _); refine Looks.at (spec_of (r := some (.builtin "dict.__iter__")) (Lg.keep (by assumption) _ _ hN) rfl (by kernel_rfl)) ?_; (try with_reducible show wpAny _ _ _ _ _ _)) | ((with_reducible show wpAny _ _ (typeOf (Value.type "object")) _ _ _); refine Looks.at (Looks.of_pure typeOf_obj) ?_; (try with_reducible show wpAny _ _ _ _ _ _)) | ((with_reducible show wpAny _ _ (isType (Value.type "object")) _ _ _); refine Looks.at (Looks.of_pure isType_obj) ?_; (try with_reducible show wpAny _ _ _ _ _ _)) | ((with_reducible show wpAny _ _ (isSubtype (Value.type "type") (Value.type "type")) _ _ _); refine Looks.at (sub_of (r := true) (by kernel_rfl)) ?_; (try with_reducible show wpAny _ _ _ _ _ _)) | ((with_reducible show wpAny _ _ (Bind.madeBy _) _ _ _); refine Looks.at (Looks.of_pure made_obj) ?_; (try with_reducible show wpAny _ _ _ _ _ _)) | ((with_reducible show wpAny _ _ (Builtin.Slots.givesWeak (Value.type "object")) _ _ _); refine Looks.at (Looks.of_pure weak_obj) ?_; (try with_reducible show wpAny _ _ _ _ _ _)) | ((with_reducible show wpAny _ _ (Builtin.Slots.givesDict (Value.type "object")) _ _ _); refine Looks.at (Looks.of_pure dict_obj) ?_; (try with_reducible show wpAny _ _ _ _ _ _)) | ((with_reducible show wpAny _ _ (classOwn (Value.type "object") (Str.ofString "__new__")) _ _ _); refine Looks.at (Looks.of_pure own_new) ?_; (try with_reducible show wpAny _ _ _ _ _ _)) | ((with_reducible show wpAny _ _ (Bind.refreshMaker _) _ _ _); refine Looks.at (refresh_lk D List.mem_cons_self (List.mem_cons_of_mem _ List.mem_cons_self) rfl rfl (by kernel_rfl) (by kernel_rfl) (by kernel_rfl)) ?_; (try with_reducible show wpAny _ _ _ _ _ _)) | ((with_reducible show wpAny _ _ (Builtin.noteSubclassOfBuiltin "object" _) _ _ _); refine Looks.at (Looks.of_pure (note_obj _)) ?_; (try with_reducible show wpAny _ _ _ _ _ _)) | with_reducible refine wpAny_tryCatch ?_ | with_reducible refine wpAny_bind ?_ | with_reducible refine nd_bind ?_ | with_reducible refine wpAny_holding ?_ | with_reducible refine wpAny_onRaise ?_ | (with_reducible refine wpAny_pure ?_; (try with_reducible show wpAny _ _ _ _ _ _)) | (with_reducible refine nd_pure ?_; (try with_reducible show wpAny _ _ _ _ _ _)) | ((with_reducible show wpAny _ _ (Sem.load _ _ _) _ _ _); first | refine jn_load (by assumption) (by k_mem) ?_ | refine jn_loadG (by assumption) (by assumption) ?_; (try with_reducible show wpAny _ _ _ _ _ _)) | ((with_reducible show wpAny _ _ (Sem.alloc _ _) _ _ _); refine jn_alloc (by assumption) rfl ?_; intro a h' D; (try with_reducible show wpAny _ _ _ _ _ _)) | ((with_reducible show wpAny _ _ (Sem.update _ _ (Obj.dropName _) _) _ _ _); refine jn_upd1 (o' := ⟨.type "dict", none, .dict ⟨[⟨PyData.keyHash w.params (Str.ofString "__module__"), .str (Str.ofString "__module__") k0, .str (Str.ofString "cpy313.functools") u0⟩, ⟨PyData.keyHash w.params (Str.ofString "__firstlineno__"), .str (Str.ofString "__firstlineno__") k2, .int 7 u2⟩, ⟨PyData.keyHash w.params (Str.ofString "__slots__"), .str (Str.ofString "__slots__") k3, .ref ls⟩, ⟨PyData.keyHash w.params (Str.ofString "__init__"), .str (Str.ofString "__init__") k4, .ref f0⟩, ⟨PyData.keyHash w.params (Str.ofString "__lt__"), .str (Str.ofString "__lt__") k5, .ref f1⟩, ⟨PyData.keyHash w.params (Str.ofString "__gt__"), .str (Str.ofString "__gt__") k6, .ref f2⟩, ⟨PyData.keyHash w.params (Str.ofString "__eq__"), .str (Str.ofString "__eq__") k7, .ref f3⟩, ⟨PyData.keyHash w.params (Str.ofString "__le__"), .str (Str.ofString "__le__") k8, .ref f4⟩, ⟨PyData.keyHash w.params (Str.ofString "__ge__"), .str (Str.ofString "__ge__") k9, .ref f5⟩, ⟨PyData.keyHash w.params (Str.ofString "__hash__"), .str (Str.ofString "__hash__") k10, .none⟩, ⟨PyData.keyHash w.params (Str.ofString "__static_attributes__"), .str (Str.ofString "__static_attributes__") k11, .ref sa⟩]⟩ 1, ⟨[]⟩⟩) D (by kernel_rfl) rfl ?_; intro h' D; (try with_reducible show wpAny _ _ _ _ _ _)) | ((with_reducible show wpAny _ _ (Sem.update _ _ _ _) _ _ _); (first | refine jn_upd0 D rfl rfl ?_ | refine jn_upd1 D rfl rfl ?_ | refine jn_upd2 D rfl rfl ?_); intro h' D; (try dsimp only [Obj.mapCls] at D); (try with_reducible show wpAny _ _ _ _ _ _)) | (with_reducible refine nd_fresh ?_; (try with_reducible show wpAny _ _ _ _ _ _)) | (with_reducible refine nd_rule ?_; (try with_reducible show wpAny _ _ _ _ _ _)) | (with_reducible refine nd_point ?_; (try with_reducible show wpAny _ _ _ _ _ _)) | (with_reducible refine nd_ask ?_; (try with_reducible show wpAny _ _ _ _ _ _)) | k_node | (with_reducible refine w_itef (by assumption) ?_) | (refine w_itef (by kernel_rfl) ?_) | (refine w_itet (by kernel_rfl) ?_) | rw [id_obj] | rw [filt_self])
  exact hq _ _ _ _ _ _ _ _ _ _ D (by k_mem) (by k_mem) (by k_mem)
end
end Mine
end
section
open PySem PySem.W PySem.Calls PyProof.Rows
theorem Mine.fresh_KT2 {prog : Program} {w : World} {A : Around} {env : Env} {Q : Flow → Shared → Prop} {E : Value → Shared → Prop} {s : Shared} (h : Q .next s) : wpAny (model prog w) A (execs [] env) Q E s := by
  w_top off
  k_with_none
  walk1
  exact h
end
section
open PySem PySem.W PySem.Calls PyProof.Rows
set_option Elab.async false
set_option maxRecDepth 100000
set_option maxHeartbeats 400000
set_option pp.deepTerms false
set_option pp.deepTerms.threshold 8
namespace Mine
theorem made_type : Bind.madeBy (.type "type") = pure (some "type.__new__") := by kernel_rfl
theorem mro_type : mroOf (.type "type") = pure [.type "type", .type "object"] := by kernel_rfl
theorem chk_type (a b c : Value) : checkTypeCall "type" ⟨[a, b, c], []⟩ = pure () := by kernel_rfl
theorem tl_init : typeLookup (.type "type") (Str.ofString "__init__") = pure (some (.builtin "type.__init__")) := by rw [typeLookup_type, builtinLookup_eq_fast]; kernel_rfl
theorem bs_init (o : Value) : bindSpecial (.builtin "type.__init__") o = pure (.builtin "type.__init__", [o]) := by
  first | kernel_rfl | (unfold bindSpecial; kernel_rfl)
theorem entry_ti : entryFor table "type.__init__" = some Builtin.«type.__init__» := entryFor_of_tree (by kernel_rfl)
theorem ti_plain : plainId "type.__init__" = true := by decide +kernel
theorem ti_kind : builtinKind "type.__init__" = some .slot := by decide +kernel
theorem ti_split : splitId "type.__init__" = some ("type", "__init__") := by decide +kernel
theorem ti_args (a b c e : Value) : argsOk "type.__init__" ⟨[a, b, c, e], []⟩ := by unfold argsOk; kernel_rfl
theorem ti_run (a b c e : Value) : Builtin.«type.__init__» ⟨[a, b, c, e], []⟩ = pure (.done (.ret .none)) := by kernel_rfl
theorem chk_tn (a b c : Value) : checkBuiltinCall "type.__new__" ⟨[.type "type", a, b, c], []⟩ = pure () := by kernel_rfl
noncomputable abbrev AY : Around := { handled := none, depth := 700, frames := none, guards := none, units := 7000 }
section
variable {prog : Program} {w : World} {A : Around} {R : Result → Shared → Prop} {h : Heap} {gs : Array GenState} {d : Drawn} {t : Nat} {os : OsState} {B N0 ls sa f0 f1 f2 f3 f4 f5 : Addr} {k0 k1 k2 k3 k4 k5 k6 k7 k8 k9 k10 k11 u0 u1 u2 u3 u4 tn : Tok} {fd0 fd1 fd2 fd3 fd4 fd5 : FuncData} {vsa : Array Value}
theorem type0 (KY : (hy w.params).In h) 
    (hq : ∀ l C N md ta tb tc n h' t', Lg h h' l → (md, mdF ta C) ∈ l → (C, clsF B tn u1 C N) ∈ l → (N, (⟨.type "dict", none, .dict (nsEs w ls sa f0 f1 f2 f3 f4 f5 k0 k2 k3 k4 k5 k6 k7 k8 k9 k10 k11 u0 u2 md tb tc).toArray n, ⟨[]⟩⟩ : Obj)) ∈ l → R (.ok (.ret (.ref C))) ⟨h', gs, d, t', os⟩)
    (hB : h.get? B = some ⟨.type "tuple", none, .seq ⟨[.type "object"]⟩ 0, ⟨[]⟩⟩) (hN : h.get? N0 = some ⟨.type "dict", none, .dict ⟨[⟨PyData.keyHash w.params (Str.ofString "__module__"), .str (Str.ofString "__module__") k0, .str (Str.ofString "cpy313.functools") u0⟩, ⟨PyData.keyHash w.params (Str.ofString "__qualname__"), .str (Str.ofString "__qualname__") k1, .str (Str.ofString "cmp_to_key.<locals>.K") u1⟩, ⟨PyData.keyHash w.params (Str.ofString "__firstlineno__"), .str (Str.ofString "__firstlineno__") k2, .int 7 u2⟩, ⟨PyData.keyHash w.params (Str.ofString "__slots__"), .str (Str.ofString "__slots__") k3, .ref ls⟩, ⟨PyData.keyHash w.params (Str.ofString "__init__"), .str (Str.ofString "__init__") k4, .ref f0⟩, ⟨PyData.keyHash w.params (Str.ofString "__lt__"), .str (Str.ofString "__lt__") k5, .ref f1⟩, ⟨PyData.keyHash w.params (Str.ofString "__gt__"), .str (Str.ofString "__gt__") k6, .ref f2⟩, ⟨PyData.keyHash w.params (Str.ofString "__eq__"), .str (Str.ofString "__eq__") k7, .ref f3⟩, ⟨PyData.keyHash w.params (Str.ofString "__le__"), .str (Str.ofString "__le__") k8, .ref f4⟩, ⟨PyData.keyHash w.params (Str.ofString "__ge__"), .str (Str.ofString "__ge__") k9, .ref f5⟩, ⟨PyData.keyHash w.params (Str.ofString "__hash__"), .str (Str.ofString "__hash__") k10, .none⟩, ⟨PyData.keyHash w.params (Str.ofString "__static_attributes__"), .str (Str.ofString "__static_attributes__") k11, .ref sa⟩]⟩ 12, ⟨[]⟩⟩)
    (hls : h.get? ls = some ⟨.type "list", none, .seq ⟨[.str (Str.ofString "obj") u3]⟩ 0, ⟨[]⟩⟩) (hsa : h.get? sa = some ⟨.type "tuple", none, .seq vsa 0, ⟨[]⟩⟩)
    (h0 : h.get? f0 = some ⟨.type "function", none, .func fd0, ⟨[]⟩⟩) (h1 : h.get? f1 = some ⟨.type "function", none, .func fd1, ⟨[]⟩⟩) (h2 : h.get? f2 = some ⟨.type "function", none, .func fd2, ⟨[]⟩⟩)
    (h3 : h.get? f3 = some ⟨.type "function", none, .func fd3, ⟨[]⟩⟩) (h4 : h.get? f4 = some ⟨.type "function", none, .func fd4, ⟨[]⟩⟩) (h5 : h.get? f5 = some ⟨.type "function", none, .func fd5, ⟨[]⟩⟩) (hN1 : (N0 == sysModules) = false)  :
    codeAny (model prog w) AY (.call (.type "type") ⟨[.str (Str.ofString "K") tn, .ref B, .ref N0], []⟩) R ⟨h, gs, d, t, os⟩ := by
  refine codeAny_of_tree ?_
  show wpAny _ _ (callAny (.type "type") _) _ _ _
  unfold callAny
  repeat ((fail_if_success (with_reducible show wpAny _ _ (PySem.call _ _ _) _ _ _)); (first | ((with_reducible show wpAny _ _ (mroOf (Value.type "type")) _ _ _); refine Looks.at (Looks.of_pure mro_type) ?_; (try with_reducible show wpAny _ _ _ _ _ _)) | ((with_reducible show wpAny _ _ (Bind.madeBy _) _ _ _); refine Looks.at (Looks.of_pure made_type) ?_; (try with_reducible show wpAny _ _ _ _ _ _)) | ((with_reducible show wpAny _ _ (checkTypeCall _ _) _ _ _); refine Looks.at (Looks.of_pure (chk_type _ _ _)) ?_; (try with_reducible show wpAny _ _ _ _ _ _)) | ((with_reducible show wpAny _ _ (typeLookup (Value.type "type") (Str.ofString "__init__")) _ _ _); refine Looks.at (Looks.of_pure tl_init) ?_; (try with_reducible show wpAny _ _ _ _ _ _)) | ((with_reducible show wpAny _ _ (bindSpecial _ _) _ _ _); refine Looks.at (Looks.of_pure (bs_init _)) ?_; (try with_reducible show wpAny _ _ _ _ _ _)) | with_reducible refine wpAny_bind ?_ | with_reducible refine nd_bind ?_ | with_reducible refine wpAny_holding ?_ | with_reducible refine wpAny_onRaise ?_ | (with_reducible refine wpAny_pure ?_; (try with_reducible show wpAny _ _ _ _ _ _)) | (with_reducible refine nd_pure ?_; (try with_reducible show wpAny _ _ _ _ _ _)) | ((with_reducible show wpAny _ _ (Sem.load _ _ _) _ _ _); first | refine jn_load (by assumption) (by k_mem) ?_ | refine jn_load (by assumption) (by assumption) ?_ | refine jn_loadG (by assumption) (by assumption) ?_; (try with_reducible show wpAny _ _ _ _ _ _)) | (with_reducible refine nd_fresh ?_; (try with_reducible show wpAny _ _ _ _ _ _)) | (with_reducible refine nd_rule ?_; (try with_reducible show wpAny _ _ _ _ _ _)) | (with_reducible refine nd_point ?_; (try with_reducible show wpAny _ _ _ _ _ _)) | (with_reducible refine nd_ask ?_; (try with_reducible show wpAny _ _ _ _ _ _)) | k_node | (with_reducible refine w_itef (by assumption) ?_) | (refine w_itef (by kernel_rfl) ?_) | (refine w_itet (by kernel_rfl) ?_)))
  refine ⟨Code.quiet_builtin _ (by decide +kernel), ?_⟩
  refine codeAny_builtin entry_typeCall ?_
  unfold Builtin.«type.__call__»
  repeat ((fail_if_success (with_reducible show wpAny _ _ (PySem.call _ _ _) _ _ _)); (first | ((with_reducible show wpAny _ _ (mroOf (Value.type "type")) _ _ _); refine Looks.at (Looks.of_pure mro_type) ?_; (try with_reducible show wpAny _ _ _ _ _ _)) | ((with_reducible show wpAny _ _ (Bind.madeBy _) _ _ _); refine Looks.at (Looks.of_pure made_type) ?_; (try with_reducible show wpAny _ _ _ _ _ _)) | ((with_reducible show wpAny _ _ (checkTypeCall _ _) _ _ _); refine Looks.at (Looks.of_pure (chk_type _ _ _)) ?_; (try with_reducible show wpAny _ _ _ _ _ _)) | ((with_reducible show wpAny _ _ (typeLookup (Value.type "type") (Str.ofString "__init__")) _ _ _); refine Looks.at (Looks.of_pure tl_init) ?_; (try with_reducible show wpAny _ _ _ _ _ _)) | ((with_reducible show wpAny _ _ (bindSpecial _ _) _ _ _); refine Looks.at (Looks.of_pure (bs_init _)) ?_; (try with_reducible show wpAny _ _ _ _ _ _)) | with_reducible refine wpAny_bind ?_ | with_reducible refine nd_bind ?_ | with_reducible refine wpAny_holding ?_ | with_reducible refine wpAny_onRaise ?_ | (with_reducible refine wpAny_pure ?_; (try with_reducible show wpAny _ _ _ _ _ _)) | (with_reducible refine nd_pure ?_; (try with_reducible show wpAny _ _ _ _ _ _)) | ((with_reducible show wpAny _ _ (Sem.load _ _ _) _ _ _); first | refine jn_load (by assumption) (by k_mem) ?_ | refine jn_load (by assumption) (by assumption) ?_ | refine jn_loadG (by assumption) (by assumption) ?_; (try with_reducible show wpAny _ _ _ _ _ _)) | (with_reducible refine nd_fresh ?_; (try with_reducible show wpAny _ _ _ _ _ _)) | (with_reducible refine nd_rule ?_; (try with_reducible show wpAny _ _ _ _ _ _)) | (with_reducible refine nd_point ?_; (try with_reducible show wpAny _ _ _ _ _ _)) | (with_reducible refine nd_ask ?_; (try with_reducible show wpAny _ _ _ _ _ _)) | k_node | (with_reducible refine w_itef (by assumption) ?_) | (refine w_itef (by kernel_rfl) ?_) | (refine w_itet (by kernel_rfl) ?_)))
  show wpAny _ _ (PySem.call (.builtin "type.__new__") [.type "type", .str (Str.ofString "K") tn, .ref B, .ref N0] []) _ _ _
  refine wpAny_call (codeAny_call_builtin_code (Code.quiet_builtin _ (by decide +kernel)) (wpAny_of_eq (chk_tn _ _ _) ?_))
  refine tnew0 KY rfl (Nat.le_of_ble_eq_true rfl) (Nat.le_of_ble_eq_true rfl) (fun l C N md ta tb tc n h' t' D m1 m2 m3 => ?_) hB hN hls hsa h0 h1 h2 h3 h4 h5 hN1 rfl (Nat.le_of_ble_eq_true rfl) (Nat.le_of_ble_eq_true rfl)
  have F1 := inst_of (M := model prog w) (b := .type "type") (r := true) (D.get m2) rfl (by kernel_rfl)
  have F2 := spec_of (M := model prog w) (name := Str.ofString "__init__") (r := some (.builtin "type.__init__")) (D.get m2) rfl (by kernel_rfl)
  show wpAny _ _ _ _ _ _
  repeat ((fail_if_success (with_reducible show wpAny _ _ (PySem.call _ _ _) _ _ _)); (first | ((with_reducible show wpAny _ _ (isInstance (Value.ref _) _) _ _ _); refine Looks.at (F1) ?_; (try with_reducible show wpAny _ _ _ _ _ _)) | ((with_reducible show wpAny _ _ (specialOf (Value.ref _) _) _ _ _); refine Looks.at (F2) ?_; (try with_reducible show wpAny _ _ _ _ _ _)) | ((with_reducible show wpAny _ _ (mroOf (Value.type "type")) _ _ _); refine Looks.at (Looks.of_pure mro_type) ?_; (try with_reducible show wpAny _ _ _ _ _ _)) | ((with_reducible show wpAny _ _ (Bind.madeBy _) _ _ _); refine Looks.at (Looks.of_pure made_type) ?_; (try with_reducible show wpAny _ _ _ _ _ _)) | ((with_reducible show wpAny _ _ (checkTypeCall _ _) _ _ _); refine Looks.at (Looks.of_pure (chk_type _ _ _)) ?_; (try with_reducible show wpAny _ _ _ _ _ _)) | ((with_reducible show wpAny _ _ (typeLookup (Value.type "type") (Str.ofString "__init__")) _ _ _); refine Looks.at (Looks.of_pure tl_init) ?_; (try with_reducible show wpAny _ _ _ _ _ _)) | ((with_reducible show wpAny _ _ (bindSpecial _ _) _ _ _); refine Looks.at (Looks.of_pure (bs_init _)) ?_; (try with_reducible show wpAny _ _ _ _ _ _)) | with_reducible refine wpAny_bind ?_ | with_reducible refine nd_bind ?_ | with_reducible refine wpAny_holding ?_ | with_reducible refine wpAny_onRaise ?_ | (with_reducible refine wpAny_pure ?_; (try with_reducible show wpAny _ _ _ _ _ _)) | (with_reducible refine nd_pure ?_; (try with_reducible show wpAny _ _ _ _ _ _)) | ((with_reducible show wpAny _ _ (Sem.load _ _ _) _ _ _); first | refine jn_load (by assumption) (by k_mem) ?_ | refine jn_load (by assumption) (by assumption) ?_ | refine jn_loadG (by assumption) (by assumption) ?_; (try with_reducible show wpAny _ _ _ _ _ _)) | (with_reducible refine nd_fresh ?_; (try with_reducible show wpAny _ _ _ _ _ _)) | (with_reducible refine nd_rule ?_; (try with_reducible show wpAny _ _ _ _ _ _)) | (with_reducible refine nd_point ?_; (try with_reducible show wpAny _ _ _ _ _ _)) | (with_reducible refine nd_ask ?_; (try with_reducible show wpAny _ _ _ _ _ _)) | k_node | (with_reducible refine w_itef (by assumption) ?_) | (refine w_itef (by kernel_rfl) ?_) | (refine w_itet (by kernel_rfl) ?_)))
  show wpAny _ _ (PySem.call (.builtin "type.__init__") [.ref C, .str (Str.ofString "K") tn, .ref B, .ref N0] []) _ _ _
  refine wpAny_call ?_
  refine codeAny_call_builtin ti_plain entry_ti (@check_slot (model prog w) _ _ _ "type.__init__" "type" "__init__" (.ref C) [.str (Str.ofString "K") tn, .ref B, .ref N0] [] _ ti_kind ti_split F1 (ti_args (.ref C) (.str (Str.ofString "K") tn) (.ref B) (.ref N0)) ?_)
  rw [ti_run]
  refine wpAny_pure ?_
  show wpAny _ _ _ _ _ _
  repeat ((fail_if_success (with_reducible show wpAny _ _ (PySem.call _ _ _) _ _ _)); (first | ((with_reducible show wpAny _ _ (isInstance (Value.ref _) _) _ _ _); refine Looks.at (F1) ?_; (try with_reducible show wpAny _ _ _ _ _ _)) | ((with_reducible show wpAny _ _ (specialOf (Value.ref _) _) _ _ _); refine Looks.at (F2) ?_; (try with_reducible show wpAny _ _ _ _ _ _)) | ((with_reducible show wpAny _ _ (mroOf (Value.type "type")) _ _ _); refine Looks.at (Looks.of_pure mro_type) ?_; (try with_reducible show wpAny _ _ _ _ _ _)) | ((with_reducible show wpAny _ _ (Bind.madeBy _) _ _ _); refine Looks.at (Looks.of_pure made_type) ?_; (try with_reducible show wpAny _ _ _ _ _ _)) | ((with_reducible show wpAny _ _ (checkTypeCall _ _) _ _ _); refine Looks.at (Looks.of_pure (chk_type _ _ _)) ?_; (try with_reducible show wpAny _ _ _ _ _ _)) | ((with_reducible show wpAny _ _ (typeLookup (Value.type "type") (Str.ofString "__init__")) _ _ _); refine Looks.at (Looks.of_pure tl_init) ?_; (try with_reducible show wpAny _ _ _ _ _ _)) | ((with_reducible show wpAny _ _ (bindSpecial _ _) _ _ _); refine Looks.at (Looks.of_pure (bs_init _)) ?_; (try with_reducible show wpAny _ _ _ _ _ _)) | with_reducible refine wpAny_bind ?_ | with_reducible refine nd_bind ?_ | with_reducible refine wpAny_holding ?_ | with_reducible refine wpAny_onRaise ?_ | (with_reducible refine wpAny_pure ?_; (try with_reducible show wpAny _ _ _ _ _ _)) | (with_reducible refine nd_pure ?_; (try with_reducible show wpAny _ _ _ _ _ _)) | ((with_reducible show wpAny _ _ (Sem.load _ _ _) _ _ _); first | refine jn_load (by assumption) (by k_mem) ?_ | refine jn_load (by assumption) (by assumption) ?_ | refine jn_loadG (by assumption) (by assumption) ?_; (try with_reducible show wpAny _ _ _ _ _ _)) | (with_reducible refine nd_fresh ?_; (try with_reducible show wpAny _ _ _ _ _ _)) | (with_reducible refine nd_rule ?_; (try with_reducible show wpAny _ _ _ _ _ _)) | (with_reducible refine nd_point ?_; (try with_reducible show wpAny _ _ _ _ _ _)) | (with_reducible refine nd_ask ?_; (try with_reducible show wpAny _ _ _ _ _ _)) | k_node | (with_reducible refine w_itef (by assumption) ?_) | (refine w_itef (by kernel_rfl) ?_) | (refine w_itet (by kernel_rfl) ?_)))
  exact hq l C N md ta tb tc n h' t' D m1 m2 m3
end
end Mine
end
section
open PySem PySem.W PySem.Calls PyProof.Rows
theorem Mine.fresh_KT3 {prog : Program} {w : World} {A : Around} {env : Env} {Q : Flow → Shared → Prop} {E : Value → Shared → Prop} {s : Shared} (h : Q .next s) : wpAny (model prog w) A (execs [] env) Q E s := by
  w_top off
  k_with_none
  walk1
  exact h
end
section
open PySem PySem.W PySem.Calls PyProof.Rows PySem.W.X
set_option Elab.async false
set_option maxRecDepth 100000
set_option maxHeartbeats 8000000
set_option pp.deepTerms true
set_option pp.deepTerms.threshold 6
namespace Mine
theorem fillKJ4 : PySem.Challenge.rw_mq0248_01 = PySem.Challenge.rw_mq0248_01 ∧ Mine.hd.heap_1 = Mine.hd.heap_1 := by
  k_fill
  exact ⟨rfl, rfl⟩
noncomputable abbrev fieldsObj (ty : String) (vs : List Value) : Obj := { cls := .type ty, data := .fields vs.toArray }
section
variable {prog : Program} {w : World} {A : Around} {E : Value → Shared → Prop} {h₀ g h : Heap} {gs : Array GenState} {d : Drawn} {t : Nat} {os : OsState} {p : Program} {loose : List Str} {mean : ExcName → Option Value} {mg mb : Str → Option Value} {l : List (Addr × Obj)}
theorem prep_get0 {Q : Value → Shared → Prop} {u : Tok} (hq : ∀ a h' t', Mem h h' [] [(a, fieldsObj "builtin_function_or_method" [.builtin "type.__prepare__", .type "type"])] → Q (.ref a) ⟨h', gs, d, t', os⟩) :
    wpAny (model prog w) AX (call (.builtin "type.__getattribute__") [.type "type", .str (Str.ofString "__prepare__") u]) Q E ⟨h, gs, d, t, os⟩ := by
  x_run
noncomputable abbrev prepObj : Obj := fieldsObj "builtin_function_or_method" [.builtin "type.__prepare__", .type "type"]
theorem call_prep0 {Q : Value → Shared → Prop} {a : Addr} {v v' : Value} (ha : h.get? a = some ⟨.type "builtin_function_or_method", none, .fields ⟨[.builtin "type.__prepare__", .type "type"]⟩, ⟨[]⟩⟩) (hq : ∀ a h' t', Mem h h' [] [(a, dictOf [] 0)] → Q (.ref a) ⟨h', gs, d, t', os⟩) :
    wpAny (model prog w) AX (call (.ref a) [v, v']) Q E ⟨h, gs, d, t, os⟩ := by
  x_run
theorem tl_ga : typeLookup (.type "type") (Str.ofString "__getattribute__") = pure (some (.builtin "type.__getattribute__")) := by rw [typeLookup_type, builtinLookup_eq_fast]; kernel_rfl
theorem bs_ga (o : Value) : bindSpecial (.builtin "type.__getattribute__") o = pure (.builtin "type.__getattribute__", [o]) := by
  first | kernel_rfl | (unfold bindSpecial; kernel_rfl)
theorem ty_type : typeOf (.type "type") = pure (.type "type") := by kernel_rfl
theorem get_prep {Q : Option Value → Shared → Prop} (hA : A.handled = none) (hd : A.depth ≤ 950) (hu : A.units ≤ 9500) (D : Lg g h l)
    (q : ∀ a h' t', Lg g h' ((a, prepObj) :: l) → Q (some (.ref a)) ⟨h', gs, d, t', os⟩) :
    wpAny (model prog w) A (getAttr? (.type "type") (Str.ofString "__prepare__")) Q E ⟨h, gs, d, t, os⟩ := by
  unfold getAttr? getAttrBy? getAttrBy
  refine wpAny_bind (wpAny_mkText (wpAny_bind (wpAny_attempt (wpAny_holding (wpAny_bind (wpAny_of_eq ty_type (wpAny_bind (wpAny_of_eq tl_ga ?_))))))))
  show wpAny _ _ (getAttrByItsOwn _ _ _ _ _ _) _ _ _
  unfold getAttrByItsOwn
  refine wpAny_bind (m := hookBefore _) (wpAny_pure (wpAny_bind (wpAny_attempt (wpAny_holding ?_))))
  show wpAny _ _ (boundAndCalled _ _ _) _ _ _
  refine wpAny_bind (wpAny_of_eq (bs_ga _) ?_)
  refine wpAny_le hA hd rfl rfl hu (prep_get0 fun a h' t' M => ?_)
  exact wpAny_pure (wpAny_pure (q _ _ _ (D.mem M)))
end
end Mine
end
section
open PySem PySem.W PySem.Calls PyProof.Rows
theorem Mine.fresh_KJ4 {prog : Program} {w : World} {A : Around} {env : Env} {Q : Flow → Shared → Prop} {E : Value → Shared → Prop} {s : Shared} (h : Q .next s) : wpAny (model prog w) A (execs [] env) Q E s := by
  w_top off
  k_with_none
  walk1
  exact h
end
section
open PySem PySem.W PySem.Calls PyProof.Rows PySem.W.X
set_option Elab.async false
set_option maxRecDepth 100000
set_option maxHeartbeats 8000000
set_option pp.deepTerms false
set_option pp.deepTerms.threshold 6
namespace Mine
theorem LUpd.to {a : Addr} {o o' o₂ : Obj} {l l' : List (Addr × Obj)} (u : LUpd a o o' l l') : ∃ l₂, LUpd a o o₂ l l₂ := by
  induction u with
  | head => exact ⟨_, .head⟩
  | tail u ih => obtain ⟨l₂, u₂⟩ := ih; exact ⟨_, .tail u₂⟩
section
variable {prog : Program} {M : Model} {w : World} {A : Around} {E : Value → Shared → Prop} {h₀ g h : Heap} {gs : Array GenState} {d : Drawn} {t : Nat} {os : OsState} {p : Program} {loose : List Str} {mean : ExcName → Option Value} {mg mb : Str → Option Value} {l : List (Addr × Obj)}
theorem class_code {env : Env} {c P : Addr} {pos : Pos} {firstLine : Nat} {name qual : Str} {scope : Scope} {Q : Value → Shared → Prop} (F : Addr → List (Addr × Obj)) (hc : env.code = .ref c) (C : CodeHd g c P) (D : Lg g h l)
    (u : ∀ c', LUpd P (tabObj #[]) (tabObj #[rawInt pos.line, rawInt pos.col, .ref c']) l (F c'))
    (q : ∀ c' P' oc h' t', Lg g h' ((c', oc) :: (P', tabObj #[]) :: F c') → (∀ hh : Heap, hh.get? c' = some oc → CodeHd hh c' P') → Q (.ref c') ⟨h', gs, d, t', os⟩) :
    wpAny M A (classCode env pos firstLine name qual scope) Q E ⟨h, gs, d, t, os⟩ := by
  refine by_goal fun Gg hGg => ?_
  obtain ⟨o, vs, file, tf, flags, tg, inF, text, tt, ho, _, hd, _, h11, h18, h7, h9, h10, hne⟩ := C
  refine hGg ?_
  clear hGg Gg
  have hoh : h.get? c = some o := D.keep _ _ ho
  have hP := D.get (u 0).mem
  unfold classCode codeAt
  rw [hc, if_neg (show ¬ ((Value.ref c == Value.none) = true) from Bool.false_ne_true)]
  refine wpAny_bind (wpAny_fieldsOf hoh hd ?_)
  rw [h11]
  refine wpAny_bind (wpAny_fieldsOf hP rfl ?_)
  have e0 : codeAmong pos (#[] : Array Value).toList = none := rfl
  rw [e0, h18, h7, h9, h10]
  refine wpAny_bind (wpAny_newCodeX fun c' P' h' tk hk hc' hP' hcode htab hrec => ?_)
  have D' := D.over hk
  have CH : CodeHd h' c' P' := CodeHd.of hcode htab
  have hP2 := D'.get (u c').mem
  refine wpAny_bind (wpAny_updateFieldsOfTheText hP2 rfl ?_)
  have eP : Obj.mapFields (fun vs => if (codeAmong pos vs.toList).isSome = true then vs else vs ++ #[rawInt pos.line, rawInt pos.col, .ref c']) (tabObj #[]) = tabObj #[rawInt pos.line, rawInt pos.col, .ref c'] := rfl
  have D2 := D'.update (u c') eP rfl
  have hcP : c' ≠ P := Nat.ne_of_gt (Nat.lt_of_lt_of_le (Heap.lt_size hP) hc')
  have hPP : P' ≠ P := Nat.ne_of_gt (Nat.lt_of_lt_of_le (Heap.lt_size hP) hP')
  have hsb := Heap.SameBut.update h' P (fun o => Obj.mapFields (fun vs => if (codeAmong pos vs.toList).isSome = true then vs else vs ++ #[rawInt pos.line, rawInt pos.col, .ref c']) o)
  refine wpAny_bind (wpAny_fieldsOf (D2.get (o := tabObj #[rawInt pos.line, rawInt pos.col, .ref c']) ?_) rfl ?_)
  · have : ∀ {l l'}, LUpd P (tabObj #[]) (tabObj #[rawInt pos.line, rawInt pos.col, .ref c']) l l' → (P, tabObj #[rawInt pos.line, rawInt pos.col, .ref c']) ∈ l' := by
      intro l l' u
      induction u with
      | head => exact .head _
      | tail _ ih => exact .tail _ ih
    exact this (u c')
  have e : codeAmong pos (#[rawInt pos.line, rawInt pos.col, Value.ref c'] : Array Value).toList = some (.ref c') := codeAmong_snoc [] trivial rfl
  rw [e]
  refine by_goal fun Gg hGg => ?_
  obtain ⟨oc, vc, y1, y2, y3, y4, y5, y6, y7, hoc, z1, z2, z3, z4, z5, z6, z7, z8, hne'⟩ := CH
  refine hGg ?_
  clear hGg Gg
  have D3 := D2.add (a := P') ((hsb.2 _ hPP).trans htab.2) (D.new hP').1 (by rw [(u c').keys]; exact (D.new hP').2)
  have D4 := D3.add (a := c') ((hsb.2 _ hcP).trans hoc) (D.new hc').1 (by
    rw [List.map_cons, List.mem_cons, (u c').keys]
    rintro (x | x)
    · exact hne' x
    · exact (D.new hc').2 x)
  exact wpAny_pure (q c' P' oc _ _ D4 fun hh e => ⟨oc, vc, y1, y2, y3, y4, y5, y6, y7, e, z1, z2, z3, z4, z5, z6, z7, z8, hne'⟩)
end
end Mine
end
section
open PySem PySem.W PySem.Calls PyProof.Rows
theorem Mine.fresh_KJ5 {prog : Program} {w : World} {A : Around} {env : Env} {Q : Flow → Shared → Prop} {E : Value → Shared → Prop} {s : Shared} (h : Q .next s) : wpAny (model prog w) A (execs [] env) Q E s := by
  w_top off
  k_with_none
  walk1
  exact h
end
section
open PySem PySem.W PySem.Calls PyProof.Rows
set_option Elab.async false
set_option maxRecDepth 100000
set_option maxHeartbeats 8000000
set_option pp.deepTerms false
set_option pp.deepTerms.threshold 8
namespace Mine
theorem fillKB : PySem.Challenge.rw_mq0248_01 = PySem.Challenge.rw_mq0248_01 ∧ Mine.hd.heap_1 = Mine.hd.heap_1 := by
  k_fill
  exact ⟨rfl, rfl⟩
section
variable {prog : Program} {w : World} {A : Around} {s : Shared} {h₀ : Heap} {K : Frag} {p : Program} {loose : List Str} {mean : ExcName → Option Value} {mg mb : Str → Option Value}
/-- a def with cells of its own; its end is left as it is -/
theorem enterR {R : Result → Shared → Prop} {name qual : Str} {params : Arguments} {body : List Stmt} {scope : Scope} {dV kV doc pm cdv ct oc : Value} {an od : Option Addr} {osl : Array (Option Value)} {f : Addr} {args : Args} {binds : List (Str × Value)}
    (X₀ : K.In h₀) (T : Top p loose mean mg mb h₀) (hO : Over h₀ s.heap)
    (ho : K.lookup f = some ⟨oc, od, .func (fnOf name qual params body scope dV kV doc pm an cdv ct), osl⟩) (hcd : codeIn K cdv qual = true) (hroom : A.depth < recursionLimit)
    (hbind : BindsTo s (fnOf name qual params body scope dV kV doc pm an cdv ct) args binds)
    (hkind : (binds.all fun y => scope.names.lookup y.1 == some .local || scope.names.lookup y.1 == some .cell) = true)
    (hnd : ((cellsFrom 0 scope.names []).map (·.1)).Nodup)
    (h : ∀ L' h₁ tk cells, Fr s.heap L' h₁ (bindL (envOfC qual scope L' f cdv).kindOf binds fun _ => none) → News s.heap L' h₁ cells →
      CellsAre (bindC (envOfC qual scope L' f cdv).kindOf binds fun _ => none) (cellsFrom (L' + 1) scope.names []) cells →
      wpAny (model prog w) (A.deeper (envOfC qual scope L' f cdv)) (execs body (envOfC qual scope L' f cdv))
        (fun fl s' => R (.ok (.ret (match fl with | .ret v => v | _ => .none))) s') (fun _ _ => False)
        { s with heap := h₁, toks := tk })
    (hco : scope.isCoroutine = false) (hgen : scope.isGenerator = false) (hk : scope.kind = .function) : codeAny (model prog w) A (.call (.ref f) args) R s := by
  refine codeAny_call_function hroom (hO _ _ (X₀ _ _ ho)) rfl hco hgen rfl (codeRec_of (X₀.keeps hO) hcd) (hbind _ _ _ _ ?_)
  refine wpAny_newFunctionEnv_cells hk (kindsX hkind _) fun env' he s' x => ?_
  subst he
  refine ⟨(T.nolimit.keeps hO).keeps x.toInCall.keep, codeAny_func ?_⟩
  obtain ⟨h₁, tk, rfl, _⟩ := x.done
  have hk₁ := x.toInCall.keep
  obtain ⟨cells, NC, Y⟩ := Cl.news (h₀ := s.heap) (Nat.le_refl _) fun n c hm => ⟨x.cell n c (lookup_of_mem_nodup (cellsFrom_names scope.names 0 (s.heap.objs.size + 1) [] [] rfl ▸ hnd) hm), x.above n c hm⟩
  exact wpAny_mono (h s.heap.objs.size h₁ tk cells ⟨x.toInCall.ns, hk₁, Nat.le_refl _⟩ NC Y) (fun fl s' hl => hl) fun _ _ y => y.elim
end
section
variable {prog : Program} {w : World} {A : Around} {E : Value → Shared → Prop} {g h : Heap} {gs : Array GenState} {d : Drawn} {t : Nat} {os : OsState} {l : List (Addr × Obj)} {a : Addr} {v v' : Value}
theorem prep_lg {Q : Value → Shared → Prop} (hA : A.handled = none) (hd : A.depth ≤ 950) (hu : A.units ≤ 9500) (D : Lg g h l) (hm : (a, prepObj) ∈ l) (q : ∀ n h' t', Lg g h' ((n, dictOf [] 0) :: l) → Q (.ref n) ⟨h', gs, d, t', os⟩) :
    wpAny (model prog w) A (call (.ref a) [v, v']) Q E ⟨h, gs, d, t, os⟩ :=
  wpAny_le hA hd rfl rfl hu (call_prep0 (v := v) (v' := v') (D.get hm) fun n h' t' M => q n h' t' (D.mem M))
end
theorem Lg.ne_sys {g h : Heap} {l : List (Addr × Obj)} {a : Addr} {o : Obj} {K : Frag} (D : Lg g h l) (m : (a, o) ∈ l) (KK : K.In g) (e : (K.lookup sysModules).isSome = true) : (a == sysModules) = false := by
  cases q : (a == sysModules) with
  | false => rfl
  | true =>
    have q' : a = sysModules := by simpa using q
    obtain ⟨o', e'⟩ := Option.isSome_iff_exists.mp e
    have := KK _ _ e'
    have hn := (D.ent _ m).2
    dsimp only at hn
    rw [q', this] at hn; cases hn
section
variable {prog : Program} {M : Model} {w : World} {A : Around} {E : Value → Shared → Prop} {h₀ g h : Heap} {gs : Array GenState} {d : Drawn} {t : Nat} {os : OsState} {p : Program} {loose : List Str} {mean : ExcName → Option Value} {mg mb : Str → Option Value} {l : List (Addr × Obj)}
theorem bf_lg {r : Addr} {Q : Addr → Shared → Prop} (T : Top p loose mean mg mb h₀) (hOg : Over h₀ g) (D : Lg g h l) (q : Q builtinsNs ⟨h, gs, d, t, os⟩) : wpAny M A (builtinsFor mainGlobals r) Q E ⟨h, gs, d, t, os⟩ := by
  obtain ⟨bm, ob, b1, b2, b3, b4, b5, b6⟩ := T.bmain
  have k : Over h₀ h := fun b o e => D.keep _ _ (hOg _ _ e)
  exact wpAny_builtinsFor (T.g.keeps k) b1 b2 (k _ _ b3) b4 b5 b6 q
theorem ef_lg {Q : Unit → Shared → Prop} (T : Top p loose mean mg mb h₀) (hOg : Over h₀ g) (D : Lg g h l) (hd : A.depth < recursionLimit) (q : Q () ⟨h, gs, d, t, os⟩) : wpAny M A enterFrame Q E ⟨h, gs, d, t, os⟩ := by
  have k : Over h₀ h := fun b o e => D.keep _ _ (hOg _ _ e)
  exact wpAny_enterFrame (T.nolimit.keeps k) hd q
end
theorem find_none_of {name : Str} {es : List DictEntry} (e : getL name es = some none) : es.find? (·.key.isStr name) = none := by
  unfold getL at e
  split at e
  · cases e
  · assumption
theorem putL_new {name : Str} {k v : Value} {hh : Int} : ∀ {es : List DictEntry}, es.find? (·.key.isStr name) = none → putL name hh k v es = es ++ [⟨hh, k, v⟩]
  | [], _ => rfl
  | e :: r, q => by
    rw [List.find?_cons] at q
    split at q
    · cases q
    · rename_i hq
      unfold putL
      rw [if_neg (by rw [hq]; exact Bool.false_ne_true), putL_new q]; rfl
theorem putN_new {name : Str} {es : List DictEntry} {n : Nat} (q : es.find? (·.key.isStr name) = none) : putN name es n = n + 1 := by
  unfold putN
  rw [if_neg]
  intro x
  obtain ⟨e, he, hq⟩ := List.any_eq_true.mp x
  exact List.find?_eq_none.mp q e he hq
section
variable {M : Model} {w : World} {A : Around} {E : Value → Shared → Prop} {g h : Heap} {gs : Array GenState} {d : Drawn} {t : Nat} {os : OsState} {l : List (Addr × Obj)} {env : Env} {name : Str} {v : Value} {es : List DictEntry} {n : Nat} {a : Addr} {P : Params}
theorem store_new {Q : Unit → Shared → Prop} (F : Tok → List (Addr × Obj)) (hP : M.w.params = P) (hs : storeName env name v = localSet env name v) (hl : env.locals = a) (D : Lg g h l) (hg : getL name es = some none)
    (u : ∀ k, LUpd a (dictOf es n) (dictOf (es ++ [⟨PyData.keyHash P name, .str name k, v⟩]) (n + 1)) l (F k))
    (q : ∀ k h' t', Lg g h' (F k) → Q () ⟨h', gs, d, t', os⟩) : wpAny M A (storeName env name v) Q E ⟨h, gs, d, t, os⟩ := by
  rw [hs]; unfold localSet; rw [hl]
  refine wpAny_bind (wpAny_load (D.get (u 0).mem) ?_)
  rw [if_pos (by rfl)]
  have hf := find_none_of hg
  refine jn_nsSet hP D (by rw [hg]; rfl) (es' := es ++ [⟨PyData.keyHash P name, .str name t, v⟩]) (n' := n + 1) ?_ (u t) fun h' D' => q _ _ _ D'
  rw [putL_new hf, putN_new hf]
theorem store_head {Q : Unit → Shared → Prop} {hh : Int} {k v' : Value} {r : List DictEntry} {l' : List (Addr × Obj)} (hP : M.w.params = P) (hs : storeName env name v = localSet env name v) (hl : env.locals = a) (D : Lg g h l) (hk : k.isStr name = true)
    (u : LUpd a (dictOf (⟨hh, k, v'⟩ :: r) n) (dictOf (⟨hh, k, v⟩ :: r) n) l l')
    (q : ∀ h' t', Lg g h' l' → Q () ⟨h', gs, d, t', os⟩) : wpAny M A (storeName env name v) Q E ⟨h, gs, d, t, os⟩ := by
  rw [hs]; unfold localSet; rw [hl]
  refine wpAny_bind (wpAny_load (D.get u.mem) ?_)
  rw [if_pos (by rfl)]
  refine jn_nsSet hP D ?_ (es' := ⟨hh, k, v⟩ :: r) (n' := n) ?_ u fun h' D' => q _ _ D'
  · unfold getL
    rw [List.find?_cons]
    dsimp only
    rw [hk]; rfl
  · unfold putL putN
    dsimp only
    rw [if_pos hk, if_pos]
    rw [List.any_cons]; dsimp only; rw [hk]; rfl
end
/-- a table of code objects without one at this place -/
structure TabOk (pos : Pos) (ps : Array Value) : Prop where
  ok : TriplesOk ps.toList
  no : codeAmong pos ps.toList = none
theorem tab_nil {pos : Pos} : TabOk pos #[] := ⟨trivial, rfl⟩
theorem among_snoc {pos : Pos} {a b : Int} {c : Value} (l : List Value) (h : TriplesOk l) (hn : codeAmong pos l = none) (hne : (a == pos.line && b == pos.col) = false) : codeAmong pos (l ++ [rawInt a, rawInt b, c]) = none := by
  fun_induction TriplesOk l with
  | case1 => simp only [List.nil_append, rawInt, codeAmong, hne, if_false, Bool.false_eq_true]
  | case2 a' t b' u x rest ih =>
    simp only [List.cons_append, codeAmong] at hn ⊢
    split at hn
    · cases hn
    · rename_i hc; rw [if_neg hc]; exact ih h hn
  | case3 l h1 h2 => exact h.elim
theorem tab_snoc {pos : Pos} {ps : Array Value} {a b : Int} {c : Value} (h : TabOk pos ps) (hne : (a == pos.line && b == pos.col) = false) : TabOk pos (ps ++ #[rawInt a, rawInt b, c]) := by
  have e : (ps ++ #[rawInt a, rawInt b, c]).toList = ps.toList ++ [rawInt a, rawInt b, c] := by simp
  exact ⟨by rw [e]; exact TriplesOk_snoc _ _ _ _ h.ok, by rw [e]; exact among_snoc _ h.ok h.no hne⟩
section
variable {M : Model} {A : Around} {E : Value → Shared → Prop} {h₀ g h : Heap} {gs : Array GenState} {d : Drawn} {t : Nat} {os : OsState} {p : Program} {loose : List Str} {mean : ExcName → Option Value} {mg mb : Str → Option Value} {l : List (Addr × Obj)}
  {env : Env} {c P : Addr} {ps : Array Value} {name qual : Str} {params : Arguments} {body : List Stmt} {scope : Scope} {pos : Pos} {firstLine : Nat} {clos : List (Str × Addr)}
theorem mf_lg {Q : Value → Shared → Prop} (F : Addr → List (Addr × Obj)) (T : Top p loose mean mg mb h₀) (hOg : Over h₀ g) (hcl : closureFor scope env = pure clos) (hge0 : env.globals = mainGlobals) (hcode : env.code = .ref c) (C : CodeHd h c P) (D : Lg g h l)
    (u : ∀ c', LUpd P (tabObj ps) (tabObj (ps ++ #[rawInt pos.line, rawInt pos.col, .ref c'])) l (F c')) (htab : TabOk pos ps)
    (q : ∀ f c' oc vs tq ctv doc h' tk, Lg g h' ((f, fnMade name qual params body scope clos doc ((mg "__name__").getD .none) c' ctv) :: (c', oc) :: F c') → oc.data = .fields vs → vs[1]? = some (.str qual tq) → Q (.ref f) ⟨h', gs, d, tk, os⟩) :
    wpAny M A (makeFunction name qual params (.stmts body) scope env [] [] [] pos firstLine) Q E ⟨h, gs, d, t, os⟩ := by
  have k : Over h₀ h := fun b o e => D.keep _ _ (hOg _ _ e)
  obtain ⟨ht, hnf⟩ := htab
  have hgs := T.g.keeps k
  have hP := D.get (u 0).mem
  have hgN : g.get? P = none := (D.ent _ (u 0).mem).2
  obtain ⟨bm, ob, b1, b2, b3, b4, b5, b6⟩ := T.bmain
  have hgP : mainGlobals ≠ P := fun q => by
    obtain ⟨o, es, ep, e, hd, _⟩ := T.g
    have := hOg _ _ e
    rw [q, hgN] at this; cases this
  have hbP : bm ≠ P := fun q => by
    have := hOg _ _ b3
    rw [q, hgN] at this; cases this
  have hbG : bm ≠ mainGlobals := fun q => by
    obtain ⟨o, es, ep, e, hd, _⟩ := T.g
    rw [q, e] at b3; cases b3; rw [hd] at b6; cases b6
  refine makeFunction_K (mg := mg) hcl hge0 hgs hcode C hP ht hnf hgP ⟨bm, ob, b1, b2, hbG, hbP, k _ _ b3, b4, b5, b6⟩ fun c' ctv doc h' tk hx hge hlt hrec htb => ?_
  have D1 := D.extBut (u c') hx htb
  obtain ⟨c₂, oc, vs, tq, e₂, g₂, r₂, r₃⟩ := hrec
  cases e₂
  have hn := D.new hge
  have D2 := D1.add (a := c') g₂ hn.1 (by rw [(u c').keys]; exact hn.2)
  have D3 := D2.push (o := fnMade name qual params body scope clos doc ((mg "__name__").getD .none) c' ctv) rfl
  exact q _ _ _ _ _ _ _ _ _ D3 r₂ r₃
end
theorem nd_ne : ∀ {l : List (Addr × Obj)} (i j : Nat) {a b : Addr} {o o' : Obj}, (l.map (·.1)).Nodup → l[i]? = some (a, o) → l[j]? = some (b, o') → i ≠ j → a ≠ b := by
  intro l i j a b o o' hn h1 h2 hij e
  subst e
  have e1 : (l.map (·.1))[i]? = some a := by rw [List.getElem?_map, h1]; rfl
  have e2 : (l.map (·.1))[j]? = some a := by rw [List.getElem?_map, h2]; rfl
  obtain ⟨q1, r1⟩ := List.getElem?_eq_some_iff.mp e1
  obtain ⟨q2, r2⟩ := List.getElem?_eq_some_iff.mp e2
  have k := List.pairwise_iff_getElem.mp hn
  rcases Nat.lt_trichotomy i j with h | h | h
  · exact k i j q1 q2 h (r1.trans r2.symm)
  · exact hij h
  · exact k j i q2 q1 h (r2.trans r1.symm)
theorem lookup_heap {h : Heap} : ∀ {K : List (Addr × Obj)}, (∀ p ∈ K, h.get? p.1 = some p.2) → ∀ {a o}, (a, o) ∈ K → K.lookup a = some o
  | [], _, _, _, hm => nomatch hm
  | (b, p) :: l, H, a, o, hm => by
    rw [List.lookup_cons]
    by_cases e : a = b
    · subst e
      have h1 := H _ hm
      have h2 := H _ (List.mem_cons_self (a := (a, p)) (l := l))
      dsimp only at h1 h2
      rw [h1] at h2
      cases h2
      simp
    · rw [show (a == b) = false from beq_eq_false_iff_ne.mpr e]
      rcases List.mem_cons.mp hm with q | q
      · cases q; exact absurd rfl e
      · exact lookup_heap (fun p hp => H p (List.mem_cons_of_mem _ hp)) q
theorem at_cons {h : Heap} {a : Addr} {o : Obj} {l : List (Addr × Obj)} (e : h.get? a = some o) (r : ∀ p ∈ l, h.get? p.1 = some p.2) : ∀ p ∈ (a, o) :: l, h.get? p.1 = some p.2 := List.forall_mem_cons.mpr ⟨e, r⟩
theorem at_nil {h : Heap} : ∀ p ∈ ([] : List (Addr × Obj)), h.get? p.1 = some p.2 := List.forall_mem_nil _
theorem kcls_of {h : Heap} {C : Addr} {K : List (Addr × Obj)} (H : ∀ p ∈ K, h.get? p.1 = some p.2) (P : KPure K C) : KCls h C := ⟨K, ⟨fun _ _ e => H _ (mem_lookup e)⟩, P⟩
theorem codeHas_of {vs : Array Value} {q : Str} {t : Tok} (h : vs[1]? = some (.str q t)) : codeHas vs q = true := by
  rw [← Array.getElem?_toList] at h
  unfold codeHas
  cases e : vs.toList with
  | nil => rw [e] at h; cases h
  | cons a r =>
    cases r with
    | nil => rw [e] at h; cases h
    | cons b r =>
      rw [e] at h
      simp at h
      subst h
      simp
theorem words_KB1_1 : True := by
  k_with "TAB" => repeat (first | with_reducible exact tab_nil | with_reducible refine tab_snoc ?_ (by kernel_rfl))
  trivial
noncomputable abbrev AZ : Around := { handled := none, depth := 600, frames := none, guards := none, units := 6000 }
section
variable {prog : Program} {w : World} {s : Shared} {h₀ : Heap} {p : Program} {loose : List Str} {mean : ExcName → Option Value} {mg mb : Str → Option Value} {Q : Value → Shared → Prop} {E : Value → Shared → Prop}
theorem ctk_spec (X₀ : (hd.heap_1 w.params).In h₀) (T : Top p loose mean mg mb h₀) (KY : (hy w.params).In h₀) (hO : Over h₀ s.heap) (h23 : s.heap.get? 23 = some (tabObj #[])) (hn : h₀.get? 23 = none) (CH : CodeHd h₀ 27 23)
    (hQ : ∀ C h' t' K, (∀ b o, b ≠ 23 → s.heap.get? b = some o → h'.get? b = some o) → (∃ ps, h'.get? 23 = some (tabObj ps)) → Led s.heap h' K → KPure K C → Q (.ref C) { s with heap := h', toks := t' }) :
    wpAny (model prog w) AZ (call (.ref 28) [.ref 115]) Q E s := by
  refine wpAny_call ?_
  refine enterR X₀ T hO (f := 28) (by k_is) (by k_is) (by decide) (binds := [(Str.ofString "mycmp", .ref 115)]) (BindsTo.of_eq rfl) (by rfl) (by decide +kernel) ?_ rfl rfl rfl
  intro L' h₁ tk cells F' N' Y'
  k_cells Y'
  rename_i oK dK
  dsimp only
  have KYg : (hy w.params).In (hideAll h₁ [23]) := fun a o e => hideAll_get _ (F'.keep _ _ (hO _ _ (KY a o e))) (fun q => by rw [List.mem_singleton] at q; have := KY a o e; rw [q, hn] at this; cases this)
  have hOg : Over h₀ (hideAll h₁ [23]) := fun b o e => hideAll_get _ (F'.keep _ _ (hO _ _ e)) (fun q => by rw [List.mem_singleton] at q; rw [q, hn] at e; cases e)
  have D : Lg (hideAll h₁ [23]) h₁ [(23, tabObj #[])] := ⟨fun b o e => of_hideAll _ e, (fun p hp => by rw [List.mem_singleton.mp hp]; exact ⟨F'.keep _ _ h23, hideAll_none _ (List.mem_singleton.mpr rfl)⟩), List.nodup_cons.mpr ⟨List.not_mem_nil, List.nodup_nil⟩⟩
  refine wpAny_execs_cons ?_
  rw [arm_exec_ClassDef]
  with_reducible refine wpAny_bind ?_
  (refine (?_ : (fun T2 T1 : Prop => T2 → (T2 → T1) → T1) _ _) ?_ (by intro h; k_node; exact h); exact fun p _ => p)
  (with_reducible refine wpAny_pure ?_; (try with_reducible show wpAny _ _ _ _ _ _))
  with_reducible refine wpAny_bind ?_
  (with_reducible refine wpAny_standAt ?_; (try with_reducible show wpAny _ _ _ _ _ _))
  with_reducible refine wpAny_bind ?_
  (refine (?_ : (fun T2 T1 : Prop => T2 → (T2 → T1) → T1) _ _) ?_ (by intro h; k_node; exact h); exact fun p _ => p)
  with_reducible refine wpAny_bind ?_
  ((with_reducible show wpAny _ _ (nsGet _ (Str.ofString "__build_class__")) _ _ _); refine Looks.at (looks_nsIn (K := hy w.params) (ns := 0) (r := some (.builtin "__build_class__")) (Frag.In.keeps KYg (Lg.keep (by assumption))) (by kernel_rfl)) ?_; (try with_reducible show wpAny _ _ _ _ _ _))
  (refine (?_ : (fun T2 T1 : Prop => T2 → (T2 → T1) → T1) _ _) ?_ (by intro h; k_node; exact h); exact fun p _ => p)
  (with_reducible refine wpAny_pure ?_; (try with_reducible show wpAny _ _ _ _ _ _))
  with_reducible refine wpAny_bind ?_
  with_reducible refine wpAny_holding ?_
  with_reducible refine wpAny_bind ?_
  (refine (?_ : (fun T2 T1 : Prop => T2 → (T2 → T1) → T1) _ _) ?_ (by intro h; k_node; exact h); exact fun p _ => p)
  with_reducible refine wpAny_bind ?_
  (refine (?_ : (fun T2 T1 : Prop => T2 → (T2 → T1) → T1) _ _) ?_ (by intro h; k_node; exact h); exact fun p _ => p)
  with_reducible refine wpAny_bind ?_
  (refine (?_ : (fun T2 T1 : Prop => T2 → (T2 → T1) → T1) _ _) ?_ (by intro h; k_node; exact h); exact fun p _ => p)
  ((with_reducible show wpAny _ _ (eval (Expr.Name _ _) _) _ _ _); refine wpAny_Name ?_ (by decide); (try with_reducible show wpAny _ _ _ _ _ _))
  (refine (?_ : (fun T2 T1 : Prop => T2 → (T2 → T1) → T1) _ _) ?_ (by intro h; k_node; k_node; k_node; k_node; k_node; exact h); exact fun p _ => p)
  with_reducible refine wpAny_bind ?_
  ((with_reducible show wpAny _ _ (nsGet _ (Str.ofString "object")) _ _ _); refine Looks.at (looks_nsIn (K := hy w.params) (ns := 3) (r := none) (Frag.In.keeps KYg (Lg.keep (by assumption))) (by kernel_rfl)) ?_; (try with_reducible show wpAny _ _ _ _ _ _))
  with_reducible refine wpAny_bind ?_
  ((with_reducible show wpAny _ _ (nsGet _ (Str.ofString "object")) _ _ _); refine Looks.at (looks_nsIn (K := hy w.params) (ns := 0) (r := some (.type "object")) (Frag.In.keeps KYg (Lg.keep (by assumption))) (by kernel_rfl)) ?_; (try with_reducible show wpAny _ _ _ _ _ _))
  (with_reducible refine wpAny_pure ?_; (try with_reducible show wpAny _ _ _ _ _ _))
  (refine (?_ : (fun T2 T1 : Prop => T2 → (T2 → T1) → T1) _ _) ?_ (by intro h; k_node; k_node; exact h); exact fun p _ => p)
  with_reducible refine wpAny_bind ?_
  (with_reducible refine wpAny_pure ?_; (try with_reducible show wpAny _ _ _ _ _ _))
  with_reducible refine wpAny_bind ?_
  with_reducible refine wpAny_holding ?_
  (refine (?_ : (fun T2 T1 : Prop => T2 → (T2 → T1) → T1) _ _) ?_ (by intro h; k_node; exact h); exact fun p _ => p)
  (with_reducible refine wpAny_pure ?_; (try with_reducible show wpAny _ _ _ _ _ _))
  (with_reducible refine wpAny_pure ?_; (try with_reducible show wpAny _ _ _ _ _ _))
  with_reducible refine wpAny_bind ?_
  (with_reducible refine wpAny_pure ?_; (try with_reducible show wpAny _ _ _ _ _ _))
  with_reducible refine wpAny_holding ?_
  (refine (?_ : (fun T2 T1 : Prop => T2 → (T2 → T1) → T1) _ _) ?_ (by intro h; k_node; k_node; exact h); exact fun p _ => p)
  with_reducible refine wpAny_bind ?_
  (refine (?_ : (fun T2 T1 : Prop => T2 → (T2 → T1) → T1) _ _) ?_ (by intro h; k_node; exact h); exact fun p _ => p)
  (with_reducible refine wpAny_pure ?_; (try with_reducible show wpAny _ _ _ _ _ _))
  with_reducible refine wpAny_bind ?_
  (with_reducible refine wpAny_pure ?_; (try with_reducible show wpAny _ _ _ _ _ _))
  (with_reducible refine wpAny_pure ?_; (try with_reducible show wpAny _ _ _ _ _ _))
  with_reducible refine wpAny_bind ?_
  (with_reducible refine wpAny_standAt ?_; (try with_reducible show wpAny _ _ _ _ _ _))
  with_reducible refine wpAny_holding ?_
  (refine (?_ : (fun T2 T1 : Prop => T2 → (T2 → T1) → T1) _ _) ?_ (by intro h; k_node; exact h); exact fun p _ => p)
  with_reducible refine wpAny_bind ?_
  (refine (?_ : (fun T2 T1 : Prop => T2 → (T2 → T1) → T1) _ _) ?_ (by intro h; k_node; k_node; k_node; k_node; k_node; k_node; exact h); exact fun p _ => p)
  with_reducible refine wpAny_bind ?_
  (refine (?_ : (fun T2 T1 : Prop => T2 → (T2 → T1) → T1) _ _) ?_ (by intro h; k_node; exact h); exact fun p _ => p)
  ((with_reducible show wpAny _ _ (Sem.alloc _ _) _ _ _); refine jn_alloc (by assumption) rfl ?_; intro aB ha0 D; (try with_reducible show wpAny _ _ _ _ _ _))
  try refine st_n s ?_
  (with_reducible refine nd_pure ?_; (try with_reducible show wpAny _ _ _ _ _ _))
  (with_reducible refine wpAny_pure ?_; (try with_reducible show wpAny _ _ _ _ _ _))
  with_reducible refine wpAny_bind ?_
  (refine (?_ : (fun T2 T1 : Prop => T2 → (T2 → T1) → T1) _ _) ?_ (by intro h; k_node; k_node; k_node; k_node; k_node; k_node; exact h); exact fun p _ => p)
  with_reducible refine wpAny_bind ?_
  with_reducible refine wpAny_bind ?_
  ((with_reducible show wpAny _ _ (isType (Value.type _)) _ _ _); refine Looks.at (Looks.of_pure rfl) ?_; (try with_reducible show wpAny _ _ _ _ _ _))
  (refine (?_ : (fun T2 T1 : Prop => T2 → (T2 → T1) → T1) _ _) ?_ (by intro h; k_node; k_node; k_node; k_node; exact h); exact fun p _ => p)
  (with_reducible refine wpAny_pure ?_; (try with_reducible show wpAny _ _ _ _ _ _))
  (refine (?_ : (fun T2 T1 : Prop => T2 → (T2 → T1) → T1) _ _) ?_ (by intro h; k_node; k_node; exact h); exact fun p _ => p)
  (with_reducible refine wpAny_pure ?_; (try with_reducible show wpAny _ _ _ _ _ _))
  (refine (?_ : (fun T2 T1 : Prop => T2 → (T2 → T1) → T1) _ _) ?_ (by intro h; k_node; exact h); exact fun p _ => p)
  with_reducible refine wpAny_bind ?_
  ((with_reducible show wpAny _ _ (typeOf (Value.type "object")) _ _ _); refine Looks.at (Looks.of_pure typeOf_obj) ?_; (try with_reducible show wpAny _ _ _ _ _ _))
  with_reducible refine wpAny_bind ?_
  ((with_reducible show wpAny _ _ (isType (Value.type _)) _ _ _); refine Looks.at (Looks.of_pure rfl) ?_; (try with_reducible show wpAny _ _ _ _ _ _))
  (refine (?_ : (fun T2 T1 : Prop => T2 → (T2 → T1) → T1) _ _) ?_ (by intro h; k_node; k_node; exact h); exact fun p _ => p)
  with_reducible refine wpAny_bind ?_
  (refine (?_ : (fun T2 T1 : Prop => T2 → (T2 → T1) → T1) _ _) ?_ (by intro h; k_node; k_node; k_node; k_node; k_node; k_node; exact h); exact fun p _ => p)
  with_reducible refine wpAny_bind ?_
  with_reducible refine wpAny_bind ?_
  ((with_reducible show wpAny _ _ (typeOf (Value.type "object")) _ _ _); refine Looks.at (Looks.of_pure typeOf_obj) ?_; (try with_reducible show wpAny _ _ _ _ _ _))
  with_reducible refine wpAny_bind ?_
  ((with_reducible show wpAny _ _ (isSubtype (Value.type "type") (Value.type "type")) _ _ _); refine Looks.at (sub_of (r := true) (by kernel_rfl)) ?_; (try with_reducible show wpAny _ _ _ _ _ _))
  (refine (?_ : (fun T2 T1 : Prop => T2 → (T2 → T1) → T1) _ _) ?_ (by intro h; k_node; exact h); exact fun p _ => p)
  (with_reducible refine wpAny_pure ?_; (try with_reducible show wpAny _ _ _ _ _ _))
  (refine (?_ : (fun T2 T1 : Prop => T2 → (T2 → T1) → T1) _ _) ?_ (by intro h; k_node; k_node; exact h); exact fun p _ => p)
  (with_reducible refine wpAny_pure ?_; (try with_reducible show wpAny _ _ _ _ _ _))
  with_reducible refine wpAny_bind ?_
  (refine (?_ : (fun T2 T1 : Prop => T2 → (T2 → T1) → T1) _ _) ?_ (by intro h; k_node; exact h); exact fun p _ => p)
  with_reducible refine wpAny_bind ?_
  (refine (?_ : (fun T2 T1 : Prop => T2 → (T2 → T1) → T1) _ _) ?_ (by intro h; k_node; exact h); exact fun p _ => p)
  (with_reducible refine nd_fresh ?_; (try with_reducible show wpAny _ _ _ _ _ _))
  try refine st_n s ?_
  (with_reducible refine nd_pure ?_; (try with_reducible show wpAny _ _ _ _ _ _))
  (with_reducible refine wpAny_pure ?_; (try with_reducible show wpAny _ _ _ _ _ _))
  (refine (?_ : (fun T2 T1 : Prop => T2 → (T2 → T1) → T1) _ _) ?_ (by intro h; k_node; k_node; exact h); exact fun p _ => p)
  with_reducible refine wpAny_bind ?_
  (with_reducible refine wpAny_pure ?_; (try with_reducible show wpAny _ _ _ _ _ _))
  with_reducible refine wpAny_holding ?_
  with_reducible refine wpAny_bind ?_
  ((with_reducible show wpAny _ _ (PySem.getAttr? _ _) _ _ _); refine get_prep rfl (Nat.le_of_ble_eq_true rfl) (Nat.le_of_ble_eq_true rfl) D ?_; clear D; intro pa hpa tpa D; (try with_reducible show wpAny _ _ _ _ _ _))
  with_reducible refine wpAny_bind ?_
  ((with_reducible show wpAny _ _ (PySem.call (Value.ref _) _ _) _ _ _); refine prep_lg rfl (Nat.le_of_ble_eq_true rfl) (Nat.le_of_ble_eq_true rfl) D (by k_mem) ?_; clear D; intro N0 hn0 tn0 D; have n1 : (N0 == sysModules) = false := Lg.ne_sys D (by k_mem) KYg (by kernel_rfl); (try with_reducible show wpAny _ _ _ _ _ _))
  with_reducible refine wpAny_bind ?_
  (refine (?_ : (fun T2 T1 : Prop => T2 → (T2 → T1) → T1) _ _) ?_ (by intro h; k_node; exact h); exact fun p _ => p)
  (with_reducible refine w_itef (by assumption) ?_)
  (with_reducible refine wpAny_pure ?_; (try with_reducible show wpAny _ _ _ _ _ _))
  with_reducible refine wpAny_bind ?_
  ((with_reducible show wpAny _ _ (specialOf (Value.ref _) (Str.ofString "__getitem__")) _ _ _); refine Looks.at (spec_of (r := some (.builtin "dict.__getitem__")) (D.get (by k_mem)) rfl (by kernel_rfl)) ?_; (try with_reducible show wpAny _ _ _ _ _ _))
  (refine (?_ : (fun T2 T1 : Prop => T2 → (T2 → T1) → T1) _ _) ?_ (by intro h; k_node; k_node; exact h); exact fun p _ => p)
  with_reducible refine wpAny_holding ?_
  (refine (?_ : (fun T2 T1 : Prop => T2 → (T2 → T1) → T1) _ _) ?_ (by intro h; k_node; k_node; exact h); exact fun p _ => p)
  with_reducible refine wpAny_bind ?_
  (with_reducible refine wpAny_pure ?_; (try with_reducible show wpAny _ _ _ _ _ _))
  (refine (?_ : (fun T2 T1 : Prop => T2 → (T2 → T1) → T1) _ _) ?_ (by intro h; k_node; k_node; exact h); exact fun p _ => p)
  with_reducible refine wpAny_bind ?_
  (with_reducible refine wpAny_pure ?_; (try with_reducible show wpAny _ _ _ _ _ _))
  with_reducible refine wpAny_bind ?_
  ((with_reducible show wpAny _ _ (PySem.classCode _ _ _ _ _ _) _ _ _); refine class_code (fun c' => [(N0, _), (pa, _), (aB, _), (23, tabObj #[rawInt _, rawInt _, .ref c'])]) rfl (CH.keeps hOg) D (fun c' => .tail (.tail (.tail .head))) ?_; clear D; intro C1 P1 oC hc tc D CH1; (try with_reducible show wpAny _ _ _ _ _ _))
  try refine st_n s ?_
  with_reducible refine wpAny_bind ?_
  ((with_reducible show wpAny _ _ (PySem.builtinsFor _ _) _ _ _); refine bf_lg T hOg D ?_; (try with_reducible show wpAny _ _ _ _ _ _))
  try refine st_n s ?_
  with_reducible refine wpAny_bind ?_
  (refine (?_ : (fun T2 T1 : Prop => T2 → (T2 → T1) → T1) _ _) ?_ (by intro h; k_node; exact h); exact fun p _ => p)
  with_reducible refine wpAny_bind ?_
  ((with_reducible show wpAny _ _ (nsGet _ (Str.ofString "__name__")) _ _ _); refine Looks.at (looks_nsIn (K := hy w.params) (ns := 3) (r := some (.str (Str.ofString "law_mq0248_01") 310)) (Frag.In.keeps KYg (Lg.keep (by assumption))) (by kernel_rfl)) ?_; (try with_reducible show wpAny _ _ _ _ _ _))
  (refine (?_ : (fun T2 T1 : Prop => T2 → (T2 → T1) → T1) _ _) ?_ (by intro h; k_node; exact h); exact fun p _ => p)
  ((with_reducible show wpAny _ _ (Sem.alloc _ _) _ _ _); refine jn_alloc (by assumption) rfl ?_; intro aF ha1 D; (try with_reducible show wpAny _ _ _ _ _ _))
  try refine st_n s ?_
  (with_reducible refine nd_pure ?_; (try with_reducible show wpAny _ _ _ _ _ _))
  with_reducible refine wpAny_bind ?_
  (refine (?_ : (fun T2 T1 : Prop => T2 → (T2 → T1) → T1) _ _) ?_ (by intro h; k_node; exact h); exact fun p _ => p)
  with_reducible refine wpAny_bind ?_
  (refine (?_ : (fun T2 T1 : Prop => T2 → (T2 → T1) → T1) _ _) ?_ (by intro h; k_node; k_node; k_node; k_node; k_node; k_node; exact h); exact fun p _ => p)
  with_reducible refine wpAny_bind ?_
  (refine (?_ : (fun T2 T1 : Prop => T2 → (T2 → T1) → T1) _ _) ?_ (by intro h; k_node; k_node; exact h); exact fun p _ => p)
  (with_reducible refine wpAny_pure ?_; (try with_reducible show wpAny _ _ _ _ _ _))
  (refine (?_ : (fun T2 T1 : Prop => T2 → (T2 → T1) → T1) _ _) ?_ (by intro h; k_node; k_node; exact h); exact fun p _ => p)
  with_reducible refine wpAny_bind ?_
  (refine (?_ : (fun T2 T1 : Prop => T2 → (T2 → T1) → T1) _ _) ?_ (by intro h; k_node; k_node; exact h); exact fun p _ => p)
  (with_reducible refine wpAny_pure ?_; (try with_reducible show wpAny _ _ _ _ _ _))
  (refine (?_ : (fun T2 T1 : Prop => T2 → (T2 → T1) → T1) _ _) ?_ (by intro h; k_node; k_node; exact h); exact fun p _ => p)
  with_reducible refine wpAny_bind ?_
  (refine (?_ : (fun T2 T1 : Prop => T2 → (T2 → T1) → T1) _ _) ?_ (by intro h; k_node; k_node; exact h); exact fun p _ => p)
  (with_reducible refine wpAny_pure ?_; (try with_reducible show wpAny _ _ _ _ _ _))
  (refine (?_ : (fun T2 T1 : Prop => T2 → (T2 → T1) → T1) _ _) ?_ (by intro h; k_node; k_node; exact h); exact fun p _ => p)
  with_reducible refine wpAny_bind ?_
  (refine (?_ : (fun T2 T1 : Prop => T2 → (T2 → T1) → T1) _ _) ?_ (by intro h; k_node; k_node; exact h); exact fun p _ => p)
  (with_reducible refine wpAny_pure ?_; (try with_reducible show wpAny _ _ _ _ _ _))
  (refine (?_ : (fun T2 T1 : Prop => T2 → (T2 → T1) → T1) _ _) ?_ (by intro h; k_node; k_node; exact h); exact fun p _ => p)
  with_reducible refine wpAny_bind ?_
  (refine (?_ : (fun T2 T1 : Prop => T2 → (T2 → T1) → T1) _ _) ?_ (by intro h; k_node; k_node; exact h); exact fun p _ => p)
  (with_reducible refine wpAny_pure ?_; (try with_reducible show wpAny _ _ _ _ _ _))
  (refine (?_ : (fun T2 T1 : Prop => T2 → (T2 → T1) → T1) _ _) ?_ (by intro h; k_node; k_node; exact h); exact fun p _ => p)
  with_reducible refine wpAny_bind ?_
  (refine (?_ : (fun T2 T1 : Prop => T2 → (T2 → T1) → T1) _ _) ?_ (by intro h; k_node; k_node; exact h); exact fun p _ => p)
  (with_reducible refine wpAny_pure ?_; (try with_reducible show wpAny _ _ _ _ _ _))
  (refine (?_ : (fun T2 T1 : Prop => T2 → (T2 → T1) → T1) _ _) ?_ (by intro h; k_node; k_node; exact h); exact fun p _ => p)
  with_reducible refine wpAny_bind ?_
  (refine (?_ : (fun T2 T1 : Prop => T2 → (T2 → T1) → T1) _ _) ?_ (by intro h; k_node; k_node; exact h); exact fun p _ => p)
  (with_reducible refine wpAny_pure ?_; (try with_reducible show wpAny _ _ _ _ _ _))
  (refine (?_ : (fun T2 T1 : Prop => T2 → (T2 → T1) → T1) _ _) ?_ (by intro h; k_node; k_node; exact h); exact fun p _ => p)
  with_reducible refine wpAny_bind ?_
  (refine (?_ : (fun T2 T1 : Prop => T2 → (T2 → T1) → T1) _ _) ?_ (by intro h; k_node; k_node; exact h); exact fun p _ => p)
  (with_reducible refine wpAny_pure ?_; (try with_reducible show wpAny _ _ _ _ _ _))
  (refine (?_ : (fun T2 T1 : Prop => T2 → (T2 → T1) → T1) _ _) ?_ (by intro h; k_node; k_node; exact h); exact fun p _ => p)
  with_reducible refine wpAny_bind ?_
  (refine (?_ : (fun T2 T1 : Prop => T2 → (T2 → T1) → T1) _ _) ?_ (by intro h; k_node; k_node; exact h); exact fun p _ => p)
  (with_reducible refine wpAny_pure ?_; (try with_reducible show wpAny _ _ _ _ _ _))
  (refine (?_ : (fun T2 T1 : Prop => T2 → (T2 → T1) → T1) _ _) ?_ (by intro h; k_node; k_node; exact h); exact fun p _ => p)
  with_reducible refine wpAny_bind ?_
  (refine (?_ : (fun T2 T1 : Prop => T2 → (T2 → T1) → T1) _ _) ?_ (by intro h; k_node; k_node; exact h); exact fun p _ => p)
  with_reducible refine wpAny_bind ?_
  (refine (?_ : (fun T2 T1 : Prop => T2 → (T2 → T1) → T1) _ _) ?_ (by intro h; k_node; k_node; exact h); exact fun p _ => p)
  (with_reducible refine wpAny_pure ?_; (try with_reducible show wpAny _ _ _ _ _ _))
  (with_reducible refine wpAny_pure ?_; (try with_reducible show wpAny _ _ _ _ _ _))
  (refine (?_ : (fun T2 T1 : Prop => T2 → (T2 → T1) → T1) _ _) ?_ (by intro h; k_node; k_node; exact h); exact fun p _ => p)
  (with_reducible refine wpAny_pure ?_; (try with_reducible show wpAny _ _ _ _ _ _))
  (with_reducible refine wpAny_pure ?_; (try with_reducible show wpAny _ _ _ _ _ _))
  with_reducible refine wpAny_holding ?_
  with_reducible refine wpAny_bind ?_
  ((with_reducible show wpAny _ _ (PySem.enterFrame _) _ _ _); refine ef_lg T hOg D (Nat.le_of_ble_eq_true rfl) ?_; (try with_reducible show wpAny _ _ _ _ _ _))
  try refine st_n s ?_
  with_reducible refine wpAny_bind ?_
  with_reducible refine wpAny_onRaise ?_
  with_reducible refine wpAny_bind ?_
  (refine (?_ : (fun T2 T1 : Prop => T2 → (T2 → T1) → T1) _ _) ?_ (by intro h; k_node; k_node; k_node; k_node; k_node; exact h); exact fun p _ => p)
  with_reducible refine wpAny_bind ?_
  (refine (?_ : (fun T2 T1 : Prop => T2 → (T2 → T1) → T1) _ _) ?_ (by intro h; k_node; exact h); exact fun p _ => p)
  with_reducible refine wpAny_bind ?_
  (refine (?_ : (fun T2 T1 : Prop => T2 → (T2 → T1) → T1) _ _) ?_ (by intro h; k_node; exact h); exact fun p _ => p)
  ((with_reducible show wpAny _ _ (Sem.load _ _ _) _ _ _); refine jn_load (by assumption) (by k_mem) ?_; (try with_reducible show wpAny _ _ _ _ _ _))
  (with_reducible refine nd_pure ?_; (try with_reducible show wpAny _ _ _ _ _ _))
  (refine (?_ : (fun T2 T1 : Prop => T2 → (T2 → T1) → T1) _ _) ?_ (by intro h; k_node; k_node; exact h); exact fun p _ => p)
  with_reducible refine wpAny_bind ?_
  (refine (?_ : (fun T2 T1 : Prop => T2 → (T2 → T1) → T1) _ _) ?_ (by intro h; k_node; exact h); exact fun p _ => p)
  ((with_reducible show wpAny _ _ (Sem.load _ _ _) _ _ _); refine jn_load (by assumption) (by k_mem) ?_; (try with_reducible show wpAny _ _ _ _ _ _))
  (with_reducible refine nd_pure ?_; (try with_reducible show wpAny _ _ _ _ _ _))
  (refine (?_ : (fun T2 T1 : Prop => T2 → (T2 → T1) → T1) _ _) ?_ (by intro h; k_node; k_node; exact h); exact fun p _ => p)
  (with_reducible refine wpAny_pure ?_; (try with_reducible show wpAny _ _ _ _ _ _))
  (refine (?_ : (fun T2 T1 : Prop => T2 → (T2 → T1) → T1) _ _) ?_ (by intro h; k_node; k_node; exact h); exact fun p _ => p)
  with_reducible refine wpAny_bind ?_
  ((with_reducible show wpAny _ _ (nsGet _ (Str.ofString "__name__")) _ _ _); refine Looks.at (looks_nsIn (K := hy w.params) (ns := 3) (r := some (.str (Str.ofString "law_mq0248_01") 310)) (Frag.In.keeps KYg (Lg.keep (by assumption))) (by kernel_rfl)) ?_; (try with_reducible show wpAny _ _ _ _ _ _))
  (with_reducible refine wpAny_pure ?_; (try with_reducible show wpAny _ _ _ _ _ _))
  with_reducible refine wpAny_bind ?_
  ((with_reducible show wpAny _ _ (PySem.storeName _ _ _) _ _ _); refine store_new (a := N0) _ rfl (by kernel_rfl) rfl D (by kernel_rfl) (fun _ => (.tail (.tail (.tail .head)))) ?_; clear D; intro k0 hs0 ts0 D; (try with_reducible show wpAny _ _ _ _ _ _))
  try refine st_n s ?_
  with_reducible refine wpAny_bind ?_
  (refine (?_ : (fun T2 T1 : Prop => T2 → (T2 → T1) → T1) _ _) ?_ (by intro h; k_node; exact h); exact fun p _ => p)
  with_reducible refine wpAny_bind ?_
  (refine (?_ : (fun T2 T1 : Prop => T2 → (T2 → T1) → T1) _ _) ?_ (by intro h; k_node; exact h); exact fun p _ => p)
  (with_reducible refine nd_fresh ?_; (try with_reducible show wpAny _ _ _ _ _ _))
  try refine st_n s ?_
  (with_reducible refine nd_pure ?_; (try with_reducible show wpAny _ _ _ _ _ _))
  (with_reducible refine wpAny_pure ?_; (try with_reducible show wpAny _ _ _ _ _ _))
  with_reducible refine wpAny_bind ?_
  ((with_reducible show wpAny _ _ (PySem.storeName _ _ _) _ _ _); refine store_new (a := N0) _ rfl (by kernel_rfl) rfl D (by kernel_rfl) (fun _ => (.tail (.tail (.tail .head)))) ?_; clear D; intro k1 hs1 ts1 D; (try with_reducible show wpAny _ _ _ _ _ _))
  try refine st_n s ?_
  with_reducible refine wpAny_bind ?_
  (refine (?_ : (fun T2 T1 : Prop => T2 → (T2 → T1) → T1) _ _) ?_ (by intro h; k_node; exact h); exact fun p _ => p)
  with_reducible refine wpAny_bind ?_
  (refine (?_ : (fun T2 T1 : Prop => T2 → (T2 → T1) → T1) _ _) ?_ (by intro h; k_node; exact h); exact fun p _ => p)
  (with_reducible refine nd_fresh ?_; (try with_reducible show wpAny _ _ _ _ _ _))
  try refine st_n s ?_
  (with_reducible refine nd_pure ?_; (try with_reducible show wpAny _ _ _ _ _ _))
  (with_reducible refine wpAny_pure ?_; (try with_reducible show wpAny _ _ _ _ _ _))
  with_reducible refine wpAny_bind ?_
  ((with_reducible show wpAny _ _ (PySem.storeName _ _ _) _ _ _); refine store_new (a := N0) _ rfl (by kernel_rfl) rfl D (by kernel_rfl) (fun _ => (.tail (.tail (.tail .head)))) ?_; clear D; intro k2 hs2 ts2 D; (try with_reducible show wpAny _ _ _ _ _ _))
  try refine st_n s ?_
  (with_reducible refine wpAny_pure ?_; (try with_reducible show wpAny _ _ _ _ _ _))
  with_reducible refine wpAny_bind ?_
  ((with_reducible show wpAny _ _ (PySem.run (Code.body _ _) _) _ _ _); refine wpAny_run (codeAny_body rfl rfl ?_) (by intro x; cases x); (try with_reducible show wpAny _ _ _ _ _ _))
  refine gen_qe fun Q₀ E₀ hQ₀ hE₀ => ?_
  ((with_reducible show wpAny _ _ (execs (_ :: _) _) _ _ _); refine wpAny_execs_cons ?_; (try with_reducible show wpAny _ _ _ _ _ _))
  ((with_reducible show wpAny _ _ (exec (Stmt.Assign _ _ _) _) _ _ _); rw [arm_exec_Assign]; (try with_reducible show wpAny _ _ _ _ _ _))
  with_reducible refine wpAny_bind ?_
  (with_reducible refine wpAny_standAt ?_; (try with_reducible show wpAny _ _ _ _ _ _))
  with_reducible refine wpAny_bind ?_
  (refine (?_ : (fun T2 T1 : Prop => T2 → (T2 → T1) → T1) _ _) ?_ (by intro h; k_node; k_node; k_node; exact h); exact fun p _ => p)
  (with_reducible refine wpAny_pure ?_; (try with_reducible show wpAny _ _ _ _ _ _))
  (refine (?_ : (fun T2 T1 : Prop => T2 → (T2 → T1) → T1) _ _) ?_ (by intro h; k_node; exact h); exact fun p _ => p)
  with_reducible refine wpAny_bind ?_
  (refine (?_ : (fun T2 T1 : Prop => T2 → (T2 → T1) → T1) _ _) ?_ (by intro h; k_node; k_node; k_node; k_node; exact h); exact fun p _ => p)
  with_reducible refine wpAny_bind ?_
  (refine (?_ : (fun T2 T1 : Prop => T2 → (T2 → T1) → T1) _ _) ?_ (by intro h; k_node; exact h); exact fun p _ => p)
  (with_reducible refine nd_fresh ?_; (try with_reducible show wpAny _ _ _ _ _ _))
  try refine st_n s ?_
  (with_reducible refine nd_pure ?_; (try with_reducible show wpAny _ _ _ _ _ _))
  (with_reducible refine wpAny_pure ?_; (try with_reducible show wpAny _ _ _ _ _ _))
  with_reducible refine wpAny_bind ?_
  (refine (?_ : (fun T2 T1 : Prop => T2 → (T2 → T1) → T1) _ _) ?_ (by intro h; k_node; exact h); exact fun p _ => p)
  (with_reducible refine wpAny_pure ?_; (try with_reducible show wpAny _ _ _ _ _ _))
  (refine (?_ : (fun T2 T1 : Prop => T2 → (T2 → T1) → T1) _ _) ?_ (by intro h; k_node; exact h); exact fun p _ => p)
  with_reducible refine wpAny_bind ?_
  (refine (?_ : (fun T2 T1 : Prop => T2 → (T2 → T1) → T1) _ _) ?_ (by intro h; k_node; k_node; k_node; k_node; k_node; exact h); exact fun p _ => p)
  with_reducible refine wpAny_bind ?_
  (with_reducible refine wpAny_standAt ?_; (try with_reducible show wpAny _ _ _ _ _ _))
  (refine (?_ : (fun T2 T1 : Prop => T2 → (T2 → T1) → T1) _ _) ?_ (by intro h; k_node; exact h); exact fun p _ => p)
  with_reducible refine wpAny_bind ?_
  with_reducible refine wpAny_holding ?_
  (refine (?_ : (fun T2 T1 : Prop => T2 → (T2 → T1) → T1) _ _) ?_ (by intro h; k_node; exact h); exact fun p _ => p)
  (with_reducible refine nd_point ?_; (try with_reducible show wpAny _ _ _ _ _ _))
  try refine st_n s ?_
  (with_reducible refine nd_pure ?_; (try with_reducible show wpAny _ _ _ _ _ _))
  with_reducible refine wpAny_bind ?_
  ((with_reducible show wpAny _ _ (PySem.storeName _ (Str.ofString "__module__") (Value.str (Str.ofString "cpy313.functools") _)) _ _ _); refine store_head (a := N0) rfl (by kernel_rfl) rfl D (by kernel_rfl) (.tail (.tail (.tail .head))) ?_; clear D; intro hm tm D; (try with_reducible show wpAny _ _ _ _ _ _))
  try refine st_n s ?_
  (refine (?_ : (fun T2 T1 : Prop => T2 → (T2 → T1) → T1) _ _) ?_ (by intro h; k_node; exact h); exact fun p _ => p)
  (with_reducible refine nd_point ?_; (try with_reducible show wpAny _ _ _ _ _ _))
  try refine st_n s ?_
  (with_reducible refine nd_pure ?_; (try with_reducible show wpAny _ _ _ _ _ _))
  (with_reducible refine wpAny_pure ?_; (try with_reducible show wpAny _ _ _ _ _ _))
  ((with_reducible show wpAny _ _ (execs (_ :: _) _) _ _ _); refine wpAny_execs_cons ?_; (try with_reducible show wpAny _ _ _ _ _ _))
  ((with_reducible show wpAny _ _ (exec (Stmt.Assign _ _ _) _) _ _ _); rw [arm_exec_Assign]; (try with_reducible show wpAny _ _ _ _ _ _))
  with_reducible refine wpAny_bind ?_
  (with_reducible refine wpAny_standAt ?_; (try with_reducible show wpAny _ _ _ _ _ _))
  with_reducible refine wpAny_bind ?_
  (refine (?_ : (fun T2 T1 : Prop => T2 → (T2 → T1) → T1) _ _) ?_ (by intro h; k_node; k_node; k_node; exact h); exact fun p _ => p)
  (with_reducible refine wpAny_pure ?_; (try with_reducible show wpAny _ _ _ _ _ _))
  (refine (?_ : (fun T2 T1 : Prop => T2 → (T2 → T1) → T1) _ _) ?_ (by intro h; k_node; exact h); exact fun p _ => p)
  with_reducible refine wpAny_bind ?_
  (refine (?_ : (fun T2 T1 : Prop => T2 → (T2 → T1) → T1) _ _) ?_ (by intro h; k_node; exact h); exact fun p _ => p)
  with_reducible refine wpAny_bind ?_
  (with_reducible refine wpAny_standAt ?_; (try with_reducible show wpAny _ _ _ _ _ _))
  with_reducible refine wpAny_bind ?_
  (refine (?_ : (fun T2 T1 : Prop => T2 → (T2 → T1) → T1) _ _) ?_ (by intro h; k_node; exact h); exact fun p _ => p)
  with_reducible refine wpAny_bind ?_
  (refine (?_ : (fun T2 T1 : Prop => T2 → (T2 → T1) → T1) _ _) ?_ (by intro h; k_node; k_node; k_node; k_node; k_node; exact h); exact fun p _ => p)
  with_reducible refine wpAny_bind ?_
  (refine (?_ : (fun T2 T1 : Prop => T2 → (T2 → T1) → T1) _ _) ?_ (by intro h; k_node; exact h); exact fun p _ => p)
  (with_reducible refine nd_fresh ?_; (try with_reducible show wpAny _ _ _ _ _ _))
  try refine st_n s ?_
  (with_reducible refine nd_pure ?_; (try with_reducible show wpAny _ _ _ _ _ _))
  (with_reducible refine wpAny_pure ?_; (try with_reducible show wpAny _ _ _ _ _ _))
  (refine (?_ : (fun T2 T1 : Prop => T2 → (T2 → T1) → T1) _ _) ?_ (by intro h; k_node; k_node; exact h); exact fun p _ => p)
  with_reducible refine wpAny_bind ?_
  (with_reducible refine wpAny_pure ?_; (try with_reducible show wpAny _ _ _ _ _ _))
  with_reducible refine wpAny_bind ?_
  with_reducible refine wpAny_holding ?_
  (refine (?_ : (fun T2 T1 : Prop => T2 → (T2 → T1) → T1) _ _) ?_ (by intro h; k_node; exact h); exact fun p _ => p)
  (with_reducible refine wpAny_pure ?_; (try with_reducible show wpAny _ _ _ _ _ _))
  (with_reducible refine wpAny_pure ?_; (try with_reducible show wpAny _ _ _ _ _ _))
  (refine (?_ : (fun T2 T1 : Prop => T2 → (T2 → T1) → T1) _ _) ?_ (by intro h; k_node; k_node; k_node; k_node; k_node; k_node; exact h); exact fun p _ => p)
  with_reducible refine wpAny_bind ?_
  (refine (?_ : (fun T2 T1 : Prop => T2 → (T2 → T1) → T1) _ _) ?_ (by intro h; k_node; exact h); exact fun p _ => p)
  ((with_reducible show wpAny _ _ (Sem.alloc _ _) _ _ _); refine jn_alloc (by assumption) rfl ?_; intro aL ha2 D; (try with_reducible show wpAny _ _ _ _ _ _))
  try refine st_n s ?_
  (with_reducible refine nd_pure ?_; (try with_reducible show wpAny _ _ _ _ _ _))
  (with_reducible refine wpAny_pure ?_; (try with_reducible show wpAny _ _ _ _ _ _))
  with_reducible refine wpAny_bind ?_
  (refine (?_ : (fun T2 T1 : Prop => T2 → (T2 → T1) → T1) _ _) ?_ (by intro h; k_node; exact h); exact fun p _ => p)
  (with_reducible refine wpAny_pure ?_; (try with_reducible show wpAny _ _ _ _ _ _))
  (refine (?_ : (fun T2 T1 : Prop => T2 → (T2 → T1) → T1) _ _) ?_ (by intro h; k_node; exact h); exact fun p _ => p)
  with_reducible refine wpAny_bind ?_
  (refine (?_ : (fun T2 T1 : Prop => T2 → (T2 → T1) → T1) _ _) ?_ (by intro h; k_node; k_node; k_node; k_node; k_node; exact h); exact fun p _ => p)
  with_reducible refine wpAny_bind ?_
  (with_reducible refine wpAny_standAt ?_; (try with_reducible show wpAny _ _ _ _ _ _))
  (refine (?_ : (fun T2 T1 : Prop => T2 → (T2 → T1) → T1) _ _) ?_ (by intro h; k_node; exact h); exact fun p _ => p)
  with_reducible refine wpAny_bind ?_
  with_reducible refine wpAny_holding ?_
  (refine (?_ : (fun T2 T1 : Prop => T2 → (T2 → T1) → T1) _ _) ?_ (by intro h; k_node; exact h); exact fun p _ => p)
  (with_reducible refine nd_point ?_; (try with_reducible show wpAny _ _ _ _ _ _))
  try refine st_n s ?_
  (with_reducible refine nd_pure ?_; (try with_reducible show wpAny _ _ _ _ _ _))
  with_reducible refine wpAny_bind ?_
  ((with_reducible show wpAny _ _ (PySem.storeName _ _ _) _ _ _); refine store_new (a := N0) _ rfl (by kernel_rfl) rfl D (by kernel_rfl) (fun _ => (.tail (.tail (.tail (.tail .head))))) ?_; clear D; intro k3 hs3 ts3 D; (try with_reducible show wpAny _ _ _ _ _ _))
  try refine st_n s ?_
  (refine (?_ : (fun T2 T1 : Prop => T2 → (T2 → T1) → T1) _ _) ?_ (by intro h; k_node; exact h); exact fun p _ => p)
  (with_reducible refine nd_point ?_; (try with_reducible show wpAny _ _ _ _ _ _))
  try refine st_n s ?_
  (with_reducible refine nd_pure ?_; (try with_reducible show wpAny _ _ _ _ _ _))
  (with_reducible refine wpAny_pure ?_; (try with_reducible show wpAny _ _ _ _ _ _))
  ((with_reducible show wpAny _ _ (execs (_ :: _) _) _ _ _); refine wpAny_execs_cons ?_; (try with_reducible show wpAny _ _ _ _ _ _))
  ((with_reducible show wpAny _ _ (exec (Stmt.FunctionDef _ _ _ _ _ _ _ _ _ _) _) _ _ _); rw [arm_exec_FunctionDef]; (try with_reducible show wpAny _ _ _ _ _ _))
  (refine (?_ : (fun T2 T1 : Prop => T2 → (T2 → T1) → T1) _ _) ?_ (by intro h; k_node; k_node; k_node; exact h); exact fun p _ => p)
  with_reducible refine wpAny_bind ?_
  (refine (?_ : (fun T2 T1 : Prop => T2 → (T2 → T1) → T1) _ _) ?_ (by intro h; k_node; exact h); exact fun p _ => p)
  (with_reducible refine wpAny_pure ?_; (try with_reducible show wpAny _ _ _ _ _ _))
  with_reducible refine wpAny_bind ?_
  (with_reducible refine wpAny_standAt ?_; (try with_reducible show wpAny _ _ _ _ _ _))
  with_reducible refine wpAny_bind ?_
  with_reducible refine wpAny_holding ?_
  with_reducible refine wpAny_bind ?_
  (refine (?_ : (fun T2 T1 : Prop => T2 → (T2 → T1) → T1) _ _) ?_ (by intro h; k_node; exact h); exact fun p _ => p)
  (with_reducible refine wpAny_pure ?_; (try with_reducible show wpAny _ _ _ _ _ _))
  with_reducible refine wpAny_bind ?_
  with_reducible refine wpAny_holding ?_
  (refine (?_ : (fun T2 T1 : Prop => T2 → (T2 → T1) → T1) _ _) ?_ (by intro h; k_node; exact h); exact fun p _ => p)
  (with_reducible refine wpAny_pure ?_; (try with_reducible show wpAny _ _ _ _ _ _))
  with_reducible refine wpAny_holding ?_
  with_reducible refine wpAny_bind ?_
  (refine (?_ : (fun T2 T1 : Prop => T2 → (T2 → T1) → T1) _ _) ?_ (by intro h; k_node; exact h); exact fun p _ => p)
  (with_reducible refine wpAny_pure ?_; (try with_reducible show wpAny _ _ _ _ _ _))
  ((with_reducible show wpAny _ _ (PySem.makeFunction (Str.ofString "__init__") _ _ _ _ _ _ _ _ _ _) _ _ _); refine mf_lg _ T hOg (clos := []) ?c13 rfl rfl (CH1 _ (D.get (by k_mem))) D (fun _ => (.tail (.tail (.tail .head)))) ?tr3 ?_; (case c13 => kernel_rfl); (case tr3 => walk_at "TAB"); clear D; intro f0 c0 oc0 vs0 tq0 ctv0 doc0 hf0 tf0 D hoc0 hvs0; (try with_reducible show wpAny _ _ _ _ _ _))
  try refine st_n s ?_
  with_reducible refine wpAny_bind ?_
  (refine (?_ : (fun T2 T1 : Prop => T2 → (T2 → T1) → T1) _ _) ?_ (by intro h; k_node; exact h); exact fun p _ => p)
  (with_reducible refine wpAny_pure ?_; (try with_reducible show wpAny _ _ _ _ _ _))
  with_reducible refine wpAny_bind ?_
  (with_reducible refine wpAny_standAt ?_; (try with_reducible show wpAny _ _ _ _ _ _))
  with_reducible refine wpAny_bind ?_
  (refine (?_ : (fun T2 T1 : Prop => T2 → (T2 → T1) → T1) _ _) ?_ (by intro h; k_node; exact h); exact fun p _ => p)
  with_reducible refine wpAny_bind ?_
  with_reducible refine wpAny_holding ?_
  (refine (?_ : (fun T2 T1 : Prop => T2 → (T2 → T1) → T1) _ _) ?_ (by intro h; k_node; exact h); exact fun p _ => p)
  (with_reducible refine nd_point ?_; (try with_reducible show wpAny _ _ _ _ _ _))
  try refine st_n s ?_
  (with_reducible refine nd_pure ?_; (try with_reducible show wpAny _ _ _ _ _ _))
  with_reducible refine wpAny_bind ?_
  ((with_reducible show wpAny _ _ (PySem.storeName _ _ _) _ _ _); refine store_new (a := N0) _ rfl (by kernel_rfl) rfl D (by kernel_rfl) (fun _ => (.tail (.tail (.tail (.tail (.tail (.tail .head))))))) ?_; clear D; intro k4 hs4 ts4 D; (try with_reducible show wpAny _ _ _ _ _ _))
  try refine st_n s ?_
  (refine (?_ : (fun T2 T1 : Prop => T2 → (T2 → T1) → T1) _ _) ?_ (by intro h; k_node; exact h); exact fun p _ => p)
  (with_reducible refine nd_point ?_; (try with_reducible show wpAny _ _ _ _ _ _))
  try refine st_n s ?_
  (with_reducible refine nd_pure ?_; (try with_reducible show wpAny _ _ _ _ _ _))
  (with_reducible refine wpAny_pure ?_; (try with_reducible show wpAny _ _ _ _ _ _))
  ((with_reducible show wpAny _ _ (execs (_ :: _) _) _ _ _); refine wpAny_execs_cons ?_; (try with_reducible show wpAny _ _ _ _ _ _))
  ((with_reducible show wpAny _ _ (exec (Stmt.FunctionDef _ _ _ _ _ _ _ _ _ _) _) _ _ _); rw [arm_exec_FunctionDef]; (try with_reducible show wpAny _ _ _ _ _ _))
  (refine (?_ : (fun T2 T1 : Prop => T2 → (T2 → T1) → T1) _ _) ?_ (by intro h; k_node; k_node; k_node; exact h); exact fun p _ => p)
  with_reducible refine wpAny_bind ?_
  (refine (?_ : (fun T2 T1 : Prop => T2 → (T2 → T1) → T1) _ _) ?_ (by intro h; k_node; exact h); exact fun p _ => p)
  (with_reducible refine wpAny_pure ?_; (try with_reducible show wpAny _ _ _ _ _ _))
  with_reducible refine wpAny_bind ?_
  (with_reducible refine wpAny_standAt ?_; (try with_reducible show wpAny _ _ _ _ _ _))
  with_reducible refine wpAny_bind ?_
  with_reducible refine wpAny_holding ?_
  with_reducible refine wpAny_bind ?_
  (refine (?_ : (fun T2 T1 : Prop => T2 → (T2 → T1) → T1) _ _) ?_ (by intro h; k_node; exact h); exact fun p _ => p)
  (with_reducible refine wpAny_pure ?_; (try with_reducible show wpAny _ _ _ _ _ _))
  with_reducible refine wpAny_bind ?_
  with_reducible refine wpAny_holding ?_
  (refine (?_ : (fun T2 T1 : Prop => T2 → (T2 → T1) → T1) _ _) ?_ (by intro h; k_node; exact h); exact fun p _ => p)
  (with_reducible refine wpAny_pure ?_; (try with_reducible show wpAny _ _ _ _ _ _))
  with_reducible refine wpAny_holding ?_
  with_reducible refine wpAny_bind ?_
  (refine (?_ : (fun T2 T1 : Prop => T2 → (T2 → T1) → T1) _ _) ?_ (by intro h; k_node; exact h); exact fun p _ => p)
  (with_reducible refine wpAny_pure ?_; (try with_reducible show wpAny _ _ _ _ _ _))
  ((with_reducible show wpAny _ _ (PySem.makeFunction _ _ _ _ _ _ _ _ _ _ _) _ _ _); refine mf_lg _ T hOg (clos := [(Str.ofString "mycmp", L' + 1)]) ?c15 rfl rfl (CH1 _ (D.get (by k_mem))) D (fun _ => (.tail (.tail (.tail (.tail (.tail .head)))))) ?tr5 ?_; (case c15 => kernel_rfl); (case tr5 => walk_at "TAB"); clear D; intro f1 c1 oc1 vs1 tq1 ctv1 doc1 hf1 tf1 D hoc1 hvs1; (try with_reducible show wpAny _ _ _ _ _ _))
  try refine st_n s ?_
  with_reducible refine wpAny_bind ?_
  (refine (?_ : (fun T2 T1 : Prop => T2 → (T2 → T1) → T1) _ _) ?_ (by intro h; k_node; exact h); exact fun p _ => p)
  (with_reducible refine wpAny_pure ?_; (try with_reducible show wpAny _ _ _ _ _ _))
  with_reducible refine wpAny_bind ?_
  (with_reducible refine wpAny_standAt ?_; (try with_reducible show wpAny _ _ _ _ _ _))
  with_reducible refine wpAny_bind ?_
  (refine (?_ : (fun T2 T1 : Prop => T2 → (T2 → T1) → T1) _ _) ?_ (by intro h; k_node; exact h); exact fun p _ => p)
  with_reducible refine wpAny_bind ?_
  with_reducible refine wpAny_holding ?_
  (refine (?_ : (fun T2 T1 : Prop => T2 → (T2 → T1) → T1) _ _) ?_ (by intro h; k_node; exact h); exact fun p _ => p)
  (with_reducible refine nd_point ?_; (try with_reducible show wpAny _ _ _ _ _ _))
  try refine st_n s ?_
  (with_reducible refine nd_pure ?_; (try with_reducible show wpAny _ _ _ _ _ _))
  with_reducible refine wpAny_bind ?_
  ((with_reducible show wpAny _ _ (PySem.storeName _ _ _) _ _ _); refine store_new (a := N0) _ rfl (by kernel_rfl) rfl D (by kernel_rfl) (fun _ => (.tail (.tail (.tail (.tail (.tail (.tail (.tail (.tail .head))))))))) ?_; clear D; intro k5 hs5 ts5 D; (try with_reducible show wpAny _ _ _ _ _ _))
  try refine st_n s ?_
  (refine (?_ : (fun T2 T1 : Prop => T2 → (T2 → T1) → T1) _ _) ?_ (by intro h; k_node; exact h); exact fun p _ => p)
  (with_reducible refine nd_point ?_; (try with_reducible show wpAny _ _ _ _ _ _))
  try refine st_n s ?_
  (with_reducible refine nd_pure ?_; (try with_reducible show wpAny _ _ _ _ _ _))
  (with_reducible refine wpAny_pure ?_; (try with_reducible show wpAny _ _ _ _ _ _))
  ((with_reducible show wpAny _ _ (execs (_ :: _) _) _ _ _); refine wpAny_execs_cons ?_; (try with_reducible show wpAny _ _ _ _ _ _))
  ((with_reducible show wpAny _ _ (exec (Stmt.FunctionDef _ _ _ _ _ _ _ _ _ _) _) _ _ _); rw [arm_exec_FunctionDef]; (try with_reducible show wpAny _ _ _ _ _ _))
  (refine (?_ : (fun T2 T1 : Prop => T2 → (T2 → T1) → T1) _ _) ?_ (by intro h; k_node; k_node; k_node; exact h); exact fun p _ => p)
  with_reducible refine wpAny_bind ?_
  (refine (?_ : (fun T2 T1 : Prop => T2 → (T2 → T1) → T1) _ _) ?_ (by intro h; k_node; exact h); exact fun p _ => p)
  (with_reducible refine wpAny_pure ?_; (try with_reducible show wpAny _ _ _ _ _ _))
  with_reducible refine wpAny_bind ?_
  (with_reducible refine wpAny_standAt ?_; (try with_reducible show wpAny _ _ _ _ _ _))
  with_reducible refine wpAny_bind ?_
  with_reducible refine wpAny_holding ?_
  with_reducible refine wpAny_bind ?_
  (refine (?_ : (fun T2 T1 : Prop => T2 → (T2 → T1) → T1) _ _) ?_ (by intro h; k_node; exact h); exact fun p _ => p)
  (with_reducible refine wpAny_pure ?_; (try with_reducible show wpAny _ _ _ _ _ _))
  with_reducible refine wpAny_bind ?_
  with_reducible refine wpAny_holding ?_
  (refine (?_ : (fun T2 T1 : Prop => T2 → (T2 → T1) → T1) _ _) ?_ (by intro h; k_node; exact h); exact fun p _ => p)
  (with_reducible refine wpAny_pure ?_; (try with_reducible show wpAny _ _ _ _ _ _))
  with_reducible refine wpAny_holding ?_
  with_reducible refine wpAny_bind ?_
  (refine (?_ : (fun T2 T1 : Prop => T2 → (T2 → T1) → T1) _ _) ?_ (by intro h; k_node; exact h); exact fun p _ => p)
  (with_reducible refine wpAny_pure ?_; (try with_reducible show wpAny _ _ _ _ _ _))
  ((with_reducible show wpAny _ _ (PySem.makeFunction _ _ _ _ _ _ _ _ _ _ _) _ _ _); refine mf_lg _ T hOg (clos := [(Str.ofString "mycmp", L' + 1)]) ?c17 rfl rfl (CH1 _ (D.get (by k_mem))) D (fun _ => (.tail (.tail (.tail (.tail (.tail (.tail (.tail .head)))))))) ?tr7 ?_; (case c17 => kernel_rfl); (case tr7 => walk_at "TAB"); clear D; intro f2 c2 oc2 vs2 tq2 ctv2 doc2 hf2 tf2 D hoc2 hvs2; (try with_reducible show wpAny _ _ _ _ _ _))
  try refine st_n s ?_
  with_reducible refine wpAny_bind ?_
  (refine (?_ : (fun T2 T1 : Prop => T2 → (T2 → T1) → T1) _ _) ?_ (by intro h; k_node; exact h); exact fun p _ => p)
  (with_reducible refine wpAny_pure ?_; (try with_reducible show wpAny _ _ _ _ _ _))
  with_reducible refine wpAny_bind ?_
  (with_reducible refine wpAny_standAt ?_; (try with_reducible show wpAny _ _ _ _ _ _))
  with_reducible refine wpAny_bind ?_
  (refine (?_ : (fun T2 T1 : Prop => T2 → (T2 → T1) → T1) _ _) ?_ (by intro h; k_node; exact h); exact fun p _ => p)
  with_reducible refine wpAny_bind ?_
  with_reducible refine wpAny_holding ?_
  (refine (?_ : (fun T2 T1 : Prop => T2 → (T2 → T1) → T1) _ _) ?_ (by intro h; k_node; exact h); exact fun p _ => p)
  (with_reducible refine nd_point ?_; (try with_reducible show wpAny _ _ _ _ _ _))
  try refine st_n s ?_
  (with_reducible refine nd_pure ?_; (try with_reducible show wpAny _ _ _ _ _ _))
  with_reducible refine wpAny_bind ?_
  ((with_reducible show wpAny _ _ (PySem.storeName _ _ _) _ _ _); refine store_new (a := N0) _ rfl (by kernel_rfl) rfl D (by kernel_rfl) (fun _ => (.tail (.tail (.tail (.tail (.tail (.tail (.tail (.tail (.tail (.tail .head))))))))))) ?_; clear D; intro k6 hs6 ts6 D; (try with_reducible show wpAny _ _ _ _ _ _))
  try refine st_n s ?_
  (refine (?_ : (fun T2 T1 : Prop => T2 → (T2 → T1) → T1) _ _) ?_ (by intro h; k_node; exact h); exact fun p _ => p)
  (with_reducible refine nd_point ?_; (try with_reducible show wpAny _ _ _ _ _ _))
  try refine st_n s ?_
  (with_reducible refine nd_pure ?_; (try with_reducible show wpAny _ _ _ _ _ _))
  (with_reducible refine wpAny_pure ?_; (try with_reducible show wpAny _ _ _ _ _ _))
  ((with_reducible show wpAny _ _ (execs (_ :: _) _) _ _ _); refine wpAny_execs_cons ?_; (try with_reducible show wpAny _ _ _ _ _ _))
  ((with_reducible show wpAny _ _ (exec (Stmt.FunctionDef _ _ _ _ _ _ _ _ _ _) _) _ _ _); rw [arm_exec_FunctionDef]; (try with_reducible show wpAny _ _ _ _ _ _))
  (refine (?_ : (fun T2 T1 : Prop => T2 → (T2 → T1) → T1) _ _) ?_ (by intro h; k_node; k_node; k_node; exact h); exact fun p _ => p)
  with_reducible refine wpAny_bind ?_
  (refine (?_ : (fun T2 T1 : Prop => T2 → (T2 → T1) → T1) _ _) ?_ (by intro h; k_node; exact h); exact fun p _ => p)
  (with_reducible refine wpAny_pure ?_; (try with_reducible show wpAny _ _ _ _ _ _))
  with_reducible refine wpAny_bind ?_
  (with_reducible refine wpAny_standAt ?_; (try with_reducible show wpAny _ _ _ _ _ _))
  with_reducible refine wpAny_bind ?_
  with_reducible refine wpAny_holding ?_
  with_reducible refine wpAny_bind ?_
  (refine (?_ : (fun T2 T1 : Prop => T2 → (T2 → T1) → T1) _ _) ?_ (by intro h; k_node; exact h); exact fun p _ => p)
  (with_reducible refine wpAny_pure ?_; (try with_reducible show wpAny _ _ _ _ _ _))
  with_reducible refine wpAny_bind ?_
  with_reducible refine wpAny_holding ?_
  (refine (?_ : (fun T2 T1 : Prop => T2 → (T2 → T1) → T1) _ _) ?_ (by intro h; k_node; exact h); exact fun p _ => p)
  (with_reducible refine wpAny_pure ?_; (try with_reducible show wpAny _ _ _ _ _ _))
  with_reducible refine wpAny_holding ?_
  with_reducible refine wpAny_bind ?_
  (refine (?_ : (fun T2 T1 : Prop => T2 → (T2 → T1) → T1) _ _) ?_ (by intro h; k_node; exact h); exact fun p _ => p)
  (with_reducible refine wpAny_pure ?_; (try with_reducible show wpAny _ _ _ _ _ _))
  ((with_reducible show wpAny _ _ (PySem.makeFunction _ _ _ _ _ _ _ _ _ _ _) _ _ _); refine mf_lg _ T hOg (clos := [(Str.ofString "mycmp", L' + 1)]) ?c19 rfl rfl (CH1 _ (D.get (by k_mem))) D (fun _ => (.tail (.tail (.tail (.tail (.tail (.tail (.tail (.tail (.tail .head)))))))))) ?tr9 ?_; (case c19 => kernel_rfl); (case tr9 => walk_at "TAB"); clear D; intro f3 c3 oc3 vs3 tq3 ctv3 doc3 hf3 tf3 D hoc3 hvs3; (try with_reducible show wpAny _ _ _ _ _ _))
  try refine st_n s ?_
  with_reducible refine wpAny_bind ?_
  (refine (?_ : (fun T2 T1 : Prop => T2 → (T2 → T1) → T1) _ _) ?_ (by intro h; k_node; exact h); exact fun p _ => p)
  (with_reducible refine wpAny_pure ?_; (try with_reducible show wpAny _ _ _ _ _ _))
  with_reducible refine wpAny_bind ?_
  (with_reducible refine wpAny_standAt ?_; (try with_reducible show wpAny _ _ _ _ _ _))
  with_reducible refine wpAny_bind ?_
  (refine (?_ : (fun T2 T1 : Prop => T2 → (T2 → T1) → T1) _ _) ?_ (by intro h; k_node; exact h); exact fun p _ => p)
  with_reducible refine wpAny_bind ?_
  with_reducible refine wpAny_holding ?_
  (refine (?_ : (fun T2 T1 : Prop => T2 → (T2 → T1) → T1) _ _) ?_ (by intro h; k_node; exact h); exact fun p _ => p)
  (with_reducible refine nd_point ?_; (try with_reducible show wpAny _ _ _ _ _ _))
  try refine st_n s ?_
  (with_reducible refine nd_pure ?_; (try with_reducible show wpAny _ _ _ _ _ _))
  with_reducible refine wpAny_bind ?_
  ((with_reducible show wpAny _ _ (PySem.storeName _ _ _) _ _ _); refine store_new (a := N0) _ rfl (by kernel_rfl) rfl D (by kernel_rfl) (fun _ => (.tail (.tail (.tail (.tail (.tail (.tail (.tail (.tail (.tail (.tail (.tail (.tail .head))))))))))))) ?_; clear D; intro k7 hs7 ts7 D; (try with_reducible show wpAny _ _ _ _ _ _))
  try refine st_n s ?_
  (refine (?_ : (fun T2 T1 : Prop => T2 → (T2 → T1) → T1) _ _) ?_ (by intro h; k_node; exact h); exact fun p _ => p)
  (with_reducible refine nd_point ?_; (try with_reducible show wpAny _ _ _ _ _ _))
  try refine st_n s ?_
  (with_reducible refine nd_pure ?_; (try with_reducible show wpAny _ _ _ _ _ _))
  (with_reducible refine wpAny_pure ?_; (try with_reducible show wpAny _ _ _ _ _ _))
  ((with_reducible show wpAny _ _ (execs (_ :: _) _) _ _ _); refine wpAny_execs_cons ?_; (try with_reducible show wpAny _ _ _ _ _ _))
  ((with_reducible show wpAny _ _ (exec (Stmt.FunctionDef _ _ _ _ _ _ _ _ _ _) _) _ _ _); rw [arm_exec_FunctionDef]; (try with_reducible show wpAny _ _ _ _ _ _))
  (refine (?_ : (fun T2 T1 : Prop => T2 → (T2 → T1) → T1) _ _) ?_ (by intro h; k_node; k_node; k_node; exact h); exact fun p _ => p)
  with_reducible refine wpAny_bind ?_
  (refine (?_ : (fun T2 T1 : Prop => T2 → (T2 → T1) → T1) _ _) ?_ (by intro h; k_node; exact h); exact fun p _ => p)
  (with_reducible refine wpAny_pure ?_; (try with_reducible show wpAny _ _ _ _ _ _))
  with_reducible refine wpAny_bind ?_
  (with_reducible refine wpAny_standAt ?_; (try with_reducible show wpAny _ _ _ _ _ _))
  with_reducible refine wpAny_bind ?_
  with_reducible refine wpAny_holding ?_
  with_reducible refine wpAny_bind ?_
  (refine (?_ : (fun T2 T1 : Prop => T2 → (T2 → T1) → T1) _ _) ?_ (by intro h; k_node; exact h); exact fun p _ => p)
  (with_reducible refine wpAny_pure ?_; (try with_reducible show wpAny _ _ _ _ _ _))
  with_reducible refine wpAny_bind ?_
  with_reducible refine wpAny_holding ?_
  (refine (?_ : (fun T2 T1 : Prop => T2 → (T2 → T1) → T1) _ _) ?_ (by intro h; k_node; exact h); exact fun p _ => p)
  (with_reducible refine wpAny_pure ?_; (try with_reducible show wpAny _ _ _ _ _ _))
  with_reducible refine wpAny_holding ?_
  with_reducible refine wpAny_bind ?_
  (refine (?_ : (fun T2 T1 : Prop => T2 → (T2 → T1) → T1) _ _) ?_ (by intro h; k_node; exact h); exact fun p _ => p)
  (with_reducible refine wpAny_pure ?_; (try with_reducible show wpAny _ _ _ _ _ _))
  ((with_reducible show wpAny _ _ (PySem.makeFunction _ _ _ _ _ _ _ _ _ _ _) _ _ _); refine mf_lg _ T hOg (clos := [(Str.ofString "mycmp", L' + 1)]) ?c111 rfl rfl (CH1 _ (D.get (by k_mem))) D (fun _ => (.tail (.tail (.tail (.tail (.tail (.tail (.tail (.tail (.tail (.tail (.tail .head)))))))))))) ?tr11 ?_; (case c111 => kernel_rfl); (case tr11 => walk_at "TAB"); clear D; intro f4 c4 oc4 vs4 tq4 ctv4 doc4 hf4 tf4 D hoc4 hvs4; (try with_reducible show wpAny _ _ _ _ _ _))
  try refine st_n s ?_
  with_reducible refine wpAny_bind ?_
  (refine (?_ : (fun T2 T1 : Prop => T2 → (T2 → T1) → T1) _ _) ?_ (by intro h; k_node; exact h); exact fun p _ => p)
  (with_reducible refine wpAny_pure ?_; (try with_reducible show wpAny _ _ _ _ _ _))
  with_reducible refine wpAny_bind ?_
  (with_reducible refine wpAny_standAt ?_; (try with_reducible show wpAny _ _ _ _ _ _))
  with_reducible refine wpAny_bind ?_
  (refine (?_ : (fun T2 T1 : Prop => T2 → (T2 → T1) → T1) _ _) ?_ (by intro h; k_node; exact h); exact fun p _ => p)
  with_reducible refine wpAny_bind ?_
  with_reducible refine wpAny_holding ?_
  (refine (?_ : (fun T2 T1 : Prop => T2 → (T2 → T1) → T1) _ _) ?_ (by intro h; k_node; exact h); exact fun p _ => p)
  (with_reducible refine nd_point ?_; (try with_reducible show wpAny _ _ _ _ _ _))
  try refine st_n s ?_
  (with_reducible refine nd_pure ?_; (try with_reducible show wpAny _ _ _ _ _ _))
  with_reducible refine wpAny_bind ?_
  ((with_reducible show wpAny _ _ (PySem.storeName _ _ _) _ _ _); refine store_new (a := N0) _ rfl (by kernel_rfl) rfl D (by kernel_rfl) (fun _ => (.tail (.tail (.tail (.tail (.tail (.tail (.tail (.tail (.tail (.tail (.tail (.tail (.tail (.tail .head))))))))))))))) ?_; clear D; intro k8 hs8 ts8 D; (try with_reducible show wpAny _ _ _ _ _ _))
  try refine st_n s ?_
  (refine (?_ : (fun T2 T1 : Prop => T2 → (T2 → T1) → T1) _ _) ?_ (by intro h; k_node; exact h); exact fun p _ => p)
  (with_reducible refine nd_point ?_; (try with_reducible show wpAny _ _ _ _ _ _))
  try refine st_n s ?_
  (with_reducible refine nd_pure ?_; (try with_reducible show wpAny _ _ _ _ _ _))
  (with_reducible refine wpAny_pure ?_; (try with_reducible show wpAny _ _ _ _ _ _))
  ((with_reducible show wpAny _ _ (execs (_ :: _) _) _ _ _); refine wpAny_execs_cons ?_; (try with_reducible show wpAny _ _ _ _ _ _))
  ((with_reducible show wpAny _ _ (exec (Stmt.FunctionDef _ _ _ _ _ _ _ _ _ _) _) _ _ _); rw [arm_exec_FunctionDef]; (try with_reducible show wpAny _ _ _ _ _ _))
  (refine (?_ : (fun T2 T1 : Prop => T2 → (T2 → T1) → T1) _ _) ?_ (by intro h; k_node; k_node; k_node; exact h); exact fun p _ => p)
  with_reducible refine wpAny_bind ?_
  (refine (?_ : (fun T2 T1 : Prop => T2 → (T2 → T1) → T1) _ _) ?_ (by intro h; k_node; exact h); exact fun p _ => p)
  (with_reducible refine wpAny_pure ?_; (try with_reducible show wpAny _ _ _ _ _ _))
  with_reducible refine wpAny_bind ?_
  (with_reducible refine wpAny_standAt ?_; (try with_reducible show wpAny _ _ _ _ _ _))
  with_reducible refine wpAny_bind ?_
  with_reducible refine wpAny_holding ?_
  with_reducible refine wpAny_bind ?_
  (refine (?_ : (fun T2 T1 : Prop => T2 → (T2 → T1) → T1) _ _) ?_ (by intro h; k_node; exact h); exact fun p _ => p)
  (with_reducible refine wpAny_pure ?_; (try with_reducible show wpAny _ _ _ _ _ _))
  with_reducible refine wpAny_bind ?_
  with_reducible refine wpAny_holding ?_
  (refine (?_ : (fun T2 T1 : Prop => T2 → (T2 → T1) → T1) _ _) ?_ (by intro h; k_node; exact h); exact fun p _ => p)
  (with_reducible refine wpAny_pure ?_; (try with_reducible show wpAny _ _ _ _ _ _))
  with_reducible refine wpAny_holding ?_
  with_reducible refine wpAny_bind ?_
  (refine (?_ : (fun T2 T1 : Prop => T2 → (T2 → T1) → T1) _ _) ?_ (by intro h; k_node; exact h); exact fun p _ => p)
  (with_reducible refine wpAny_pure ?_; (try with_reducible show wpAny _ _ _ _ _ _))
  ((with_reducible show wpAny _ _ (PySem.makeFunction _ _ _ _ _ _ _ _ _ _ _) _ _ _); refine mf_lg _ T hOg (clos := [(Str.ofString "mycmp", L' + 1)]) ?c113 rfl rfl (CH1 _ (D.get (by k_mem))) D (fun _ => (.tail (.tail (.tail (.tail (.tail (.tail (.tail (.tail (.tail (.tail (.tail (.tail (.tail .head)))))))))))))) ?tr13 ?_; (case c113 => kernel_rfl); (case tr13 => walk_at "TAB"); clear D; intro f5 c5 oc5 vs5 tq5 ctv5 doc5 hf5 tf5 D hoc5 hvs5; (try with_reducible show wpAny _ _ _ _ _ _))
  try refine st_n s ?_
  with_reducible refine wpAny_bind ?_
  (refine (?_ : (fun T2 T1 : Prop => T2 → (T2 → T1) → T1) _ _) ?_ (by intro h; k_node; exact h); exact fun p _ => p)
  (with_reducible refine wpAny_pure ?_; (try with_reducible show wpAny _ _ _ _ _ _))
  with_reducible refine wpAny_bind ?_
  (with_reducible refine wpAny_standAt ?_; (try with_reducible show wpAny _ _ _ _ _ _))
  with_reducible refine wpAny_bind ?_
  (refine (?_ : (fun T2 T1 : Prop => T2 → (T2 → T1) → T1) _ _) ?_ (by intro h; k_node; exact h); exact fun p _ => p)
  with_reducible refine wpAny_bind ?_
  with_reducible refine wpAny_holding ?_
  (refine (?_ : (fun T2 T1 : Prop => T2 → (T2 → T1) → T1) _ _) ?_ (by intro h; k_node; exact h); exact fun p _ => p)
  (with_reducible refine nd_point ?_; (try with_reducible show wpAny _ _ _ _ _ _))
  try refine st_n s ?_
  (with_reducible refine nd_pure ?_; (try with_reducible show wpAny _ _ _ _ _ _))
  with_reducible refine wpAny_bind ?_
  ((with_reducible show wpAny _ _ (PySem.storeName _ _ _) _ _ _); refine store_new (a := N0) _ rfl (by kernel_rfl) rfl D (by kernel_rfl) (fun _ => (.tail (.tail (.tail (.tail (.tail (.tail (.tail (.tail (.tail (.tail (.tail (.tail (.tail (.tail (.tail (.tail .head))))))))))))))))) ?_; clear D; intro k9 hs9 ts9 D; (try with_reducible show wpAny _ _ _ _ _ _))
  try refine st_n s ?_
  (refine (?_ : (fun T2 T1 : Prop => T2 → (T2 → T1) → T1) _ _) ?_ (by intro h; k_node; exact h); exact fun p _ => p)
  (with_reducible refine nd_point ?_; (try with_reducible show wpAny _ _ _ _ _ _))
  try refine st_n s ?_
  (with_reducible refine nd_pure ?_; (try with_reducible show wpAny _ _ _ _ _ _))
  (with_reducible refine wpAny_pure ?_; (try with_reducible show wpAny _ _ _ _ _ _))
  ((with_reducible show wpAny _ _ (execs (_ :: _) _) _ _ _); refine wpAny_execs_cons ?_; (try with_reducible show wpAny _ _ _ _ _ _))
  ((with_reducible show wpAny _ _ (exec (Stmt.Assign _ _ _) _) _ _ _); rw [arm_exec_Assign]; (try with_reducible show wpAny _ _ _ _ _ _))
  with_reducible refine wpAny_bind ?_
  (with_reducible refine wpAny_standAt ?_; (try with_reducible show wpAny _ _ _ _ _ _))
  with_reducible refine wpAny_bind ?_
  (refine (?_ : (fun T2 T1 : Prop => T2 → (T2 → T1) → T1) _ _) ?_ (by intro h; k_node; k_node; k_node; exact h); exact fun p _ => p)
  (with_reducible refine wpAny_pure ?_; (try with_reducible show wpAny _ _ _ _ _ _))
  (refine (?_ : (fun T2 T1 : Prop => T2 → (T2 → T1) → T1) _ _) ?_ (by intro h; k_node; exact h); exact fun p _ => p)
  with_reducible refine wpAny_bind ?_
  (refine (?_ : (fun T2 T1 : Prop => T2 → (T2 → T1) → T1) _ _) ?_ (by intro h; k_node; k_node; exact h); exact fun p _ => p)
  (with_reducible refine wpAny_pure ?_; (try with_reducible show wpAny _ _ _ _ _ _))
  with_reducible refine wpAny_bind ?_
  (refine (?_ : (fun T2 T1 : Prop => T2 → (T2 → T1) → T1) _ _) ?_ (by intro h; k_node; exact h); exact fun p _ => p)
  (with_reducible refine wpAny_pure ?_; (try with_reducible show wpAny _ _ _ _ _ _))
  (refine (?_ : (fun T2 T1 : Prop => T2 → (T2 → T1) → T1) _ _) ?_ (by intro h; k_node; exact h); exact fun p _ => p)
  with_reducible refine wpAny_bind ?_
  (refine (?_ : (fun T2 T1 : Prop => T2 → (T2 → T1) → T1) _ _) ?_ (by intro h; k_node; k_node; k_node; k_node; k_node; exact h); exact fun p _ => p)
  with_reducible refine wpAny_bind ?_
  (with_reducible refine wpAny_standAt ?_; (try with_reducible show wpAny _ _ _ _ _ _))
  (refine (?_ : (fun T2 T1 : Prop => T2 → (T2 → T1) → T1) _ _) ?_ (by intro h; k_node; exact h); exact fun p _ => p)
  with_reducible refine wpAny_bind ?_
  with_reducible refine wpAny_holding ?_
  (refine (?_ : (fun T2 T1 : Prop => T2 → (T2 → T1) → T1) _ _) ?_ (by intro h; k_node; exact h); exact fun p _ => p)
  (with_reducible refine nd_point ?_; (try with_reducible show wpAny _ _ _ _ _ _))
  try refine st_n s ?_
  (with_reducible refine nd_pure ?_; (try with_reducible show wpAny _ _ _ _ _ _))
  with_reducible refine wpAny_bind ?_
  ((with_reducible show wpAny _ _ (PySem.storeName _ _ _) _ _ _); refine store_new (a := N0) _ rfl (by kernel_rfl) rfl D (by kernel_rfl) (fun _ => (.tail (.tail (.tail (.tail (.tail (.tail (.tail (.tail (.tail (.tail (.tail (.tail (.tail (.tail (.tail (.tail .head))))))))))))))))) ?_; clear D; intro k10 hs10 ts10 D; (try with_reducible show wpAny _ _ _ _ _ _))
  try refine st_n s ?_
  (refine (?_ : (fun T2 T1 : Prop => T2 → (T2 → T1) → T1) _ _) ?_ (by intro h; k_node; exact h); exact fun p _ => p)
  (with_reducible refine nd_point ?_; (try with_reducible show wpAny _ _ _ _ _ _))
  try refine st_n s ?_
  (with_reducible refine nd_pure ?_; (try with_reducible show wpAny _ _ _ _ _ _))
  (with_reducible refine wpAny_pure ?_; (try with_reducible show wpAny _ _ _ _ _ _))
  ((with_reducible show wpAny _ _ (execs [] _) _ _ _); refine wpAny_execs_nil ?_; subst hQ₀ hE₀; (try with_reducible show wpAny _ _ _ _ _ _))
  with_reducible refine wpAny_bind ?_
  with_reducible refine wpAny_onRaise ?_
  with_reducible refine wpAny_bind ?_
  (refine (?_ : (fun T2 T1 : Prop => T2 → (T2 → T1) → T1) _ _) ?_ (by intro h; k_node; k_node; exact h); exact fun p _ => p)
  with_reducible refine wpAny_bind ?_
  (refine (?_ : (fun T2 T1 : Prop => T2 → (T2 → T1) → T1) _ _) ?_ (by intro h; k_node; exact h); exact fun p _ => p)
  with_reducible refine wpAny_bind ?_
  (refine (?_ : (fun T2 T1 : Prop => T2 → (T2 → T1) → T1) _ _) ?_ (by intro h; k_node; exact h); exact fun p _ => p)
  (with_reducible refine nd_fresh ?_; (try with_reducible show wpAny _ _ _ _ _ _))
  try refine st_n s ?_
  (with_reducible refine nd_pure ?_; (try with_reducible show wpAny _ _ _ _ _ _))
  (with_reducible refine wpAny_pure ?_; (try with_reducible show wpAny _ _ _ _ _ _))
  (refine (?_ : (fun T2 T1 : Prop => T2 → (T2 → T1) → T1) _ _) ?_ (by intro h; k_node; exact h); exact fun p _ => p)
  (with_reducible refine wpAny_pure ?_; (try with_reducible show wpAny _ _ _ _ _ _))
  with_reducible refine wpAny_bind ?_
  (refine (?_ : (fun T2 T1 : Prop => T2 → (T2 → T1) → T1) _ _) ?_ (by intro h; k_node; k_node; exact h); exact fun p _ => p)
  with_reducible refine wpAny_bind ?_
  (refine (?_ : (fun T2 T1 : Prop => T2 → (T2 → T1) → T1) _ _) ?_ (by intro h; k_node; exact h); exact fun p _ => p)
  ((with_reducible show wpAny _ _ (Sem.alloc _ _) _ _ _); refine jn_alloc (by assumption) rfl ?_; intro aS ha3 D; (try with_reducible show wpAny _ _ _ _ _ _))
  try refine st_n s ?_
  (with_reducible refine nd_pure ?_; (try with_reducible show wpAny _ _ _ _ _ _))
  (with_reducible refine wpAny_pure ?_; (try with_reducible show wpAny _ _ _ _ _ _))
  with_reducible refine wpAny_bind ?_
  ((with_reducible show wpAny _ _ (PySem.storeName _ _ _) _ _ _); refine store_new (a := N0) _ rfl (by kernel_rfl) rfl D (by kernel_rfl) (fun _ => (.tail (.tail (.tail (.tail (.tail (.tail (.tail (.tail (.tail (.tail (.tail (.tail (.tail (.tail (.tail (.tail (.tail .head)))))))))))))))))) ?_; clear D; intro k11 hs11 ts11 D; (try with_reducible show wpAny _ _ _ _ _ _))
  try refine st_n s ?_
  (with_reducible refine wpAny_pure ?_; (try with_reducible show wpAny _ _ _ _ _ _))
  (refine (?_ : (fun T2 T1 : Prop => T2 → (T2 → T1) → T1) _ _) ?_ (by intro h; k_node; k_node; exact h); exact fun p _ => p)
  with_reducible refine wpAny_bind ?_
  have hN : hs11.get? N0 = some (⟨.type "dict", none, .dict ⟨[⟨PyData.keyHash w.params (Str.ofString "__module__"), .str (Str.ofString "__module__") k0, .str (Str.ofString "cpy313.functools") ts2⟩, ⟨PyData.keyHash w.params (Str.ofString "__qualname__"), .str (Str.ofString "__qualname__") k1, .str (Str.ofString "cmp_to_key.<locals>.K") ts0⟩, ⟨PyData.keyHash w.params (Str.ofString "__firstlineno__"), .str (Str.ofString "__firstlineno__") k2, .int 7 ts1⟩, ⟨PyData.keyHash w.params (Str.ofString "__slots__"), .str (Str.ofString "__slots__") k3, .ref aL⟩, ⟨PyData.keyHash w.params (Str.ofString "__init__"), .str (Str.ofString "__init__") k4, .ref f0⟩, ⟨PyData.keyHash w.params (Str.ofString "__lt__"), .str (Str.ofString "__lt__") k5, .ref f1⟩, ⟨PyData.keyHash w.params (Str.ofString "__gt__"), .str (Str.ofString "__gt__") k6, .ref f2⟩, ⟨PyData.keyHash w.params (Str.ofString "__eq__"), .str (Str.ofString "__eq__") k7, .ref f3⟩, ⟨PyData.keyHash w.params (Str.ofString "__le__"), .str (Str.ofString "__le__") k8, .ref f4⟩, ⟨PyData.keyHash w.params (Str.ofString "__ge__"), .str (Str.ofString "__ge__") k9, .ref f5⟩, ⟨PyData.keyHash w.params (Str.ofString "__hash__"), .str (Str.ofString "__hash__") k10, .none⟩, ⟨PyData.keyHash w.params (Str.ofString "__static_attributes__"), .str (Str.ofString "__static_attributes__") k11, .ref aS⟩]⟩ 12, ⟨[]⟩⟩ : Obj) := (D.get (a := N0) (by k_mem)).trans (congrArg some (by kernel_rfl))
  have hB : hs11.get? aB = some (⟨.type "tuple", none, .seq ⟨[.type "object"]⟩ 0, ⟨[]⟩⟩ : Obj) := (D.get (a := aB) (by k_mem)).trans (congrArg some (by kernel_rfl))
  have hL : hs11.get? aL = some (⟨.type "list", none, .seq ⟨[.str (Str.ofString "obj") tm]⟩ 0, ⟨[]⟩⟩ : Obj) := (D.get (a := aL) (by k_mem)).trans (congrArg some (by kernel_rfl))
  have hS := D.get (a := aS) (by k_mem)
  refine wpAny_le (A' := AY) rfl (Nat.le_of_ble_eq_true rfl) rfl rfl (Nat.le_of_ble_eq_true rfl) ?_
  refine wpAny_call ?_
  refine type0 (KYg.keeps D.keep) ?_ hB hN hL hS (D.get (a := f0) (by k_mem)) (D.get (a := f1) (by k_mem)) (D.get (a := f2) (by k_mem)) (D.get (a := f3) (by k_mem)) (D.get (a := f4) (by k_mem)) (D.get (a := f5) (by k_mem)) n1
  intro l C N md ta tb tc n hT tT D1 m1 m2 m3
  show wpAny _ _ _ _ _ _
  repeat (first | (with_reducible refine wpAny_bind ?_) | (with_reducible refine wpAny_pure ?_; (try with_reducible show wpAny _ _ _ _ _ _)) | ((with_reducible show wpAny _ _ (PySem.bindName _ _ _) _ _ _); refine bindName_ ?_) | (with_reducible refine wpAny_standAt ?_; (try with_reducible show wpAny _ _ _ _ _ _)) | ((with_reducible fail_if_success show wpAny _ _ (PySem.storeName _ _ _) _ _ _); k_node))
  have z23 : 23 < L' := Nat.lt_of_lt_of_le (Heap.lt_size h23) F'.above
  obtain ⟨oL, esL, epL, hoL, _⟩ := id F'.ns
  have gL : (hideAll h₁ [23]).get? L' = some oL := hideAll_get _ hoL (fun q => by rw [List.mem_singleton] at q; exact Nat.ne_of_gt z23 q)
  have g1 : (hideAll h₁ [23]).get? (L' + 1) = some oK := hideAll_get _ (N' _ (.head _)).1 (fun q => by rw [List.mem_singleton] at q; exact Nat.ne_of_gt (Nat.lt_succ_of_lt z23) q)
  refine wpAny_storeName_local (by rfl) (F'.ns.at' fun o e => D1.keep _ _ (D.keep _ _ (hideAll_get _ e (fun q => by rw [List.mem_singleton] at q; exact Nat.ne_of_gt z23 q)))) (fun hU hnU hsU => ?_) (by rfl)
  have neD : ∀ a, (hideAll h₁ [23]).get? a = none → a ≠ L' := fun a e q => by rw [q, gL] at e; cases e
  have neT : ∀ a, hs11.get? a = none → a ≠ L' := fun a e q => by rw [q, D.keep _ _ gL] at e; cases e
  have upD := fun {a : Addr} {o : Obj} (hm : (a, o) ∈ _) => (hsU.2 a (neD a (D.ent (a, o) hm).2)).trans (D1.keep _ _ (D.get hm))
  have upT := fun {a : Addr} {o : Obj} (hm : (a, o) ∈ l) => (hsU.2 a (neT a (D1.ent (a, o) hm).2)).trans (D1.get hm)
  have eK : hU.get? (L' + 1) = some oK := (hsU.2 (L' + 1) (Nat.succ_ne_self L')).trans (D1.keep _ _ (D.keep _ _ g1))
  have keepU : ∀ b o, b ≠ 23 → s.heap.get? b = some o → hU.get? b = some o := fun b o hb e =>
    (hsU.2 b (Nat.ne_of_lt (Nat.lt_of_lt_of_le (Heap.lt_size e) F'.above))).trans (D1.keep _ _ (D.keep _ _ (hideAll_get _ (F'.keep _ _ e) (fun q => hb (List.mem_singleton.mp q)))))
  have e23 := upD (a := 23) (by k_mem)
  have dK' : oK.data = .cell (some (.ref 115)) := dK
  have offS : ∀ a, (hideAll h₁ [23]).get? a = none → a ≠ 23 → s.heap.get? a = none := fun a e hne => by
    cases q : s.heap.get? a with
    | none => rfl
    | some o => rw [hideAll_get [23] (F'.keep _ _ q) (fun z => hne (List.mem_singleton.mp z))] at e; cases e
  have g23 := D.get (a := 23) (by k_mem)
  have offT := fun {a : Addr} {o : Obj} (hm : (a, o) ∈ l) => offS a (by
    cases q : (hideAll h₁ [23]).get? a with
    | none => rfl
    | some o' => have e := (D1.ent (a, o) hm).2; have q' := D.keep _ _ q; dsimp only at e; rw [q'] at e; cases e) (fun q => by
    have e := (D1.ent (a, o) hm).2
    dsimp only at e
    rw [q, g23] at e; cases e)
  have offK : s.heap.get? (L' + 1) = none := Heap.get?_none_of_le (Nat.le_succ_of_le F'.above)
  have HL := Led.cons (upT m2) (offT m2) (Led.cons (upT m3) (offT m3) (Led.cons (upT m1) (offT m1) (Led.cons (get_eta eK dK') offK (Led.cons (upD (a := f0) (by k_mem)) (offS f0 (D.ent (f0, _) (by k_mem)).2 (nd_ne (b := 23) 11 20 D.nd rfl rfl (by decide))) (Led.cons (get_eta (upD (a := c0) (by k_mem)) hoc0) (offS c0 (D.ent (c0, _) (by k_mem)).2 (nd_ne (b := 23) 12 20 D.nd rfl rfl (by decide))) (Led.cons (upD (a := f1) (by k_mem)) (offS f1 (D.ent (f1, _) (by k_mem)).2 (nd_ne (b := 23) 9 20 D.nd rfl rfl (by decide))) (Led.cons (get_eta (upD (a := c1) (by k_mem)) hoc1) (offS c1 (D.ent (c1, _) (by k_mem)).2 (nd_ne (b := 23) 10 20 D.nd rfl rfl (by decide))) (Led.cons (upD (a := f2) (by k_mem)) (offS f2 (D.ent (f2, _) (by k_mem)).2 (nd_ne (b := 23) 7 20 D.nd rfl rfl (by decide))) (Led.cons (get_eta (upD (a := c2) (by k_mem)) hoc2) (offS c2 (D.ent (c2, _) (by k_mem)).2 (nd_ne (b := 23) 8 20 D.nd rfl rfl (by decide))) (Led.cons (upD (a := f3) (by k_mem)) (offS f3 (D.ent (f3, _) (by k_mem)).2 (nd_ne (b := 23) 5 20 D.nd rfl rfl (by decide))) (Led.cons (get_eta (upD (a := c3) (by k_mem)) hoc3) (offS c3 (D.ent (c3, _) (by k_mem)).2 (nd_ne (b := 23) 6 20 D.nd rfl rfl (by decide))) (Led.cons (upD (a := f4) (by k_mem)) (offS f4 (D.ent (f4, _) (by k_mem)).2 (nd_ne (b := 23) 3 20 D.nd rfl rfl (by decide))) (Led.cons (get_eta (upD (a := c4) (by k_mem)) hoc4) (offS c4 (D.ent (c4, _) (by k_mem)).2 (nd_ne (b := 23) 4 20 D.nd rfl rfl (by decide))) (Led.cons (upD (a := f5) (by k_mem)) (offS f5 (D.ent (f5, _) (by k_mem)).2 (nd_ne (b := 23) 1 20 D.nd rfl rfl (by decide))) (Led.cons (get_eta (upD (a := c5) (by k_mem)) hoc5) (offS c5 (D.ent (c5, _) (by k_mem)).2 (nd_ne (b := 23) 2 20 D.nd rfl rfl (by decide))) Led.nil)))))))))))))))
  have H := fun p hp => (HL p hp).1
  refine wpAny_pure ?_
  show wpAny _ _ (execs _ _) _ _ _
  refine wpAny_execs_cons ?_
  rw [arm_exec_Return]
  refine wpAny_bind (wpAny_standAt ?_)
  show wpAny _ _ (eval _ _ >>= _) _ _ _
  refine wpAny_bind (wpAny_Name (wpAny_loadName_local rfl (by rfl) hnU (by rfl) ?_) (by decide))
  refine wpAny_pure (hQ C hU _ _ keepU ⟨_, e23⟩ HL ?_)
  refine (kpure_all (lookup_heap H (.head _)) (lookup_heap H (.tail _ (.head _))) (lookup_heap H (.tail _ (.tail _ (.head _)))) (lookup_heap H (.tail _ (.tail _ (.tail _ (.head _))))) (lookup_heap H (.tail _ (.tail _ (.tail _ (.tail _ (.head _)))))) (lookup_heap H (.tail _ (.tail _ (.tail _ (.tail _ (.tail _ (.head _))))))) (lookup_heap H (.tail _ (.tail _ (.tail _ (.tail _ (.tail _ (.tail _ (.head _)))))))) (lookup_heap H (.tail _ (.tail _ (.tail _ (.tail _ (.tail _ (.tail _ (.tail _ (.head _))))))))) (lookup_heap H (.tail _ (.tail _ (.tail _ (.tail _ (.tail _ (.tail _ (.tail _ (.tail _ (.head _)))))))))) (lookup_heap H (.tail _ (.tail _ (.tail _ (.tail _ (.tail _ (.tail _ (.tail _ (.tail _ (.tail _ (.head _))))))))))) (lookup_heap H (.tail _ (.tail _ (.tail _ (.tail _ (.tail _ (.tail _ (.tail _ (.tail _ (.tail _ (.tail _ (.head _)))))))))))) (lookup_heap H (.tail _ (.tail _ (.tail _ (.tail _ (.tail _ (.tail _ (.tail _ (.tail _ (.tail _ (.tail _ (.tail _ (.head _))))))))))))) (lookup_heap H (.tail _ (.tail _ (.tail _ (.tail _ (.tail _ (.tail _ (.tail _ (.tail _ (.tail _ (.tail _ (.tail _ (.tail _ (.head _)))))))))))))) (lookup_heap H (.tail _ (.tail _ (.tail _ (.tail _ (.tail _ (.tail _ (.tail _ (.tail _ (.tail _ (.tail _ (.tail _ (.tail _ (.tail _ (.head _))))))))))))))) (lookup_heap H (.tail _ (.tail _ (.tail _ (.tail _ (.tail _ (.tail _ (.tail _ (.tail _ (.tail _ (.tail _ (.tail _ (.tail _ (.tail _ (.tail _ (.head _)))))))))))))))) (lookup_heap H (.tail _ (.tail _ (.tail _ (.tail _ (.tail _ (.tail _ (.tail _ (.tail _ (.tail _ (.tail _ (.tail _ (.tail _ (.tail _ (.tail _ (.tail _ (.head _))))))))))))))))) ⟨?_, ?_, ?_, ?_, ?_, ?_, ?_, ?_, ?_, ?_, ?_, ?_, ?_, ?_, ?_⟩ ?_ ?_ ?_ ?_ (codeHas_of hvs0) ?_ ?_ ?_ ?_ (codeHas_of hvs1) ?_ ?_ ?_ ?_ (codeHas_of hvs2) ?_ ?_ ?_ ?_ (codeHas_of hvs3) ?_ ?_ ?_ ?_ (codeHas_of hvs4) ?_ ?_ ?_ ?_ (codeHas_of hvs5))
  all_goals kernel_rfl
end
end Mine
end
section
open PySem PySem.W PySem.Calls PyProof.Rows
theorem Mine.fresh_KB1 {prog : Program} {w : World} {A : Around} {env : Env} {Q : Flow → Shared → Prop} {E : Value → Shared → Prop} {s : Shared} (h : Q .next s) : wpAny (model prog w) A (execs [] env) Q E s := by
  w_top off
  k_with_none
  walk1
  exact h
end
section
open PySem PySem.W PySem.Calls PyProof.Rows
open PySem.SeqAt PySem.MeetsSeq PySem.MeetsSeq2 PySem.MeetsSeq3 PySem.SeqRoads2
set_option Elab.async false
set_option maxRecDepth 100000
namespace Mine
theorem bools_all {bs cs : List Bool} (h : bs.length = cs.length) : ((List.range bs.length).all fun i => bs.getD i false == cs.getD i false) = (bs == cs) := by
  rw [Bool.eq_iff_iff, List.all_eq_true, beq_iff_eq]
  constructor
  · intro k
    refine List.ext_getElem h fun i h1 h2 => ?_
    have := k i (List.mem_range.mpr h1)
    simpa [h1, h2] using this
  · rintro rfl i _
    simp
theorem cmp_bools {prog : Program} {w : World} {A : Around} {E : Value → Shared → Prop} {s : Shared} {l b : Addr} {bs cs : List Bool} {Q : Value → Shared → Prop} (hl : s.heap.IsList l (bs.map Value.bool).toArray) (hb : s.heap.IsList b (cs.map Value.bool).toArray) (hsz : bs.length = cs.length) (hu : A.units < cLine)
    (h : Q (.bool (!(bs == cs))) s) : wpAny (model prog w) A (compareOp .NotEq (.ref l) (.ref b)) Q E s := by
  obtain ⟨⟨cls, dd, data, sl⟩, ho, hc, n, hd⟩ := id hl
  obtain ⟨⟨cls2, dd2, data2, sl2⟩, ho2, hc2, n2, hd2⟩ := id hb
  simp only at hc hd hc2 hd2
  subst hc hd hc2 hd2
  show wpAny _ _ (richCompare .NotEq _ _) _ _ _
  refine richCompare_meets_room (op := .NotEq) ⟨_, ho, rfl⟩ ⟨_, ho2, rfl⟩ F.slot_list_ne F.entry_list_ne (F.args_list_ne_2 _ _) (list_neAt l b _ _ n n2 dd dd2 sl sl2 (by simpa using hsz) fun i => bs.getD i false == cs.getD i false)
    ⟨ho, ho2, fun j h1 h2 => ?_, show Value.bool _ ≠ Value.notImplemented ∧ Q (.bool _) s from ⟨(fun x => nomatch x), ?_⟩⟩ hu
  · have h1' : j < bs.length := by simpa using h1
    have h2' : j < cs.length := by simpa using h2
    have e1 : (bs.map Value.bool).toArray[j] = .bool (bs.getD j false) := by simp [h1']
    have e2 : (cs.map Value.bool).toArray[j] = .bool (cs.getD j false) := by simp [h2']
    rw [e1, e2]
    exact EqAt.bool_bool _ _
  · have := bools_all hsz
    simp only [List.size_toArray, List.length_map]
    rw [this]
    exact h
theorem eq_nil_list {prog : Program} {w : World} {A : Around} {E : Value → Shared → Prop} {s : Shared} {l b : Addr} {zs : List Value} {Q : Value → Shared → Prop} (hl : s.heap.IsList l zs.toArray) (hb : s.heap.IsList b ([] : List Value).toArray) (hu : A.units < cLine)
    (h : Q (.bool zs.isEmpty) s) : wpAny (model prog w) A (compareOp .Eq (.ref l) (.ref b)) Q E s := by
  obtain ⟨⟨cls, dd, data, sl⟩, ho, hc, n, hd⟩ := id hl
  obtain ⟨⟨cls2, dd2, data2, sl2⟩, ho2, hc2, n2, hd2⟩ := id hb
  simp only at hc hd hc2 hd2
  subst hc hd hc2 hd2
  show wpAny _ _ (richCompare .Eq _ _) _ _ _
  cases zs with
  | nil =>
    refine richCompare_meets_room (op := .Eq) ⟨_, ho, rfl⟩ ⟨_, ho2, rfl⟩ F.slot_list_eq F.entry_list_eq (F.args_list_eq_2 _ _) (list_eqAt l b _ _ n n2 dd dd2 sl sl2 rfl fun _ => true)
      ⟨ho, ho2, fun j h1 h2 => (by simp at h1), show Value.bool _ ≠ Value.notImplemented ∧ Q (.bool _) s from ⟨(fun x => nomatch x), h⟩⟩ hu
  | cons z r =>
    refine richCompare_meets_room (op := .Eq) ⟨_, ho, rfl⟩ ⟨_, ho2, rfl⟩ F.slot_list_eq F.entry_list_eq (F.args_list_eq_2 _ _) (list_eq_lengthsAt l b _ _ n n2 dd dd2 sl sl2 (by simp))
      ⟨ho, ho2, show Value.bool _ ≠ Value.notImplemented ∧ Q (.bool _) s from ⟨(fun x => nomatch x), h⟩⟩ hu
end Mine
end
section
open PySem PySem.W PySem.Calls PyProof.Rows
theorem Mine.fresh_H6a {prog : Program} {w : World} {A : Around} {env : Env} {Q : Flow → Shared → Prop} {E : Value → Shared → Prop} {s : Shared} (h : Q .next s) : wpAny (model prog w) A (execs [] env) Q E s := by
  w_top off
  k_with_none
  walk1
  exact h
end
section
open PySem PySem.W PySem.Calls PyProof.Rows
set_option Elab.async false
set_option maxRecDepth 100000
set_option maxHeartbeats 8000000
set_option pp.deepTerms false
set_option pp.deepTerms.threshold 6
namespace Mine
theorem words_H6_om : True := by
  k_with "om" => (first | assumption | exact Nat.sub_le _ _ | exact Nat.lt_succ_self _ | exact Nat.le_add_right _ _ | exact Nat.zero_le _ | exact Nat.le_of_lt (by assumption) | exact Nat.lt_of_lt_of_le (by assumption) (by assumption) | exact Nat.lt_of_le_of_lt (by assumption) (by assumption) | exact Nat.le_trans (by assumption) (by assumption) | exact Nat.lt_trans (by assumption) (by assumption) | exact Nat.lt_of_le_of_lt (by assumption) (by decide) | exact Nat.le_trans (by assumption) (by decide) | exact Nat.lt_trans (by assumption) (by decide) | exact Nat.le_trans (Nat.le_of_lt (by assumption)) (by decide) | exact Nat.ne_of_lt (by assumption) | exact Nat.ne_of_gt (by assumption) | exact Ne.symm (by assumption) | exact Nat.ne_of_lt (Nat.lt_trans (by assumption) (by assumption)) | exact Nat.ne_of_gt (Nat.lt_trans (by assumption) (by assumption)) | exact Nat.lt_of_not_le (by assumption) | exact Nat.le_of_not_lt (by assumption) | exact Nat.lt_succ_of_lt (by assumption) | exact Nat.le_of_lt_succ (by assumption) | exact Nat.succ_le_of_lt (by assumption) | exact Nat.le_of_succ_le (by assumption) | exact Int.le_of_lt (by assumption) | exact Int.lt_of_lt_of_le (by assumption) (by assumption) | exact Int.lt_of_le_of_lt (by assumption) (by assumption) | exact Int.le_trans (by assumption) (by assumption) | exact Int.lt_trans (by assumption) (by assumption) | exact Int.lt_of_le_of_lt (by assumption) (by decide) | exact Int.lt_trans (by assumption) (by decide) | exact Int.not_le.mp (by assumption) | exact Int.not_lt.mp (by assumption) | fail "om")
  trivial
theorem words_H6_1 : True := by
  k_with "k_steps" => (repeat' (first | (k_unfold; (try (refine (?_ : (fun T2 T1 : Prop => T2 → (T2 → T1) → T1) _ _) ?_ (by intro h; dsimp only; exact h); exact fun p _ => p))) | (k_end; kc_close) | (with_reducible refine st_x ‹Shared› fun _ => ?_; walk1) | ((refine (?_ : (fun T2 T1 : Prop => T2 → (T2 → T1) → T1) _ _) ?_ (by intro h; dsimp only; exact h); exact fun p _ => p); walk1) | walk1 | (leave1; walk_say "STEP leave1"; (try (refine (?_ : (fun T2 T1 : Prop => T2 → (T2 → T1) → T1) _ _) ?_ (by intro h; dsimp only; exact h); exact fun p _ => p))) | fail "no step"))
  k_with "m_sub" => repeat' (first | exact sub_nil | refine sub_cons (by k_mem) ?_)
  trivial
theorem fillH6 : PySem.Challenge.rw_mq0248_01 = PySem.Challenge.rw_mq0248_01 ∧ Mine.hd.heap_1 = Mine.hd.heap_1 := by
  k_fill
  exact ⟨rfl, rfl⟩
section
variable {prog : Program} {w : World} {h₀ : Heap} {s : Shared} {p : Program} {loose : List Str} {mean : ExcName → Option Value} {mg mb : Str → Option Value} {C P : Addr} {cols : List (List Int)} {part : List Int} {Q : Value → Shared → Prop} {E : Value → Shared → Prop}
noncomputable def ltB (cols : List (List Int)) (j : Nat) (m k : Int) : Bool := decide ((colAt cols m).getD j 0 < (colAt cols k).getD j 0)
noncomputable def tbl (cols : List (List Int)) (part : List Int) (j : Nat) : List Bool := part.flatMap fun m => part.map fun k => ltB cols j m k
noncomputable def oneOrder (cols : List (List Int)) (part : List Int) : Bool := (List.range 7).all fun j => tbl cols part j == tbl cols part 0
noncomputable def gB (cols : List (List Int)) (j : Nat) (v v' : Value) : Value := match v, v' with | .int m _, .int k _ => .bool (ltB cols j m k) | _, _ => .none
theorem ints_mem {vs : List Value} {ns : List Int} (h : IntsAre vs ns) : ∀ v ∈ vs, ∃ n t, v = .int n t ∧ n ∈ ns := by
  induction h with
  | nil => exact fun _ h => nomatch h
  | cons n t r ih =>
    intro v h
    rcases List.mem_cons.mp h with rfl | h
    · exact ⟨n, t, rfl, List.mem_cons_self⟩
    · obtain ⟨n', t', e, hm⟩ := ih v h
      exact ⟨n', t', e, List.mem_cons_of_mem _ hm⟩
theorem gB_row (cols : List (List Int)) (j : Nat) (m : Int) (t : Tok) {vs : List Value} {ns : List Int} (h : IntsAre vs ns) : vs.map (gB cols j (.int m t)) = (ns.map fun k => ltB cols j m k).map Value.bool := by
  induction h with
  | nil => rfl
  | cons n u r ih => rw [List.map_cons, List.map_cons, List.map_cons, ih]; rfl
theorem gB_tbl (cols : List (List Int)) (j : Nat) {ws : List Value} {ps : List Int} (hw : IntsAre ws ps) {vs : List Value} {ns : List Int} (h : IntsAre vs ns) : (vs.flatMap fun v => ws.map (gB cols j v)) = (ns.flatMap fun m => ps.map fun k => ltB cols j m k).map Value.bool := by
  induction h with
  | nil => rfl
  | cons n u r ih => rw [List.flatMap_cons, List.flatMap_cons, List.map_append, gB_row cols j n u hw, ih]
theorem item_int {g : Heap} {L : Addr} {A : Around} {m : Str → Option Value} {value slice : Expr} {a : Addr} {va : List Value} {ns : List Int} {i : Nat} {u : Tok} (F : Fr g L s.heap m) (hl : g.IsList a va.toArray) (hi : IntsAre va ns) (hb : i < ns.length) (hs7 : ns.length < 100)
    (h : ∀ t, Q (.int (ns.getD i 0) t) s)
    (hs : subscripted slice false (.ref a) (.int (i : Nat) u) = operate [.ref a, .int (i : Nat) u] (getItem (.ref a) (.int (i : Nat) u)) := by with_unfolding_all rfl) :
    wpAny (model prog w) A (subscriptTail value slice (.ref a) (.int (i : Nat) u)) Q E s := by
  obtain ⟨t, ht⟩ := hi.get i ns[i] (by simp [hb])
  refine item_at (hl.at fun o e => F.keep _ _ e) (by omega) (by omega) (y := .int ns[i] t) (by simpa using ht) ?_ hs
  have := h t
  rw [List.getD_eq_getElem?_getD, List.getElem?_eq_getElem hb] at this
  exact this
theorem words_H6_2 : True := by
  k_with "subscriptTail Name Name ref int" => (refine item_cols (by assumption) (by assumption) (by assumption) (by assumption) (by assumption) ?_; intro _ _ _ _ _)
  trivial
theorem i_lt {cols : List (List Int)} (hW : ∀ c ∈ cols, c.length = 7) {k : Int} (h : k.toNat < cols.length) {i : Nat} (hi : i < 7) : i < (colAt cols k).length := by rw [colAt_len hW h]; exact hi
theorem l_lt {cols : List (List Int)} (hW : ∀ c ∈ cols, c.length = 7) {k : Int} (h : k.toNat < cols.length) : (colAt cols k).length < 100 := by rw [colAt_len hW h]; decide
theorem words_H6_3 : True := by
  k_with "subscriptTail Name Name ref int" => (refine item_int (by assumption) (by assumption) (by assumption) (i_lt (by assumption) (by assumption) (by assumption)) (l_lt (by assumption) (by assumption)) ?_; intro _)
  trivial
theorem lst_is {h : Heap} {a : Addr} {ys : List Value} (e : h.get? a = some (LCg.lst ys)) : h.IsList a ys.toArray := ⟨_, e, rfl, _, rfl⟩
theorem cmp_rows {g : Heap} {L : Addr} {A : Around} {news : List (Addr × Obj)} {l b : Addr} {bs cs : List Bool} (N : News g L s.heap news) (hl : (l, LCg.lst (bs.map Value.bool)) ∈ news) (hb : (b, LCg.lst (cs.map Value.bool)) ∈ news) (hsz : bs.length = cs.length) (hu : A.units < cLine)
    (h : Q (.bool (!(bs == cs))) s) : wpAny (model prog w) A (compareOp .NotEq (.ref l) (.ref b)) Q E s := cmp_bools (lst_is (N _ hl).1) (lst_is (N _ hb).1) hsz hu h
theorem item_first {g : Heap} {L : Addr} {A : Around} {news : List (Addr × Obj)} {value slice : Expr} {D : Addr} {y : Value} {r : List Value} {u : Tok} (N : News g L s.heap news) (hm : (D, LCg.lst (y :: r)) ∈ news) (h : Q y s)
    (hs : subscripted slice false (.ref D) (.int 0 u) = operate [.ref D, .int 0 u] (getItem (.ref D) (.int 0 u))) :
    wpAny (model prog w) A (subscriptTail value slice (.ref D) (.int 0 u)) Q E s :=
  item_at (lst_is (N _ hm).1) (Int.le_refl 0) (by decide) rfl h hs
theorem tbl_len (cols : List (List Int)) (part : List Int) (i j : Nat) : (tbl cols part i).length = (tbl cols part j).length := by
  unfold tbl
  simp only [List.length_flatMap, List.length_map]
theorem words_H6_4 : True := by
  k_with "compareOp NotEq ref ref" => (refine cmp_rows (by k_asm) (by assumption) (by assumption) (tbl_len _ _ _ _) (Nat.le_of_ble_eq_true rfl) ?_)
  k_with "subscriptTail Name Constant ref int" => (refine item_first (by k_asm) (by assumption) ?_ (by with_unfolding_all rfl))
  k_with "compareOp Eq ref ref" => (refine eq_nil_list (by kmk_list) (by kmk_list) (Nat.le_of_ble_eq_true rfl) ?_)
  k_with "CompEnd" => (refine LCg.CompEnd.intro (by assumption) (by assumption) _ (fun _ hp => hp) (by assumption) (by assumption) ⟨rfl, ?_⟩)
  k_with "eval ListComp" => (k_dflt (refine LCt.ListComp_T (F₀ := by k_asm) (by with_unfolding_all rfl) (by decide) (by rfl) (by decide) (by rfl) ?_))
  trivial
theorem order_spec (X₀ : (hd.heap_1 w.params).In h₀) (T : Top p loose mean mg mb h₀) (hO : Over h₀ s.heap) (hC : Cols s.heap C cols) (hlen : cols.length < 20) (hW : ∀ c ∈ cols, c.length = 7)
    (hP : IntList s.heap P part) (hb : ∀ k ∈ part, 0 ≤ k ∧ k.toNat < cols.length) (hpl : part.length < 40)
    (hQ : ∀ h' tk', Over s.heap h' → Q (.bool (oneOrder cols part)) { s with heap := h', toks := tk' }) :
    wpAny (model prog w) A1 (call (.ref 139) [.ref C, .ref P]) Q E s := by
  refine wpAny_call ?_
  refine enterC X₀ T hO (f := 139) (by k_is) (by k_is) (by decide) (binds := [(Str.ofString "columns", .ref C), (Str.ofString "part", .ref P)]) (BindsTo.of_eq rfl) (by rfl) (by decide +kernel) ?_ rfl rfl rfl
  intro L' h₁ tk cells X' T' F' N' Y'
  k_cells Y'
  (refine (?_ : (fun T2 T1 : Prop => T2 → (T2 → T1) → T1) _ _) ?_ (by intro h; dsimp only; exact h); exact fun p _ => p)
  rename_i oT oP oC dT dP dC
  have dP' : oP.data = .cell (some (.ref P)) := dP
  have dC' : oC.data = .cell (some (.ref C)) := dC
  have dT' : oT.data = .cell none := dT
  clear dP dC dT
  refine wpAny_execs_cons ?_
  refine wpAny_Assign_Name ?_
  rw [eval_ListComp]
  refine wpAny_comprehension_free (use := none) rfl (by intro x; rfl) (by with_unfolding_all rfl) rfl (by decide) ?_
  show wpAny _ _ (eval _ _) _ _ _
  k_steps
  rename_i h₂ tk₂ t₂ u₂ v₂ hr F₂ N₂ _
  obtain ⟨vsP, hPl, hPi⟩ := id hP
  refine block1C (n := 7) (fun i ys nx => ∃ (as : List Addr) (rows : List (Addr × Obj)), ys = as.map Value.ref ∧ as.length = i ∧ nx = (L' + 1 + 1 + 1, oT) :: (L' + 1 + 1, oP) :: (L' + 1, oC) :: rows ∧ (∀ (j : Nat) (a : Addr), as[j]? = some a → (a, LCg.lst ((tbl cols part j).map Value.bool)) ∈ rows) ∧ ∀ p ∈ rows, p.1 ≠ L' + 1 + 1 + 1)
    rfl hr (by decide) F₂ N₂ (by intro h; rfl) (by intro n acc; rfl) rfl (by rfl) ⟨[], [], rfl, rfl, rfl, by intro j a e; simp at e, fun _ h => nomatch h⟩ ?hel ?hQ ?hlen
  case hlen => rintro i ys nx ⟨as, rows, rfl, rfl, _⟩; simp
  case hel =>
    rintro i t I oI K oK oX D ys nx h tk' hi ⟨as, rows, rfl, hai, rfl, has, hrn⟩ hoK hoX F₃ N₃ off
    have hKP : (L' + 1 + 1, oP) ∈ (I, oI) :: (K, oK) :: (K + 1, oX) :: (D, LCg.lst (as.map Value.ref)) :: (L' + 1 + 1 + 1, oT) :: (L' + 1 + 1, oP) :: (L' + 1, oC) :: rows := by k_mem
    have hKC : (L' + 1, oC) ∈ (I, oI) :: (K, oK) :: (K + 1, oX) :: (D, LCg.lst (as.map Value.ref)) :: (L' + 1 + 1 + 1, oT) :: (L' + 1 + 1, oP) :: (L' + 1, oC) :: rows := by k_mem
    have hKX : (K + 1, oX) ∈ (I, oI) :: (K, oK) :: (K + 1, oX) :: (D, LCg.lst (as.map Value.ref)) :: (L' + 1 + 1 + 1, oT) :: (L' + 1 + 1, oP) :: (L' + 1, oC) :: rows := by k_mem
    refine listComp2 (its := vsP) (gB cols i) rfl hPl (by rw [hPi.length]; omega) F₃ N₃ (by with_unfolding_all rfl) (by decide) rfl (by decide) (by rfl) (by rfl) (by decide) ?he0 ?he1 ?hel2 ?hQ2 (by intro x; rfl) (by intro C x; rfl)
    case he0 => exact fun Q' q => wpAny_Name (wpAny_loadName_cell rfl (by rfl) (by rfl) ⟨oP, (N₃ _ hKP).1, dP'⟩ q) (by decide)
    case he1 => exact fun C2 h4 tk4 Q' E' N4 F4 q => wpAny_Name (wpAny_loadName_cell rfl (by rfl) (by rfl) ⟨oP, (N4 _ hKP).1, dP'⟩ q) (by decide)
    case hel2 =>
      intro v v' C2 oC2 m₂ h4 tk4 Q' hv hv' hoC2 hm hk F₄ N₄ q
      obtain ⟨m, tm, rfl, hmp⟩ := ints_mem hPi v hv
      obtain ⟨k, tk5, rfl, hkp⟩ := ints_mem hPi v' hv'
      obtain ⟨hm0, hm1⟩ := hb m hmp
      obtain ⟨hk0, hk1⟩ := hb k hkp
      k_steps
      exact q _
    case hQ2 =>
      intro D2 h4 tk4 F₄ N₄ off4
      rw [gB_tbl cols i hPi hPi] at N₄
      change News s.heap L' h4 ((D2, LCg.lst ((tbl cols part i).map Value.bool)) :: _) at N₄
      refine ⟨⟨h4, tk4, (L' + 1 + 1 + 1, oT) :: (L' + 1 + 1, oP) :: (L' + 1, oC) :: (D2, LCg.lst ((tbl cols part i).map Value.bool)) :: rows, rfl, F₄, fun q hq => N₄ q ((sub_cons (by k_mem) (sub_cons (by k_mem) (sub_cons (by k_mem) (sub_cons (by k_mem) (sub_cons (by k_mem) (sub_cons (by k_mem) (sub_cons (by k_mem) (sub_cons (by k_mem) (fun q h => (by repeat (first | exact h | refine List.Mem.tail _ ?_))))))))))) q hq), ?_, as ++ [D2], (D2, LCg.lst ((tbl cols part i).map Value.bool)) :: rows, by simp, by simp [hai], rfl, ?_, ?_⟩⟩
      · have hD2 := off4
        refine all_cons' (off _ (by k_mem)) (all_cons' (off _ (by k_mem)) (all_cons' (off _ (by k_mem)) (all_cons' ⟨Ne.symm (off4 (I, oI) (by k_mem)), Ne.symm (off4 (K, oK) (by k_mem)), Ne.symm (off4 (K + 1, oX) (by k_mem)), Ne.symm (off4 (D, LCg.lst (as.map Value.ref)) (by k_mem))⟩ fun p hp => off p (by repeat (first | exact hp | refine List.Mem.tail _ ?_)))))
      · intro j a e
        by_cases hj : j < as.length
        · rw [List.getElem?_append_left hj] at e
          exact List.mem_cons_of_mem _ (has j a e)
        · rw [List.getElem?_append_right (by omega)] at e
          cases hq : j - as.length with
          | zero =>
            rw [hq] at e
            have : j = i := by omega
            subst this
            simp at e
            subst e
            exact List.mem_cons_self
          | succ k => rw [hq] at e; simp at e
      · exact all_cons' (Ne.symm (off4 (L' + 1 + 1 + 1, oT) (by k_mem))) hrn
  case hQ =>
    rintro D ys nx h' tk' ⟨as, rows, rfl, hai, rfl, has, hrn⟩ F₃ N₃ off
    refine storeC [(D, LCg.lst (as.map Value.ref))] ((L' + 1 + 1, oP) :: (L' + 1, oC) :: rows) rfl (by rfl) (c := L' + 1 + 1 + 1) (by rfl) F₃ N₃ (all_cons' (Ne.symm (off (L' + 1 + 1 + 1, oT) (by k_mem))) (List.forall_mem_nil _)) (all_cons' (Nat.ne_of_lt (Nat.lt_succ_self _)) (all_cons' (Nat.ne_of_lt (Nat.lt_succ_of_lt (Nat.lt_succ_self _))) hrn)) dT' fun h₄ oT' F₄ N₄ dT₂ => ?_
    clear F₃ N₃ dT' N₂ F₂
    obtain ⟨a0, ar, rfl⟩ : ∃ a0 ar, as = a0 :: ar := by cases as with | nil => simp at hai | cons a r => exact ⟨a, r, rfl⟩
    have h0 := has 0 a0 rfl
    walk1
    walk1
    walk1
    walk1
    walk1
    refine LCt.CompSrcT.ledger (by rfl) F₄ N₄ (by k_mem) (by rw [sizeLine_eq, List.size_toArray, List.length_map, hai]; decide) ?_
    intro g'
    have hsrc : LCg.SrcAt s.heap D ((a0 :: ar).map Value.ref).toArray ((D, LCg.lst ((a0 :: ar).map Value.ref)) :: (L' + 1 + 1 + 1, oT') :: (L' + 1 + 1, oP) :: (L' + 1, oC) :: rows) := .inr ⟨_, by k_mem, rfl, _, rfl⟩
    refine restT_inv (n := ((a0 :: ar).map Value.ref).toArray.size) (fun j zs nw => nw = (D, LCg.lst ((a0 :: ar).map Value.ref)) :: (L' + 1 + 1 + 1, oT') :: (L' + 1 + 1, oP) :: (L' + 1, oC) :: rows ∧ zs.isEmpty = (List.range j).all fun i => tbl cols part i == tbl cols part 0) ?_ ?_ _ 0 [] _ (Nat.zero_add _) ⟨rfl, rfl⟩
    · rintro j v I2 oI C2 oC2 D2 m₂ ys nw hh tk₆ E' hj ⟨rfl, hys⟩ hv hoC hm₂ F₆ N₆ off ne
      obtain ⟨a, rfl, ha⟩ : ∃ a, v = .ref a ∧ (a0 :: ar)[j]? = some a := by
        have hv' : ((a0 :: ar).map Value.ref)[j]? = some v := by simpa using hv
        rw [List.getElem?_map] at hv'
        obtain ⟨a, h1, h2⟩ := Option.map_eq_some_iff.mp hv'
        exact ⟨a, h2.symm, h1⟩
      have hra := has j a ha
      have hma : (a, LCg.lst ((tbl cols part j).map Value.bool)) ∈ (I2, oI) :: (C2, oC2) :: (D2, LCg.lst ys) :: (D, LCg.lst ((a0 :: ar).map Value.ref)) :: (L' + 1 + 1 + 1, oT') :: (L' + 1 + 1, oP) :: (L' + 1, oC) :: rows := by repeat (first | exact hra | refine List.Mem.tail _ ?_)
      have hm0 : (a0, LCg.lst ((tbl cols part 0).map Value.bool)) ∈ (I2, oI) :: (C2, oC2) :: (D2, LCg.lst ys) :: (D, LCg.lst ((a0 :: ar).map Value.ref)) :: (L' + 1 + 1 + 1, oT') :: (L' + 1 + 1, oP) :: (L' + 1, oC) :: rows := by repeat (first | exact h0 | refine List.Mem.tail _ ?_)
      have hmD : (D, LCg.lst (Value.ref a0 :: ar.map Value.ref)) ∈ (I2, oI) :: (C2, oC2) :: (D2, LCg.lst ys) :: (D, LCg.lst ((a0 :: ar).map Value.ref)) :: (L' + 1 + 1 + 1, oT') :: (L' + 1 + 1, oP) :: (L' + 1, oC) :: rows := by k_mem
      have hal : (List.range (j + 1)).all (fun i => tbl cols part i == tbl cols part 0) = ((List.range j).all (fun i => tbl cols part i == tbl cols part 0) && (tbl cols part j == tbl cols part 0)) := by
        rw [List.range_succ, List.all_append, List.all_cons, List.all_nil, Bool.and_true]
      clear has h0 hra
      k_steps
      · rename_i hb
        rw [hal, ← hys, show (tbl cols part j == tbl cols part 0) = true from by simpa using hb, Bool.and_true]
      · rename_i hb
        rw [hal, show (tbl cols part j == tbl cols part 0) = false from by simpa using hb, Bool.and_false]
        simp
    · rintro ys nw ⟨rfl, hys⟩
      have hys' : ys.isEmpty = oneOrder cols part := by
        rw [List.size_toArray, List.length_map, hai] at hys
        exact hys
      k_steps
      rw [hys']
      exact ⟨_, by assumption, fun hk => hQ _ _ hk⟩
end
end Mine
end
section
open PySem PySem.W PySem.Calls PyProof.Rows
theorem Mine.fresh_H6 {prog : Program} {w : World} {A : Around} {env : Env} {Q : Flow → Shared → Prop} {E : Value → Shared → Prop} {s : Shared} (h : Q .next s) : wpAny (model prog w) A (execs [] env) Q E s := by
  w_top off
  k_with_none
  walk1
  exact h
end
section
open PySem PySem.W PyProof.Rows
set_option Elab.async false
namespace Mine
local macro_rules | `(tactic| k_head) => `(tactic| k_extra "k_head")
theorem words_XHead_1 : True := by
  k_with "k_head" => o_head (kmHook Mine.hy [0, 1, 2, 3, 4, 5, 6, 7, 8, 9, 10, 11, 12, 13, 14, 15, 16, 17, 18, 19, 20, 21, 22, 24, 25, 26, 27, 28, 39, 40, 41, 42, 43, 44, 45, 46, 47, 48, 49, 50, 51, 52, 53, 54, 55, 56, 57, 58, 59, 60, 61, 62, 63, 64, 65, 66, 67, 68, 69, 70, 71, 72, 73, 74, 75, 76, 77, 78, 79, 80, 81, 82, 83, 84, 85, 86, 87, 88, 89, 90, 91, 92, 95, 96, 97, 98, 99, 100, 101, 102, 103, 104, 105, 106, 107, 108, 109, 110, 111, 112, 113, 114, 115, 116, 117, 118, 119, 120, 121, 122, 123, 124, 125, 126, 127, 128, 129, 130, 131, 132, 133, 134, 135, 136, 137, 138, 139, 140, 142, 143, 144] (fun _ => by kernel_rfl) [23, 141])
  trivial
set_option maxRecDepth 100000
set_option maxHeartbeats 8000000
def st0 : Stmt := PySem.Challenge.pw_mq0248_01.main.body.getD 0 (.Pass ⟨0, 0, 0, 0⟩)
def st1 : Stmt := PySem.Challenge.pw_mq0248_01.main.body.getD 1 (.Pass ⟨0, 0, 0, 0⟩)
def st2 : Stmt := PySem.Challenge.pw_mq0248_01.main.body.getD 2 (.Pass ⟨0, 0, 0, 0⟩)
def st3 : Stmt := PySem.Challenge.pw_mq0248_01.main.body.getD 3 (.Pass ⟨0, 0, 0, 0⟩)
def st4 : Stmt := PySem.Challenge.pw_mq0248_01.main.body.getD 4 (.Pass ⟨0, 0, 0, 0⟩)
def st5 : Stmt := PySem.Challenge.pw_mq0248_01.main.body.getD 5 (.Pass ⟨0, 0, 0, 0⟩)
def st6 : Stmt := PySem.Challenge.pw_mq0248_01.main.body.getD 6 (.Pass ⟨0, 0, 0, 0⟩)
def st7 : Stmt := PySem.Challenge.pw_mq0248_01.main.body.getD 7 (.Pass ⟨0, 0, 0, 0⟩)
def st8 : Stmt := PySem.Challenge.pw_mq0248_01.main.body.getD 8 (.Pass ⟨0, 0, 0, 0⟩)
def st9 : Stmt := PySem.Challenge.pw_mq0248_01.main.body.getD 9 (.Pass ⟨0, 0, 0, 0⟩)
def st10 : Stmt := PySem.Challenge.pw_mq0248_01.main.body.getD 10 (.Pass ⟨0, 0, 0, 0⟩)
def st11 : Stmt := PySem.Challenge.pw_mq0248_01.main.body.getD 11 (.Pass ⟨0, 0, 0, 0⟩)
def st12 : Stmt := PySem.Challenge.pw_mq0248_01.main.body.getD 12 (.Pass ⟨0, 0, 0, 0⟩)
def st13 : Stmt := PySem.Challenge.pw_mq0248_01.main.body.getD 13 (.Pass ⟨0, 0, 0, 0⟩)
def pw2 : Program := { PySem.Challenge.pw_mq0248_01 with main := { PySem.Challenge.pw_mq0248_01.main with body := [st0, st1, st2, st3, st4, st5, st6, st7, st8, st9, st10, st11, st12, st13] } }
def rw2 : OpenLaw := { PySem.Challenge.rw_mq0248_01 with prog := pw2 }
theorem rw2_eq (h : rw2.Holds) : PySem.Challenge.rw_mq0248_01.Holds := h
open_top hl for Mine.rw2
end Mine
end
section
open PySem PySem.W PySem.Calls PyProof.Rows
theorem Mine.fresh_XHead {prog : Program} {w : World} {A : Around} {env : Env} {Q : Flow → Shared → Prop} {E : Value → Shared → Prop} {s : Shared} (h : Q .next s) : wpAny (model prog w) A (execs [] env) Q E s := by
  w_top off
  k_with_none
  walk1
  exact h
end
section
open PySem PySem.W PySem.Calls PyProof.Rows
set_option Elab.async false
namespace Mine
theorem o_kn {k f n : Nat} (h : k + (f + 1) ≤ n) : k < n := Nat.lt_of_lt_of_le (Nat.lt_add_of_pos_right (Nat.succ_pos f)) h
theorem o_kle {k f n : Nat} (h : k + (f + 1) ≤ n) : k ≤ n := Nat.le_of_lt (o_kn h)
theorem o_kf {k f n : Nat} (h : k + (f + 1) ≤ n) : k + 1 + f ≤ n := Nat.le_trans (Nat.le_of_eq (Nat.add_right_comm k 1 f)) h
theorem o_kfe {k f n : Nat} (h : k + (f + 1) = n) : k + 1 + f = n := (Nat.add_right_comm k 1 f).trans h
theorem o_kne {k f n : Nat} (h : k + (f + 1) = n) : k < n := o_kn (Nat.le_of_eq h)
theorem o_k1 {k f n : Nat} (h : k + (f + 1) ≤ n) : k + 1 ≤ n := o_kn h
theorem o_q0 (k q : Nat) : k + 1 - 1 - (q + 1) = k - 1 - q := by rw [Nat.add_sub_cancel, Nat.sub_sub, Nat.add_comm]
theorem o_q1 {k q j : Nat} (h : k + 1 - 1 - (q + 1) ≤ j) : k - 1 - q ≤ j := o_q0 k q ▸ h
theorem o_q2 {k q j : Nat} (h : j < k + 1 - 1 - (q + 1)) : j < k - 1 - q := o_q0 k q ▸ h
theorem o_q3 {k q i : Nat} (h : ¬ k - (q + 1) ≤ i) : i < k - 1 - q := by rw [Nat.sub_sub, Nat.add_comm 1 q]; exact Nat.lt_of_not_le h
theorem o_m {k n m : Nat} (h : k ≤ n) (h1 : m ≤ k + (n - k)) : m ≤ n := Nat.add_sub_of_le h ▸ h1
theorem o_r2 {a k j : Nat} (h : j < k) (h1 : a ≤ j) : a + k - 1 - j < k :=
  Nat.lt_of_le_of_lt (Nat.sub_le_of_le_add (by rw [Nat.add_sub_assoc (Nat.one_le_of_lt h), Nat.add_comm (k - 1)]; exact Nat.add_le_add_right h1 _)) (Nat.sub_one_lt (Nat.ne_of_gt (Nat.zero_lt_of_lt h)))
theorem o_rev {k i a : Nat} (h : i ≤ a ∧ a < k) : i + k - 1 - a < k := o_r2 h.2 h.1
theorem o_rev0 {m i : Nat} (h : i < m) : 0 + m - 1 - i < m := o_r2 h (Nat.zero_le _)
theorem o_rev1 {k q i j : Nat} (h : j < k) (h1 : k - (q + 1) ≤ j) : k - (q + 1) + k - 1 - j < k := o_r2 h h1
theorem o_pl2 {l r f : Nat} (h : r ≤ l + (f + 1)) : (l + r) / 2 ≤ l + f := Nat.le_of_lt_succ (Nat.div_lt_of_lt_mul (by rw [Nat.two_mul]; exact Nat.add_lt_add_of_lt_of_le (Nat.lt_succ_of_le (Nat.le_add_right l f)) h))
theorem o_pl3 {l r : Nat} (h : ¬l ≥ r) : l ≤ (l + r) / 2 := (Nat.le_div_iff_mul_le (by decide)).mpr (by rw [Nat.mul_two]; exact Nat.add_le_add_left (Nat.le_of_lt (Nat.lt_of_not_le h)) l)
theorem o_cn {m n i : Nat} (h : m < n) : 0 + m - 1 - i < n := Nat.lt_of_le_of_lt (Nat.le_trans (Nat.sub_le _ _) (Nat.le_trans (Nat.sub_le _ _) (Nat.le_of_eq (Nat.zero_add _)))) h
theorem o_ik {i j l k : Nat} (h : i < j) (h1 : j < k + 1) (e : i = l) (h2 : ¬(l < j ∧ j ≤ k)) : False := h2 ⟨e ▸ h, Nat.le_of_lt_succ h1⟩
theorem o_lj {i j l : Nat} (h : i < j) (e : i = l) : l ≤ j - 1 := Nat.le_sub_one_of_lt (e ▸ h)
theorem o_pn {i j k : Nat} (h : i < j) (h1 : j < k) (h2 : ¬i < k - 1 - 0) : False := h2 (Nat.lt_of_lt_of_le h (Nat.le_sub_one_of_lt h1))
theorem o_af {m k f : Nat} (h : m < k + (f + 1)) : m < k + 1 + f := Nat.lt_of_lt_of_eq h (Nat.add_right_comm k 1 f).symm
theorem o_jm {m j : Nat} (h : j < m) : j ≤ m - 1 := Nat.le_sub_one_of_lt h
theorem o_b17 {i j l k : Nat} (h1 : i < j) (h3 : ¬i = l) (h4 : ¬(l < i ∧ i ≤ k)) (h6 : l < j ∧ j ≤ k) : i < j - 1 := Nat.lt_of_lt_of_le (Nat.lt_of_le_of_ne (Nat.le_of_not_lt fun h => h4 ⟨h, Nat.le_trans (Nat.le_of_lt h1) h6.2⟩) h3) (Nat.le_sub_one_of_lt h6.1)
theorem o_fl {k q j : Nat} (h : j < k) : k - 1 - q ≤ k - (q + 1) + k - 1 - j := by
  rw [Nat.sub_sub, Nat.add_comm 1 q]
  generalize k - (q + 1) = a
  rw [Nat.add_sub_assoc (Nat.one_le_of_lt h), Nat.add_sub_assoc (Nat.le_sub_one_of_lt h)]; exact Nat.le_add_right _ _
theorem o_rv {a k i j : Nat} (h : i < j) (h2 : j < k) : a + k - 1 - j < a + k - 1 - i := Nat.sub_lt_sub_left (Nat.lt_of_lt_of_le h (Nat.le_trans (Nat.le_sub_one_of_lt h2) (Nat.sub_le_sub_right (Nat.le_add_left k a) 1))) h
theorem o_b6 {l k i : Nat} (hl : l ≤ k) (h : i < k + 1) (h1 : ¬i = l) (h2 : ¬(l < i ∧ i ≤ k)) : i < k := Nat.lt_of_lt_of_le (Nat.lt_of_le_of_ne (Nat.le_of_not_lt fun q => h2 ⟨q, Nat.le_of_lt_succ h⟩) h1) hl
theorem o_p1 {i j : Nat} (h : i < j) (h1 : ¬i = j - 1) : i < j - 1 := Nat.lt_of_le_of_ne (Nat.le_sub_one_of_lt h) h1
theorem o_pl {l r k : Nat} (h : r ≤ k) (h1 : ¬l ≥ r) : (l + r) / 2 < k := Nat.lt_of_lt_of_le (Nat.div_lt_of_lt_mul (by rw [Nat.two_mul]; exact Nat.add_lt_add_right (Nat.lt_of_not_le h1) r)) h
theorem o_p2 {i j l k : Nat} (h : i < j) (h1 : l < i ∧ i ≤ k) : i - 1 < j - 1 := Nat.sub_lt_sub_right (Nat.one_le_of_lt h1.1) h
theorem o_p3 {i j k : Nat} (h : i < j) (h1 : j < k + 1) : j - 1 < k := Nat.lt_of_lt_of_le (Nat.sub_one_lt (Nat.ne_of_gt (Nat.zero_lt_of_lt h))) (Nat.le_of_lt_succ h1)
theorem o_p4 {l i k : Nat} (h : i < k + 1) (h1 : l < i ∧ i ≤ k) : i - 1 < k := Nat.lt_of_lt_of_le (Nat.sub_one_lt (Nat.ne_of_gt (Nat.zero_lt_of_lt h1.1))) h1.2
theorem words_PS_1 : True := by
  k_with "om" => (first | assumption | exact Nat.sub_le _ _ | exact Nat.lt_succ_self _ | exact Nat.le_add_right _ _ | exact ⟨Nat.zero_le _, by assumption⟩ | exact ⟨by assumption, by assumption⟩ | exact Nat.le_of_lt (by assumption) | exact Nat.lt_of_lt_of_le (by assumption) (by assumption) | exact Nat.lt_of_le_of_lt (by assumption) (by assumption) | exact Nat.le_trans (by assumption) (by assumption) | exact Nat.lt_trans (by assumption) (by assumption) | exact Nat.lt_of_not_le (by assumption) | exact Nat.le_of_not_lt (by assumption) | exact Nat.lt_succ_of_lt (by assumption) | exact Nat.lt_of_succ_lt (by assumption) | exact Nat.le_of_lt_succ (by assumption) | exact Nat.succ_le_of_lt (by assumption) | exact Nat.le_of_succ_le (by assumption) | exact Nat.le_of_lt (Nat.lt_trans (by assumption) (by assumption)) | exact Nat.le_of_lt (Nat.lt_of_lt_of_le (by assumption) (by assumption)) | exact Nat.eq_zero_of_not_pos (by assumption) | exact Nat.lt_of_le_of_ne (by assumption) (by assumption) | exact Nat.le_antisymm (Nat.le_of_lt_succ (by assumption)) (Nat.le_of_not_lt (by assumption)) | exact o_kn (by assumption) | exact o_kle (by assumption) | exact o_kf (by assumption) | exact o_kfe (by assumption) | exact o_kne (by assumption) | exact o_k1 (by assumption) | exact Nat.sub_lt (by assumption) Nat.one_pos | exact Nat.sub_lt (Nat.zero_lt_of_lt (by assumption)) Nat.one_pos | exact Nat.lt_of_le_of_lt (Nat.sub_le _ _) (by assumption) | exact Nat.lt_of_le_of_lt (Nat.sub_le _ _) (o_kn (by assumption)) | exact o_q1 (by assumption) | exact o_q2 (by assumption) | exact o_q3 (by assumption) | exact absurd (by assumption) (Nat.not_lt_zero _) | exact o_rev (by assumption) | exact o_rev0 (by assumption) | exact o_rev1 (by assumption) (by assumption) | exact Nat.lt_of_le_of_lt (Nat.le_trans (Nat.sub_le _ _) (Nat.sub_le _ _)) (by assumption) | exact Nat.sub_sub_self (by assumption) | exact o_fl (by assumption) | exact o_rv (by assumption) (by assumption) | exact o_b6 (by assumption) (by assumption) (by assumption) (by assumption) | exact o_b17 (by assumption) (by assumption) (by assumption) (by assumption) | exact o_p1 (by assumption) (by assumption) | exact o_pl (by assumption) (by assumption) | exact Nat.lt_trans (o_pl (by assumption) (by assumption)) (by assumption) | exact Nat.le_of_lt (o_pl (by assumption) (by assumption)) | exact o_p2 (by assumption) (by assumption) | exact o_p4 (by assumption) (by assumption) | exact o_p3 (by assumption) (by assumption) | exact Nat.le_antisymm (Nat.le_of_lt_succ (by assumption)) (by assumption) | exact o_m (by assumption) (by assumption) | exact Nat.le_of_eq (Nat.add_sub_of_le (by assumption)) | exact Nat.add_sub_of_le (Nat.le_of_lt (by assumption)) | exact Nat.lt_trans (o_rev0 (by assumption)) (by assumption) | exact o_rev0 (Nat.lt_trans (by assumption) (by assumption)) | exact o_rev1 (Nat.lt_trans (by assumption) (by assumption)) (by assumption) | exact o_rev1 (by assumption) (Nat.le_of_lt (Nat.lt_of_le_of_lt (by assumption) (by assumption))) | exact ⟨Nat.zero_le _, Nat.lt_trans (by assumption) (by assumption)⟩ | exact Nat.le_of_eq (Nat.zero_add _).symm | fail "om" | exact o_fl (Nat.lt_trans (by assumption) (by assumption)) | exact o_r2 (by assumption) (by assumption) | exact o_r2 (Nat.lt_trans (by assumption) (by assumption)) (by assumption) | exact o_pl2 (by assumption) | exact o_pl3 (by assumption) | exact o_cn (by assumption) | exact (o_ik (by assumption) (by assumption) (by assumption) (by assumption)).elim | exact o_lj (by assumption) (by assumption) | exact (o_pn (by assumption) (by assumption) (by assumption)).elim | exact o_af (by assumption) | exact o_jm (by assumption) | exact Nat.lt_of_le_of_ne (o_m (by assumption) (by assumption)) (by assumption) | exact Nat.max_eq_left (by assumption))
  trivial
section
variable {lt : Nat → Nat → Bool} {n : Nat}
/-- a weak order -/
structure WO (lt : Nat → Nat → Bool) : Prop where
  irr : ∀ a, lt a a = false
  tr : ∀ {a b c}, lt a b = true → lt b c = true → lt a c = true
  neg : ∀ {a b c}, lt a b = false → lt b c = false → lt a c = false
noncomputable def pre (lt : Nat → Nat → Bool) (a b : Nat) : Prop := lt a b = true ∨ (lt b a = false ∧ a < b)
theorem WO.tl (O : WO lt) {a b c : Nat} (h1 : lt a b = true) (h2 : lt c b = false) : lt a c = true := by
  cases h : lt a c with
  | true => rfl
  | false => rw [O.neg h h2] at h1; cases h1
theorem WO.tr' (O : WO lt) {a b c : Nat} (h1 : lt b a = false) (h2 : lt b c = true) : lt a c = true := by
  cases h : lt a c with
  | true => rfl
  | false => rw [O.neg h1 h] at h2; cases h2
theorem WO.as (O : WO lt) {a b : Nat} (h : lt a b = true) : lt b a = false := by
  cases q : lt b a with
  | false => rfl
  | true => have := O.tr h q; rw [O.irr] at this; cases this
theorem pre_tr (O : WO lt) {a b c : Nat} (h1 : pre lt a b) (h2 : pre lt b c) : pre lt a c := by
  rcases h1 with h1 | ⟨h1, i1⟩ <;> rcases h2 with h2 | ⟨h2, i2⟩
  · exact .inl (O.tr h1 h2)
  · exact .inl (O.tl h1 h2)
  · exact .inl (O.tr' h1 h2)
  · exact .inr ⟨O.neg h2 h1, Nat.lt_trans i1 i2⟩
theorem pre_as (O : WO lt) {a b : Nat} (h1 : pre lt a b) (h2 : pre lt b a) : False := by
  rcases h1 with h1 | ⟨h1, i1⟩ <;> rcases h2 with h2 | ⟨h2, i2⟩
  · have := O.tr h1 h2; rw [O.irr] at this; cases this
  · rw [h1] at h2; cases h2
  · rw [h1] at h2; cases h2
  · omega
/-- the tree asks of places below n, and its end is good when lt answers -/
noncomputable def KOk {α : Type} (lt : Nat → Nat → Bool) (n : Nat) (Q : α → Prop) : KasT α → Prop
  | .ret a => Q a
  | .ask i j k => i < n ∧ j < n ∧ KOk lt n Q (k (lt i j))
theorem KOk.bind {α β : Type} {Q : α → Prop} {R : β → Prop} {f : α → KasT β} (hf : ∀ a, Q a → KOk lt n R (f a)) : ∀ {t : KasT α}, KOk lt n Q t → KOk lt n R (t.bind f)
  | .ret a, h => hf a h
  | .ask _ _ _, h => ⟨h.1, h.2.1, KOk.bind hf h.2.2⟩
theorem KOk.mono {α : Type} {Q R : α → Prop} (hf : ∀ a, Q a → R a) : ∀ {t : KasT α}, KOk lt n Q t → KOk lt n R t
  | .ret a, h => hf a h
  | .ask _ _ _, h => ⟨h.1, h.2.1, KOk.mono hf h.2.2⟩
noncomputable def gt (p : Array Nat) (i : Nat) : Nat := p.getD i 0
theorem gt_eq {p q : Array Nat} {i j : Nat} (h : p[i]? = q[j]?) : gt p i = gt q j := by
  have e : ∀ (r : Array Nat) (k : Nat), gt r k = (r[k]?).getD 0 := fun r k => by simp [gt, Array.getD_eq_getD_getElem?]
  rw [e, e, h]
theorem gt_rev {p : Array Nat} {i j : Nat} (hj : j ≤ p.size) (k : Nat) : gt (kas_rev p i j) k = if i ≤ k ∧ k < j then gt p (i + j - 1 - k) else gt p k := by
  have h := getElem?_mirror_all (i := i) hj k
  split at h
  · rename_i c; rw [if_pos c]; exact gt_eq h
  · rename_i c; rw [if_neg c]; exact gt_eq h
theorem gt_bub {p : Array Nat} {src d : Nat} (hs : src < p.size) (hd : d ≤ src) (k : Nat) : gt (bubble p src d) k = if k = src - d then gt p src else if src - d < k ∧ k ≤ src then gt p (k - 1) else gt p k := by
  have h := getElem?_bubble hs d hd k
  split at h
  · rename_i c; rw [if_pos c]; exact gt_eq h
  · rename_i c
    rw [if_neg c]
    split at h
    · rename_i c2; rw [if_pos c2]; exact gt_eq h
    · rename_i c2; rw [if_neg c2]; exact gt_eq h
/-- a rearrangement of 0 .. n - 1, untouched from k on -/
structure Arr (n : Nat) (p : Array Nat) (k : Nat) : Prop where
  size : p.size = n
  perm : p.Perm (List.toArray (List.range n))
  low : ∀ i, i < k → gt p i < k
  fresh : ∀ j, k ≤ j → j < n → gt p j = j
noncomputable def AscTo (lt : Nat → Nat → Bool) (p : Array Nat) (k : Nat) : Prop := ∀ i j, i < j → j < k → pre lt (gt p i) (gt p j)
theorem Arr.range : Arr n (List.toArray (List.range n)) 0 := ⟨by simp, Array.Perm.refl _, fun i h => by omega, fun j _ h => by simp [gt, h]⟩
theorem Arr.up {p : Array Nat} {k : Nat} (x : Arr n p k) (h : k < n) : Arr n p (k + 1) := ⟨x.size, x.perm, fun i hi => by
  by_cases e : i < k
  · have := x.low i e; omega
  · have : i = k := by omega
    subst this
    rw [x.fresh i (Nat.le_refl _) h]; omega, fun j h1 h2 => x.fresh j (by omega) h2⟩
theorem Arr.rev {p : Array Nat} {k i : Nat} (x : Arr n p k) (hk : k ≤ n) : Arr n (kas_rev p i k) k := ⟨(kas_rev_size _ _).trans x.size, (mirror_perm _ _ _ _).trans x.perm, fun a ha => by
  rw [gt_rev (by rw [x.size]; exact hk)]
  split
  · exact x.low _ (by omega)
  · exact x.low a ha, fun j h1 h2 => by
  rw [gt_rev (by rw [x.size]; exact hk), if_neg (by omega)]
  exact x.fresh j h1 h2⟩
theorem gt_lt {p : Array Nat} {k i : Nat} (x : Arr n p k) (hk : k ≤ n) (hi : i < n) : gt p i < n := by
  by_cases h : i < k
  · have := x.low i h; omega
  · rw [x.fresh i (by omega) hi]; exact hi
theorem asc_ok (O : WO lt) {p : Array Nat} : ∀ (f k : Nat), 1 ≤ k → k + f ≤ n → Arr n p k → AscTo lt p k →
    KOk lt n (fun m => k ≤ m ∧ m ≤ k + f ∧ Arr n p m ∧ AscTo lt p m ∧ (m < k + f → lt (gt p m) (gt p (m - 1)) = true)) (kas_asc p f k) := by
  intro f
  induction f with
  | zero =>
    intro k _ _ x a
    exact ⟨Nat.le_refl _, Nat.le_refl _, x, a, fun h => by omega⟩
  | succ f ih =>
    intro k h1 hk x a
    refine ⟨gt_lt x (by omega) (by omega), gt_lt x (by omega) (by omega), ?_⟩
    cases hc : lt (p.getD k 0) (p.getD (k - 1) 0) with
    | true => exact ⟨Nat.le_refl _, by omega, x, a, fun _ => hc⟩
    | false =>
      dsimp only
      rw [if_neg (by decide)]
      have e : gt p k = k := x.fresh k (Nat.le_refl _) (by omega)
      have l : gt p (k - 1) < k := x.low _ (by omega)
      have st : pre lt (gt p (k - 1)) (gt p k) := .inr ⟨hc, by rw [e]; exact l⟩
      refine KOk.mono (fun m hm => ?_) (ih (k + 1) (by omega) (by omega) (x.up (by omega)) ?_)
      · obtain ⟨q1, q2, q3, q4, q5⟩ := hm
        exact ⟨by omega, by omega, q3, q4, fun h => q5 (by omega)⟩
      · intro i j hij hj
        by_cases hjk : j < k
        · exact a i j hij hjk
        · have : j = k := by omega
          subst this
          by_cases hi : i = j - 1
          · subst hi; exact st
          · exact pre_tr O (a i (j - 1) (by omega) (by omega)) st
/-- the state of the falling run: what stands ahead of the last equal ones is in falling order -/
structure Desc (lt : Nat → Nat → Bool) (n : Nat) (p : Array Nat) (k q : Nat) : Prop where
  arr : Arr n p k
  qk : q + 1 ≤ k
  kn : k ≤ n
  unt : ∀ j, k - 1 - q ≤ j → j < k → gt p j = j
  ahead : ∀ i j, i < j → j < k - 1 - q → pre lt (gt p j) (gt p i)
  cross : ∀ i j, i < k - 1 - q → k - 1 - q ≤ j → j < k → lt (gt p j) (gt p i) = true
  same : ∀ i j, k - 1 - q ≤ i → i < k → k - 1 - q ≤ j → j < k → lt (gt p i) (gt p j) = false
noncomputable def DescTo (lt : Nat → Nat → Bool) (p : Array Nat) (k : Nat) : Prop := ∀ i j, i < j → j < k → pre lt (gt p j) (gt p i)
/-- the last equal ones turned round: all falls -/
theorem Desc.flip {p : Array Nat} {k q : Nat} (d : Desc lt n p k q) : DescTo lt (kas_rev p (k - (q + 1)) k) k := by
  have hs : k ≤ p.size := by rw [d.arr.size]; exact d.kn
  have hq := d.qk
  intro i j hij hj
  rw [gt_rev hs, gt_rev hs]
  by_cases hi : k - (q + 1) ≤ i
  · rw [if_pos (by omega), if_pos (by omega)]
    refine .inr ⟨d.same _ _ (by omega) (by omega) (by omega) (by omega), ?_⟩
    rw [d.unt _ (by omega) (by omega), d.unt _ (by omega) (by omega)]
    omega
  · rw [if_neg (c := k - (q + 1) ≤ i ∧ i < k) (by omega)]
    by_cases hj' : k - (q + 1) ≤ j
    · rw [if_pos (by omega)]
      exact .inl (d.cross _ _ (by omega) (by omega) (by omega))
    · rw [if_neg (by omega)]
      exact d.ahead i j hij (by omega)
theorem Desc.plain {p : Array Nat} {k : Nat} (d : Desc lt n p k 0) : DescTo lt p k := by
  intro i j hij hj
  by_cases h : j < k - 1 - 0
  · exact d.ahead i j hij h
  · exact .inl (d.cross i j (by omega) (by omega) hj)
/-- one further, strictly below all -/
theorem desc_next {p : Array Nat} {k : Nat} (x : Arr n p k) (hk : k < n) (a : DescTo lt p k) (hc : ∀ i, i < k → lt (gt p k) (gt p i) = true) (O : WO lt) : Desc lt n p (k + 1) 0 :=
  ⟨x.up hk, by omega, by omega, fun j h1 h2 => x.fresh j (by omega) (by omega), fun i j hij hj => a i j hij (by omega), fun i j hi hj hj2 => by
    have : j = k := by omega
    subst this
    exact hc i (by omega), fun i j h1 h2 h3 h4 => by
    have e1 : i = k := by omega
    have e2 : j = k := by omega
    subst e1; subst e2; exact O.irr _⟩
theorem desc_ok (O : WO lt) : ∀ (f k q : Nat) (p : Array Nat), k + f ≤ n → Desc lt n p k q → KOk lt n (fun r => Desc lt n r.1 r.2.1 r.2.2 ∧ k ≤ r.2.1 ∧ r.2.1 ≤ k + f) (kas_desc f p k q) := by
  intro f
  induction f with
  | zero =>
    intro k q p _ d
    exact ⟨d, Nat.le_refl _, Nat.le_refl _⟩
  | succ f ih =>
    intro k q p hk d
    have hq := d.qk
    refine ⟨gt_lt d.arr d.kn (by omega), gt_lt d.arr d.kn (by omega), ?_⟩
    cases hc : lt (p.getD k 0) (p.getD (k - 1) 0) with
    | true =>
      dsimp only
      rw [if_pos rfl]
      have below : ∀ i, i < k → lt (gt p k) (gt p i) = true := fun i hi => by
        by_cases h : k - 1 - q ≤ i
        · exact O.tl hc (d.same _ _ h hi (by omega) (by omega))
        · exact O.tr hc (d.cross i (k - 1) (by omega) (by omega) (by omega))
      split
      · have hs : k ≤ p.size := by rw [d.arr.size]; exact d.kn
        refine KOk.mono (fun r h => ⟨h.1, Nat.le_of_succ_le h.2.1, Nat.le_trans h.2.2 (Nat.le_of_eq (Nat.add_right_comm k 1 f))⟩) (ih (k + 1) 0 _ (by omega) (desc_next (d.arr.rev d.kn) (by omega) d.flip (fun i hi => ?_) O))
        rw [gt_rev hs, gt_rev hs, if_neg (by omega)]
        split
        · exact below _ (by omega)
        · exact below i hi
      · have : q = 0 := by omega
        subst this
        exact KOk.mono (fun r h => ⟨h.1, Nat.le_of_succ_le h.2.1, Nat.le_trans h.2.2 (Nat.le_of_eq (Nat.add_right_comm k 1 f))⟩) (ih (k + 1) 0 _ (by omega) (desc_next d.arr (by omega) d.plain below O))
    | false =>
      dsimp only
      rw [if_neg (by decide)]
      refine ⟨gt_lt d.arr d.kn (by omega), gt_lt d.arr d.kn (by omega), ?_⟩
      cases hd : lt (p.getD (k - 1) 0) (p.getD k 0) with
      | true => dsimp only; rw [if_pos rfl]; exact ⟨d, Nat.le_refl _, by show k ≤ k + (f + 1); omega⟩
      | false =>
        dsimp only
        rw [if_neg (by decide)]
        refine KOk.mono (fun r h => ⟨h.1, Nat.le_of_succ_le h.2.1, Nat.le_trans h.2.2 (Nat.le_of_eq (Nat.add_right_comm k 1 f))⟩) (ih (k + 1) (q + 1) p (by omega) ⟨d.arr.up (by omega), by omega, by omega, fun j h1 h2 => ?_, fun i j hij hj => d.ahead i j hij (by omega), fun i j hi h1 h2 => ?_, fun i j h1 h2 h3 h4 => ?_⟩)
        · by_cases h : j < k
          · exact d.unt j (by omega) h
          · exact d.arr.fresh j (by omega) (by omega)
        · by_cases h : j < k
          · exact d.cross i j (by omega) (by omega) h
          · have : j = k := by omega
            subst this
            exact O.tr' hd (d.cross i (j - 1) (by omega) (by omega) (by omega))
        · have lk : ∀ j, k - 1 - q ≤ j → j < k → lt (gt p k) (gt p j) = false ∧ lt (gt p j) (gt p k) = false := fun j a b =>
            ⟨O.neg hc (d.same _ _ (by omega) (by omega) a b), O.neg (d.same _ _ a b (by omega) (by omega)) hd⟩
          by_cases hi : i < k
          · by_cases hj : j < k
            · exact d.same i j (by omega) hi (by omega) hj
            · have : j = k := by omega
              subst this
              exact (lk i (by omega) hi).2
          · have : i = k := by omega
            subst this
            by_cases hj : j < i
            · exact (lk j (by omega) hj).1
            · have : j = i := by omega
              subst this
              exact O.irr _
/-- the run as it is handed on -/
noncomputable def RunOk (lt : Nat → Nat → Bool) (n : Nat) (r : Nat × Array Nat) : Prop := 1 ≤ r.1 ∧ r.1 ≤ n ∧ Arr n r.2 r.1 ∧ AscTo lt r.2 r.1
theorem tail3_ok (O : WO lt) {p : Array Nat} {k : Nat} (h1 : 1 ≤ k) (hk : k ≤ n) (x : Arr n p k) (a : DescTo lt p k) : KOk lt n (RunOk lt n) (kas_tail3 k n p) := by
  unfold kas_tail3
  have hs : k ≤ p.size := by rw [x.size]; exact hk
  refine KOk.bind (fun m hm => ?_) (asc_ok O (n - k) k h1 (by omega) (x.rev hk) (fun i j hij hj => ?_))
  · obtain ⟨q1, q2, q3, q4, _⟩ := hm
    exact ⟨by show 1 ≤ m; omega, by show m ≤ n; omega, q3, q4⟩
  · rw [gt_rev hs, gt_rev hs, if_pos (by omega), if_pos (by omega)]
    exact a _ _ (by omega) (by omega)
theorem descPart_ok (O : WO lt) {p : Array Nat} {k : Nat} (hk : k < n) (x : Arr n p k) (a : DescTo lt p k) (hc : ∀ i, i < k → lt (gt p k) (gt p i) = true) : KOk lt n (RunOk lt n) (kas_descPart k n p) := by
  unfold kas_descPart
  refine KOk.bind (fun r hr => ?_) (desc_ok O (n - (k + 1)) (k + 1) 0 p (by omega) (desc_next x hk a hc O))
  obtain ⟨d, h1, h2⟩ := hr
  split
  · exact tail3_ok O (by omega) d.kn (d.arr.rev d.kn) d.flip
  · have hz : r.2.2 = 0 := by omega
    rw [hz] at d
    exact tail3_ok O (by omega) d.kn d.arr d.plain
theorem count_ok (O : WO lt) (hn : 1 ≤ n) : KOk lt n (RunOk lt n) (kas_count n (List.toArray (List.range n))) := by
  unfold kas_count
  have x1 : Arr n (List.toArray (List.range n)) 1 := Arr.range.up (by omega)
  refine KOk.bind (fun m hm => ?_) (asc_ok O (n - 1) 1 (Nat.le_refl _) (by omega) x1 (fun i j hij hj => by omega))
  obtain ⟨q1, q2, q3, q4, q5⟩ := hm
  have hs : m ≤ (List.toArray (List.range n)).size := by rw [q3.size]; omega
  split
  · exact ⟨q1, by show m ≤ n; omega, q3, q4⟩
  · rename_i hne
    have hlt : m < n := by
      have : m ≠ n := fun e => hne (by simp [e])
      omega
    have fall := q5 (by omega)
    split
    · refine ⟨gt_lt q3 (by omega) (by omega), gt_lt q3 (by omega) (by omega), ?_⟩
      cases hc : lt ((List.toArray (List.range n)).getD 0 0) ((List.toArray (List.range n)).getD (m - 1) 0) with
      | true => dsimp only; rw [if_pos rfl]; exact ⟨q1, by show m ≤ n; omega, q3, q4⟩
      | false =>
        dsimp only
        rw [if_neg (by decide)]
        -- all of the run are alike
        have up : ∀ i j, i ≤ j → j < m → lt (gt (List.toArray (List.range n)) j) (gt (List.toArray (List.range n)) i) = false := fun i j hij hj => by
          by_cases e : i = j
          · subst e; exact O.irr _
          · rcases q4 i j (by omega) hj with h | ⟨h, _⟩
            · exact O.as h
            · exact h
        have alike : ∀ i j, i < m → j < m → lt (gt (List.toArray (List.range n)) i) (gt (List.toArray (List.range n)) j) = false := fun i j hi hj =>
          O.neg (up 0 i (by omega) hi) (O.neg hc (up j (m - 1) (by omega) (by omega)))
        have eqn : ∀ i, i < n → gt (List.toArray (List.range n)) i = i := fun i hi => Arr.range.fresh i (Nat.zero_le _) hi
        refine descPart_ok O hlt (q3.rev (by omega)) (fun i j hij hj => ?_) (fun i hi => ?_)
        · rw [gt_rev hs, gt_rev hs, if_pos (by omega), if_pos (by omega)]
          refine .inr ⟨alike _ _ (by omega) (by omega), ?_⟩
          rw [eqn _ (by omega), eqn _ (by omega)]
          omega
        · rw [gt_rev hs, gt_rev hs, if_neg (by omega), if_pos (by omega)]
          exact O.tl fall (alike _ _ (by omega) (by omega))
    · have : m = 1 := by omega
      subst this
      refine descPart_ok O hlt q3 (fun i j hij hj => by omega) (fun i hi => ?_)
      have : i = 0 := by omega
      subst this
      exact fall
theorem place_ok (O : WO lt) {p : Array Nat} {k : Nat} (hk : k < n) (x : Arr n p k) (a : AscTo lt p k) : ∀ (f l r : Nat), r ≤ l + f → l ≤ r → r ≤ k → (∀ i, i < l → lt (gt p k) (gt p i) = false) → (∀ i, r ≤ i → i < k → lt (gt p k) (gt p i) = true) →
    KOk lt n (fun m => m ≤ k ∧ (∀ i, i < m → lt (gt p k) (gt p i) = false) ∧ ∀ i, m ≤ i → i < k → lt (gt p k) (gt p i) = true) (kas_place p k f l r) := by
  intro f
  induction f with
  | zero =>
    intro l r h1 h2 h3 a1 a2
    exact ⟨by omega, a1, fun i h => a2 i (by omega)⟩
  | succ f ih =>
    intro l r h1 h2 h3 a1 a2
    unfold kas_place
    split
    · exact ⟨by omega, a1, fun i h => a2 i (by omega)⟩
    · refine ⟨gt_lt x (by omega) (by omega), gt_lt x (by omega) (by omega), ?_⟩
      have mono : ∀ i j, i ≤ j → j < k → lt (gt p j) (gt p i) = false := fun i j hij hj => by
        by_cases e : i = j
        · subst e; exact O.irr _
        · rcases a i j (by omega) hj with h | ⟨h, _⟩
          · exact O.as h
          · exact h
      cases hc : lt (p.getD k 0) (p.getD ((l + r) / 2) 0) with
      | true =>
        dsimp only
        rw [if_pos rfl]
        exact ih l ((l + r) / 2) (by omega) (by omega) (by omega) a1 fun i h4 h5 => O.tl hc (mono _ _ h4 h5)
      | false =>
        dsimp only
        rw [if_neg (by decide)]
        exact ih ((l + r) / 2 + 1) r (by omega) (by omega) h3 (fun i hi => O.neg hc (mono i ((l + r) / 2) (by omega) (by omega))) a2
theorem bin_ok (O : WO lt) : ∀ (f k : Nat) (p : Array Nat), k + f = n → Arr n p k → AscTo lt p k → KOk lt n (fun p' => Arr n p' n ∧ AscTo lt p' n) (kas_bin f p k) := by
  intro f
  induction f with
  | zero =>
    intro k p h x a
    have : k = n := by omega
    subst this
    exact ⟨x, a⟩
  | succ f ih =>
    intro k p h x a
    unfold kas_bin
    refine KOk.bind (fun l hl => ?_) (place_ok O (by omega) x a k 0 k (by omega) (Nat.zero_le _) (Nat.le_refl _) (fun i h => by omega) (fun i h1 h2 => by omega))
    obtain ⟨h1, h2, h3⟩ := hl
    have hs : k < p.size := by rw [x.size]; omega
    have e : gt p k = k := x.fresh k (Nat.le_refl _) (by omega)
    have low : ∀ i, i < l → pre lt (gt p i) (gt p k) := fun i hi => .inr ⟨h2 i hi, by rw [e]; exact x.low i (by omega)⟩
    have high : ∀ i, l ≤ i → i < k → pre lt (gt p k) (gt p i) := fun i a b => .inl (h3 i a b)
    have hb : ∀ i, gt (bubble p k (k - l)) i = if i = l then gt p k else if l < i ∧ i ≤ k then gt p (i - 1) else gt p i := fun i => by
      have := gt_bub hs (d := k - l) (by omega) i
      rw [show k - (k - l) = l from by omega] at this
      exact this
    refine ih (k + 1) _ (by omega) ⟨(bubble_size _ _ _).trans x.size, (bubble_perm _ _ _).trans x.perm, fun i hi => ?_, fun j a b => ?_⟩ (fun i j hij hj => ?_)
    · rw [hb]
      split
      · rw [e]; omega
      · split
        · have := x.low (i - 1) (by omega); omega
        · have := x.low i (by omega); omega
    · rw [hb, if_neg (by omega), if_neg (by omega)]
      exact x.fresh j (by omega) b
    · rw [hb, hb]
      repeat' split
      all_goals first | omega | exact low _ (by omega) | exact high _ (by omega) (by omega) | exact a _ _ (by omega) (by omega)
theorem sort_ok (O : WO lt) (hn : 1 ≤ n) : KOk lt n (fun p => Arr n p n ∧ AscTo lt p n) (kas_sort n) := by
  unfold kas_sort
  refine KOk.bind (fun r hr => ?_) (count_ok O hn)
  obtain ⟨h1, h2, h3, h4⟩ := hr
  split
  · have e : max r.1 1 = r.1 := by omega
    rw [e]
    exact bin_ok O _ _ _ (by omega) h3 h4
  · have : r.1 = n := by omega
    rw [← this]
    rw [this] at h3 h4 ⊢
    exact ⟨h3, h4⟩
end
end Mine
end
section
open PySem PySem.W PySem.Calls PyProof.Rows
theorem Mine.fresh_PS {prog : Program} {w : World} {A : Around} {env : Env} {Q : Flow → Shared → Prop} {E : Value → Shared → Prop} {s : Shared} (h : Q .next s) : wpAny (model prog w) A (execs [] env) Q E s := by
  w_top off
  k_with_none
  walk1
  exact h
end
section
open PySem PySem.W PySem.Calls PyProof.Rows
set_option Elab.async false
namespace Mine
/-- one row of ints stands ahead of another -/
noncomputable def ltL (a b : List Int) : Bool := cmpRes (fun a b => decide (a < b)) false a b
theorem ltL_irr : ∀ a, ltL a a = false
  | [] => rfl
  | a :: r => by
    have := ltL_irr r
    unfold ltL at this ⊢
    simp only [cmpRes, if_true]
    exact this
theorem ltL_cons (a b : Int) (r t : List Int) : ltL (a :: r) (b :: t) = if a = b then ltL r t else decide (a < b) := rfl
theorem ltL_tr : ∀ {a b c : List Int}, a.length = b.length → b.length = c.length → ltL a b = true → ltL b c = true → ltL a c = true
  | [], _, _, _, _, h, _ => by cases h
  | _ :: _, [], _, h, _, _, _ => by simp at h
  | _ :: _, _ :: _, [], _, h, _, _ => by simp at h
  | a :: r, b :: t, c :: u, l1, l2, h1, h2 => by
    rw [ltL_cons] at h1 h2 ⊢
    have ih := @ltL_tr r t u (by simpa using l1) (by simpa using l2)
    by_cases e1 : a = b
    · subst e1
      rw [if_pos rfl] at h1
      by_cases e2 : a = c
      · rw [if_pos e2] at h2 ⊢; exact ih h1 h2
      · rw [if_neg e2] at h2 ⊢; exact h2
    · rw [if_neg e1] at h1
      by_cases e2 : b = c
      · subst e2; rw [if_neg e1]; exact h1
      · rw [if_neg e2] at h2
        have := of_decide_eq_true h1
        have := of_decide_eq_true h2
        rw [if_neg (by omega)]
        exact decide_eq_true (by omega)
theorem ltL_neg : ∀ {a b c : List Int}, a.length = b.length → b.length = c.length → ltL a b = false → ltL b c = false → ltL a c = false
  | [], _, _, _, _, _, _ => rfl
  | _ :: _, [], _, h, _, _, _ => by simp at h
  | _ :: _, _ :: _, [], _, h, _, _ => by simp at h
  | a :: r, b :: t, c :: u, l1, l2, h1, h2 => by
    rw [ltL_cons] at h1 h2 ⊢
    have ih := @ltL_neg r t u (by simpa using l1) (by simpa using l2)
    by_cases e1 : a = b
    · subst e1
      rw [if_pos rfl] at h1
      by_cases e2 : a = c
      · rw [if_pos e2] at h2 ⊢; exact ih h1 h2
      · rw [if_neg e2] at h2 ⊢; exact h2
    · rw [if_neg e1] at h1
      by_cases e2 : b = c
      · subst e2; rw [if_neg e1]; exact h1
      · rw [if_neg e2] at h2
        have := of_decide_eq_false h1
        have := of_decide_eq_false h2
        rw [if_neg (by omega)]
        exact decide_eq_false (by omega)
theorem le_ltL : ∀ {a b : List Int}, a.length = b.length → le7 a b = !ltL b a
  | [], [], _ => rfl
  | [], _ :: _, h => by simp at h
  | _ :: _, [], h => by simp at h
  | a :: r, b :: t, h => by
    have ih := @le_ltL r t (by simpa using h)
    unfold le7 at ih ⊢
    rw [ltL_cons]
    simp only [cmpRes]
    by_cases e : a = b
    · rw [if_pos e, if_pos e.symm]; exact ih
    · rw [if_neg e, if_neg (fun q => e q.symm)]
      by_cases q : a ≤ b
      · rw [decide_eq_true q, decide_eq_false (by omega)]; rfl
      · rw [decide_eq_false q, decide_eq_true (by omega)]; rfl
section
variable {cols : List (List Int)}
noncomputable def colD (cols : List (List Int)) (i : Nat) : List Int := cols.getD i (List.replicate 7 0)
theorem colD_len (hW : ∀ c ∈ cols, c.length = 7) (i : Nat) : (colD cols i).length = 7 := by
  unfold colD
  rw [List.getD_eq_getElem?_getD]
  cases h : cols[i]? with
  | none => rfl
  | some c => exact hW c (List.mem_of_getElem? h)
theorem colD_at {k : Int} (h : k.toNat < cols.length) : colAt cols k = colD cols k.toNat := by
  unfold colAt colD
  rw [List.getD_eq_getElem?_getD, List.getD_eq_getElem?_getD, List.getElem?_eq_getElem h]; rfl
noncomputable def ltN (cols : List (List Int)) (i j : Nat) : Bool := ltL (colD cols i) (colD cols j)
theorem wo_cols (hW : ∀ c ∈ cols, c.length = 7) : WO (ltN cols) := by
  have l : ∀ i j, (colD cols i).length = (colD cols j).length := fun i j => by rw [colD_len hW, colD_len hW]
  exact ⟨fun a => ltL_irr _, fun {a b c} h1 h2 => ltL_tr (l a b) (l b c) h1 h2, fun {a b c} h1 h2 => ltL_neg (l a b) (l b c) h1 h2⟩
noncomputable def preI (cols : List (List Int)) (a b : Int) : Prop := pre (ltN cols) a.toNat b.toNat
theorem laid_pair (hW : ∀ c ∈ cols, c.length = 7) (n : Nat) (hn : n ≤ cols.length) : (laid cols n).Pairwise (preI cols) := by
  have O := wo_cols hW
  induction n with
  | zero => simp [laid, rangeKs]
  | succ n ih =>
    have hlt : n < cols.length := hn
    have ih := ih (by omega)
    rw [laid_succ]
    unfold laidStep
    have hle : ∀ m ∈ laid cols n, le7 (colAt cols m) (colAt cols (n : Int)) = !ltN cols n m.toNat := fun m hm => by
      have hb := laid_bnd hm hlt
      rw [le_ltL (by rw [colAt_len hW hb.2, colAt_len hW (nat_bnd hlt).2]), colD_at hb.2, colD_at (nat_bnd hlt).2]
      rfl
    have low : ∀ m ∈ laid cols n, m.toNat < n := fun m hm => by have := laid_mem n m hm; omega
    have f1 : ∀ m ∈ (laid cols n).filter (fun m => le7 (colAt cols m) (colAt cols (n : Int))), m ∈ laid cols n ∧ ltN cols n m.toNat = false := fun m hm => by
      obtain ⟨h1, h2⟩ := List.mem_filter.mp hm
      rw [hle m h1] at h2
      exact ⟨h1, by simpa using h2⟩
    have f2 : ∀ m ∈ (laid cols n).filter (fun m => gt7 (colAt cols m) (colAt cols (n : Int))), m ∈ laid cols n ∧ ltN cols n m.toNat = true := fun m hm => by
      obtain ⟨h1, h2⟩ := List.mem_filter.mp hm
      rw [gt_le, hle m h1] at h2
      exact ⟨h1, by simpa using h2⟩
    rw [List.pairwise_append, List.pairwise_append]
    refine ⟨⟨ih.filter _, List.pairwise_singleton _ _, fun a ha b hb => ?_⟩, ih.filter _, fun a ha b hb => ?_⟩
    · rw [List.mem_singleton.mp hb]
      obtain ⟨h1, h2⟩ := f1 a ha
      exact .inr ⟨by simpa using h2, by have := low a h1; simpa using this⟩
    · obtain ⟨h3, h4⟩ := f2 b hb
      rcases List.mem_append.mp ha with ha | ha
      · obtain ⟨h1, h2⟩ := f1 a ha
        exact .inl (O.tr' h2 h4)
      · rw [List.mem_singleton.mp ha]
        exact .inl (by simpa using h4)
theorem laid_perm (n : Nat) : (laid cols n).Perm (rangeKs 0 n) := by
  induction n with
  | zero => simp [laid, rangeKs]
  | succ n ih =>
    rw [laid_succ, show rangeKs 0 (n + 1) = rangeKs 0 n ++ [(n : Int)] from by simp [rangeKs, List.range_succ]]
    unfold laidStep
    simp only [gt_le]
    have h := List.filter_append_perm (fun m => le7 (colAt cols m) (colAt cols (n : Int))) (laid cols n)
    refine List.Perm.trans ?_ ((h.trans ih).append_right _)
    rw [List.append_assoc, List.append_assoc]
    exact List.Perm.append_left _ List.perm_append_comm
noncomputable def rowOf (p : Array Nat) : List Int := p.toList.map (fun i : Nat => (i : Int))
theorem row_is (hW : ∀ c ∈ cols, c.length = 7) {p : Array Nat} (x : Arr cols.length p cols.length) (a : AscTo (ltN cols) p cols.length) : rowOf p = laid cols cols.length := by
  have O := wo_cols hW
  have hp : (rowOf p).Perm (rangeKs 0 cols.length) := by
    have := (Array.perm_iff_toList_perm.mp x.perm).map (fun i : Nat => (i : Int))
    simpa [rowOf, rangeKs] using this
  have hs : (rowOf p).Pairwise (preI cols) := by
    rw [List.pairwise_iff_getElem]
    intro i j hi hj hij
    have hsz : p.toList.length = cols.length := by rw [Array.length_toList, x.size]
    have hi' : i < p.size := by simpa [rowOf] using hi
    have hj' : j < p.size := by simpa [rowOf] using hj
    have h := a i j hij (by rw [← x.size]; exact hj')
    have e : ∀ k (hk : k < (rowOf p).length), ((rowOf p)[k]'hk).toNat = gt p k := fun k hk => by
      have hk' : k < p.size := by simpa [rowOf] using hk
      simp [rowOf, gt, hk']
    show pre _ _ _
    rw [e, e]
    exact h
  refine List.Perm.eq_of_pairwise (le := preI cols) (fun a b ha hb h1 h2 => (pre_as O h1 h2).elim) hs (laid_pair hW _ (Nat.le_refl _)) (hp.trans (laid_perm _).symm)
end
section
variable {n : Nat} {lt : Nat → Nat → Bool} {cmp : Nat → Nat → (Bool → Shared → Prop) → Shared → Prop} {Inv : Shared → Prop}
/-- a tree that asks of places below n, under answers that keep Inv -/
theorem kas_of_ok {α : Type} {Q : α → Prop} {R : α → Shared → Prop} (hc : ∀ i j (C : Bool → Shared → Prop) s, i < n → j < n → Inv s → (∀ s', Inv s' → C (lt i j) s') → cmp i j C s) (hR : ∀ a s', Q a → Inv s' → R a s') :
    ∀ {t : KasT α} {s : Shared}, KOk lt n Q t → Inv s → t.kasWp cmp R s
  | .ret a, s, h, hI => hR a s h hI
  | .ask i j k, s, h, hI => hc i j _ s h.1 h.2.1 hI fun s' hI' => kas_of_ok hc hR h.2.2 hI'
end
end Mine
end
section
open PySem PySem.W PySem.Calls PyProof.Rows
theorem Mine.fresh_PS2 {prog : Program} {w : World} {A : Around} {env : Env} {Q : Flow → Shared → Prop} {E : Value → Shared → Prop} {s : Shared} (h : Q .next s) : wpAny (model prog w) A (execs [] env) Q E s := by
  w_top off
  k_with_none
  walk1
  exact h
end
section
open PySem PySem.W PySem.Calls PyProof.Rows
set_option Elab.async false
set_option maxRecDepth 100000
namespace Mine
theorem words_SK_om : True := by
  k_with "om" => (first | assumption | exact Nat.sub_le _ _ | exact Nat.lt_succ_self _ | exact Nat.le_add_right _ _ | exact Nat.zero_le _ | exact Nat.le_of_lt (by assumption) | exact Nat.lt_of_lt_of_le (by assumption) (by assumption) | exact Nat.lt_of_le_of_lt (by assumption) (by assumption) | exact Nat.le_trans (by assumption) (by assumption) | exact Nat.lt_trans (by assumption) (by assumption) | exact Nat.lt_of_le_of_lt (by assumption) (by decide) | exact Nat.le_trans (by assumption) (by decide) | exact Nat.lt_trans (by assumption) (by decide) | exact Nat.le_trans (Nat.le_of_lt (by assumption)) (by decide) | exact Nat.ne_of_lt (by assumption) | exact Nat.ne_of_gt (by assumption) | exact Ne.symm (by assumption) | exact Nat.ne_of_lt (Nat.lt_trans (by assumption) (by assumption)) | exact Nat.ne_of_gt (Nat.lt_trans (by assumption) (by assumption)) | exact Nat.lt_of_not_le (by assumption) | exact Nat.le_of_not_lt (by assumption) | exact Nat.lt_succ_of_lt (by assumption) | exact Nat.le_of_lt_succ (by assumption) | exact Nat.succ_le_of_lt (by assumption) | exact Nat.le_of_succ_le (by assumption) | exact Int.le_of_lt (by assumption) | exact Int.lt_of_lt_of_le (by assumption) (by assumption) | exact Int.lt_of_le_of_lt (by assumption) (by assumption) | exact Int.le_trans (by assumption) (by assumption) | exact Int.lt_trans (by assumption) (by assumption) | exact Int.lt_of_le_of_lt (by assumption) (by decide) | exact Int.lt_trans (by assumption) (by decide) | exact Int.not_le.mp (by assumption) | exact Int.not_lt.mp (by assumption) | fail "om")
  trivial
section
variable {prog : Program} {w : World} {A : Around} {E : Value → Shared → Prop} {s : Shared}
theorem collect_range {r : Addr} {t u v : Tok} {n : Nat} {Q : List Value → Shared → Prop} (hh : A.handled = none) (hr : IsRange s.heap r 0 n 1 t u v) (hn : n < 64)
    (h : ∀ h' tk vs, Over s.heap h' → IntsAre vs (rangeKs 0 n) → Q vs { s with heap := h', toks := tk }) : wpAny (model prog w) A (collect (.ref r)) Q E s := by
  unfold collect
  let R0 : Result → Shared → Prop := fun r' s' => ∃ h' tk acc' c', r' = .ok (.ret (.ref s.heap.objs.size)) ∧ s' = { s with heap := h', toks := tk } ∧ Over s.heap h' ∧
    h'.get? s.heap.objs.size = some { cls := .type "list", dict := none, data := .seq acc' c', slots := #[] } ∧ ItemsOf (fun i v => ∃ t, v = Value.int (0 + i * 1) t) acc' n
  refine wpAny_bind (wpAny_runValue (codeAny_mono (R := R0) ?_ fun r' s' hr' => ?_))
  rotate_left
  · obtain ⟨h', tk, acc', c', rfl, rfl, hk, hS', hacc⟩ := hr'
    (refine (?_ : (fun T2 T1 : Prop => T2 → (T2 → T1) → T1) _ _) ?_ (by intro h; dsimp only; exact h); exact fun p _ => p)
    show wpAny _ A (load s.heap.objs.size >>= _) _ _ _
    refine wpAny_bind (wpAny_load hS' ?_)
    refine wpAny_pure (h h' tk acc'.toList hk ?_)
    have key : ∀ (k : Nat) (l : List Value) (a : Nat), l.length = k → (∀ j v, l[j]? = some v → ∃ t, v = Value.int ((a + j : Nat) : Int) t) → IntsAre l ((List.range' a k).map fun i : Nat => (i : Int)) := by
      intro k
      induction k with
      | zero => intro l a hl _; rw [List.length_eq_zero_iff.mp hl]; exact .nil
      | succ k ih =>
        intro l a hl hv
        cases l with
        | nil => simp at hl
        | cons x r =>
          obtain ⟨t, rfl⟩ := hv 0 x rfl
          rw [List.range'_succ, List.map_cons]
          refine .cons _ _ (ih r (a + 1) (by simpa using hl) fun j v e => ?_)
          obtain ⟨t, rfl⟩ := hv (j + 1) v (by simpa using e)
          exact ⟨t, by congr 1; push_cast; omega⟩
    have := key n acc'.toList 0 (by rw [Array.length_toList]; exact hacc.1) fun j v e => by
      obtain ⟨t, rfl⟩ := hacc.2 j v (by simpa using e)
      exact ⟨t, by congr 1; omega⟩
    rw [List.range_eq_range'.symm] at this
    simpa [rangeKs] using this
  refine codeAny_builtin F.entry_proto_collect ?_
  rw [Around.under_plainId F.plain_proto_collect _]
  show wpAny _ A.in1 (newList [] >>= fun l => again (.builtin "list.__iadd__" ⟨[l, .ref r], []⟩)) _ _ s
  refine wpAny_bind (wpAny_newObj_type ?_)
  refine wpAny_pure ⟨plainId_quiet F.plain_list_iadd _, codeAny_builtin F.entry_list_iadd ?_⟩
  rw [Around.under_plainId F.plain_list_iadd _]
  show wpAny _ A.in1 (Builtin.List.listExtendWith (.ref s.heap.objs.size) (.ref r) (.ref s.heap.objs.size)) _ _ _
  have hS : (s.heap.push { cls := .type "list", data := .seq ([] : List Value).toArray }).get? s.heap.objs.size = some { cls := .type "list", data := .seq #[] } := Heap.get?_push_size _ rfl
  refine wpAny_extend_range (s := { s with heap := s.heap.push { cls := .type "list", data := .seq ([] : List Value).toArray } }) (a := 0) (b := n) (c := 1) (n := n) (by exact hh) (Heap.get?_push_of_some _ hr) (small_one (by omega) (by omega) (by omega) (by omega)) (by rw [rangeSize_nat]; omega) (by omega) s.heap.objs.size _ 0 hS ?_
  intro h' tk acc' c' hk hS' hacc
  exact ⟨h', tk, acc', c', rfl, rfl, fun b o e => hk b o (Nat.ne_of_lt (Heap.lt_size e)) (Heap.get?_push_of_some _ e), hS', hacc⟩
end
theorem range_get {vs : List Value} {n : Nat} (h : IntsAre vs (rangeKs 0 n)) {i : Nat} (hi : i < n) : ∃ t, vs[i]? = some (.int (i : Nat) t) := by
  obtain ⟨t, ht⟩ := h.get i (i : Int) (by simp [rangeKs, hi])
  exact ⟨t, ht⟩
theorem ints_of_map {f : Nat → Value} : ∀ {l : List Nat}, (∀ i ∈ l, ∃ t, f i = .int (i : Nat) t) → IntsAre (l.map f) (l.map fun i : Nat => (i : Int))
  | [], _ => .nil
  | i :: r, h => by
    obtain ⟨t, e⟩ := h i List.mem_cons_self
    rw [List.map_cons, List.map_cons, e]
    exact .cons _ _ (ints_of_map fun j hj => h j (List.mem_cons_of_mem _ hj))
section
variable {prog : Program} {w : World} {A : Around} {E : Value → Shared → Prop} {s : Shared} {g : Heap} {L C : Addr} {m : Str → Option Value} {B : List (Addr × Obj)} {n : Nat} {lt : Nat → Nat → Bool} {ys : Nat → Addr} {f : Addr}
/-- the key of the place i, as the ledger bears it -/
noncomputable def KAt (X : List (Addr × Obj)) (C y : Addr) (v : Value) : Prop := ∃ x dx, v = .ref x ∧ (x, slotInst C dx (.ref y)) ∈ X ∧ (dx, dictOf [] 0) ∈ X
theorem KAt.sub {X X' : List (Addr × Obj)} {y : Addr} {v : Value} (x : KAt X C y v) (h : ∀ p ∈ X, p ∈ X') : KAt X' C y v := let ⟨a, d, e, h1, h2⟩ := x; ⟨a, d, e, h _ h1, h _ h2⟩
noncomputable def KeyRule (prog : Program) (w : World) (A : Around) (s : Shared) (g : Heap) (L : Addr) (m : Str → Option Value) (B : List (Addr × Obj)) (C : Addr) (ys : Nat → Addr) (n : Nat) (f : Addr) : Prop :=
  ∀ i t (h : Heap) tk X (Q : Value → Shared → Prop), i < n → Fr g L h m → News g L h X → (∀ p ∈ B, p ∈ X) →
    (∀ h' tk' x dx, Over h h' → Led h h' [(x, slotInst C dx (.ref (ys i))), (dx, dictOf [] 0)] → Q (.ref x) { s with heap := h', toks := tk' }) →
    wpAny (model prog w) A (call (.ref f) [.int (i : Nat) t]) Q (fun _ _ => False) { s with heap := h, toks := tk }
noncomputable def CmpRule (prog : Program) (w : World) (A : Around) (s : Shared) (g : Heap) (L : Addr) (m : Str → Option Value) (B : List (Addr × Obj)) (C : Addr) (ys : Nat → Addr) (n : Nat) (lt : Nat → Nat → Bool) : Prop :=
  ∀ i j x dx x' dx' (h : Heap) tk X (Q : Bool → Shared → Prop), i < n → j < n → Fr g L h m → News g L h X → (∀ p ∈ B, p ∈ X) →
    (x, slotInst C dx (.ref (ys i))) ∈ X → (dx, dictOf [] 0) ∈ X → (x', slotInst C dx' (.ref (ys j))) ∈ X → (dx', dictOf [] 0) ∈ X →
    (∀ h' tk', Over h h' → Q (lt i j) { s with heap := h', toks := tk' }) →
    wpAny (model prog w) A (keyLt' oneType' (.ref x) (.ref x')) Q (fun _ _ => False) { s with heap := h, toks := tk }
theorem keys_all {kS D : Addr} {oD : Obj} {vs : List Value} {Fin : List Value → Nat → Shared → Prop} (hk : KeyRule prog w A s g L m B C ys n f) (hv : IntsAre vs (rangeKs 0 n))
    (hF : ∀ ks e h tk X, ks.length = n → (∀ i v, ks[i]? = some v → KAt X C (ys i) v) → Fr g L h m → News g L h ((kS, seqObj "list" ks.toArray e) :: (D, oD) :: X) → (∀ p ∈ B, p ∈ X) → (∀ p ∈ X, p.1 ≠ kS ∧ p.1 ≠ D) → Fin ks e { s with heap := h, toks := tk }) (hne : D ≠ kS) :
    ∀ (k i : Nat) (ks : List Value) (e : Nat) (h : Heap) (tk : Nat) (X : List (Addr × Obj)), i + k = n → ks.length = i → (∀ j v, ks[j]? = some v → KAt X C (ys j) v) → Fr g L h m → News g L h ((kS, seqObj "list" ks.toArray e) :: (D, oD) :: X) → (∀ p ∈ B, p ∈ X) → (∀ p ∈ X, p.1 ≠ kS ∧ p.1 ≠ D) →
      KatKeys prog w A g L m kS (.ref f) Fin (vs.drop i) ks e { s with heap := h, toks := tk } := by
  intro k
  induction k with
  | zero =>
    intro i ks e h tk X hi hl hka F N hB hX
    have hn : i = n := by omega
    subst hn
    rw [List.drop_of_length_le (by rw [hv.length]; simp [rangeKs])]
    exact KatKeys.nil (hF ks e h tk X hl hka F N hB hX)
  | succ k ih =>
    intro i ks e h tk X hi hl hka F N hB hX
    obtain ⟨t, ht⟩ := range_get hv (i := i) (by omega)
    obtain ⟨hlt, hvi⟩ := List.getElem?_eq_some_iff.mp ht
    rw [List.drop_eq_getElem_cons hlt, hvi]
    refine KatKeys.cons (hk i t h tk _ _ (by omega) F N (fun p hp => List.mem_cons_of_mem _ (List.mem_cons_of_mem _ (hB p hp))) fun h' tk' x dx hO hled => ?_)
    have F' := fr_over F hO
    have N' := news_join F (news_over N hO) hled
    have new : ∀ q ∈ [(x, slotInst C dx (.ref (ys i))), (dx, dictOf [] 0)], ∀ b o, h.get? b = some o → q.1 ≠ b := fun q hq b o eb e => by
      have := (hled q hq).2
      rw [e, eb] at this; cases this
    have hS := (N _ List.mem_cons_self).1
    have hD := (N _ (List.mem_cons_of_mem _ List.mem_cons_self)).1
    refine KatBack.intro (news := (kS, seqObj "list" ks.toArray e) :: (D, oD) :: ((x, slotInst C dx (.ref (ys i))) :: (dx, dictOf [] 0) :: X)) F' (fun p hp => N' p ?_) (UpdF.head ?_) fun h2 c F2 N2 => ?_
    · exact sub_cons (by k_mem) (sub_cons (by k_mem) (sub_cons (by k_mem) (sub_cons (by k_mem) (fun q h => by repeat (first | exact h | refine List.Mem.tail _ ?_))))) p hp
    · refine List.forall_mem_cons.mpr ⟨hne, List.forall_mem_cons.mpr ⟨new _ (.head _) _ _ hS, List.forall_mem_cons.mpr ⟨new _ (.tail _ (.head _)) _ _ hS, fun p hp => (hX p hp).1⟩⟩⟩
    · refine ih (i + 1) (ks ++ [.ref x]) c h2 tk' ((x, slotInst C dx (.ref (ys i))) :: (dx, dictOf [] 0) :: X) (by omega) (by simp [hl]) (fun j v e => ?_) F2 N2 (fun p hp => List.mem_cons_of_mem _ (List.mem_cons_of_mem _ (hB p hp))) ?_
      · by_cases hj : j < ks.length
        · rw [List.getElem?_append_left hj] at e
          exact (hka j v e).sub fun p hp => List.mem_cons_of_mem _ (List.mem_cons_of_mem _ hp)
        · rw [List.getElem?_append_right (by omega)] at e
          cases hq : j - ks.length with
          | zero =>
            rw [hq] at e
            have : j = i := by omega
            subst this
            simp at e
            subst e
            exact ⟨x, dx, rfl, List.mem_cons_self, List.mem_cons_of_mem _ List.mem_cons_self⟩
          | succ k => rw [hq] at e; simp at e
      · exact List.forall_mem_cons.mpr ⟨⟨new _ (.head _) _ _ hS, new _ (.head _) _ _ hD⟩, List.forall_mem_cons.mpr ⟨⟨new _ (.tail _ (.head _)) _ _ hS, new _ (.tail _ (.head _)) _ _ hD⟩, hX⟩⟩
theorem sorted_key {r : Addr} {t u v : Tok} {Q : Value → Shared → Prop} (F : Fr g L s.heap m) (N : News g L s.heap B) (hh : A.handled = none) (hr : IsRange s.heap r 0 n 1 t u v) (h2 : 2 ≤ n) (h64 : n < 64) (O : WO lt)
    (hk : KeyRule prog w A.in1.in1 s g L m B C ys n f) (hc : CmpRule prog w A.in1.in1 s g L m B C ys n lt)
    (ha1 : argsOk "sorted" ⟨[.ref r], [(Str.ofString "key", .ref f)]⟩) (ha2 : ∀ x, argsOk "list.sort" ⟨[.ref x], [(Str.ofString "key", .ref f)]⟩) (ht2 : ((Value.ref C) == (Value.ref C)) = true)
    (hQ : ∀ D h' tk' p vs k, Arr n p n → AscTo lt p n → IntsAre vs (rowOf p) → Fr g L h' m → News g L h' ((D, W.listOf vs.toArray k) :: B) → (∀ q ∈ B, q.1 ≠ D) → Q (.ref D) { s with heap := h', toks := tk' }) :
    wpAny (model prog w) A (call (.builtin "sorted") [.ref r] [(Str.ofString "key", .ref f)]) Q E s := by
  refine call_function_entry_kw kind_sorted plain_sorted entry_sorted ha1 ?_
  unfold Builtin.«sorted»
  refine wpAny_bind (m := checkCount "sorted" 1 1 _) (wpAny_pure ?_)
  refine wpAny_bind (collect_range (by exact hh) hr h64 fun h₁ tk₁ vs hO₁ hv => ?_)
  have hvl : vs.length = n := by rw [hv.length]; simp [rangeKs]
  refine wpAny_bind (wpAny_newList ?_ (by rw [sizeLine_eq]; omega))
  have hoL : (h₁.push (seqObj "list" vs.toArray 0)).get? h₁.objs.size = some (seqObj "list" vs.toArray 0) := Heap.get?_push_size _ rfl
  have keep : Over s.heap (h₁.push (seqObj "list" vs.toArray 0)) := fun b o e => Heap.get?_push_of_some _ (hO₁ b o e)
  have F₁ := fr_over F hO₁
  (refine (?_ : (fun T2 T1 : Prop => T2 → (T2 → T1) → T1) _ _) ?_ (by intro h; dsimp only; exact h); exact fun p _ => p)
  refine wpAny_bind (wpAny_holding (wpAny_call_entry_kw slot_list_sort ⟨_, hoL, rfl⟩ entry_list_sort ?body (ha2 _)))
  case body =>
    show wpAny (model prog w) A.in1.in1 (Builtin.«list.sort» ⟨[.ref h₁.objs.size], [(Str.ofString "key", .ref f)]⟩) _ _ _
    rw [ksk_t1]
    refine kat_keyed (vs := vs) (news := B) (s := { s with heap := h₁.push (seqObj "list" vs.toArray 0), toks := tk₁ }) (fr_over F keep) (news_over N keep) hoL (Nat.ne_of_gt F₁.ns.lt) (next_is_new F₁)
      (fun p hp => Nat.ne_of_lt (Heap.lt_size ((news_over N hO₁) p hp).1)) (by omega) (by omega) fun kS e1 h' F' N' l0 l1 => ?_
    have l2 : ∀ p ∈ B, p.1 < h₁.objs.size := fun p hp => Heap.lt_size ((news_over N hO₁) p hp).1
    have hne : h₁.objs.size ≠ kS := Nat.ne_of_lt l0
    show KatKeys _ _ _ _ _ _ _ _ _ (vs.drop 0) [] 0 _
    refine keys_all (s := s) (vs := vs) (oD := seqObj "list" #[] e1) (D := h₁.objs.size) (kS := kS) hk hv ?fin hne n 0 [] 0 h' tk₁ B (by omega) rfl (fun j v e => by simp at e) F' N' (fun p hp => hp) (fun p hp => ⟨Nat.ne_of_lt (l1 p hp), Nat.ne_of_lt (l2 p hp)⟩)
    case fin =>
      intro ks e h tk X hl hka F3 N3 hB hX
      refine kas_kind (T := .ref C) (by omega) (fun v hv' => ?_) rfl ht2 ?_
      · obtain ⟨i, hi⟩ := List.mem_iff_getElem?.mp hv'
        obtain ⟨x, dx, rfl, hx, _⟩ := hka i v hi
        exact (Looks.ld (N3 _ (List.mem_cons_of_mem _ (List.mem_cons_of_mem _ hx))).1).andThen .now
      · rw [hvl]
        refine kas_of_ok (n := n) (lt := lt) (Inv := fun s' => ∃ h tk, s' = { s with heap := h, toks := tk } ∧ Fr g L h m ∧ News g L h ((kS, seqObj "list" ks.toArray e) :: (h₁.objs.size, seqObj "list" #[] e1) :: X)) (fun i j Cc s' hi hj hI hC => ?_) (fun p s' hp hI => ?_) (sort_ok O (by omega)) ⟨h, tk, rfl, F3, N3⟩
        · obtain ⟨h4, tk4, rfl, F4, N4⟩ := hI
          have get : ∀ i, i < n → KAt X C (ys i) (ks.getD i Value.none) := fun i hi => by
            have hi' : i < ks.length := by omega
            refine hka i _ ?_
            rw [List.getD_eq_getElem?_getD, List.getElem?_eq_getElem hi']; rfl
          obtain ⟨x, dx, ex, hx, hdx⟩ := get i hi
          obtain ⟨y, dy, ey, hy, hdy⟩ := get j hj
          unfold kas_ask
          show wpAny _ _ (keyLt' oneType' ((katRev false ks).getD i Value.none) ((katRev false ks).getD j Value.none)) _ _ _
          rw [show katRev false ks = ks from rfl, ex, ey]
          have up : ∀ {q : Addr × Obj}, q ∈ X → q ∈ (kS, seqObj "list" ks.toArray e) :: (h₁.objs.size, seqObj "list" #[] e1) :: X := fun hq => List.mem_cons_of_mem _ (List.mem_cons_of_mem _ hq)
          exact hc i j x dx y dy h4 tk4 _ _ hi hj F4 N4 (fun p hp => up (hB p hp)) (up hx) (up hdx) (up hy) (up hdy) fun h5 tk5 hO => hC _ ⟨h5, tk5, rfl, fr_over F4 hO, news_over N4 hO⟩
        · obtain ⟨h4, tk4, rfl, F4, N4⟩ := hI
          obtain ⟨ar, asc⟩ := hp
          refine KatFin.intro F4 N4 (UpdF.head (List.forall_mem_cons.mpr ⟨hne, fun p hp => (hX p hp).1⟩)) fun h5 c5 F5 N5 => ?_
          refine KasFin.intro (news := (h₁.objs.size, seqObj "list" #[] e1) :: X) F5 (fun p hp => N5 p (List.mem_cons_of_mem _ hp)) (UpdF.head fun p hp => (hX p hp).2) fun h6 c6 F6 N6 => ?_
          refine ⟨_, rfl, wpAny_pure ⟨_, rfl, hQ _ h6 tk4 p (p.toList.map fun i => vs.getD i Value.none) c6 ar asc ?_ F6 (fun q (hq : q ∈ (h₁.objs.size, W.listOf (p.toList.map fun i => vs.getD i Value.none).toArray c6) :: B) => N6 q ?_) (fun q hq => Nat.ne_of_lt (l2 q hq))⟩⟩
          · show IntsAre (p.toList.map fun i => vs.getD i Value.none) _
            refine ints_of_map fun i hi => ?_
            have hin : i < n := by
              have := (Array.perm_iff_toList_perm.mp ar.perm).mem_iff.mp hi
              simpa using this
            obtain ⟨t, ht⟩ := range_get hv hin
            exact ⟨t, by rw [List.getD_eq_getElem?_getD, ht]; rfl⟩
          · rcases List.mem_cons.mp hq with rfl | hq
            · exact List.mem_cons_self
            · exact List.mem_cons_of_mem _ (hB q hq)
end
end Mine
end
section
open PySem PySem.W PySem.Calls PyProof.Rows
theorem Mine.fresh_SK {prog : Program} {w : World} {A : Around} {env : Env} {Q : Flow → Shared → Prop} {E : Value → Shared → Prop} {s : Shared} (h : Q .next s) : wpAny (model prog w) A (execs [] env) Q E s := by
  w_top off
  k_with_none
  walk1
  exact h
end
section
open PySem PySem.W PySem.Calls PyProof.Rows
set_option Elab.async false
namespace Mine
/-- item by item -/
inductive LR {α : Type} (R : α → Value → Prop) : List α → List Value → Prop
  | nil : LR R [] []
  | cons {a : α} {v : Value} {as : List α} {vs : List Value} : R a v → LR R as vs → LR R (a :: as) (v :: vs)
namespace LR
variable {α : Type} {R S : α → Value → Prop}
theorem length {as : List α} {vs : List Value} (h : LR R as vs) : vs.length = as.length := by
  induction h with
  | nil => rfl
  | cons x r ih => exact congrArg Nat.succ ih
theorem snoc {a : α} {v : Value} (h : R a v) {as : List α} {vs : List Value} (l : LR R as vs) : LR R (as ++ [a]) (vs ++ [v]) := by
  induction l with
  | nil => exact .cons h .nil
  | cons x r ih => exact .cons x ih
theorem get {as : List α} {vs : List Value} (l : LR R as vs) : ∀ {i : Nat} {v : Value}, vs[i]? = some v → ∃ a, as[i]? = some a ∧ R a v := by
  induction l with
  | nil => intro i v h; cases h
  | cons x r ih =>
    intro i v h
    cases i with
    | zero => cases h; exact ⟨_, rfl, x⟩
    | succ i => rw [List.getElem?_cons_succ] at h ⊢; exact ih h
end LR
theorem take_snoc {α : Type} {l : List α} {i : Nat} {a : α} (h : l[i]? = some a) : l.take (i + 1) = l.take i ++ [a] := by
  rw [List.take_add_one, h]; rfl
noncomputable def mod6 (x : Int) : Int := x.fmod 1000000
noncomputable def TxtV (x : Int) (v : Value) : Prop := ∃ t, v = .str (leadS (mod6 x)) t
section
variable {prog : Program} {w : World} {A : Around} {E : Value → Shared → Prop} {s : Shared} {g : Heap} {L : Addr} {m : Str → Option Value} {news : List (Addr × Obj)} {p : Program} {loose : List Str} {mean : ExcName → Option Value} {mg mb : Str → Option Value} {Q : Value → Shared → Prop} {x : Int} {t : Tok}
theorem use_lead (X : (hd.heap_1 w.params).In g) (T : Top p loose mean mg mb g) (F : Fr g L s.heap m) (N : News g L s.heap news) (hA : A.handled = none) (hd : A.depth ≤ 900) (hu : A.units ≤ 9000)
    (h : ∀ h' tk' t', Fr g L h' m → News g L h' news → Q (.str (leadS x) t') { s with heap := h', toks := tk' }) : wpAny (model prog w) A (call (.ref 101) [.int x t]) Q E s :=
  wpAny_le hA hd rfl rfl hu (lead_spec X T F.keep fun h' tk' t' hO => h h' tk' t' (fr_over F hO) (news_over N hO))
end
theorem leadS_len (x : Int) : (leadS x).length ≤ 18 := by
  unfold leadS
  exact app_len (app_len (app_len (app_len (app_len (m := 3) (n := 3) (sp_len _) (tab_len2 _)) (sp_len _)) (tab_len3 _)) (sp_len _)) x_len
/-- the entries of a list of Whitespaces -/
noncomputable def LeadsRows (P : Params) (rows : List (Addr × Obj)) (rs : List WsR) (cs : List Ws) : Prop :=
  rs.length = cs.length ∧ ∀ (i : Nat) (r : WsR) (c : Ws), rs[i]? = some r → cs[i]? = some c → (∀ p ∈ wsLed P r c, p ∈ rows) ∧ IntsAre r.vs c.cnt
theorem snoc_at {α : Type} {l : List α} {a b : α} {i : Nat} (h : (l ++ [a])[i]? = some b) : l[i]? = some b ∨ (i = l.length ∧ b = a) := by
  by_cases hi : i < l.length
  · rw [List.getElem?_append_left hi] at h; exact .inl h
  · rw [List.getElem?_append_right (by omega)] at h
    cases hq : i - l.length with
    | zero => rw [hq] at h; simp at h; exact .inr ⟨by omega, h.symm⟩
    | succ k => rw [hq] at h; simp at h
theorem at_end {α : Type} {l : List α} {b : α} : ¬ l[l.length]? = some b := by simp
theorem LeadsRows.snoc {P : Params} {rows : List (Addr × Obj)} {rs : List WsR} {cs : List Ws} {r : WsR} {c : Ws} (x : LeadsRows P rows rs cs) (h : IntsAre r.vs c.cnt) : LeadsRows P (rows ++ wsLed P r c) (rs ++ [r]) (cs ++ [c]) := by
  obtain ⟨hl, hx⟩ := x
  refine ⟨by simp [hl], fun i r' c' e1 e2 => ?_⟩
  rcases snoc_at e1 with q1 | ⟨q1, rfl⟩ <;> rcases snoc_at e2 with q2 | ⟨q2, rfl⟩
  · exact ⟨fun p hp => List.mem_append_left _ ((hx i r' c' q1 q2).1 p hp), (hx i r' c' q1 q2).2⟩
  · rw [q2, ← hl] at q1; exact absurd q1 at_end
  · rw [q1, hl] at q2; exact absurd q2 at_end
  · exact ⟨fun p hp => List.mem_append_right _ hp, h⟩
/-- the entries of a list of lists of ints -/
noncomputable def ColsRows (rows : List (Addr × Obj)) (as : List Addr) (cols : List (List Int)) : Prop :=
  as.length = cols.length ∧ ∀ (i : Nat) (a : Addr) (ns : List Int), as[i]? = some a → cols[i]? = some ns → ∃ vs n, (a, W.listOf (List.toArray vs) n) ∈ rows ∧ IntsAre vs ns
theorem ColsRows.snoc {rows : List (Addr × Obj)} {as : List Addr} {cols : List (List Int)} {a : Addr} {vs : List Value} {n : Nat} {ns : List Int} (x : ColsRows rows as cols) (h : IntsAre vs ns) : ColsRows (rows ++ [(a, W.listOf vs.toArray n)]) (as ++ [a]) (cols ++ [ns]) := by
  obtain ⟨hl, hx⟩ := x
  refine ⟨by simp [hl], fun i a' ns' e1 e2 => ?_⟩
  rcases snoc_at e1 with q1 | ⟨q1, rfl⟩ <;> rcases snoc_at e2 with q2 | ⟨q2, rfl⟩
  · obtain ⟨us, k, hm, hu⟩ := hx i a' ns' q1 q2
    exact ⟨us, k, List.mem_append_left _ hm, hu⟩
  · rw [q2, ← hl] at q1; exact absurd q1 at_end
  · rw [q1, hl] at q2; exact absurd q2 at_end
  · exact ⟨vs, n, List.mem_append_right _ List.mem_cons_self, h⟩
theorem LeadsRows.leads {P : Params} {g h : Heap} {L D : Addr} {news rows : List (Addr × Obj)} {rs : List WsR} {cs : List Ws} {k : Nat} (x : LeadsRows P rows rs cs) (N : News g L h news) (hD : (D, W.listOf (rs.map fun r => Value.ref r.x).toArray k) ∈ news) (hr : ∀ p ∈ rows, p ∈ news) : Leads P g h D cs :=
  ⟨rs, ⟨_, (N _ hD).1, rfl, _, rfl⟩, x.1, fun i r c e1 e2 => ⟨fun p hp => ⟨(N _ (hr _ ((x.2 i r c e1 e2).1 p hp))).1, (N _ (hr _ ((x.2 i r c e1 e2).1 p hp))).2.2⟩, (x.2 i r c e1 e2).2⟩⟩
theorem ColsRows.cols {g h : Heap} {L D : Addr} {news rows : List (Addr × Obj)} {as : List Addr} {cols : List (List Int)} {k : Nat} (x : ColsRows rows as cols) (N : News g L h news) (hD : (D, W.listOf (as.map Value.ref).toArray k) ∈ news) (hr : ∀ p ∈ rows, p ∈ news) : Cols h D cols := by
  refine ⟨as, ⟨_, (N _ hD).1, rfl, _, rfl⟩, x.1, fun i a e => ?_⟩
  have hi : i < as.length := (List.getElem?_eq_some_iff.mp e).1
  have hi' : i < cols.length := by have := x.1; omega
  obtain ⟨vs, n, hm, hv⟩ := x.2 i a _ e (List.getElem?_eq_getElem hi')
  exact ⟨_, List.getElem?_eq_getElem hi', vs, ⟨_, (N _ (hr _ hm)).1, rfl, _, rfl⟩, hv⟩
section
variable {prog : Program} {w : World} {A : Around} {E : Value → Shared → Prop} {s : Shared} {g : Heap} {L : Addr} {m : Str → Option Value} {news : List (Addr × Obj)} {p : Program} {loose : List Str} {mean : ExcName → Option Value} {mg mb : Str → Option Value} {Q : Value → Shared → Prop} {xt : Str} {t : Tok}
theorem led_ne {h h' : Heap} {led : List (Addr × Obj)} (N : News g L h news) (x : Led h h' led) : ∀ p ∈ led, ∀ q ∈ news, p.1 ≠ q.1 := fun p hp q hq e => by
  have := (x p hp).2
  rw [e, (N q hq).1] at this; cases this
theorem use_ws (X : (hd.heap_1 w.params).In g) (T : Top p loose mean mg mb g) (F : Fr g L s.heap m) (N : News g L s.heap news) (hx : xt.length < 50) (hA : A.handled = none) (hd : A.depth ≤ 900) (hu : A.units ≤ 9000)
    (h : ∀ h' tk' r, Fr g L h' m → News g L h' (wsLed w.params r (wsDat xt) ++ news) → IntsAre r.vs (wsDat xt).cnt → (∀ p ∈ wsLed w.params r (wsDat xt), ∀ q ∈ news, p.1 ≠ q.1) → Q (.ref r.x) { s with heap := h', toks := tk' }) : wpAny (model prog w) A (call (.ref 90) [.str xt t]) Q E s :=
  wpAny_le hA hd rfl rfl hu (ws_spec X T F.keep hx fun h' tk' r hO hled hi => h h' tk' r (fr_over F hO) (news_join F (news_over N hO) hled) hi (led_ne N hled))
theorem use_cols (X : (hd.heap_1 w.params).In g) (T : Top p loose mean mg mb g) (F : Fr g L s.heap m) (N : News g L s.heap news) (hx : xt.length < 100) (hA : A.handled = none) (hd : A.depth ≤ 900) (hu : A.units ≤ 9000)
    (h : ∀ h' tk' l n vs, Fr g L h' m → News g L h' ([(l, W.listOf vs.toArray n)] ++ news) → IntsAre vs ((rangeKs 1 7).map (colOf (KStt.codes xt))) → (∀ p ∈ [(l, W.listOf vs.toArray n)], ∀ q ∈ news, p.1 ≠ q.1) → Q (.ref l) { s with heap := h', toks := tk' }) : wpAny (model prog w) A (call (.ref 108) [.str xt t]) Q E s :=
  wpAny_le hA hd rfl rfl hu (columns_spec X T F.keep hx fun h' tk' l n vs hO hled hi => h h' tk' l n vs (fr_over F hO) (news_join F (news_over N hO) hled) hi (led_ne N hled))
theorem srcAt_app {ax : Addr} {its : Array Value} {nw led : List (Addr × Obj)} (x : LCg.SrcAt g ax its nw) : LCg.SrcAt g ax its (nw ++ led) := by
  rcases x with x | ⟨o, hm, r⟩
  · exact .inl x
  · exact .inr ⟨o, List.mem_append_left _ hm, r⟩
/-- a turn of a comprehension that brings entries of its own -/
theorem led_end {s₁ : Shared} {I C D : Addr} {oI oC oD : Obj} {S : List (Addr × Obj) → Prop} {rest : Value → List (Addr × Obj) → Prop} {y : Value} {h' : Heap} {tk : Nat} {nw led : List (Addr × Obj)} (F : Fr g L h' m) (N : News g L h' (led ++ (I, oI) :: (C, oC) :: (D, oD) :: nw)) (off : LCg.Off3 I C D nw)
    (disj : ∀ p ∈ led, ∀ q ∈ (I, oI) :: (C, oC) :: (D, oD) :: nw, p.1 ≠ q.1) (hS : S (nw ++ led)) (r : rest y (nw ++ led)) : LCg.CompEnd g L m s₁ I oI C oC D oD S rest y { s₁ with heap := h', toks := tk } := by
  refine ⟨h', tk, nw ++ led, rfl, F, fun p hp => N p ?_, LCg.Off3.of fun p hp => ?_, hS, r⟩
  · exact sub_cons (List.mem_append_right _ (.head _)) (sub_cons (List.mem_append_right _ (.tail _ (.head _))) (sub_cons (List.mem_append_right _ (.tail _ (.tail _ (.head _)))) (fun q h => (List.mem_append.mp h).elim (fun h => List.mem_append_right _ (.tail _ (.tail _ (.tail _ h)))) (fun h => List.mem_append_left _ h)))) p hp
  · rcases List.mem_append.mp hp with hp | hp
    · exact off.mem p hp
    · exact ⟨disj p hp _ List.mem_cons_self, disj p hp _ (List.mem_cons_of_mem _ List.mem_cons_self), disj p hp _ (List.mem_cons_of_mem _ (List.mem_cons_of_mem _ List.mem_cons_self))⟩
end
/-- the turns of the comprehension of the leads -/
inductive LeadsJ (P : Params) (base : List (Addr × Obj)) (cs : List Ws) (ys : List Value) (nw : List (Addr × Obj)) : Prop
  | mk (rs : List WsR) (rows : List (Addr × Obj)) (h0 : ys = rs.map (fun r => Value.ref r.x)) (h1 : nw = base ++ rows) (h2 : LeadsRows P rows rs cs) (h3 : ∀ p ∈ rows, ∀ q ∈ base, p.1 ≠ q.1)
theorem LeadsJ.nil {P : Params} {base : List (Addr × Obj)} : LeadsJ P base [] [] base := ⟨[], [], rfl, (List.append_nil _).symm, ⟨rfl, fun i r c e => by simp at e⟩, fun _ h => nomatch h⟩
theorem LeadsJ.next {P : Params} {base rows : List (Addr × Obj)} {cs cs' : List Ws} {rs : List WsR} {r : WsR} {c : Ws} {q1 q2 q3 : Addr × Obj} (hR : LeadsRows P rows rs cs) (hs : ∀ p ∈ rows, ∀ q ∈ base, p.1 ≠ q.1) (hv : IntsAre r.vs c.cnt)
    (dj : ∀ p ∈ wsLed P r c, ∀ q ∈ q1 :: q2 :: q3 :: (base ++ rows), p.1 ≠ q.1) (e : cs' = cs ++ [c]) : LeadsJ P base cs' (rs.map (fun r => Value.ref r.x) ++ [Value.ref r.x]) ((base ++ rows) ++ wsLed P r c) := by
  subst e
  refine ⟨rs ++ [r], rows ++ wsLed P r c, by simp, List.append_assoc _ _ _, hR.snoc hv, fun p hp q hq => ?_⟩
  rcases List.mem_append.mp hp with hp | hp
  · exact hs p hp q hq
  · exact dj p hp q (List.mem_cons_of_mem _ (List.mem_cons_of_mem _ (List.mem_cons_of_mem _ (List.mem_append_left _ hq))))
inductive ColsJ (base : List (Addr × Obj)) (cols : List (List Int)) (ys : List Value) (nw : List (Addr × Obj)) : Prop
  | mk (as : List Addr) (rows : List (Addr × Obj)) (h0 : ys = as.map Value.ref) (h1 : nw = base ++ rows) (h2 : ColsRows rows as cols) (h3 : ∀ p ∈ rows, ∀ q ∈ base, p.1 ≠ q.1)
theorem ColsJ.nil {base : List (Addr × Obj)} : ColsJ base [] [] base := ⟨[], [], rfl, (List.append_nil _).symm, ⟨rfl, fun i r c e => by simp at e⟩, fun _ h => nomatch h⟩
theorem ColsJ.next {base rows : List (Addr × Obj)} {cols cols' : List (List Int)} {as : List Addr} {a : Addr} {vs : List Value} {n : Nat} {ns : List Int} {q1 q2 q3 : Addr × Obj} (hR : ColsRows rows as cols) (hs : ∀ p ∈ rows, ∀ q ∈ base, p.1 ≠ q.1) (hv : IntsAre vs ns)
    (dj : ∀ p ∈ [(a, W.listOf vs.toArray n)], ∀ q ∈ q1 :: q2 :: q3 :: (base ++ rows), p.1 ≠ q.1) (e : cols' = cols ++ [ns]) : ColsJ base cols' (as.map Value.ref ++ [Value.ref a]) ((base ++ rows) ++ [(a, W.listOf vs.toArray n)]) := by
  subst e
  refine ⟨as ++ [a], rows ++ [(a, W.listOf vs.toArray n)], by simp, List.append_assoc _ _ _, hR.snoc hv, fun p hp q hq => ?_⟩
  rcases List.mem_append.mp hp with hp | hp
  · exact hs p hp q hq
  · exact dj p hp q (List.mem_cons_of_mem _ (List.mem_cons_of_mem _ (List.mem_cons_of_mem _ (List.mem_append_left _ hq))))
theorem off1_mem {D : Addr} : ∀ {l : List (Addr × Obj)}, LCg.Off1 D l → ∀ p ∈ l, p.1 ≠ D
  | [], _, _, h => nomatch h
  | _ :: _, x, p, h => by
    rcases List.mem_cons.mp h with rfl | h
    · exact x.1
    · exact off1_mem x.2 p h
structure HY (P : Params) (h : Heap) : Prop where
  x : (hy P).In h
section
variable {prog : Program} {w : World} {A : Around} {E : Value → Shared → Prop} {s : Shared} {g : Heap} {L : Addr} {m : Str → Option Value} {pre post : List (Addr × Obj)} {p : Program} {loose : List Str} {mean : ExcName → Option Value} {mg mb : Str → Option Value} {Q : Value → Shared → Prop}
theorem use_ctk (pre post : List (Addr × Obj)) (X : (hd.heap_1 w.params).In g) (T : Top p loose mean mg mb g) (KY : HY w.params g) (CH : CodeHd g 27 23) (F : Fr g L s.heap m) (N : News g L s.heap (pre ++ (23, tabObj #[]) :: post)) (h1 : ∀ p ∈ pre, p.1 ≠ 23) (h2 : ∀ p ∈ post, p.1 ≠ 23)
    (hA : A.handled = none) (hd : A.depth ≤ 600) (hu : A.units ≤ 6000)
    (h : ∀ h' tk' C K ps, Fr g L h' m → News g L h' (pre ++ (23, tabObj ps) :: (post ++ K)) → KPure K C → (∀ p ∈ K, ∀ q ∈ pre ++ (23, tabObj #[]) :: post, p.1 ≠ q.1) → Q (.ref C) { s with heap := h', toks := tk' }) :
    wpAny (model prog w) A (call (.ref 28) [.ref 115]) Q E s := by
  have n23 := N (23, tabObj #[]) (List.mem_append_right _ List.mem_cons_self)
  refine wpAny_le (A' := AZ) hA hd rfl rfl hu (ctk_spec X T KY.x F.keep n23.1 n23.2.2 CH fun C h' t' K keep htab hled hK => ?_)
  obtain ⟨ps, htab⟩ := htab
  have kL : ∀ o, s.heap.get? L = some o → h'.get? L = some o := fun o e => keep L o (Ne.symm n23.2.1) e
  have F' : Fr g L h' m := ⟨F.ns.at' kL, fun b o e => keep b o (fun q => by rw [q, n23.2.2] at e; cases e) (F.keep _ _ e), F.above⟩
  have dj := led_ne N hled
  refine h h' t' C K ps F' (fun q hq => ?_) hK dj
  rcases List.mem_append.mp hq with hq | hq
  · exact ⟨keep _ _ (h1 q hq) (N q (List.mem_append_left _ hq)).1, (N q (List.mem_append_left _ hq)).2⟩
  rcases List.mem_cons.mp hq with rfl | hq
  · exact ⟨htab, n23.2⟩
  rcases List.mem_append.mp hq with hq | hq
  · have := N q (List.mem_append_right _ (List.mem_cons_of_mem _ hq))
    exact ⟨keep _ _ (h2 q hq) this.1, this.2⟩
  · refine ⟨(hled q hq).1, fun e => ?_, ?_⟩
    · obtain ⟨oL, _, _, hoL, _⟩ := F.ns
      have := (hled q hq).2
      rw [e, hoL] at this; cases this
    · cases z : g.get? q.1 with
      | none => rfl
      | some o => have := (hled q hq).2; rw [F.keep _ _ z] at this; cases this
end
end Mine
end
section
open PySem PySem.W PySem.Calls PyProof.Rows
theorem Mine.fresh_L2a {prog : Program} {w : World} {A : Around} {env : Env} {Q : Flow → Shared → Prop} {E : Value → Shared → Prop} {s : Shared} (h : Q .next s) : wpAny (model prog w) A (execs [] env) Q E s := by
  w_top off
  k_with_none
  walk1
  exact h
end
section
open PySem PySem.W PySem.Calls PyProof.Rows
set_option Elab.async false
set_option maxRecDepth 100000
namespace Mine
noncomputable abbrev rngObj (n : Nat) (t u v : Tok) : Obj := { cls := .type "range", dict := none, data := .fields #[.int 0 t, .int (n : Nat) u, .int 1 v], slots := #[] }
theorem keep_of_makes {K : Frag} {C : Addr} (h : makesIn K C = true) : keepIn K (.ref C) = true := by
  unfold makesIn at h
  unfold keepIn
  dsimp only
  generalize K.lookup C = x at h ⊢
  cases x with
  | none => exact Bool.noConfusion (h : false = true)
  | some o =>
    obtain ⟨oc, od, dt, sl⟩ := o
    cases dt with
    | cls cd => exact (Bool.and_eq_true_iff.mp (Bool.and_eq_true_iff.mp h).1).2
    | _ => exact Bool.noConfusion (h : false = true)
section
variable {prog : Program} {w : World} {A : Around} {s : Shared} {h₀ : Heap} {p : Program} {loose : List Str} {mean : ExcName → Option Value} {mg mb : Str → Option Value} {C i j : Addr} {r r' : WsR} {c c' : Ws} {E : Value → Shared → Prop}
/-- a lambda, called with nothing laid open -/
theorem enterLam {R : Result → Shared → Prop} {name qual : Str} {params : Arguments} {body : Expr} {scope : Scope} {cl : List (Str × Addr)} {pm ctv : Value} {c' : Addr} {f : Addr} {args : Args} {binds : List (Str × Value)}
    (T : Top p loose mean mg mb h₀) (hO : Over h₀ s.heap) (ho : s.heap.get? f = some (kla_obj name qual params body scope cl pm c' ctv)) (hcd : s.heap.CodeRec (.ref c') qual) (hroom : A.depth < recursionLimit)
    (hbind : bindArgs (kla_fn name qual params body scope cl pm (.ref c') ctv) args = pure binds) (hloc : ∀ y ∈ binds, scope.names.lookup y.1 = some .local)
    (h : ∀ L' h₁, Fr s.heap L' h₁ (fun y => binds.reverse.lookup y) → News s.heap L' h₁ [] →
      wpAny (model prog w) (A.deeper (envX qual scope L' f (.ref c') cl)) (eval body (envX qual scope L' f (.ref c') cl))
        (fun v s' => BackC s.heap L' (fun v s' => R (.ok (.ret v)) s') v s') (fun _ _ => False) { s with heap := h₁, toks := s.toks + binds.length })
    (hco : scope.isCoroutine = false) (hgen : scope.isGenerator = false) (hk : scope.kind = .function) (hcell : ∀ x ∈ scope.names, x.2 ≠ .cell) : codeAny (model prog w) A (.call (.ref f) args) R s := by
  refine kla_callFunE hroom ho rfl hco hgen rfl hcd ?_
  rw [hbind]
  refine wpAny_pure (wpAny_newFunctionEnv hcell hloc (fun h₁ hns hsb => ⟨((T.nolimit).keeps hO).fresh _ hsb, ?_⟩) hk)
  show codeAny _ _ (.expr body (envX qual scope s.heap.objs.size f (.ref c') cl)) _ _
  have hk₁ : ∀ b o, s.heap.get? b = some o → h₁.get? b = some o := fun b o e => hsb.extBut b o (Nat.ne_of_lt (Heap.lt_size e)) (Heap.get?_push_of_some _ e)
  exact kla_codeExpr (wpAny_mono (h s.heap.objs.size h₁ ⟨hns, hk₁, Nat.le_refl _⟩ (fun _ h => nomatch h)) (fun v s' hl => hl.choose_spec.2 hl.choose_spec.1.keep) fun _ _ y => y.elim)
theorem key_lt {Q : Bool → Shared → Prop} (X₀ : (hd.heap_1 w.params).In h₀) (T : Top p loose mean mg mb h₀) (hO : Over h₀ s.heap) (XC : KCls s.heap C) (I : KInst s.heap C i r.x) (J : KInst s.heap C j r'.x)
    (W : WsAt w.params h₀ s.heap r c) (W' : WsAt w.params h₀ s.heap r' c') (hl : Small c) (hl' : Small c') (hw : ¬ sameN c c' → ∃ ts, firstW c c' = some ts)
    (hA : A.handled = none) (hd : A.depth ≤ 750) (hu : A.units ≤ 7500)
    (hQ : ∀ h' tk', Over s.heap h' → Q (decide (cmpV c c' < 0)) { s with heap := h', toks := tk' }) :
    wpAny (model prog w) A (keyLt' oneType' (.ref i) (.ref j)) Q E s := by
  obtain ⟨K, XK, P⟩ := XC.ex
  obtain ⟨md, cell, fs, G, _, O⟩ := P.ex
  obtain ⟨di, hi, hdi⟩ := I.ex
  obtain ⟨dj, hj, hdj⟩ := J.ex
  obtain ⟨a, b, D⟩ := O .Lt (by simp)
  rw [keyLt'_oneType, oneLt'_eq]
  simp only [if_true]
  refine wpAny_bind (wpAny_cRoomFor (Nat.lt_of_le_of_lt hu (Nat.le_of_ble_eq_true rfl)) ?_)
  refine wpAny_bind (ifBound_K (K := K) XK.x (od := some (dictOf [] 0)) ⟨hi, rfl, rfl, hdi⟩ a b (wpAny_mono (wpAny_le (A' := A4) hA hd rfl rfl hu (cmp_call (op := .Lt) (by simp) X₀ T hO XK G D hi hdi hj hdj W W' hl hl' hw (Q := fun v s' => v = .bool (decide (cmpV c c' < 0)) ∧ ∃ h' tk', s' = { s with heap := h', toks := tk' } ∧ Over s.heap h') fun h' tk' ho => ⟨rfl, h', tk', rfl, ho⟩)) (fun v s' hv => ?_) fun _ _ e => e))
  obtain ⟨rfl, h', tk', rfl, ho⟩ := hv
  exact wpAny_truthy_bool (hQ _ _ ho)
end
end Mine
end
section
open PySem PySem.W PySem.Calls PyProof.Rows
theorem Mine.fresh_SKL {prog : Program} {w : World} {A : Around} {env : Env} {Q : Flow → Shared → Prop} {E : Value → Shared → Prop} {s : Shared} (h : Q .next s) : wpAny (model prog w) A (execs [] env) Q E s := by
  w_top off
  k_with_none
  walk1
  exact h
end
section
open PySem PySem.W PySem.Calls PyProof.Rows
set_option Elab.async false
set_option maxRecDepth 100000
namespace Mine
noncomputable def wsx (x : Int) : Ws := wsDat (leadS (mod6 x))
noncomputable def colx (x : Int) : List Int := (rangeKs 1 7).map (colOf (KStt.codes (leadS (mod6 x))))
theorem colx_len (x : Int) : (colx x).length = 7 := by simp [colx, rangeKs]
noncomputable def codeD (a b c d e : Nat) : List Int := List.replicate a 32 ++ List.replicate b 9 ++ List.replicate c 32 ++ List.replicate d 9 ++ List.replicate e 32 ++ [120]
noncomputable def stD (cs : List Int) : WsSt := (cs.takeWhile fun c => decide (c = 32 ∨ c = 9)).foldl wsStep wsInit
noncomputable def wsD (cs : List Int) : Ws := ⟨⟨#[]⟩, (stD cs).n, (stD cs).nt, (stD cs).cnt, (stD cs).b⟩
noncomputable def colD7 (cs : List Int) : List Int := (rangeKs 1 7).map (colOf cs)
/-- counts and rest, told back from the columns -/
noncomputable def decCnt (v : List Int) : List Int :=
  let b := v.getD 6 0 % 7
  let nt := v.getD 6 0 / 7
  let i1 := v.getD 0 0 - b - nt
  let i2 := (v.getD 1 0 - b) / 2 - nt
  let i3 := (v.getD 2 0 - b) / 3 - nt
  let i4 := (v.getD 3 0 - b) / 4 - nt
  let c4 := i4
  let c3 := i3 - c4
  let c2 := i2 - c3 - 2 * c4
  let c1 := i1 - 2 * c2 - 3 * c3 - 4 * c4
  ([nt - c1 - c2 - c3 - c4, c1, c2, c3, c4].reverse.dropWhile fun c => c == 0).reverse
noncomputable def okB (c : Ws) (v : List Int) : Bool :=
  (List.range 7).all (fun j => level c ((j : Int) + 1) == v.getD j 0) &&
  decide (0 ≤ c.b) && decide (longest c ≤ 6) &&
  (List.range 7).all (fun j => !decide (longest c < (j : Int) + 1) || level c ((j : Int) + 1) == c.b + ((j : Int) + 1) * c.nt) &&
  (decCnt v == c.cnt) && (v.getD 6 0 % 7 == c.b) && (c.nt == c.cnt.sum) && (c.n == v.getD 0 0) &&
  (!decide (c.cnt.length ≤ 1) || (List.range 7).all (fun j => level c ((j : Int) + 1) == c.b + ((j : Int) + 1) * c.nt))
theorem all_ok : ∀ a < 3, ∀ b < 2, ∀ c < 3, ∀ d < 3, ∀ e < 3, okB (wsD (codeD a b c d e)) (colD7 (codeD a b c d e)) = true := by decide +kernel
end Mine
end
section
open PySem PySem.W PySem.Calls PyProof.Rows
theorem Mine.fresh_PL0 {prog : Program} {w : World} {A : Around} {env : Env} {Q : Flow → Shared → Prop} {E : Value → Shared → Prop} {s : Shared} (h : Q .next s) : wpAny (model prog w) A (execs [] env) Q E s := by
  w_top off
  k_with_none
  walk1
  exact h
end
section
open PySem PySem.W PySem.Calls PyProof.Rows
set_option Elab.async false
set_option maxRecDepth 100000
namespace Mine
theorem codes_lead (y : Int) : KStt.codes (leadS y) = codeD (y.fmod 3).toNat ((y.fdiv 3).fmod 2).toNat ((y.fdiv 6).fmod 3).toNat ((y.fdiv 18).fmod 3).toNat ((y.fdiv 54).fmod 3).toNat := by
  unfold KStt.codes codeD
  rw [leadS_cps]
  simp only [List.map_append, List.map_replicate, List.map_cons, List.map_nil]
  rfl
theorem fmod_lt (y : Int) (n : Nat) (hn : 0 < n) : (y.fmod n).toNat < n := by
  rw [Int.fmod_eq_emod_of_nonneg _ (Int.natCast_nonneg n)]
  have h0 : (0 : Int) < n := Int.ofNat_lt.mpr hn
  exact (Int.toNat_lt (Int.emod_nonneg y (Int.ne_of_gt h0))).mpr (Int.emod_lt_of_pos y h0)
theorem okB_x (x : Int) : okB (wsx x) (colx x) = true := by
  have e := codes_lead (mod6 x)
  have h : okB (wsD (codeD ((mod6 x).fmod 3).toNat (((mod6 x).fdiv 3).fmod 2).toNat (((mod6 x).fdiv 6).fmod 3).toNat (((mod6 x).fdiv 18).fmod 3).toNat (((mod6 x).fdiv 54).fmod 3).toNat)) (colD7 (codeD ((mod6 x).fmod 3).toNat (((mod6 x).fdiv 3).fmod 2).toNat (((mod6 x).fdiv 6).fmod 3).toNat (((mod6 x).fdiv 18).fmod 3).toNat (((mod6 x).fdiv 54).fmod 3).toNat)) = true := all_ok _ (fmod_lt (mod6 x) 3 (by decide)) _ (fmod_lt ((mod6 x).fdiv 3) 2 (by decide)) _ (fmod_lt ((mod6 x).fdiv 6) 3 (by decide)) _ (fmod_lt ((mod6 x).fdiv 18) 3 (by decide)) _ (fmod_lt ((mod6 x).fdiv 54) 3 (by decide))
  rw [← e] at h
  exact h
/-- what is known of one lead -/
structure LeadOk (c : Ws) (v : List Int) : Prop where
  lev : ∀ j : Nat, j < 7 → level c ((j : Int) + 1) = v.getD j 0
  b0 : 0 ≤ c.b
  l6 : longest c ≤ 6
  far : ∀ j : Nat, j < 7 → longest c < (j : Int) + 1 → level c ((j : Int) + 1) = c.b + ((j : Int) + 1) * c.nt
  dec : decCnt v = c.cnt
  decb : v.getD 6 0 % 7 = c.b
  nsum : c.nt = c.cnt.sum
  first : c.n = v.getD 0 0
  simp : c.cnt.length ≤ 1 → ∀ j : Nat, j < 7 → level c ((j : Int) + 1) = c.b + ((j : Int) + 1) * c.nt
theorem lead_ok (x : Int) : LeadOk (wsx x) (colx x) := by
  have h := okB_x x
  simp only [okB, Bool.and_eq_true, List.all_eq_true, List.mem_range, beq_iff_eq, Bool.or_eq_true, Bool.not_eq_true', decide_eq_true_eq, decide_eq_false_iff_not] at h
  obtain ⟨⟨⟨⟨⟨⟨⟨⟨h1, h2⟩, h3⟩, h4⟩, h5⟩, h6⟩, h7⟩, h8⟩, h9⟩ := h
  exact ⟨h1, h2, h3, fun j hj hl => (h4 j hj).resolve_left (fun n => n hl), h5, h6, h7, h8, fun hl => h9.resolve_left fun n => n hl⟩
theorem LeadOk.bl {c : Ws} {v : List Int} (_ : LeadOk c v) : c.b ≤ longest c ∧ (c.cnt.length : Int) - 1 ≤ longest c := by
  unfold longest
  exact ⟨Int.le_max_right _ _, Int.le_max_left _ _⟩
theorem small_x (x : Int) : Small (wsx x) := by
  have k := lead_ok x
  have := k.bl
  have := k.l6
  have := k.b0
  exact ⟨by omega, by omega, by omega⟩
theorem ext7 {v v' : List Int} (l : v.length = 7) (l' : v'.length = 7) (h : ∀ j : Nat, j < 7 → v.getD j 0 = v'.getD j 0) : v = v' := by
  refine List.ext_getElem (l.trans l'.symm) fun i h1 h2 => ?_
  have := h i (l ▸ h1)
  simpa [List.getD_eq_getElem?_getD, h1, h2] using this
section
variable {c c' : Ws} {v v' : List Int}
theorem level_same (h1 : c.cnt = c'.cnt) (h2 : c.b = c'.b) (h3 : c.nt = c'.nt) (ts : Int) : level c ts = level c' ts := by
  unfold level
  rw [h1, h2, h3]
theorem same_iff (K : LeadOk c v) (K' : LeadOk c' v') (l : v.length = 7) (l' : v'.length = 7) : sameN c c' ↔ v = v' := by
  constructor
  · rintro ⟨h1, h2⟩
    have h3 : c.nt = c'.nt := by rw [K.nsum, K'.nsum, h1]
    exact ext7 l l' fun j hj => by rw [← K.lev j hj, ← K'.lev j hj, level_same h1 h2 h3]
  · rintro rfl
    exact ⟨by rw [← K.dec, ← K'.dec], by rw [← K.decb, ← K'.decb]⟩
theorem lin_le {a b n m t : Int} (h : b + t * n < a + t * m) (ha : a < t) (hb : 0 ≤ b) (ht : 0 < t) : n ≤ m := by
  refine Int.not_lt.mp fun hn => ?_
  have : t * (m + 1) ≤ t * n := Int.mul_le_mul_of_nonneg_left hn (Int.le_of_lt ht)
  rw [Int.mul_add, Int.mul_one] at this
  have h1 : t * m + t < t * m + a := Int.lt_of_le_of_lt (Int.le_trans this (Int.le_add_of_nonneg_left hb)) (Int.add_comm a _ ▸ h)
  exact absurd (Int.lt_of_add_lt_add_left h1) (Int.not_lt.mpr (Int.le_of_lt ha))
theorem lin_eq {a b n m t : Int} (h : b + t * n = a + t * m) (ha : a < t) (hb : 0 ≤ b) (ha' : 0 ≤ a) (hb' : b < t) (ht : 0 < t) : n = m ∧ b = a := by
  have up : ∀ {a b n m : Int}, b + t * n = a + t * m → a < t → 0 ≤ b → n ≤ m := fun {a b n m} h ha hb => by
    refine Int.not_lt.mp fun hn => ?_
    have : t * (m + 1) ≤ t * n := Int.mul_le_mul_of_nonneg_left hn (Int.le_of_lt ht)
    rw [Int.mul_add, Int.mul_one] at this
    have h1 : t * m + t ≤ t * m + a := Int.le_trans this (Int.le_trans (Int.le_add_of_nonneg_left hb) (Int.le_of_eq (h.trans (Int.add_comm a _))))
    exact absurd (Int.le_of_add_le_add_left h1) (Int.not_le.mpr ha)
  have : n = m := Int.le_antisymm (up h ha hb) (up h.symm hb' ha')
  subst this
  exact ⟨rfl, (Int.add_left_inj _).mp h⟩
noncomputable def topN (c c' : Ws) : Nat := (max (longest c) (longest c')).toNat
theorem ite_max (a b : Int) : (if b > a then b else a) = max a b := by
  split
  · rename_i h; exact (Int.max_eq_right (Int.le_of_lt h)).symm
  · rename_i h; exact (Int.max_eq_left (Int.not_lt.mp h)).symm
theorem max_nn (K : LeadOk c v) (m : Int) : 0 ≤ max (longest c) m := Int.le_trans (Int.le_trans K.b0 K.bl.1) (Int.le_max_left _ _)
theorem nat_1 {m : Int} (h : 0 ≤ m) : (m + 1 + 1 - 1).toNat = m.toNat + 1 := (congrArg Int.toNat (Int.add_sub_cancel (m + 1) 1)).trans (Int.toNat_add h (by decide))
theorem witN_is (K : LeadOk c v) : witN c c' = topN c c' + 1 := by
  unfold witN topN
  rw [ite_max]
  exact nat_1 (max_nn K _)
theorem lessN_is (K : LeadOk c v) : lessN c c' = topN c c' := by
  unfold lessN topN
  rw [ite_max, show ∀ m : Int, m + 1 + 1 - 2 = m from fun m => (congrArg (· - 2) (Int.add_assoc m 1 1)).trans (Int.add_sub_cancel m 2)]
theorem topN_le (K : LeadOk c v) (K' : LeadOk c' v') : topN c c' ≤ 6 ∧ longest c ≤ topN c c' ∧ longest c' ≤ topN c c' := by
  unfold topN
  have e := Int.toNat_of_nonneg (max_nn K (longest c'))
  refine ⟨?_, ?_, ?_⟩
  · exact Int.toNat_le.mpr (Int.max_le.mpr ⟨K.l6, K'.l6⟩)
  · rw [e]; exact Int.le_max_left _ _
  · rw [e]; exact Int.le_max_right _ _
theorem agree (K : LeadOk c v) (K' : LeadOk c' v') (l : v.length = 7) (l' : v'.length = 7) (h : ∀ j : Nat, j ≤ topN c c' → level c ((j : Int) + 1) = level c' ((j : Int) + 1)) : v = v' := by
  obtain ⟨t6, t1, t2⟩ := topN_le K K'
  have e := h (topN c c') (Nat.le_refl _)
  rw [K.far _ (by omega) (by omega), K'.far _ (by omega) (by omega)] at e
  have := K.bl
  have := K'.bl
  have := K.b0
  have := K'.b0
  obtain ⟨e1, e2⟩ := lin_eq e (by omega) (by omega) (by omega) (by omega) (by omega)
  refine ext7 l l' fun j hj => ?_
  rw [← K.lev j hj, ← K'.lev j hj]
  by_cases hjt : j ≤ topN c c'
  · exact h j hjt
  · rw [K.far _ hj (by omega), K'.far _ hj (by omega), e1, e2]
theorem range_find {p : Int → Bool} {n : Nat} {ts : Int} (h : (rangeKs 1 n).find? p = some ts) : ∃ k : Nat, k < n ∧ ts = (k : Int) + 1 ∧ p ((k : Int) + 1) = true ∧ ∀ i : Nat, i < k → p ((i : Int) + 1) = false := by
  obtain ⟨h1, i, hi, h2, h3⟩ := List.find?_eq_some_iff_getElem.mp h
  simp only [rangeKs, List.length_map, List.length_range, List.getElem_map, List.getElem_range] at hi h2 h3
  refine ⟨i, hi, h2.symm.trans (Int.add_comm _ _), by rw [Int.add_comm, h2]; exact h1, fun j hj => ?_⟩
  have := h3 j hj
  rw [Int.add_comm]
  simpa using this
theorem range_none {p : Int → Bool} {n : Nat} (h : (rangeKs 1 n).find? p = none) : ∀ i : Nat, i < n → p ((i : Int) + 1) = false := fun i hi => by
  have := List.find?_eq_none.mp h ((i : Int) + 1) (List.mem_map.mpr ⟨i, List.mem_range.mpr hi, Int.add_comm _ _⟩)
  simpa using this
theorem first_some (K : LeadOk c v) (K' : LeadOk c' v') (l : v.length = 7) (l' : v'.length = 7) (hne : v ≠ v') : ∃ k : Nat, k < 7 ∧ firstW c c' = some ((k : Int) + 1) ∧ v.getD k 0 ≠ v'.getD k 0 ∧ ∀ i : Nat, i < k → v.getD i 0 = v'.getD i 0 := by
  obtain ⟨t6, _, _⟩ := topN_le K K'
  cases e : firstW c c' with
  | none =>
    unfold firstW at e
    rw [witN_is K] at e
    refine absurd (agree K K' l l' fun j hj => ?_) hne
    have := range_none e j (Nat.lt_succ_of_le hj)
    simpa using this
  | some ts =>
    unfold firstW at e
    rw [witN_is K] at e
    obtain ⟨k, hk, rfl, h1, h2⟩ := range_find e
    have hk7 : k < 7 := Nat.lt_of_lt_of_le hk (Nat.succ_le_succ t6)
    refine ⟨k, hk7, rfl, ?_, fun i hi => ?_⟩
    · rw [← K.lev k hk7, ← K'.lev k hk7]
      simpa using h1
    · rw [← K.lev i (Nat.lt_trans hi hk7), ← K'.lev i (Nat.lt_trans hi hk7)]
      have := h2 i hi
      simpa using this
end
theorem ltL_first : ∀ {v v' : List Int} {k : Nat}, v.length = v'.length → k < v.length → v.getD k 0 ≠ v'.getD k 0 → (∀ i : Nat, i < k → v.getD i 0 = v'.getD i 0) → ltL v v' = decide (v.getD k 0 < v'.getD k 0)
  | [], _, k, _, hk, _, _ => by simp at hk
  | _ :: _, [], _, h, _, _, _ => by simp at h
  | a :: r, b :: t, 0, _, _, hne, _ => by
    rw [ltL_cons, if_neg (by simpa using hne)]
    simp
  | a :: r, b :: t, k + 1, hl, hk, hne, hi => by
    have h0 : a = b := by simpa using hi 0 (Nat.succ_pos k)
    rw [ltL_cons, if_pos h0]
    have := ltL_first (v := r) (v' := t) (k := k) (by simpa using hl) (by simpa using hk) (by simpa using hne) fun i h => by simpa using hi (i + 1) (Nat.succ_lt_succ h)
    simpa using this
theorem first_x (x y : Int) : ¬ sameN (wsx x) (wsx y) → ∃ ts, firstW (wsx x) (wsx y) = some ts := fun h => by
  have hne : colx x ≠ colx y := fun e => h ((same_iff (lead_ok x) (lead_ok y) (colx_len x) (colx_len y)).mpr e)
  obtain ⟨k, _, e, _⟩ := first_some (lead_ok x) (lead_ok y) (colx_len x) (colx_len y) hne
  exact ⟨_, e⟩
theorem same_x (x y : Int) : sameN (wsx x) (wsx y) ↔ colx x = colx y := same_iff (lead_ok x) (lead_ok y) (colx_len x) (colx_len y)
theorem cmp_is (x y : Int) (hne : colx x ≠ colx y) : ∃ k : Nat, k < 7 ∧ cmpV (wsx x) (wsx y) = (colx x).getD k 0 - (colx y).getD k 0 ∧ (colx x).getD k 0 ≠ (colx y).getD k 0 ∧ ∀ i : Nat, i < k → (colx x).getD i 0 = (colx y).getD i 0 := by
  obtain ⟨k, hk, e, h1, h2⟩ := first_some (lead_ok x) (lead_ok y) (colx_len x) (colx_len y) hne
  refine ⟨k, hk, ?_, h1, h2⟩
  unfold cmpV
  rw [if_neg (fun h => hne ((same_x x y).mp h)), e]
  dsimp only
  rw [(lead_ok x).lev k hk, (lead_ok y).lev k hk]
theorem cmp_same (x y : Int) (h : colx x = colx y) : cmpV (wsx x) (wsx y) = 0 := by
  unfold cmpV
  rw [if_pos ((same_x x y).mpr h)]
theorem cmp_lt (x y : Int) : decide (cmpV (wsx x) (wsx y) < 0) = ltL (colx x) (colx y) := by
  by_cases hne : colx x = colx y
  · rw [cmp_same x y hne, hne, ltL_irr]; rfl
  · obtain ⟨k, hk, e, h1, h2⟩ := cmp_is x y hne
    rw [e, ltL_first (by rw [colx_len, colx_len]) (by rw [colx_len]; exact hk) h1 h2]
    rw [decide_eq_decide]
    exact ⟨Int.lt_of_sub_neg, Int.sub_neg_of_lt⟩
theorem cmp_eq (x y : Int) : decide (cmpV (wsx x) (wsx y) = 0) = decide (colx x = colx y) := by
  by_cases hne : colx x = colx y
  · rw [cmp_same x y hne, decide_eq_true hne]; rfl
  · obtain ⟨k, hk, e, h1, h2⟩ := cmp_is x y hne
    rw [e, decide_eq_false hne, decide_eq_false]
    omega
theorem lx {b n b' n' p p' : Int} (h : b + (((0 : Nat) : Int) + 1) * n < b' + (((0 : Nat) : Int) + 1) * n') (h2 : p ≤ p') : b + (p + 1 * n) < b' + (p' + 1 * n') := by
  rw [Int.add_left_comm, Int.add_left_comm b']
  exact Int.add_lt_add_of_le_of_lt h2 h
theorem lx2 {b b' p p' q q' : Int} (h : b + q < b' + q') (h2 : p ≤ p') : b + (q + p) < b' + (q' + p') := by
  rw [← Int.add_assoc, ← Int.add_assoc]
  exact Int.add_lt_add_of_lt_of_le h h2
theorem less_x (x y : Int) : lessB (wsx x) (wsx y) = (List.range 7).all fun j => decide ((colx x).getD j 0 < (colx y).getD j 0) := by
  have K := lead_ok x
  have K' := lead_ok y
  generalize wsx x = c at *
  generalize wsx y = c' at *
  generalize colx x = v at *
  generalize colx y = v' at *
  obtain ⟨t6, t1, t2⟩ := topN_le K K'
  have b1 := K.bl
  have b2 := K'.bl
  have z1 := K.b0
  have z2 := K'.b0
  rw [Bool.eq_iff_iff, List.all_eq_true]
  simp only [List.mem_range, decide_eq_true_eq]
  unfold lessB
  split
  · rename_i hn
    refine ⟨(fun h => nomatch h), fun h => ?_⟩
    have := h 0 (by decide)
    rw [← K.first, ← K'.first] at this
    omega
  · rename_i hn
    have h0 : v.getD 0 0 < v'.getD 0 0 := by rw [← K.first, ← K'.first]; omega
    split
    · rename_i hs
      rw [decide_eq_true_eq]
      have f1 := K.simp hs.1
      have f2 := K'.simp hs.2
      constructor
      · intro hnt j hj
        rw [← K.lev j hj, ← K'.lev j hj, f1 j hj, f2 j hj]
        rw [← K.lev 0 (by decide), ← K'.lev 0 (by decide), f1 0 (by decide), f2 0 (by decide)] at h0
        have : (j : Int) * c.nt ≤ (j : Int) * c'.nt := Int.mul_le_mul_of_nonneg_left hnt (by omega)
        rw [Int.add_mul, Int.add_mul]
        exact lx h0 this
      · intro h
        have h6 := h 6 (by decide)
        rw [← K.lev 6 (by decide), ← K'.lev 6 (by decide), f1 6 (by decide), f2 6 (by decide)] at h6
        exact lin_le h6 (by omega) (by omega) (by omega)
    · rw [lessN_is K, List.all_eq_true]
      simp only [decide_eq_true_eq]
      constructor
      · intro h j hj
        rw [← K.lev j hj, ← K'.lev j hj]
        have hin : ∀ i : Nat, i ≤ topN c c' → level c ((i : Int) + 1) < level c' ((i : Int) + 1) := fun i hi => by
          cases i with
          | zero => rw [K.lev 0 (by decide), K'.lev 0 (by decide)]; exact h0
          | succ i => exact h _ (List.mem_map.mpr ⟨i, List.mem_range.mpr hi, (by rw [Int.natCast_add, Int.add_comm 2, Int.add_assoc]; rfl)⟩)
        by_cases hjt : j ≤ topN c c'
        · exact hin j hjt
        · have ht := hin _ (Nat.le_refl _)
          rw [K.far _ (by omega) (by omega), K'.far _ (by omega) (by omega)] at ht
          have hnt := lin_le ht (by omega) (by omega) (by omega)
          rw [K.far _ hj (by omega), K'.far _ hj (by omega)]
          have hj2 : (j : Int) + 1 = ((topN c c' : Int) + 1) + ((j : Int) - topN c c') := by rw [Int.add_right_comm, Int.add_comm (topN c c' : Int), Int.sub_add_cancel]
          have : ((j : Int) - topN c c') * c.nt ≤ ((j : Int) - topN c c') * c'.nt := Int.mul_le_mul_of_nonneg_left hnt (by omega)
          rw [hj2, Int.add_mul (((topN c c' : Int) + 1)), Int.add_mul (((topN c c' : Int) + 1))]
          exact lx2 ht this
      · intro h ts hts
        obtain ⟨i, hi, rfl⟩ := List.mem_map.mp hts
        have hi := List.mem_range.mp hi
        have hi7 : i + 1 < 7 := Nat.succ_lt_succ (Nat.lt_of_lt_of_le hi t6)
        have := h (i + 1) hi7
        rw [← K.lev (i + 1) hi7, ← K'.lev (i + 1) hi7] at this
        rw [show (2 : Int) + (i : Int) = ((i + 1 : Nat) : Int) + 1 from by rw [Int.natCast_add, Int.add_comm 2, Int.add_assoc]; rfl]
        exact this
end Mine
end
section
open PySem PySem.W PySem.Calls PyProof.Rows
theorem Mine.fresh_PLs {prog : Program} {w : World} {A : Around} {env : Env} {Q : Flow → Shared → Prop} {E : Value → Shared → Prop} {s : Shared} (h : Q .next s) : wpAny (model prog w) A (execs [] env) Q E s := by
  w_top off
  k_with_none
  walk1
  exact h
end
section
open PySem PySem.W PySem.Calls PyProof.Rows
set_option Elab.async false
set_option maxRecDepth 100000
namespace Mine
noncomputable def ansK (a b : Ws) : List Bool := [opRes .Lt (cmpV a b), opRes .LtE (cmpV a b), opRes .Eq (cmpV a b), opRes .GtE (cmpV a b), opRes .Gt (cmpV a b)]
noncomputable def ansC (ns ms : List Int) : List Bool := [lt7 ns ms, le7 ns ms, decide (ns = ms), ge7 ns ms, gt7 ns ms]
theorem gt_ltL : ∀ {a b : List Int}, gt7 a b = ltL b a
  | [], [] => rfl
  | [], _ :: _ => rfl
  | _ :: _, [] => rfl
  | a :: r, b :: t => by
    have ih := @gt_ltL r t
    unfold gt7 at ih ⊢
    rw [ltL_cons]
    simp only [cmpRes]
    by_cases e : a = b
    · rw [if_pos e, if_pos e.symm]; exact ih
    · rw [if_neg e, if_neg (fun q => e q.symm)]
theorem ge_ltL : ∀ {a b : List Int}, a.length = b.length → ge7 a b = !ltL a b
  | [], [], _ => rfl
  | [], _ :: _, h => by simp at h
  | _ :: _, [], h => by simp at h
  | a :: r, b :: t, h => by
    have ih := @ge_ltL r t (by simpa using h)
    unfold ge7 at ih ⊢
    rw [ltL_cons]
    simp only [cmpRes]
    by_cases e : a = b
    · rw [if_pos e, if_pos e]; exact ih
    · rw [if_neg e, if_neg e]
      by_cases q : b ≤ a
      · rw [decide_eq_true q, decide_eq_false (by omega)]; rfl
      · rw [decide_eq_false q, decide_eq_true (by omega)]; rfl
theorem cmp_gt (x y : Int) : decide (0 < cmpV (wsx x) (wsx y)) = ltL (colx y) (colx x) := by
  by_cases hne : colx x = colx y
  · rw [cmp_same x y hne, hne, ltL_irr]; rfl
  · obtain ⟨k, hk, e, h1, h2⟩ := cmp_is x y hne
    rw [e, ltL_first (by rw [colx_len, colx_len]) (by rw [colx_len]; exact hk) (Ne.symm h1) (fun i hi => (h2 i hi).symm)]
    rw [decide_eq_decide]
    omega
theorem ans_same (x y : Int) : ansK (wsx x) (wsx y) = ansC (colx x) (colx y) := by
  have hl : (colx x).length = (colx y).length := by rw [colx_len, colx_len]
  have e1 : lt7 (colx x) (colx y) = ltL (colx x) (colx y) := rfl
  unfold ansK ansC
  rw [e1, le_ltL hl, ge_ltL hl, gt_ltL, ← cmp_lt, ← cmp_gt, ← cmp_eq]
  simp only [opRes]
  generalize cmpV (wsx x) (wsx y) = v
  congr 1
  congr 1
  · rw [← decide_not, decide_eq_decide]; omega
  congr 1
  congr 1
  rw [← decide_not, decide_eq_decide]; omega
end Mine
end
section
open PySem PySem.W PySem.Calls PyProof.Rows
theorem Mine.fresh_PLa {prog : Program} {w : World} {A : Around} {env : Env} {Q : Flow → Shared → Prop} {E : Value → Shared → Prop} {s : Shared} (h : Q .next s) : wpAny (model prog w) A (execs [] env) Q E s := by
  w_top off
  k_with_none
  walk1
  exact h
end
section
open PySem PySem.W PySem.Calls PyProof.Rows
set_option Elab.async false
set_option maxRecDepth 100000
namespace Mine
/-- like or less at all sizes -/
noncomputable def Sm (v w : List Int) : Prop := v = w ∨ ∀ j : Nat, j < 7 → v.getD j 0 < w.getD j 0
theorem Sm.trans {u v w : List Int} (h1 : Sm u v) (h2 : Sm v w) : Sm u w := by
  rcases h1 with rfl | h1
  · exact h2
  rcases h2 with rfl | h2
  · exact .inr h1
  exact .inr fun j hj => Int.lt_trans (h1 j hj) (h2 j hj)
/-- the test of _law_parts on two neighbours -/
theorem step_test (xs : List Int) {a b : Int} (ha : a.toNat < xs.length) (hb : b.toNat < xs.length) :
    (sameN (leadAt (xs.map wsx) a) (leadAt (xs.map wsx) b) ∨ lessB (leadAt (xs.map wsx) a) (leadAt (xs.map wsx) b) = true) ↔ Sm (colAt (xs.map colx) a) (colAt (xs.map colx) b) := by
  have e : ∀ {k : Int}, k.toNat < xs.length → leadAt (xs.map wsx) k = wsx (xs.getD k.toNat 0) ∧ colAt (xs.map colx) k = colx (xs.getD k.toNat 0) := fun {k} hk => by
    unfold leadAt colAt
    simp only [List.getD_eq_getElem?_getD, List.getElem?_map, List.getElem?_eq_getElem hk, Option.map_some, Option.getD_some, and_self]
  rw [(e ha).1, (e hb).1, (e ha).2, (e hb).2, same_x, less_x]
  unfold Sm
  rw [List.all_eq_true]
  simp only [List.mem_range, decide_eq_true_eq]
/-- what a state of the parting bears: the done parts, the open one, all that was met -/
structure PInv (S : Int → Int → Prop) (st : List (List Int) × List Int) (met : List Int) : Prop where
  flat : (st.1 ++ [st.2]).flatten = met
  ne : ∀ q ∈ st.1 ++ [st.2], q ≠ []
  one : ∀ q ∈ st.1 ++ [st.2], q.Pairwise S
  two : ∀ (i : Nat) q q', (st.1 ++ [st.2])[i]? = some q → (st.1 ++ [st.2])[i + 1]? = some q' → ∃ l ∈ q, ∃ f ∈ q', ¬ S l f
theorem snoc_two {α : Type} {l : List α} {a q q' : α} {i : Nat} (h1 : (l ++ [a])[i]? = some q) (h2 : (l ++ [a])[i + 1]? = some q') : (l[i]? = some q ∧ l[i + 1]? = some q') ∨ (l ≠ [] ∧ l.getLast? = some q ∧ q' = a) := by
  by_cases hi : i + 1 < l.length
  · rw [List.getElem?_append_left (by omega)] at h1
    rw [List.getElem?_append_left hi] at h2
    exact .inl ⟨h1, h2⟩
  · have hlen := (List.getElem?_eq_some_iff.mp h2).1
    rw [List.length_append, List.length_singleton] at hlen
    have hi' : i + 1 = l.length := by omega
    rw [List.getElem?_append_left (by omega)] at h1
    rw [hi', List.getElem?_append_right (Nat.le_refl _), Nat.sub_self] at h2
    refine .inr ⟨fun e => by rw [e] at hi'; simp at hi', ?_, by simpa using h2.symm⟩
    rw [List.getLast?_eq_getElem?, ← hi', Nat.add_sub_cancel]
    exact h1
theorem PInv.step {S : Int → Int → Prop} (tr : ∀ a b c, S a b → S b c → S a c) {leads : List Ws} {st : List (List Int) × List Int} {met : List Int} {k : Int} (P : PInv S st met)
    (ht : (sameN (leadAt leads (st.2.getLastD 0)) (leadAt leads k) ∨ lessB (leadAt leads (st.2.getLastD 0)) (leadAt leads k) = true) ↔ S (st.2.getLastD 0) k) : PInv S (partsStep leads st k) (met ++ [k]) := by
  obtain ⟨cl, cur⟩ := st
  have hne : cur ≠ [] := P.ne cur (List.mem_append_right _ (List.mem_singleton.mpr rfl))
  have hflat : cl.flatten ++ cur = met := by have := P.flat; simpa using this
  have hlast : cur.getLast? = some (cur.getLastD 0) := by
    cases cur with
    | nil => exact absurd rfl hne
    | cons a r => simp [List.getLastD, List.getLast?]
  have P2 : ∀ (i : Nat) q q', (cl ++ [cur])[i]? = some q → (cl ++ [cur])[i + 1]? = some q' → ∃ l ∈ q, ∃ f ∈ q', ¬ S l f := P.two
  have hcur := P.one cur (List.mem_append_right _ (List.mem_singleton.mpr rfl))
  unfold partsStep
  dsimp only at ht ⊢
  split
  · rename_i h
    have hS := ht.mp h
    refine ⟨?_, ?_, ?_, ?_⟩
    · simp [← hflat]
    · intro q hq
      rcases List.mem_append.mp hq with hq | hq
      · exact P.ne q (List.mem_append_left _ hq)
      · rw [List.mem_singleton.mp hq]; simp
    · intro q hq
      rcases List.mem_append.mp hq with hq | hq
      · exact P.one q (List.mem_append_left _ hq)
      · rw [List.mem_singleton.mp hq]
        refine List.pairwise_append.mpr ⟨hcur, List.pairwise_singleton _ _, fun a ha b hb => ?_⟩
        rw [List.mem_singleton.mp hb]
        obtain ⟨ini, e⟩ := List.getLast?_eq_some_iff.mp hlast
        generalize cur.getLastD 0 = z at *
        subst e
        rcases List.mem_append.mp ha with ha | ha
        · exact tr _ _ _ ((List.pairwise_append.mp hcur).2.2 a ha z (List.mem_singleton.mpr rfl)) hS
        · rw [List.mem_singleton.mp ha]; exact hS
    · intro i q q' h1 h2
      rcases snoc_two h1 h2 with ⟨h1, h2⟩ | ⟨hcl, h1, rfl⟩
      · have g : ∀ {j : Nat} {r : List Int}, cl[j]? = some r → (cl ++ [cur])[j]? = some r := fun {j r} e => by rw [List.getElem?_append_left (List.getElem?_eq_some_iff.mp e).1]; exact e
        exact P2 i q q' (g h1) (g h2)
      · have hpos : 0 < cl.length := List.length_pos_iff.mpr hcl
        rw [List.getLast?_eq_getElem?] at h1
        obtain ⟨l, hl, f, hf, hn⟩ := P2 (cl.length - 1) q cur (by rw [List.getElem?_append_left (by omega)]; exact h1) (by rw [List.getElem?_append_right (by omega), show cl.length - 1 + 1 - cl.length = 0 by omega]; rfl)
        exact ⟨l, hl, f, List.mem_append_left _ hf, hn⟩
  · rename_i h
    have hS := fun s => h (ht.mpr s)
    refine ⟨?_, ?_, ?_, ?_⟩
    · simp [← hflat]
    · intro q hq
      rcases List.mem_append.mp hq with hq | hq
      · exact P.ne q hq
      · rw [List.mem_singleton.mp hq]; simp
    · intro q hq
      rcases List.mem_append.mp hq with hq | hq
      · exact P.one q hq
      · rw [List.mem_singleton.mp hq]; exact List.pairwise_singleton _ _
    · intro i q q' h1 h2
      rcases snoc_two h1 h2 with ⟨h1, h2⟩ | ⟨_, h1, rfl⟩
      · exact P2 i q q' h1 h2
      · rw [List.getLast?_concat] at h1
        cases h1
        exact ⟨_, List.mem_of_getLast? hlast, k, List.mem_singleton.mpr rfl, hS⟩
theorem pinv_all {S : Int → Int → Prop} (tr : ∀ a b c, S a b → S b c → S a c) {leads : List Ws} {k₀ : Int} {row : List Int} {ok : Int → Prop}
    (ht : ∀ a b, ok a → ok b → ((sameN (leadAt leads a) (leadAt leads b) ∨ lessB (leadAt leads a) (leadAt leads b) = true) ↔ S a b)) (hk : ∀ k ∈ k₀ :: row, ok k) (i : Nat) (hi : i ≤ row.length) : PInv S (partsSt leads k₀ row i) (k₀ :: row.take i) := by
  induction i with
  | zero =>
    show PInv S ([], [k₀]) [k₀]
    exact ⟨rfl, fun q hq => by rw [List.mem_singleton.mp hq]; simp, fun q hq => by rw [List.mem_singleton.mp hq]; exact List.pairwise_singleton _ _, fun i q q' _ h2 => by simp at h2⟩
  | succ i ih =>
    have P := ih (by omega)
    have e : row[i]? = some row[i] := List.getElem?_eq_getElem (by omega)
    rw [partsSt_succ e, take_snoc e, ← List.cons_append]
    refine P.step tr (ht _ _ ?_ (hk _ (List.mem_cons_of_mem _ (List.mem_of_getElem? e))))
    have hne := P.ne _ (List.mem_append_right _ (List.mem_singleton.mpr rfl))
    refine hk _ (List.mem_of_mem_take (i := i + 1) ?_)
    rw [List.take_succ_cons, ← P.flat]
    refine List.mem_flatten.mpr ⟨_, List.mem_append_right _ (List.mem_singleton.mpr rfl), ?_⟩
    generalize (partsSt leads k₀ row i).2 = cur at *
    cases cur with
    | nil => exact absurd rfl hne
    | cons a r => rw [List.getLastD_cons]; exact List.getLastD_mem_cons
theorem flat_inj {α β : Type} {f g : α → List β} (hl : ∀ a, (f a).length = (g a).length) : ∀ {l : List α}, l.flatMap f = l.flatMap g → ∀ a ∈ l, f a = g a
  | [], _, a, h => nomatch h
  | b :: r, h, a, hm => by
    rw [List.flatMap_cons, List.flatMap_cons] at h
    obtain ⟨h1, h2⟩ := List.append_inj h (hl b)
    rcases List.mem_cons.mp hm with rfl | hm
    · exact h1
    · exact flat_inj hl h2 a hm
theorem tbl_inj {cols : List (List Int)} {part : List Int} {i j : Nat} (h : tbl cols part i = tbl cols part j) {m k : Int} (hm : m ∈ part) (hk : k ∈ part) : ltB cols i m k = ltB cols j m k :=
  List.map_inj_left.mp (flat_inj (fun a => by rw [List.length_map, List.length_map]) h m hm) k hk
theorem one_true {cols : List (List Int)} {part : List Int} (h : ∀ m ∈ part, ∀ k ∈ part, ∀ j : Nat, j < 7 → ltB cols j m k = ltB cols 0 m k) : oneOrder cols part = true := by
  unfold oneOrder
  rw [List.all_eq_true]
  intro j hj
  rw [beq_iff_eq]
  unfold tbl
  rw [List.flatMap_def, List.flatMap_def]
  congr 1
  refine List.map_congr_left fun m hm => List.map_congr_left fun k hk => h m hm k hk j (List.mem_range.mp hj)
theorem one_false {cols : List (List Int)} {part : List Int} {m k : Int} {i j : Nat} (hm : m ∈ part) (hk : k ∈ part) (hi : i < 7) (hj : j < 7) (h : ltB cols i m k ≠ ltB cols j m k) : oneOrder cols part = false := by
  cases e : oneOrder cols part with
  | false => rfl
  | true =>
    unfold oneOrder at e
    rw [List.all_eq_true] at e
    have h1 := beq_iff_eq.mp (e i (List.mem_range.mpr hi))
    have h2 := beq_iff_eq.mp (e j (List.mem_range.mpr hj))
    exact absurd (tbl_inj (h1.trans h2.symm) hm hk) h
end Mine
end
section
open PySem PySem.W PySem.Calls PyProof.Rows
theorem Mine.fresh_PP {prog : Program} {w : World} {A : Around} {env : Env} {Q : Flow → Shared → Prop} {E : Value → Shared → Prop} {s : Shared} (h : Q .next s) : wpAny (model prog w) A (execs [] env) Q E s := by
  w_top off
  k_with_none
  walk1
  exact h
end
section
open PySem PySem.W PySem.Calls PyProof.Rows
set_option Elab.async false
set_option maxRecDepth 100000
set_option maxHeartbeats 8000000
set_option pp.deepTerms false
set_option pp.deepTerms.threshold 6
namespace Mine
noncomputable abbrev lamBody (p1 p2 p3 p4 p5 : Pos) : Expr := .Call (.Name (Str.ofString "rank") p1) [.Subscript (.Name (Str.ofString "leads") p2) (.Name (Str.ofString "k") p3) p4] [] p5
section
variable {prog : Program} {w : World} {A : Around} {s : Shared} {h₀ : Heap} {p : Program} {loose : List Str} {mean : ExcName → Option Value} {mg mb : Str → Option Value} {E : Value → Shared → Prop}
theorem lam_key {nm qual : Str} {params : Arguments} {p1 p2 p3 p4 p5 : Pos} {scope : Scope} {cl : List (Str × Addr)} {pm ctv : Value} {c' f cR cL C DL y : Addr} {items : List Value} {i : Nat} {t : Tok} {Q : Value → Shared → Prop}
    (T : Top p loose mean mg mb h₀) (hO : Over h₀ s.heap) (hf : s.heap.get? f = some (kla_obj nm qual params (lamBody p1 p2 p3 p4 p5) scope cl pm c' ctv)) (hcd : s.heap.CodeRec (.ref c') qual)
    (hR : s.heap.IsCell cR (some (.ref C))) (hL : s.heap.IsCell cL (some (.ref DL))) (XC : KCls s.heap C) (hl : s.heap.IsList DL items.toArray) (hi : items[i]? = some (.ref y)) (hi2 : i < 50)
    (hbind : bindArgs (kla_fn nm qual params (lamBody p1 p2 p3 p4 p5) scope cl pm (.ref c') ctv) ⟨[.int (i : Nat) t], []⟩ = pure [(Str.ofString "k", .int (i : Nat) t)])
    (k1 : scope.names.lookup (Str.ofString "rank") = some .free) (k2 : scope.names.lookup (Str.ofString "leads") = some .free) (k3 : scope.names.lookup (Str.ofString "k") = some .local) (l1 : cl.lookup (Str.ofString "rank") = some cR) (l2 : cl.lookup (Str.ofString "leads") = some cL)
    (hco : scope.isCoroutine = false) (hgen : scope.isGenerator = false) (hk : scope.kind = .function) (hcell : ∀ x ∈ scope.names, x.2 ≠ .cell)
    (hroom : A.depth < recursionLimit) (hA : ∀ env, (A.deeper env).handled = none) (hd : ∀ env, (A.deeper env).depth ≤ 750) (hu : ∀ env, (A.deeper env).units ≤ 7500)
    (hQ : ∀ h' tk' x dx, Over s.heap h' → Led s.heap h' [(x, slotInst C dx (.ref y)), (dx, dictOf [] 0)] → Q (.ref x) { s with heap := h', toks := tk' }) :
    wpAny (model prog w) A (call (.ref f) [.int (i : Nat) t]) Q E s := by
  refine wpAny_call ?_
  refine enterLam T hO hf hcd hroom (binds := [(Str.ofString "k", .int (i : Nat) t)]) hbind (fun y hy => by rw [List.mem_singleton.mp hy]; exact k3) ?_ hco hgen hk hcell
  intro L' h₁ F N
  obtain ⟨K, XK, P⟩ := id XC.ex
  obtain ⟨md, cell, fs, G, M, O⟩ := id P.ex
  have XC1 : KCls h₁ C := XC.over F.keep
  refine wpAny_Call_NameR ?_
  refine wpAny_Name (wpAny_loadName_free hk k1 l1 (let ⟨o, e, d⟩ := hR; ⟨o, F.keep _ _ e, d⟩) ?_) (by decide)
  refine callWith_K XK.x (keep_of_makes M.makes) ?_
  walk1
  walk1
  refine wpAny_Name (wpAny_loadName_free hk k2 l2 (let ⟨o, e, d⟩ := hL; ⟨o, F.keep _ _ e, d⟩) ?_) (by decide)
  refine wpAny_Name (wpAny_loadName_local hk k3 F.ns (by rfl) ?_) (by decide)
  refine item_at (hl.at fun o e => F.keep _ _ e) (by omega) (by omega) (y := .ref y) (by simpa using hi) ?_ (by with_unfolding_all rfl)
  walk1
  refine ⟨XK.x.keeps F.keep, ?_⟩
  refine wpAny_le (A' := A4) (hA _) (hd _) rfl rfl (hu _) (key_make T (hO.trans F.keep) XC1 fun h' tk' x dx ho hled => ?_)
  exact ⟨_, fr_over F ho, fun hk2 => hQ _ _ x dx (Over.trans F.keep ho) (hled.down F.keep)⟩
end
theorem mem_at {β : Type} {B l : List β} (e : B = l) (i : Nat) {x : β} (h : l[i]? = some x) : x ∈ B := e ▸ List.mem_of_getElem? h
theorem mem_drop {β : Type} {B l : List β} (e : B = l) (n : Nat) : ∀ p ∈ l.drop n, p ∈ B := fun p hp => e ▸ List.mem_of_mem_drop hp
theorem news_abs {g h : Heap} {L : Addr} {B : List (Addr × Obj)} (_N : News g L h B) : ∃ B', B' = B := ⟨B, rfl⟩
theorem LeadsRows.ws {P : Params} {g h : Heap} {L : Addr} {X rows : List (Addr × Obj)} {rs : List WsR} {cs : List Ws} (x : LeadsRows P rows rs cs) (N : News g L h X) (hr : ∀ p ∈ rows, p ∈ X) {i : Nat} {r : WsR} {c : Ws} (e1 : rs[i]? = some r) (e2 : cs[i]? = some c) : WsAt P g h r c :=
  ⟨fun p hp => ⟨(N p (hr p ((x.2 i r c e1 e2).1 p hp))).1, (N p (hr p ((x.2 i r c e1 e2).1 p hp))).2.2⟩, (x.2 i r c e1 e2).2⟩
theorem colD_map {xs : List Int} {i : Nat} {x : Int} (h : xs[i]? = some x) : colD (xs.map colx) i = colx x := by
  unfold colD
  rw [List.getD_eq_getElem?_getD, List.getElem?_map, h]; rfl
noncomputable abbrev ysOf (rs : List WsR) (i : Nat) : Addr := (rs.map (·.x)).getD i 0
theorem ysOf_at {rs : List WsR} {i : Nat} {r : WsR} (h : rs[i]? = some r) : ysOf rs i = r.x := by
  unfold ysOf
  rw [List.getD_eq_getElem?_getD, List.getElem?_map, h]; rfl
section
variable {prog : Program} {w : World} {A : Around} {s : Shared} {g : Heap} {L C : Addr} {m : Str → Option Value} {B rows K : List (Addr × Obj)} {rs : List WsR} {xs : List Int} {p : Program} {loose : List Str} {mean : ExcName → Option Value} {mg mb : Str → Option Value}
theorem cmp_rule (X₀ : (hd.heap_1 w.params).In g) (T : Top p loose mean mg mb g) (hR : LeadsRows w.params rows rs (xs.map wsx)) (hrB : ∀ p ∈ rows, p ∈ B) (hKB : ∀ p ∈ K, p ∈ B) (hK : KPure K C) (hA : A.handled = none) (hd : A.depth ≤ 750) (hu : A.units ≤ 7500) :
    CmpRule prog w A s g L m B C (ysOf rs) xs.length (ltN (xs.map colx)) := by
  intro i j x dx x' dx' h tk X Q hi hj F N hB hx hdx hx' hdx' hq
  have hl := hR.1
  rw [List.length_map] at hl
  have e1 : rs[i]? = some (rs[i]'(by omega)) := List.getElem?_eq_getElem _
  have e2 : rs[j]? = some (rs[j]'(by omega)) := List.getElem?_eq_getElem _
  have f1 : xs[i]? = some xs[i] := List.getElem?_eq_getElem _
  have f2 : xs[j]? = some xs[j] := List.getElem?_eq_getElem _
  rw [ysOf_at e1] at hx
  rw [ysOf_at e2] at hx'
  have up : ∀ p ∈ rows, p ∈ X := fun p hp => hB p (hrB p hp)
  refine key_lt (s := { s with heap := h, toks := tk }) (c := wsx xs[i]) (c' := wsx xs[j]) X₀ T F.keep (kcls_of (fun p hp => (N p (hB p (hKB p hp))).1) hK) ⟨dx, (N _ hx).1, (N _ hdx).1⟩ ⟨dx', (N _ hx').1, (N _ hdx').1⟩
    (hR.ws N up e1 (by rw [List.getElem?_map, f1]; rfl)) (hR.ws N up e2 (by rw [List.getElem?_map, f2]; rfl)) (small_x _) (small_x _) (first_x _ _) hA hd hu fun h' tk' hO => ?_
  have := hq h' tk' hO
  unfold ltN at this
  rw [colD_map f1, colD_map f2, ← cmp_lt] at this
  exact this
end
theorem args_sorted_key (a f : Value) : argsOk "sorted" ⟨[a], [(Str.ofString "key", f)]⟩ := by unfold argsOk; kernel_rfl
theorem args_sort_key (a f : Value) : argsOk "list.sort" ⟨[a], [(Str.ofString "key", f)]⟩ := by unfold argsOk; kernel_rfl
end Mine
end
section
open PySem PySem.W PySem.Calls PyProof.Rows
theorem Mine.fresh_SKM {prog : Program} {w : World} {A : Around} {env : Env} {Q : Flow → Shared → Prop} {E : Value → Shared → Prop} {s : Shared} (h : Q .next s) : wpAny (model prog w) A (execs [] env) Q E s := by
  w_top off
  k_with_none
  walk1
  exact h
end
section
open PySem PySem.W PySem.Calls PyProof.Rows
open PySem.SeqAt PySem.MeetsSeq PySem.MeetsSeq2 PySem.MeetsSeq3 PySem.SeqRoads2
set_option Elab.async false
set_option maxRecDepth 100000
namespace Mine
/-- what law's ledger bears after the row is laid -/
structure LawB (w : World) (B : List (Addr × Obj)) (L DC DL DR C : Addr) (xs : List Int) : Prop where
  leads : ∀ {g h : Heap} {L' : Addr}, News g L' h B → Leads w.params g h DL (xs.map wsx)
  cols : ∀ {g h : Heap} {L' : Addr}, News g L' h B → Cols h DC (xs.map colx)
  cls : ∀ {g h : Heap} {L' : Addr}, News g L' h B → KCls h C
  row : ∀ {g h : Heap} {L' : Addr}, News g L' h B → IntList h DR (laid (xs.map colx) (xs.map colx).length)
  rank : ∀ {g h : Heap} {L' : Addr}, News g L' h B → h.IsCell (L + 1 + 1) (some (.ref C))
  lcell : ∀ {g h : Heap} {L' : Addr}, News g L' h B → h.IsCell (L + 1) (some (.ref DL))
theorem LawB.of {w : World} {B rows rowsC K : List (Addr × Obj)} {L DC DL DR C : Addr} {xs : List Int} {rs : List WsR} {as : List Addr} {oR oL : Obj} {vr : List Value} {kr : Nat}
    (hR : LeadsRows w.params rows rs (xs.map wsx)) (hC : ColsRows rowsC as (xs.map colx)) (hK : KPure K C) (hrow : IntsAre vr (laid (xs.map colx) (xs.map colx).length))
    (m1 : (DL, LCg.lst (rs.map fun r => Value.ref r.x)) ∈ B) (m2 : (DC, LCg.lst (as.map Value.ref)) ∈ B) (m3 : (DR, W.listOf vr.toArray kr) ∈ B) (m4 : (L + 1 + 1, oR) ∈ B) (d4 : oR.data = .cell (some (.ref C))) (m5 : (L + 1, oL) ∈ B) (d5 : oL.data = .cell (some (.ref DL)))
    (s1 : ∀ p ∈ rows, p ∈ B) (s2 : ∀ p ∈ rowsC, p ∈ B) (s3 : ∀ p ∈ K, p ∈ B) : LawB w B L DC DL DR C xs where
  leads := fun N => hR.leads N m1 s1
  cols := fun N => hC.cols N m2 s2
  cls := fun N => kcls_of (fun p hp => (N p (s3 p hp)).1) hK
  row := fun N => ⟨vr, ⟨_, (N _ m3).1, rfl, _, rfl⟩, hrow⟩
  rank := fun N => ⟨oR, (N _ m4).1, d4⟩
  lcell := fun N => ⟨oL, (N _ m5).1, d5⟩
theorem ints_all {ns ms : List Int} (h : ns.length = ms.length) : ((List.range ns.length).all fun i => ns.getD i 0 == ms.getD i 0) = decide (ns = ms) := by
  rw [Bool.eq_iff_iff, List.all_eq_true, decide_eq_true_iff]
  constructor
  · intro k
    refine List.ext_getElem h fun i h1 h2 => ?_
    have := k i (List.mem_range.mpr h1)
    simpa [h1, h2] using this
  · rintro rfl i _
    simp
section
variable {prog : Program} {w : World} {A : Around} {E : Value → Shared → Prop} {s : Shared} {g : Heap} {L : Addr} {m : Str → Option Value} {B : List (Addr × Obj)} {p : Program} {loose : List Str} {mean : ExcName → Option Value} {mg mb : Str → Option Value} {Q : Value → Shared → Prop} {DC DL DR C : Addr} {xs : List Int}
theorem cmp_ints {l b : Addr} {xs ys : List Value} {ns ms : List Int} (hl : s.heap.IsList l xs.toArray) (hb : s.heap.IsList b ys.toArray) (hx : IntsAre xs ns) (hy : IntsAre ys ms) (hsz : ns.length = ms.length) (hu : A.units < cLine)
    (h : Q (.bool (!decide (ns = ms))) s) : wpAny (model prog w) A (compareOp .NotEq (.ref l) (.ref b)) Q E s := by
  obtain ⟨⟨cls, dd, data, sl⟩, ho, hc, n, hd⟩ := id hl
  obtain ⟨⟨cls2, dd2, data2, sl2⟩, ho2, hc2, n2, hd2⟩ := id hb
  simp only at hc hd hc2 hd2
  subst hc hd hc2 hd2
  have lx := hx.length
  have ly := hy.length
  show wpAny _ _ (richCompare .NotEq _ _) _ _ _
  refine richCompare_meets_room (op := .NotEq) ⟨_, ho, rfl⟩ ⟨_, ho2, rfl⟩ F.slot_list_ne F.entry_list_ne (F.args_list_ne_2 _ _) (list_neAt l b _ _ n n2 dd dd2 sl sl2 (by simp; omega) fun i => ns.getD i 0 == ms.getD i 0)
    ⟨ho, ho2, fun j h1 h2 => ?_, show Value.bool _ ≠ Value.notImplemented ∧ Q (.bool _) s from ⟨(fun x => nomatch x), ?_⟩⟩ hu
  · have h1' : j < ns.length := by simpa [lx] using h1
    have h2' : j < ms.length := by simpa [ly] using h2
    obtain ⟨t, ht⟩ := hx.get j ns[j] (by simp [h1'])
    obtain ⟨u, hu⟩ := hy.get j ms[j] (by simp [h2'])
    have e1 : xs.toArray[j] = .int (ns.getD j 0) t := by
      have : xs[j]'(by simpa using h1) = .int ns[j] t := (List.getElem?_eq_some_iff.mp ht).2
      simp [this, h1']
    have e2 : ys.toArray[j] = .int (ms.getD j 0) u := by
      have : ys[j]'(by simpa using h2) = .int ms[j] u := (List.getElem?_eq_some_iff.mp hu).2
      simp [this, h2']
    rw [e1, e2]
    exact EqAt.int_int _ _ _ _
  · have := ints_all hsz
    simp only [List.size_toArray, lx]
    rw [this]
    exact h
theorem use_laid (X : (hd.heap_1 w.params).In g) (T : Top p loose mean mg mb g) (F : Fr g L s.heap m) (N : News g L s.heap B) (LB : LawB w B L DC DL DR C xs) (hx : xs.length < 20) (hA : A.handled = none) (hd : A.depth ≤ 900) (hu : A.units ≤ 9000)
    (h : ∀ h' tk' r, Fr g L h' m → News g L h' B → IntList h' r (laid (xs.map colx) (xs.map colx).length) → Q (.ref r) { s with heap := h', toks := tk' }) : wpAny (model prog w) A (call (.ref 120) [.ref DC]) Q E s :=
  wpAny_le hA hd rfl rfl hu (laid_spec X T F.keep (LB.cols N) (by rw [List.length_map]; exact hx) (fun c hc => by obtain ⟨x, _, rfl⟩ := List.mem_map.mp hc; exact colx_len x) fun h' tk' r hO hr => h h' tk' r (fr_over F hO) (news_over N hO) hr)
theorem same_row {r : Addr} {ns : List Int} (h1 : IntList s.heap DR ns) (h2 : IntList s.heap r ns) (hu : A.units < cLine) (h : Q (.bool false) s) : wpAny (model prog w) A (compareOp .NotEq (.ref DR) (.ref r)) Q E s := by
  obtain ⟨us, a1, a2⟩ := h1
  obtain ⟨vs, b1, b2⟩ := h2
  refine cmp_ints a1 b1 a2 b2 rfl hu ?_
  simpa using h
end
end Mine
end
section
open PySem PySem.W PySem.Calls PyProof.Rows
theorem Mine.fresh_LB {prog : Program} {w : World} {A : Around} {env : Env} {Q : Flow → Shared → Prop} {E : Value → Shared → Prop} {s : Shared} (h : Q .next s) : wpAny (model prog w) A (execs [] env) Q E s := by
  w_top off
  k_with_none
  walk1
  exact h
end
section
open PySem PySem.W PySem.Calls PyProof.Rows
set_option Elab.async false
set_option maxRecDepth 100000
set_option maxHeartbeats 8000000
set_option pp.deepTerms false
set_option pp.deepTerms.threshold 4
namespace Mine
theorem words_H7_1 : True := by
  k_with "k_steps" => (repeat' (first | (k_unfold; (try (refine (?_ : (fun T2 T1 : Prop => T2 → (T2 → T1) → T1) _ _) ?_ (by intro h; dsimp only; exact h); exact fun p _ => p))) | (k_end; kc_close) | (with_reducible refine st_x ‹Shared› fun _ => ?_; walk1) | ((refine (?_ : (fun T2 T1 : Prop => T2 → (T2 → T1) → T1) _ _) ?_ (by intro h; dsimp only; exact h); exact fun p _ => p); walk1) | walk1 | (leave1; walk_say "STEP leave1"; (try (refine (?_ : (fun T2 T1 : Prop => T2 → (T2 → T1) → T1) _ _) ?_ (by intro h; dsimp only; exact h); exact fun p _ => p))) | fail "no step"))
  trivial
noncomputable abbrev AK : Around := { handled := none, depth := 700, frames := none, guards := none, units := 7000 }
theorem fillH7 : PySem.Challenge.rw_mq0248_01 = PySem.Challenge.rw_mq0248_01 ∧ Mine.hd.heap_1 = Mine.hd.heap_1 := by
  k_fill
  exact ⟨rfl, rfl⟩
section
variable {prog : Program} {w : World} {A : Around} {h₀ g : Heap} {L : Addr} {m : Str → Option Value} {s : Shared} {p : Program} {loose : List Str} {mean : ExcName → Option Value} {mg mb : Str → Option Value} {a b C i j : Addr} {r r' : WsR} {c c' : Ws} {news : List (Addr × Obj)} {Q : Value → Shared → Prop} {E : Value → Shared → Prop}
/-- two keys and their Whitespaces -/
structure Keys2 (P : Params) (h₀ g : Heap) (C i j : Addr) (c c' : Ws) : Prop where
  ex : ∃ r r', KCls g C ∧ KInst g C i r.x ∧ KInst g C j r'.x ∧ WsAt P h₀ g r c ∧ WsAt P h₀ g r' c'
  small : Small c
  small' : Small c'
  first : ¬ sameN c c' → ∃ ts, firstW c c' = some ts
theorem use_kcmp {op : CmpOp} (ho : op ∈ [CmpOp.Lt, .Gt, .Eq, .LtE, .GtE]) (X₀ : (hd.heap_1 w.params).In h₀) (T : Top p loose mean mg mb h₀) (hO : Over h₀ g) (K2 : Keys2 w.params h₀ g C i j c c') (F : Fr g L s.heap m) (N : News g L s.heap news) (hA : A.handled = none) (hd : A.depth ≤ 750) (hu : A.units ≤ 7500)
    (h : ∀ h' tk', Fr g L h' m → News g L h' news → Q (.bool (opRes op (cmpV c c'))) { s with heap := h', toks := tk' }) : wpAny (model prog w) A (compareOp op (.ref i) (.ref j)) Q E s := by
  obtain ⟨⟨r, r', XC, I, J, W, W'⟩, sm, sm', fw⟩ := K2
  have e : compareOp op (.ref i) (.ref j) = richCompare op (.ref i) (.ref j) := by
    simp only [List.mem_cons, List.not_mem_nil, or_false] at ho
    rcases ho with rfl | rfl | rfl | rfl | rfl <;> rfl
  rw [e]
  exact inst_cmp ho X₀ T (hO.trans F.keep) (XC.over F.keep) (I.over F.keep) (J.over F.keep) ⟨W.1.over F.keep, W.2⟩ ⟨W'.1.over F.keep, W'.2⟩ sm sm' fw hA hd hu fun h' tk' hO' => h h' tk' (fr_over F hO') (news_over N hO')
end
theorem words_H7_2 : True := by
  k_with "compareOp Lt ref ref" => (refine use_kcmp (by decide) (by assumption) (by assumption) (by assumption) (by assumption) (by k_asm) (by k_asm) rfl (Nat.le_of_ble_eq_true rfl) (Nat.le_of_ble_eq_true rfl) ?_; intro _ _ _ _)
  k_with "compareOp LtE ref ref" => (refine use_kcmp (by decide) (by assumption) (by assumption) (by assumption) (by assumption) (by k_asm) (by k_asm) rfl (Nat.le_of_ble_eq_true rfl) (Nat.le_of_ble_eq_true rfl) ?_; intro _ _ _ _)
  k_with "compareOp Gt ref ref" => (refine use_kcmp (by decide) (by assumption) (by assumption) (by assumption) (by assumption) (by k_asm) (by k_asm) rfl (Nat.le_of_ble_eq_true rfl) (Nat.le_of_ble_eq_true rfl) ?_; intro _ _ _ _)
  k_with "compareOp GtE ref ref" => (refine use_kcmp (by decide) (by assumption) (by assumption) (by assumption) (by assumption) (by k_asm) (by k_asm) rfl (Nat.le_of_ble_eq_true rfl) (Nat.le_of_ble_eq_true rfl) ?_; intro _ _ _ _)
  k_with "compareOp Eq ref ref" => (refine use_kcmp (by decide) (by assumption) (by assumption) (by assumption) (by assumption) (by k_asm) (by k_asm) rfl (Nat.le_of_ble_eq_true rfl) (Nat.le_of_ble_eq_true rfl) ?_; intro _ _ _ _)
  trivial
section
variable {prog : Program} {w : World} {A : Around} {h₀ g : Heap} {L : Addr} {m : Str → Option Value} {s : Shared} {p : Program} {loose : List Str} {mean : ExcName → Option Value} {mg mb : Str → Option Value} {a b C i j : Addr} {r r' : WsR} {c c' : Ws} {Q : Value → Shared → Prop} {E : Value → Shared → Prop}
theorem answers_keys (X₀ : (hd.heap_1 w.params).In h₀) (T : Top p loose mean mg mb h₀) (hO : Over h₀ s.heap) (K2 : Keys2 w.params h₀ s.heap C i j c c')
    (hQ : ∀ h' tk' r, Over s.heap h' → h'.IsList r [Value.bool (opRes .Lt (cmpV c c')), .bool (opRes .LtE (cmpV c c')), .bool (opRes .Eq (cmpV c c')), .bool (opRes .GtE (cmpV c c')), .bool (opRes .Gt (cmpV c c'))].toArray → Q (.ref r) { s with heap := h', toks := tk' }) :
    wpAny (model prog w) AK (call (.ref 127) [.ref i, .ref j]) Q E s := by
  refine wpAny_call ?_
  refine enterP X₀ T hO (f := 127) (by k_is) (by k_is) (by decide) (binds := [(Str.ofString "one", .ref i), (Str.ofString "other", .ref j)]) (BindsTo.of_eq rfl) (locs rfl) ?_ rfl rfl rfl (by decide)
  intro L' h₁ X' T' F' N'
  clear X' T'
  (refine (?_ : (fun T2 T1 : Prop => T2 → (T2 → T1) → T1) _ _) ?_ (by intro h; dsimp only; exact h); exact fun p _ => p)
  k_steps
  rename_i l₂ h₂ F₂ N₂ lt₂
  refine ⟨_, F₂, fun hk => ?_⟩
  exact hQ _ _ _ hk (PySem.IsL.isList (n := 0) (N₂ (l₂, _) (by k_mem)).1)
end
end Mine
end
section
open PySem PySem.W PySem.Calls PyProof.Rows
theorem Mine.fresh_H7 {prog : Program} {w : World} {A : Around} {env : Env} {Q : Flow → Shared → Prop} {E : Value → Shared → Prop} {s : Shared} (h : Q .next s) : wpAny (model prog w) A (execs [] env) Q E s := by
  w_top off
  k_with_none
  walk1
  exact h
end
section
open PySem PySem.W PySem.Calls PyProof.Rows
set_option Elab.async false
namespace Mine
section
variable {prog : Program} {w : World} {A : Around} {s : Shared} {env : Env} {h₀ : Heap} {target : Expr} {body : List Stmt} {Q : Flow → Shared → Prop}
theorem loopP_gen {I : Addr} {fp : List Addr} {n : Nat} {P : Nat → Value → Prop} {St : Nat → Heap → Prop} {m₀ : Str → Option Value} {news keepL : List (Addr × Obj)} (J : Nat → (Str → Option Value) → List (Addr × Obj) → Prop)
    (W : Walks prog w A I fp [I] n P St) (hlive : ∀ i h, St i h → ∃ o, h.get? I = some o) (hLI : env.locals ≠ I) (hI0 : h₀.get? I = none) (hnw : ∀ p ∈ news, p.1 ≠ I) (hst : St 0 s.heap)
    (F : Fr h₀ env.locals s.heap m₀) (N : News h₀ env.locals s.heap news) (hj : J 0 m₀ news)
    (hkp : ∀ i m nx, J i m nx → ∀ q ∈ keepL, q ∈ nx) (hother : ∀ b ∈ fp, b ≠ I → (∃ o, h₀.get? b = some o) ∨ ∃ o, (b, o) ∈ keepL)
    (turn : ∀ i v m₁ news₁ h tk o, i < n → P i v → J i m₁ news₁ → (∀ p ∈ news₁, p.1 ≠ I) → Fr h₀ env.locals h m₁ → News h₀ env.locals h ((I, o) :: news₁) →
      wpAny (model prog w) A (assign target env v) (fun _ s₂ => wpAny (model prog w) A (execs body env) (fun f s₃ => InvPostL h₀ env.locals (J (i + 1)) (I, o) { s with heap := h, toks := tk } Q f s₃) (fun _ _ => False) s₂) (fun _ _ => False) { s with heap := h, toks := tk })
    (done : ∀ m₁ news₁ h tk, J n m₁ news₁ → Fr h₀ env.locals h m₁ → News h₀ env.locals h news₁ → Q .next { s with heap := h, toks := tk })
    (ht : ∀ i v s Q E, i < n → P i v → St (i + 1) s.heap → Q () s → wpAny (model prog w) A (letOwnedTupleGo target (.ref I) v) Q E s) : LoopC prog w A env target body Q (.ref I) s := by
  have up : ∀ {h h' : Heap} {m₁ : Str → Option Value} {news₁ : List (Addr × Obj)}, Fr h₀ env.locals h m₁ → News h₀ env.locals h news₁ → (∀ p ∈ news₁, p.1 ≠ I) → (∀ b o, b ∉ [I] → h.get? b = some o → h'.get? b = some o) → Fr h₀ env.locals h' m₁ ∧ News h₀ env.locals h' news₁ := by
    intro h h' m₁ news₁ F₁ N₁ hne k
    obtain ⟨⟨oL, es, ep, hL, r⟩, kp, ab⟩ := F₁
    refine ⟨⟨⟨oL, es, ep, k _ _ (by simpa using hLI) hL, r⟩, fun b o e => k b o (fun q => ?_) (kp b o e), ab⟩, fun p hp => ⟨k _ _ (by simpa using hne p hp) (N₁ p hp).1, (N₁ p hp).2⟩⟩
    rw [List.mem_singleton.mp q, hI0] at e
    cases e
  refine codeAny_forLoop_any (fun k s' => ∃ h' tk m' news' i, s' = { s with heap := h', toks := tk } ∧ St i h' ∧ Fr h₀ env.locals h' m' ∧ News h₀ env.locals h' news' ∧ (∀ p ∈ news', p.1 ≠ I) ∧ J i m' news' ∧ i ≤ n ∧ k = n + 1 - i) ?_ (n + 1)
    ⟨s.heap, s.toks, m₀, news, 0, rfl, hst, F, N, hnw, hj, Nat.zero_le _, rfl⟩
  rintro k s' ⟨h, tk, m₁, news₁, i, rfl, hst', F₁, N₁, hne, hJ, hi, rfl⟩
  by_cases hlt : i < n
  · refine W.item i _ _ _ hlt hst' fun v h' tk' hP hst₂ hk => ?_
    obtain ⟨F₂, N₂⟩ := up F₁ N₁ hne hk
    obtain ⟨o, ho⟩ := hlive _ _ hst₂
    have N₃ : News h₀ env.locals h' ((I, o) :: news₁) := fun p hp => by
      rcases List.mem_cons.mp hp with rfl | hp
      · exact ⟨ho, Ne.symm hLI, hI0⟩
      · exact N₂ p hp
    refine ht i v _ _ _ hlt hP hst₂ ?_
    refine wpAny_mono (turn i v m₁ news₁ h' tk' o hlt hP hJ hne F₂ N₃) (fun _ s₂ h₂ => wpAny_mono h₂ (fun f s₃ h₃ => ?_) fun _ _ e => e.elim) fun _ _ e => e.elim
    have fin : InvEndL h₀ env.locals (J (i + 1)) (I, o) { s with heap := h', toks := tk' } s₃ → ∃ m, m < n + 1 - i ∧ ∃ h' tk m' news' j, s₃ = { s with heap := h', toks := tk } ∧ St j h' ∧ Fr h₀ env.locals h' m' ∧ News h₀ env.locals h' news' ∧ (∀ p ∈ news', p.1 ≠ I) ∧ J j m' news' ∧ j ≤ n ∧ m = n + 1 - j := by
      rintro ⟨h₄, tk₄, m₄, news₄, nx, rfl, F₄, N₄, hn, hq, ha, hm⟩
      refine ⟨n + 1 - (i + 1), by omega, h₄, tk₄, m₄, nx, i + 1, rfl, ?_, F₄, fun p hp => N₄ p (hn p hp), ha, hm, hlt, rfl⟩
      refine W.frame _ _ _ hst₂ fun b hb o' e => ?_
      by_cases hbI : b = I
      · subst hbI
        rw [ho] at e
        cases e
        exact (N₄ _ hq).1
      · rcases hother b hb hbI with ⟨ob, eb⟩ | ⟨ob, eb⟩
        · have := F₂.keep _ _ eb
          rw [e] at this
          cases this
          exact F₄.keep _ _ eb
        · have := (N₂ _ (hkp _ _ _ hJ _ eb)).1
          rw [e] at this
          cases this
          exact (N₄ _ (hn _ (hkp _ _ _ hm _ eb))).1
    cases f with
    | ret v => exact h₃
    | brk => exact h₃
    | next => exact fin h₃
    | cont => exact fin h₃
  · have hin : i = n := by omega
    subst hin
    refine W.done _ _ _ hst' fun h' tk' hk => ?_
    obtain ⟨F₂, N₂⟩ := up F₁ N₁ hne hk
    exact wpAny_execs_nil (done m₁ news₁ h' tk' hJ F₂ N₂)
theorem listP {l : Addr} {vs : List Value} {m₀ : Str → Option Value} {news keepL : List (Addr × Obj)} (J : Nat → (Str → Option Value) → List (Addr × Obj) → Prop)
    (hh : A.handled = none) (hl : s.heap.IsList l vs.toArray) (hwh : (∃ o, h₀.get? l = some o) ∨ ∃ o, (l, o) ∈ keepL) (F : Fr h₀ env.locals s.heap m₀) (N : News h₀ env.locals s.heap news) (hj : J 0 m₀ news)
    (hkp : ∀ i m nx, J i m nx → ∀ q ∈ keepL, q ∈ nx)
    (turn : ∀ i v m₁ news₁ h tk I o, vs[i]? = some v → J i m₁ news₁ → (∀ p ∈ news₁, p.1 ≠ I) → Fr h₀ env.locals h m₁ → News h₀ env.locals h ((I, o) :: news₁) →
      wpAny (model prog w) A (assign target env v) (fun _ s₂ => wpAny (model prog w) A (execs body env) (fun f s₃ => InvPostL h₀ env.locals (J (i + 1)) (I, o) { s with heap := h, toks := tk } Q f s₃) (fun _ _ => False) s₂) (fun _ _ => False) { s with heap := h, toks := tk })
    (done : ∀ m₁ news₁ h tk, J vs.length m₁ news₁ → Fr h₀ env.locals h m₁ → News h₀ env.locals h news₁ → Q .next { s with heap := h, toks := tk })
    {elts : List Expr} {ex : Nat} {tp : Pos} (htg : target = .Tuple elts ex tp) (hrefs : ∀ v ∈ vs, ∃ T, v = .ref T) {E : Value → Shared → Prop} :
    wpAny (model prog w) A (pyIter (.ref l)) (fun it s₂ => LoopC prog w A env target body Q it s₂) E s := by
  have hI0 : h₀.get? s.heap.objs.size = none := next_is_new F
  obtain ⟨ol, hol, _⟩ := id hl
  have hne : l ≠ s.heap.objs.size := Nat.ne_of_lt (Heap.lt_size hol)
  refine wpAny_pyIter_list hl ?_
  have W := Walks.list (prog := prog) (w := w) hh s.heap.objs.size l hne vs.toArray
  rw [List.size_toArray] at W
  refine loopP_gen (keepL := keepL) J W (fun i h q => ⟨_, q.1.choose_spec.1⟩) (fun e => absurd F.ns.lt (e ▸ Nat.lt_irrefl _)) hI0 ?_ ⟨⟨_, Heap.get?_push_size _ rfl, rfl, rfl⟩, hl.at fun o e => Heap.get?_push_of_some _ e⟩ (F.push _) (fun p hp => ⟨Heap.get?_push_of_some _ (N p hp).1, (N p hp).2⟩) hj hkp ?_ ?_ done ?_
  · intro p hp hI
    exact absurd (Heap.lt_size (N p hp).1) (hI ▸ Nat.lt_irrefl _)
  · intro b hb hbI
    rcases List.mem_cons.mp hb with e | hb
    · exact absurd e hbI
    · rw [List.mem_singleton.mp hb]; exact hwh
  · intro i v m₁ news₁ h tk o hi hP hJ hne F₁ N₁
    exact turn i v m₁ news₁ h tk _ o (arr_get hP) hJ hne F₁ N₁
  · intro i v s' Q' E' hi hP hst hq
    have hP' : vs[i]? = some v := arr_get hP
    obtain ⟨T, rfl⟩ := hrefs v (List.mem_of_getElem? hP')
    subst htg
    exact wpAny_letOwnedTupleGo_listiter hst.1 hq

end
end Mine
end
section
open PySem PySem.W PySem.Calls PyProof.Rows
theorem Mine.fresh_MFor2 {prog : Program} {w : World} {A : Around} {env : Env} {Q : Flow → Shared → Prop} {E : Value → Shared → Prop} {s : Shared} (h : Q .next s) : wpAny (model prog w) A (execs [] env) Q E s := by
  w_top off
  k_with_none
  walk1
  exact h
end
section
open PySem PySem.W PySem.Calls PyProof.Rows
set_option Elab.async false
set_option maxRecDepth 100000
namespace Mine
noncomputable abbrev ZipOb (h : Heap) (z TI TO : Addr) (f0 f1 : Value) : Prop :=
  h.get? z = some { cls := .type "zip", dict := none, data := .fields #[f0, f1, .bool false, .ref TI, .ref TO], slots := #[] }
theorem wpAny_alive {M : Model} {A : Around} {E : Value → Shared → Prop} {s : Shared} {a : Addr} {Q : Option Obj → Shared → Prop} (h : Q (s.heap.get? a) s) : wpAny M A (loadIfAlive a) Q E s := fun _ _ _ => h
section
variable {prog : Program} {w : World} {A : Around} {E : Value → Shared → Prop} {s : Shared}
theorem held_not_free {z TI TO T : Addr} {b : Bool} {o : Obj} {Q : Bool → Shared → Prop} (hz : ZipOb s.heap z TI TO (rawInt T) (.bool b)) (hT : s.heap.get? T = some o)
    (h : ∀ h', ZipOb h' z TI TO (rawInt T) (.bool true) → Heap.SameBut z s.heap h' → Q false { s with heap := h' }) : wpAny (model prog w) A (Builtin.SmallTypes.ownedTupleIsFree (.ref z)) Q E s := by
  unfold Builtin.SmallTypes.ownedTupleIsFree
  refine wpAny_bind (wpAny_field hz rfl (x := rawInt T) rfl ?_)
  show wpAny _ _ (loadIfAlive ((T : Int).toNat) >>= _) _ _ _
  rw [Int.toNat_natCast]
  refine wpAny_bind (wpAny_alive ?_)
  rw [hT]
  simp only [Option.isNone_some, Bool.false_eq_true, if_false]
  refine wpAny_bind (wpAny_field hz rfl (x := .bool b) rfl ?_)
  cases b with
  | true =>
    rw [if_neg (by simp)]
    exact wpAny_pure (h s.heap hz ⟨rfl, fun _ _ => rfl⟩)
  | false =>
    rw [if_pos (by decide)]
    refine wpAny_bind (wpAny_setField_rec hz (by simp) fun h' hz' hs' => ?_)
    exact wpAny_pure (h h' hz' hs')
theorem zip_held_item {z TI TO T i1 i2 l1 l2 : Addr} {k1 k2 : Nat} {xs ys : Array Value} {x y : Value} {b : Bool} {o : Obj} {Q : Value → Shared → Prop} (D : ZipApart z TI TO i1 i2 l1 l2)
    (hz : ZipOb s.heap z TI TO (rawInt T) (.bool b)) (hT : s.heap.get? T = some o) (hTI : IsPair s.heap TI (.ref i1) (.ref i2))
    (h1 : s.heap.IsListIter i1 l1 k1) (h2 : s.heap.IsListIter i2 l2 k2) (hl1 : s.heap.IsList l1 xs) (hl2 : s.heap.IsList l2 ys) (hx : xs[k1]? = some x) (hy : ys[k2]? = some y)
    (hQ : ∀ h', ZipOb h' z TI TO (rawInt T) (.bool true) → h'.IsListIter i1 l1 (k1 + 1) → h'.IsListIter i2 l2 (k2 + 1) → IsPair h' s.heap.objs.size x y →
      (∀ c o, c ≠ z → c ≠ i1 → c ≠ i2 → s.heap.get? c = some o → h'.get? c = some o) → Q (.ref s.heap.objs.size) { s with heap := h' }) :
    wpAny (model prog w) A (Builtin.«zip.__next__» ⟨[.ref z], []⟩) (fun fin s' => ∃ v, fin = .done (.ret v) ∧ Q v s') E s := by
  show wpAny _ _ (field (.ref z) 2 >>= _) _ _ _
  refine wpAny_bind (wpAny_field hz rfl (x := .bool false) rfl ?_)
  show wpAny _ _ (field (.ref z) 3 >>= _) _ _ _
  refine wpAny_bind (wpAny_field hz rfl (x := .ref TI) rfl ?_)
  refine wpAny_bind (wpAny_seqItems hTI rfl ?_)
  show wpAny _ _ (Builtin.SmallTypes.ownedTupleIsFree (.ref z) >>= _) _ _ _
  refine wpAny_bind (held_not_free hz hT fun h₁ hz₁ hs₁ => ?_)
  simp only [Bool.false_eq_true, if_false]
  rw [show (#[Value.ref i1, Value.ref i2] : Array Value) = [Value.ref i1, Value.ref i2].toArray from rfl, List.forIn_toArray]
  simp only [List.forIn_cons, List.forIn_nil]
  refine wpAny_bind ?_
  refine wpAny_bind (wpAny_bind (wpAny_holding ?_))
  show wpAny _ _ (Builtin.SmallTypes.nextOf (.ref i1) >>= _) _ _ _
  refine wpAny_bind (wpAny_nextOf_list_item (h1.extBut hs₁.extBut D.i1z) (hl1.extBut hs₁.extBut D.l1z) hx fun h₂ h1₂ hs₂ => wpAny_pure (wpAny_pure ?_))
  refine wpAny_bind (wpAny_bind (wpAny_holding ?_))
  show wpAny _ _ (Builtin.SmallTypes.nextOf (.ref i2) >>= _) _ _ _
  refine wpAny_bind (wpAny_nextOf_list_item ((h2.extBut hs₁.extBut D.i2z).extBut hs₂.extBut D.i12.symm) ((hl2.extBut hs₁.extBut D.l2z).extBut hs₂.extBut D.l2i1) hy fun h₃ h2₃ hs₃ => wpAny_pure (wpAny_pure (wpAny_pure ?_)))
  have hsz : h₃.objs.size = s.heap.objs.size := by rw [hs₃.1, hs₂.1, hs₁.1]
  have hk : ∀ c o, c ≠ z → c ≠ i1 → c ≠ i2 → s.heap.get? c = some o → h₃.get? c = some o := fun c o c1 c2 c3 e => hs₃.extBut _ _ c3 (hs₂.extBut _ _ c2 (hs₁.extBut _ _ c1 e))
  refine wpAny_bind (wpAny_newTuple ?_ (by rw [sizeLine_eq]; exact Nat.le_of_ble_eq_true rfl))
  refine wpAny_pure ⟨_, rfl, ?_⟩
  show Q (.ref h₃.objs.size) _
  rw [hsz]
  refine hQ _ ?_ ?_ ?_ ?_ fun c o c1 c2 c3 e => Heap.get?_push_of_some _ (hk c o c1 c2 c3 e)
  · exact Heap.get?_push_of_some _ (hs₃.extBut _ _ D.i2z.symm (hs₂.extBut _ _ D.i1z.symm hz₁))
  · exact (h1₂.extBut hs₃.extBut D.i12).at fun o e => Heap.get?_push_of_some _ e
  · exact h2₃.at fun o e => Heap.get?_push_of_some _ e
  · rw [← hsz]; exact Heap.get?_push_size _ rfl
theorem zip_held_end {z TI TO T i1 i2 l1 l2 : Addr} {k1 k2 : Nat} {xs ys : Array Value} {b : Bool} {o : Obj} {Q : Fin → Shared → Prop} (hh : A.handled = none) (D : ZipApart z TI TO i1 i2 l1 l2)
    (hz : ZipOb s.heap z TI TO (rawInt T) (.bool b)) (hT : s.heap.get? T = some o) (hTI : IsPair s.heap TI (.ref i1) (.ref i2))
    (h1 : s.heap.IsListIter i1 l1 k1) (h2 : s.heap.IsListIter i2 l2 k2) (hl1 : s.heap.IsList l1 xs) (hl2 : s.heap.IsList l2 ys) (hend : xs[k1]? = none ∨ ys[k2]? = none)
    (hE : ∀ h' e, (∀ c o, c ≠ z → c ≠ i1 → c ≠ i2 → s.heap.get? c = some o → h'.get? c = some o) → (∃ o, h'.get? e = some o ∧ o.cls = .type "StopIteration") → E (.ref e) { s with heap := h' }) :
    wpAny (model prog w) A (Builtin.«zip.__next__» ⟨[.ref z], []⟩) Q E s := by
  show wpAny _ _ (field (.ref z) 2 >>= _) _ _ _
  refine wpAny_bind (wpAny_field hz rfl (x := .bool false) rfl ?_)
  show wpAny _ _ (field (.ref z) 3 >>= _) _ _ _
  refine wpAny_bind (wpAny_field hz rfl (x := .ref TI) rfl ?_)
  refine wpAny_bind (wpAny_seqItems hTI rfl ?_)
  show wpAny _ _ (Builtin.SmallTypes.ownedTupleIsFree (.ref z) >>= _) _ _ _
  refine wpAny_bind (held_not_free hz hT fun h₁ hz₁ hs₁ => ?_)
  simp only [Bool.false_eq_true, if_false]
  rw [show (#[Value.ref i1, Value.ref i2] : Array Value) = [Value.ref i1, Value.ref i2].toArray from rfl, List.forIn_toArray]
  simp only [List.forIn_cons, List.forIn_nil]
  refine wpAny_bind ?_
  refine wpAny_bind (wpAny_bind (wpAny_holding ?_))
  show wpAny _ _ (Builtin.SmallTypes.nextOf (.ref i1) >>= _) _ _ _
  cases hx : xs[k1]? with
  | none =>
    refine wpAny_bind (wpAny_nextOf_list_end hh (h1.extBut hs₁.extBut D.i1z) (hl1.extBut hs₁.extBut D.l1z) hx fun h₂ e hs₂ he => ?_)
    exact hE h₂ e (fun c o c1 c2 _ x => hs₂ _ _ c2 (hs₁.extBut _ _ c1 x)) he
  | some x =>
    have hy : ys[k2]? = none := by rcases hend with h | h; rw [hx] at h; cases h; exact h
    refine wpAny_bind (wpAny_nextOf_list_item (h1.extBut hs₁.extBut D.i1z) (hl1.extBut hs₁.extBut D.l1z) hx fun h₂ h1₂ hs₂ => wpAny_pure (wpAny_pure ?_))
    refine wpAny_bind (wpAny_bind (wpAny_holding ?_))
    show wpAny _ _ (Builtin.SmallTypes.nextOf (.ref i2) >>= _) _ _ _
    refine wpAny_bind (wpAny_nextOf_list_end hh ((h2.extBut hs₁.extBut D.i2z).extBut hs₂.extBut D.i12.symm) ((hl2.extBut hs₁.extBut D.l2z).extBut hs₂.extBut D.l2i1) hy fun h₃ e hs₃ he => ?_)
    exact hE h₃ e (fun c o c1 c2 c3 x => hs₃ _ _ c3 (hs₂.extBut _ _ c2 (hs₁.extBut _ _ c1 x))) he
end
end Mine
end
section
open PySem PySem.W PySem.Calls PyProof.Rows
theorem Mine.fresh_ZP {prog : Program} {w : World} {A : Around} {env : Env} {Q : Flow → Shared → Prop} {E : Value → Shared → Prop} {s : Shared} (h : Q .next s) : wpAny (model prog w) A (execs [] env) Q E s := by
  w_top off
  k_with_none
  walk1
  exact h
end
section
open PySem PySem.W PySem.Calls PyProof.Rows
set_option Elab.async false
set_option maxRecDepth 100000
namespace Mine
theorem words_ZP2_om : True := by
  k_with "om" => (first | assumption | exact Nat.sub_le _ _ | exact Nat.lt_succ_self _ | exact Nat.le_add_right _ _ | exact Nat.zero_le _ | exact Nat.le_of_lt (by assumption) | exact Nat.lt_of_lt_of_le (by assumption) (by assumption) | exact Nat.lt_of_le_of_lt (by assumption) (by assumption) | exact Nat.le_trans (by assumption) (by assumption) | exact Nat.lt_trans (by assumption) (by assumption) | exact Nat.lt_of_le_of_lt (by assumption) (by decide) | exact Nat.le_trans (by assumption) (by decide) | exact Nat.lt_trans (by assumption) (by decide) | exact Nat.le_trans (Nat.le_of_lt (by assumption)) (by decide) | exact Nat.ne_of_lt (by assumption) | exact Nat.ne_of_gt (by assumption) | exact Ne.symm (by assumption) | exact Nat.ne_of_lt (Nat.lt_trans (by assumption) (by assumption)) | exact Nat.ne_of_gt (Nat.lt_trans (by assumption) (by assumption)) | exact Nat.lt_of_not_le (by assumption) | exact Nat.le_of_not_lt (by assumption) | exact Nat.lt_succ_of_lt (by assumption) | exact Nat.le_of_lt_succ (by assumption) | exact Nat.succ_le_of_lt (by assumption) | exact Nat.le_of_succ_le (by assumption) | exact Int.le_of_lt (by assumption) | exact Int.lt_of_lt_of_le (by assumption) (by assumption) | exact Int.lt_of_le_of_lt (by assumption) (by assumption) | exact Int.le_trans (by assumption) (by assumption) | exact Int.lt_trans (by assumption) (by assumption) | exact Int.lt_of_le_of_lt (by assumption) (by decide) | exact Int.lt_trans (by assumption) (by decide) | exact Int.not_le.mp (by assumption) | exact Int.not_lt.mp (by assumption) | fail "om")
  trivial
theorem zip_no_len : typeLookup (.type "zip") "__len__" = pure none := by rw [typeLookup_type, builtinLookup_eq_fast]; kernel_rfl
theorem zip_no_hint : typeLookup (.type "zip") "__length_hint__" = pure none := by rw [typeLookup_type, builtinLookup_eq_fast]; kernel_rfl
/-- how a zip stands while list takes from it -/
structure ZSt (z TI TO i1 i2 l1 l2 : Addr) (xs ys : Array Value) (Ts : List Addr) (i : Nat) (h : Heap) : Prop where
  zip : (i = 0 ∧ IsZip h z TI TO .none ∧ ∃ a b, IsPair h TO a b) ∨ (∃ T b, T ∈ Ts ∧ ZipOb h z TI TO (rawInt T) (.bool b)) ∧ ∃ o, h.get? TO = some o
  hTI : IsPair h TI (.ref i1) (.ref i2)
  h1 : h.IsListIter i1 l1 i
  h2 : h.IsListIter i2 l2 i
  hl1 : h.IsList l1 xs
  hl2 : h.IsList l2 ys
  len : Ts.length = i
  tup : ∀ (j : Nat) (T : Addr), Ts[j]? = some T → ∃ x y, xs[j]? = some x ∧ ys[j]? = some y ∧ IsPair h T x y
section
variable {prog : Program} {w : World} {A : Around} {E : Value → Shared → Prop} {s : Shared}
theorem ZSt.alive {z TI TO i1 i2 l1 l2 : Addr} {xs ys : Array Value} {Ts : List Addr} {i : Nat} {h : Heap} (Z : ZSt z TI TO i1 i2 l1 l2 xs ys Ts i h) {T : Addr} (hm : T ∈ Ts) : ∃ o, h.get? T = some o := by
  obtain ⟨j, hj⟩ := List.mem_iff_getElem?.mp hm
  obtain ⟨x, y, _, _, hp⟩ := Z.tup j T hj
  exact ⟨_, hp⟩
theorem ZSt.isZip {z TI TO i1 i2 l1 l2 : Addr} {xs ys : Array Value} {Ts : List Addr} {i : Nat} {h : Heap} (Z : ZSt z TI TO i1 i2 l1 l2 xs ys Ts i h) : ∃ o, h.get? z = some o ∧ o.cls = .type "zip" := by
  rcases Z.zip with ⟨_, a, _⟩ | ⟨⟨_, _, _, a⟩, _⟩
  · exact ⟨_, a, rfl⟩
  · exact ⟨_, a, rfl⟩
theorem ZSt.aliveTO {z TI TO i1 i2 l1 l2 : Addr} {xs ys : Array Value} {Ts : List Addr} {i : Nat} {h : Heap} (Z : ZSt z TI TO i1 i2 l1 l2 xs ys Ts i h) : ∃ o, h.get? TO = some o := by
  rcases Z.zip with ⟨_, _, _, _, a⟩ | ⟨_, a⟩
  · exact ⟨_, a⟩
  · exact a
theorem zst_next {z TI TO i1 i2 l1 l2 : Addr} {xs ys : Array Value} {Ts : List Addr} {i : Nat} {Q : Option Value → Shared → Prop} (D : ZipApart z TI TO i1 i2 l1 l2) (Z : ZSt z TI TO i1 i2 l1 l2 xs ys Ts i s.heap) (hx : i < xs.size) (hy : i < ys.size) (hT : ∀ T ∈ Ts, T ≠ z ∧ T ≠ TO ∧ T ≠ i1 ∧ T ≠ i2)
    (hQ : ∀ h' T, s.heap.objs.size ≤ T → ZSt z TI TO i1 i2 l1 l2 xs ys (Ts ++ [T]) (i + 1) h' → (∀ c o, c ≠ z → c ≠ TO → c ≠ i1 → c ≠ i2 → s.heap.get? c = some o → h'.get? c = some o) → Q (some (.ref T)) { s with heap := h' }) :
    wpAny (model prog w) A (pyNext (.ref z)) Q E s := by
  have hTy : s.TypeIs (.ref z) "zip" := Z.isZip
  have hx' := Array.getElem?_eq_getElem hx
  have hy' := Array.getElem?_eq_getElem hy
  have fin : ∀ h' T, s.heap.objs.size ≤ T → ((∃ T' b, T' ∈ Ts ++ [T] ∧ ZipOb h' z TI TO (rawInt T') (.bool b)) ∧ ∃ o, h'.get? TO = some o) → h'.IsListIter i1 l1 (i + 1) → h'.IsListIter i2 l2 (i + 1) → IsPair h' T xs[i] ys[i] →
      (∀ c o, c ≠ z → c ≠ TO → c ≠ i1 → c ≠ i2 → s.heap.get? c = some o → h'.get? c = some o) → Q (some (.ref T)) { s with heap := h' } := by
    intro h' T hge hz a1 a2 a3 k
    refine hQ h' T hge ⟨.inr hz, k _ _ D.TIz D.TITO D.TIi1 D.TIi2 Z.hTI, a1, a2, Z.hl1.at fun o e => k _ o D.l1z D.l1TO D.l1i1 D.l1i2 e, Z.hl2.at fun o e => k _ o D.l2z D.l2TO D.l2i1 D.l2i2 e, by simp [Z.len], fun j T' e => ?_⟩ k
    rcases snoc_at e with e | ⟨e1, e2⟩
    · obtain ⟨x, y, b1, b2, b3⟩ := Z.tup j T' e
      obtain ⟨c1, c2, c3, c4⟩ := hT T' (List.mem_of_getElem? e)
      exact ⟨x, y, b1, b2, k _ _ c1 c2 c3 c4 b3⟩
    · rw [Z.len] at e1
      subst e1
      subst e2
      exact ⟨_, _, hx', hy', a3⟩
  unfold pyNext
  refine wpAny_bind (wpAny_attempt (wpAny_callSpecial?_slot (name := Str.ofString "__next__") hTy F.slot_zip_next (wpAny_call_entry F.slot_zip_next hTy F.entry_zip_next ?_ (F.args_zip_next_1 _))))
  rcases Z.zip with ⟨_, hz, a, b, hTO⟩ | ⟨⟨T, b, hm, hz⟩, oo, hoo⟩
  · exact zip_next_item D hz Z.hTI hTO Z.h1 Z.h2 Z.hl1 Z.hl2 hx' hy' fun h' a1 a2 a3 a4 a5 a6 a7 => wpAny_pure (fin h' _ (Nat.le_refl _) ⟨⟨_, false, List.mem_append_right _ (List.mem_singleton.mpr rfl), a1⟩, _, a2⟩ a3 a4 a5 a7)
  · obtain ⟨o, ho⟩ := Z.alive hm
    exact zip_held_item D hz ho Z.hTI Z.h1 Z.h2 Z.hl1 Z.hl2 hx' hy' fun h' a1 a3 a4 a5 a7 => wpAny_pure (fin h' _ (Nat.le_refl _) ⟨⟨T, true, List.mem_append_left _ hm, a1⟩, oo, a7 _ _ D.TOz D.TOi1 D.TOi2 hoo⟩ a3 a4 a5 fun c o c1 c2 c3 c4 e => a7 c o c1 c3 c4 e)
theorem zst_end {z TI TO i1 i2 l1 l2 : Addr} {xs ys : Array Value} {Ts : List Addr} {i : Nat} {Q : Option Value → Shared → Prop} (hh : A.handled = none) (D : ZipApart z TI TO i1 i2 l1 l2) (Z : ZSt z TI TO i1 i2 l1 l2 xs ys Ts i s.heap) (hend : xs[i]? = none ∨ ys[i]? = none)
    (hQ : ∀ h', (∀ c o, c ≠ z → c ≠ TO → c ≠ i1 → c ≠ i2 → s.heap.get? c = some o → h'.get? c = some o) → Q none { s with heap := h' }) : wpAny (model prog w) A (pyNext (.ref z)) Q E s := by
  have hTy : s.TypeIs (.ref z) "zip" := Z.isZip
  unfold pyNext
  refine wpAny_bind (wpAny_attempt (wpAny_callSpecial?_slot (name := Str.ofString "__next__") hTy F.slot_zip_next (wpAny_call_entry F.slot_zip_next hTy F.entry_zip_next ?_ (F.args_zip_next_1 _))))
  rcases Z.zip with ⟨_, hz, a, b, hTO⟩ | ⟨⟨T, b, hm, hz⟩, _⟩
  · refine zip_next_end hh D hz Z.hTI hTO Z.h1 Z.h2 Z.hl1 Z.hl2 hend fun h' e hk he => ?_
    obtain ⟨o, ho, hc⟩ := he
    refine wpAny_bind (wpAny_isInstance (T := "StopIteration") (b := true) ⟨o, ho, hc⟩ isSubtype_stop ?_)
    exact wpAny_pure (hQ _ hk)
  · obtain ⟨o, ho⟩ := Z.alive hm
    refine zip_held_end hh D hz ho Z.hTI Z.h1 Z.h2 Z.hl1 Z.hl2 hend fun h' e hk he => ?_
    obtain ⟨o, ho, hc⟩ := he
    refine wpAny_bind (wpAny_isInstance (T := "StopIteration") (b := true) ⟨o, ho, hc⟩ isSubtype_stop ?_)
    exact wpAny_pure (hQ _ fun c o c1 _ c3 c4 e => hk c o c1 c3 c4 e)
theorem ZSt.at {z TI TO i1 i2 l1 l2 : Addr} {xs ys : Array Value} {Ts : List Addr} {i : Nat} {h h' : Heap} (Z : ZSt z TI TO i1 i2 l1 l2 xs ys Ts i h) {S : Addr} (hS : S ≠ z ∧ S ≠ TI ∧ S ≠ TO ∧ S ≠ i1 ∧ S ≠ i2 ∧ S ≠ l1 ∧ S ≠ l2) (hT : ∀ T ∈ Ts, T ≠ S) (k : ∀ c o, c ≠ S → h.get? c = some o → h'.get? c = some o) : ZSt z TI TO i1 i2 l1 l2 xs ys Ts i h' := by
  obtain ⟨s1, s2, s3, s4, s5, s6, s7⟩ := hS
  refine ⟨?_, k _ _ (Ne.symm s2) Z.hTI, Z.h1.at fun o e => k _ o (Ne.symm s4) e, Z.h2.at fun o e => k _ o (Ne.symm s5) e, Z.hl1.at fun o e => k _ o (Ne.symm s6) e, Z.hl2.at fun o e => k _ o (Ne.symm s7) e, Z.len, fun j T e => ?_⟩
  · rcases Z.zip with ⟨e, a, b, c, d⟩ | ⟨⟨T, b, hm, a⟩, o, ho⟩
    · exact .inl ⟨e, k _ _ (Ne.symm s1) a, b, c, k _ _ (Ne.symm s3) d⟩
    · exact .inr ⟨⟨T, b, hm, k _ _ (Ne.symm s1) a⟩, o, k _ _ (Ne.symm s3) ho⟩
  · obtain ⟨x, y, b1, b2, b3⟩ := Z.tup j T e
    exact ⟨x, y, b1, b2, k _ _ (hT T (List.mem_of_getElem? e)) b3⟩
theorem extend_zip {R : Result → Shared → Prop} {z TI TO i1 i2 l1 l2 S : Addr} {xs ys : Array Value} {res : Value} {n : Nat} (hh : A.handled = none) (D : ZipApart z TI TO i1 i2 l1 l2) (hn : n = min xs.size ys.size) (hn2 : n < 60) (hS : S ≠ z ∧ S ≠ TI ∧ S ≠ TO ∧ S ≠ i1 ∧ S ≠ i2 ∧ S ≠ l1 ∧ S ≠ l2) :
    ∀ (k i : Nat) (h : Heap) (Ts : List Addr) (c : Nat), i + k = n → ZSt z TI TO i1 i2 l1 l2 xs ys Ts i h → h.get? S = some { cls := .type "list", data := .seq (Ts.map Value.ref).toArray c } → (∀ T ∈ Ts, T ≠ z ∧ T ≠ TO ∧ T ≠ i1 ∧ T ≠ i2 ∧ T ≠ S) →
      (∀ h' (Ts' : List Addr) c', (∀ c o, c ≠ S → c ≠ z → c ≠ TO → c ≠ i1 → c ≠ i2 → h.get? c = some o → h'.get? c = some o) → h'.get? S = some { cls := .type "list", data := .seq (Ts'.map Value.ref).toArray c' } → Ts'.length = n →
        (∀ (j : Nat) (T : Addr), Ts'[j]? = some T → (T ∈ Ts ∨ h.objs.size ≤ T) ∧ ∃ x y, xs[j]? = some x ∧ ys[j]? = some y ∧ IsPair h' T x y) → R (.ok (.ret res)) { s with heap := h' }) →
      codeAny (model prog w) A (.builtin "list.extend.loop" ⟨[.ref S, .ref z, res], []⟩) R { s with heap := h } := by
  intro k
  induction k with
  | zero =>
    intro i h Ts c hi Z hSl hT hR
    have hin : i = n := by omega
    refine codeAny_builtin F.entry_extend_loop ?_
    rw [Around.under_plainId F.plain_extend_loop _]
    show wpAny _ A.in1 (pyNext (.ref z) >>= _) _ _ _
    have hend : xs[i]? = none ∨ ys[i]? = none := by
      rw [Array.getElem?_eq_none_iff, Array.getElem?_eq_none_iff]; omega
    refine wpAny_bind (zst_end (s := { s with heap := h }) hh D Z hend fun h' hk => ?_)
    refine wpAny_pure (hR h' Ts c (fun c o _ c1 c2 c3 c4 e => hk c o c1 c2 c3 c4 e) (hk _ _ hS.1 hS.2.2.1 hS.2.2.2.1 hS.2.2.2.2.1 hSl) (by rw [Z.len]; exact hin) fun j T e => ?_)
    have hm := List.mem_of_getElem? e
    obtain ⟨x, y, b1, b2, b3⟩ := Z.tup j T e
    obtain ⟨c1, c2, c3, c4, _⟩ := hT T hm
    exact ⟨.inl hm, x, y, b1, b2, hk _ _ c1 c2 c3 c4 b3⟩
  | succ k ih =>
    intro i h Ts c hi Z hSl hT hR
    refine codeAny_builtin F.entry_extend_loop ?_
    rw [Around.under_plainId F.plain_extend_loop _]
    show wpAny _ A.in1 (pyNext (.ref z) >>= _) _ _ _
    refine wpAny_bind (zst_next (s := { s with heap := h }) D Z (by omega) (by omega) (fun T hm => ⟨(hT T hm).1, (hT T hm).2.1, (hT T hm).2.2.1, (hT T hm).2.2.2.1⟩) fun h' T hge Z' hk => ?_)
    have hS' := hk _ _ hS.1 hS.2.2.1 hS.2.2.2.1 hS.2.2.2.2.1 hSl
    have hTlt : ∀ {c o}, h.get? c = some o → T ≠ c := fun e q => absurd (Heap.lt_size e) (Nat.not_lt.mpr (q ▸ hge))
    have hTS : T ≠ S := hTlt hSl
    have hTn : T ≠ z ∧ T ≠ TO ∧ T ≠ i1 ∧ T ≠ i2 ∧ T ≠ S := by
      obtain ⟨oz, hz, _⟩ := Z.isZip
      obtain ⟨o1, h1, _⟩ := Z.h1
      obtain ⟨o2, h2, _⟩ := Z.h2
      obtain ⟨oT, hTO⟩ := Z.aliveTO
      exact ⟨hTlt hz, hTlt hTO, hTlt h1, hTlt h2, hTS⟩
    show wpAny _ A.in1 (updateSeq S (·.push (.ref T)) >>= _) _ _ _
    refine wpAny_bind ?_
    refine wpAny_updateSeq hS' rfl (wpAny_pure ⟨plainId_quiet F.plain_extend_loop _, ?_⟩) (by simp [Z.len]; rw [sizeLine_eq]; omega) (by simp [Z.len]; rw [sizeLine_eq]; omega)
    have hsb := Heap.SameBut.update h' S (Obj.mapSeq (·.push (.ref T)))
    have hT' : ∀ T' ∈ Ts ++ [T], T' ≠ z ∧ T' ≠ TO ∧ T' ≠ i1 ∧ T' ≠ i2 ∧ T' ≠ S := fun T' hm => (List.mem_append.mp hm).elim (hT T') fun hm => by rw [List.mem_singleton.mp hm]; exact hTn
    refine ih (i + 1) _ (Ts ++ [T]) _ (by omega) (Z'.at hS (fun T' hm => (hT' T' hm).2.2.2.2) fun c o hc e => hsb.extBut _ _ hc e) (by have := Heap.get?_update_self (Obj.mapSeq (·.push (Value.ref T))) hS' rfl; simpa [Obj.mapSeq] using this) hT' fun h'' Ts' c' hk' hS'' hl' ht' => ?_
    refine hR h'' Ts' c' (fun c o c0 c1 c2 c3 c4 e => hk' c o c0 c1 c2 c3 c4 (hsb.extBut _ _ c0 (hk c o c1 c2 c3 c4 e))) hS'' hl' fun j T' e => ?_
    obtain ⟨a, b⟩ := ht' j T' e
    refine ⟨?_, b⟩
    rcases a with a | a
    · rcases List.mem_append.mp a with a | a
      · exact .inl a
      · exact .inr (by rw [List.mem_singleton.mp a]; exact hge)
    · obtain ⟨x, y, _, _, hp⟩ := Z'.tup i T (by rw [List.getElem?_append_right (by rw [Z.len]; exact Nat.le_refl _), Z.len, Nat.sub_self]; rfl)
      exact .inr (Nat.le_trans hge (Nat.le_of_lt (Nat.lt_of_lt_of_le (Nat.lt_of_lt_of_eq (Heap.lt_size hp) hsb.1.symm) a)))
theorem list_of_zip {Q : Value → Shared → Prop} {z TI TO i1 i2 l1 l2 : Addr} {xs ys : Array Value} {n : Nat} (hh : A.handled = none) (D : ZipApart z TI TO i1 i2 l1 l2) (hn : n = min xs.size ys.size) (hn2 : n < 60)
    (Z : ZSt z TI TO i1 i2 l1 l2 xs ys [] 0 s.heap)
    (hQ : ∀ h' (Ts : List Addr) c', (∀ c o, c ≠ z → c ≠ TO → c ≠ i1 → c ≠ i2 → s.heap.get? c = some o → h'.get? c = some o) → h'.get? s.heap.objs.size = some { cls := .type "list", data := .seq (Ts.map Value.ref).toArray c' } → Ts.length = n →
      (∀ (j : Nat) (T : Addr), Ts[j]? = some T → s.heap.objs.size < T ∧ ∃ x y, xs[j]? = some x ∧ ys[j]? = some y ∧ IsPair h' T x y) → Q (.ref s.heap.objs.size) { s with heap := h' }) :
    wpAny (model prog w) A (call (.type "list") [.ref z]) Q E s := by
  refine callType_codes (Q₁ := fun obj s₁ => obj = .ref s.heap.objs.size ∧ s₁ = { s with heap := s.heap.push { cls := .type "list", data := .seq #[] } }) F.called_list (F.typeCall_list_1 _) F.entry_list_init
    (code_list_new _ ⟨rfl, rfl⟩) fun obj s₁ h₁ => ?_
  obtain ⟨rfl, rfl⟩ := h₁
  have hS : (s.heap.push { cls := .type "list", data := .seq #[] }).get? s.heap.objs.size = some { cls := .type "list", data := .seq #[] } := Heap.get?_push_size _ rfl
  refine ⟨⟨_, hS, rfl⟩, F.args_list_init_2 _ _, ?_⟩
  have hlt : ∀ {c o}, s.heap.get? c = some o → s.heap.objs.size ≠ c := fun e q => absurd (Heap.lt_size e) (Nat.not_lt.mpr (Nat.le_of_eq q))
  obtain ⟨oz, hz, hzc⟩ := Z.isZip
  obtain ⟨oT, hTO⟩ := Z.aliveTO
  obtain ⟨o1, h1, _⟩ := Z.h1
  obtain ⟨o2, h2, _⟩ := Z.h2
  obtain ⟨o3, h3, _⟩ := Z.hl1
  obtain ⟨o4, h4, _⟩ := Z.hl2
  have hSn : s.heap.objs.size ≠ z ∧ s.heap.objs.size ≠ TI ∧ s.heap.objs.size ≠ TO ∧ s.heap.objs.size ≠ i1 ∧ s.heap.objs.size ≠ i2 ∧ s.heap.objs.size ≠ l1 ∧ s.heap.objs.size ≠ l2 := ⟨hlt hz, hlt Z.hTI, hlt hTO, hlt h1, hlt h2, hlt h3, hlt h4⟩
  have pushAt : ∀ c o, c ≠ s.heap.objs.size → s.heap.get? c = some o → (s.heap.push { cls := .type "list", data := .seq #[] }).get? c = some o := fun c o _ e => Heap.get?_push_of_some _ e
  have noT : ∀ T ∈ ([] : List Addr), T ≠ s.heap.objs.size := fun T h => absurd h List.not_mem_nil
  have hzip' : ∀ h₀, (∀ c o, c ≠ s.heap.objs.size → s.heap.get? c = some o → h₀.get? c = some o) → ZSt z TI TO i1 i2 l1 l2 xs ys [] 0 h₀ := fun h₀ k => Z.at hSn noT k
  show wpAny _ _ (do let old ← Builtin.List.listItems (.ref s.heap.objs.size); Builtin.List.listUpdate (.ref s.heap.objs.size) (fun _ => #[]); letGo old.toList.reverse; Builtin.List.listExtendWith (.ref s.heap.objs.size) (.ref z) .none) _ _ _
  refine wpAny_bind ?_
  unfold Builtin.List.listItems
  refine wpAny_bind (wpAny_seqItems hS rfl (wpAny_pure ?_))
  show wpAny _ _ (updateSeq s.heap.objs.size (fun _ => #[]) >>= fun _ => letGo (#[] : Array Value).toList.reverse >>= fun _ => Builtin.List.listExtendWith (.ref s.heap.objs.size) (.ref z) .none) _ _ _
  refine wpAny_bind (wpAny_updateSeq hS rfl ?_)
  have hS₂ := Heap.get?_update_self (Obj.mapSeq (fun _ => (#[] : Array Value))) hS rfl
  have k₂ : ∀ c o, c ≠ s.heap.objs.size → s.heap.get? c = some o → ((s.heap.push { cls := .type "list", data := .seq #[] }).update s.heap.objs.size (Obj.mapSeq (fun _ => (#[] : Array Value)))).get? c = some o :=
    fun c o hc e => (Heap.get?_update_other _ _ (Ne.symm hc)).trans (pushAt c o hc e)
  refine wpAny_bind (wpAny_letGo ?_)
  have Z₂ := hzip' _ k₂
  generalize hh2 : ((s.heap.push { cls := .type "list", data := .seq #[] }).update s.heap.objs.size (Obj.mapSeq (fun _ => (#[] : Array Value)))) = hp2 at *
  have hsz2 : hp2.objs.size = s.heap.objs.size + 1 := by rw [← hh2, Heap.size_after_update, Heap.size_push]
  have hz2 : hp2.get? z = some oz := k₂ _ _ (Ne.symm hSn.1) hz
  have hTy : Shared.TypeIs { s with heap := hp2 } (.ref z) "zip" := ⟨oz, hz2, hzc⟩
  unfold Builtin.List.listExtendWith
  refine wpAny_bind (wpAny_typeOf (T := "zip") hTy ?_)
  have e1 : Builtin.List.listSameRef (.ref s.heap.objs.size) (.ref z) = false := by simp [Builtin.List.listSameRef, hSn.1]
  have e2 : (Value.type "zip" == Value.type "list") = false := by decide
  have e3 : (Value.type "zip" == Value.type "tuple") = false := by decide
  simp only [e1, e2, e3, Bool.or_false, Bool.false_eq_true, if_false]
  have hz0 : ∃ f0, IsZip hp2 z TI TO f0 := by
    rcases Z₂.zip with ⟨_, a, _⟩ | ⟨⟨_, _, hm, _⟩, _⟩
    · exact ⟨_, a⟩
    · exact absurd hm List.not_mem_nil
  obtain ⟨f0, hz0⟩ := hz0
  refine wpAny_bind (wpAny_pyIter_zip hz0 ?_)
  refine wpAny_bind (wpAny_holding ?_)
  unfold Builtin.List.listLengthHint
  refine wpAny_bind (wpAny_specialOf hTy zip_no_len ?_)
  (refine (?_ : (fun T2 T1 : Prop => T2 → (T2 → T1) → T1) _ _) ?_ (by intro h; dsimp only; exact h); exact fun p _ => p)
  simp only [Option.isSome_none, Bool.false_eq_true, if_false]
  refine wpAny_ite_split (fun hab => absurd hab (by decide +kernel)) (fun _ => ?_)
  refine wpAny_bind (wpAny_specialOf hTy zip_no_hint ?_)
  refine wpAny_pure ?_
  simp only [Bool.true_or, if_true]
  refine wpAny_bind (wpAny_rule ?_)
  refine wpAny_bind ?_
  show wpAny _ _ (updateSeq s.heap.objs.size (·.push .none) >>= fun _ => updateSeq s.heap.objs.size (·.pop)) _ _ _
  refine wpAny_bind (wpAny_updateSeq hS₂ rfl ?_)
  have hS₃ := Heap.get?_update_self (Obj.mapSeq (·.push Value.none)) hS₂ rfl
  refine wpAny_updateSeq (hz := by seq_fits) hS₃ rfl ?_
  have hS₄ := Heap.get?_update_self (Obj.mapSeq (·.pop)) hS₃ rfl
  have k₄ : ∀ c o, c ≠ s.heap.objs.size → s.heap.get? c = some o → ((hp2.update s.heap.objs.size (Obj.mapSeq (·.push Value.none))).update s.heap.objs.size (Obj.mapSeq (·.pop))).get? c = some o :=
    fun c o hc e => (Heap.get?_update_other _ _ (Ne.symm hc)).trans ((Heap.get?_update_other _ _ (Ne.symm hc)).trans (k₂ c o hc e))
  have hsz4 : ((hp2.update s.heap.objs.size (Obj.mapSeq (·.push Value.none))).update s.heap.objs.size (Obj.mapSeq (·.pop))).objs.size = s.heap.objs.size + 1 := by rw [Heap.size_after_update, Heap.size_after_update, hsz2]
  have Z₄ := hzip' _ k₄
  refine wpAny_pure ⟨plainId_quiet F.plain_extend_loop _, ?_⟩
  refine extend_zip (A := A.in1) (s := s) hh D hn hn2 hSn n 0 _ [] _ (Nat.zero_add n) Z₄ hS₄ (fun T h => absurd h List.not_mem_nil) fun h' Ts c' hk hS' hl ht => ?_
  refine ⟨rfl, hQ h' Ts c' (fun c o c1 c2 c3 c4 e => hk c o (Ne.symm (hlt e)) c1 c2 c3 c4 (k₄ c o (Ne.symm (hlt e)) e)) hS' hl fun j T e => ?_⟩
  obtain ⟨a, b⟩ := ht j T e
  refine ⟨?_, b⟩
  rcases a with a | a
  · exact absurd a List.not_mem_nil
  · exact Nat.lt_of_lt_of_le (Nat.lt_of_lt_of_eq (Nat.lt_succ_self _) hsz4.symm) a
end
end Mine
end
section
open PySem PySem.W PySem.Calls PyProof.Rows
theorem Mine.fresh_ZP2 {prog : Program} {w : World} {A : Around} {env : Env} {Q : Flow → Shared → Prop} {E : Value → Shared → Prop} {s : Shared} (h : Q .next s) : wpAny (model prog w) A (execs [] env) Q E s := by
  w_top off
  k_with_none
  walk1
  exact h
end
section
open PySem PySem.W PySem.Calls PyProof.Rows
set_option Elab.async false
set_option maxRecDepth 100000
namespace Mine
/-- a fresh zip over two lists, off the ground, the names and the ledger -/
structure ZNew (g : Heap) (L : Addr) (news : List (Addr × Obj)) (h : Heap) (z l1 l2 : Addr) (xs ys : Array Value) : Prop where
  ex : ∃ TI TO i1 i2, ZipApart z TI TO i1 i2 l1 l2 ∧ ZSt z TI TO i1 i2 l1 l2 xs ys [] 0 h ∧ (TI ≠ L ∧ g.get? TI = none) ∧ ∀ c, c = z ∨ c = TO ∨ c = i1 ∨ c = i2 → (c ≠ L ∧ g.get? c = none ∧ ∀ p ∈ news, p.1 ≠ c)
/-- the entries of a list of pairs -/
structure PairRows (rows : List (Addr × Obj)) (Ts : List Addr) (xs ys : Array Value) (n : Nat) : Prop where
  len : Ts.length = n
  at_ : ∀ (j : Nat) (T : Addr), Ts[j]? = some T → ∃ x y, xs[j]? = some x ∧ ys[j]? = some y ∧ (T, ({ cls := .type "tuple", data := .seq #[x, y] } : Obj)) ∈ rows
section
variable {prog : Program} {w : World} {A : Around} {E : Value → Shared → Prop} {s : Shared} {g : Heap} {L l1 l2 : Addr} {m : Str → Option Value} {news : List (Addr × Obj)} {xs ys : Array Value} {Q : Value → Shared → Prop}
theorem use_zip (hl1 : s.heap.IsList l1 xs) (hl2 : s.heap.IsList l2 ys) (F : Fr g L s.heap m) (N : News g L s.heap news)
    (h : ∀ h' z, Fr g L h' m → News g L h' news → ZNew g L news h' z l1 l2 xs ys → Q (.ref z) { s with heap := h' }) : wpAny (model prog w) A (call (.type "zip") [.ref l1, .ref l2]) Q E s := by
  obtain ⟨o1, a1, _⟩ := id hl1
  obtain ⟨o2, a2, _⟩ := id hl2
  refine call_zip_2 hl1 hl2 fun h' b1 b2 b3 b4 b5 b6 b7 => ?_
  refine h h' _ (fr_over F b7) (news_over N b7) ⟨_, _, _, _, zipApart_new (Heap.lt_size a1) (Heap.lt_size a2), ⟨.inl ⟨rfl, b1, _, _, b3⟩, b2, b4, b5, hl1.at fun o e => b7 _ o e, hl2.at fun o e => b7 _ o e, rfl, fun j T e => by simp at e⟩, ⟨fun e => absurd F.ns.lt (e ▸ Nat.not_lt.mpr (Nat.le_add_right _ _)), ?_⟩, fun c hc => ?_⟩
  · cases q : g.get? (s.heap.objs.size + 2) with
    | none => rfl
    | some o => exact absurd (Heap.lt_size (F.keep _ _ q)) (Nat.not_lt.mpr (Nat.le_add_right _ _))
  have hge : s.heap.objs.size ≤ c := by rcases hc with rfl | rfl | rfl | rfl <;> omega
  have hno : s.heap.get? c = none := by
    cases q : s.heap.get? c with
    | none => rfl
    | some o => exact absurd (Heap.lt_size q) (Nat.not_lt.mpr hge)
  refine ⟨fun e => absurd F.ns.lt (e ▸ Nat.not_lt.mpr hge), ?_, fun p hp e => ?_⟩
  · cases q : g.get? c with
    | none => rfl
    | some o => rw [F.keep _ _ q] at hno; cases hno
  · rw [← e, (N p hp).1] at hno; cases hno
theorem use_list_zip {z n} (hh : A.handled = none) (F : Fr g L s.heap m) (N : News g L s.heap news) (Z : ZNew g L news s.heap z l1 l2 xs ys) (hn : n = min xs.size ys.size) (hn2 : n < 60)
    (h : ∀ h' D Ts c' rows, Fr g L h' m → News g L h' ((D, W.listOf (Ts.map Value.ref).toArray c') :: (news ++ rows)) → PairRows rows Ts xs ys n → (∀ p ∈ (D, W.listOf (Ts.map Value.ref).toArray c') :: rows, ∀ q ∈ news, p.1 ≠ q.1) → Q (.ref D) { s with heap := h' }) :
    wpAny (model prog w) A (call (.type "list") [.ref z]) Q E s := by
  obtain ⟨TI, TO, i1, i2, D, Z, _, off⟩ := Z
  refine list_of_zip hh D hn hn2 Z fun h' Ts c' hk hD hl ht => ?_
  have keep : ∀ b o, s.heap.get? b = some o → (b ≠ z ∧ b ≠ TO ∧ b ≠ i1 ∧ b ≠ i2) → h'.get? b = some o := fun b o e ⟨c1, c2, c3, c4⟩ => hk b o c1 c2 c3 c4 e
  have offn : ∀ b, (b = z ∨ b = TO ∨ b = i1 ∨ b = i2 → False) → b ≠ z ∧ b ≠ TO ∧ b ≠ i1 ∧ b ≠ i2 := fun b k => ⟨fun e => k (.inl e), fun e => k (.inr (.inl e)), fun e => k (.inr (.inr (.inl e))), fun e => k (.inr (.inr (.inr e)))⟩
  have kL : ∀ o, s.heap.get? L = some o → h'.get? L = some o := fun o e => keep L o e (offn L fun k => (off L k).1 rfl)
  have F' : Fr g L h' m := ⟨F.ns.at' kL, fun b o e => keep b o (F.keep _ _ e) (offn b fun k => by rw [(off b k).2.1] at e; cases e), F.above⟩
  have N' : News g L h' news := fun p hp => ⟨keep _ _ (N p hp).1 (offn _ fun k => (off _ k).2.2 p hp rfl), (N p hp).2⟩
  have fresh : ∀ b, s.heap.objs.size ≤ b → b ≠ L ∧ g.get? b = none ∧ ∀ q ∈ news, b ≠ q.1 := by
    intro b hge
    have hno : s.heap.get? b = none := by
      cases q : s.heap.get? b with
      | none => rfl
      | some o => exact absurd (Heap.lt_size q) (Nat.not_lt.mpr hge)
    refine ⟨fun e => absurd F.ns.lt (e ▸ Nat.not_lt.mpr hge), ?_, fun p hp e => ?_⟩
    · cases q : g.get? b with
      | none => rfl
      | some o => rw [F.keep _ _ q] at hno; cases hno
    · rw [e, (N p hp).1] at hno; cases hno
  have pick : ∀ T ∈ Ts, s.heap.objs.size < T ∧ ∃ j x y, Ts[j]? = some T ∧ xs[j]? = some x ∧ ys[j]? = some y ∧ IsPair h' T x y := fun T hm => by
    obtain ⟨j, hj⟩ := List.mem_iff_getElem?.mp hm
    obtain ⟨a, x, y, b⟩ := ht j T hj
    exact ⟨a, j, x, y, hj, b⟩
  let rows : List (Addr × Obj) := Ts.filterMap fun T => (h'.get? T).map fun o => (T, o)
  have hrow : ∀ p ∈ rows, p.1 ∈ Ts ∧ h'.get? p.1 = some p.2 := fun p hp => by
    obtain ⟨T, hm, e⟩ := List.mem_filterMap.mp hp
    cases q : h'.get? T with
    | none => rw [q] at e; cases e
    | some o => rw [q] at e; cases e; exact ⟨hm, q⟩
  refine h h' _ Ts c' rows F' (fun p hp => ?_) ⟨hl, fun j T e => ?_⟩ fun p hp q hq => ?_
  · rcases List.mem_cons.mp hp with rfl | hp
    · exact ⟨hD, (fresh _ (Nat.le_refl _)).1, (fresh _ (Nat.le_refl _)).2.1⟩
    rcases List.mem_append.mp hp with hp | hp
    · exact N' p hp
    · obtain ⟨a, b⟩ := hrow p hp
      have := fresh _ (Nat.le_of_lt (pick _ a).1)
      exact ⟨b, this.1, this.2.1⟩
  · obtain ⟨_, x, y, e1, e2, e3⟩ := ht j T e
    exact ⟨x, y, e1, e2, List.mem_filterMap.mpr ⟨T, List.mem_of_getElem? e, by rw [e3]; rfl⟩⟩
  · rcases List.mem_cons.mp hp with rfl | hp
    · exact (fresh _ (Nat.le_refl _)).2.2 q hq
    · exact (fresh _ (Nat.le_of_lt (pick _ (hrow p hp).1).1)).2.2 q hq
end
end Mine
end
section
open PySem PySem.W PySem.Calls PyProof.Rows
theorem Mine.fresh_ZP3 {prog : Program} {w : World} {A : Around} {env : Env} {Q : Flow → Shared → Prop} {E : Value → Shared → Prop} {s : Shared} (h : Q .next s) : wpAny (model prog w) A (execs [] env) Q E s := by
  w_top off
  k_with_none
  walk1
  exact h
end
section
open PySem PySem.W PySem.Calls PyProof.Rows
set_option Elab.async false
set_option maxRecDepth 100000
namespace Mine
noncomputable def InvPostZ (g : Heap) (L : Addr) (J : (Str → Option Value) → Prop) (B : List (Addr × Obj)) (s₁ : Shared) (Q : Flow → Shared → Prop) (f : Flow) (s₂ : Shared) : Prop :=
  match f with
  | .ret v => Q (.ret v) s₂
  | .brk => Q .next s₂
  | _ => ∃ h' tk m' news', s₂ = { s₁ with heap := h', toks := tk } ∧ Fr g L h' m' ∧ News g L h' news' ∧ (∀ p ∈ B, p ∈ news') ∧ J m'
section
variable {prog : Program} {w : World} {A : Around} {s : Shared} {env : Env} {h₀ : Heap} {target : Expr} {body : List Stmt} {Q : Flow → Shared → Prop}
theorem loopZ {z : Addr} {fp wr : List Addr} {n : Nat} {P : Nat → Array Value → Prop} {St : Nat → Heap → Prop} {Mid : Nat → Addr → Heap → Prop} {m₀ : Str → Option Value} {B : List (Addr × Obj)} (J : Nat → (Str → Option Value) → Prop)
    (W : WalksT prog w A z fp wr n P St Mid) (hLw : env.locals ∉ wr) (hgw : ∀ b ∈ wr, h₀.get? b = none) (hBw : ∀ p ∈ B, p.1 ∉ wr)
    (hents : ∀ i h, St i h → ∃ Zs : List (Addr × Obj), (∀ q ∈ Zs, h.get? q.1 = some q.2 ∧ q.1 ≠ env.locals ∧ h₀.get? q.1 = none) ∧ ∀ b ∈ fp, (∃ o, (b, o) ∈ Zs) ∨ ∃ o, (b, o) ∈ B)
    (hst : St 0 s.heap) (F : Fr h₀ env.locals s.heap m₀) (N : News h₀ env.locals s.heap B) (hj : J 0 m₀)
    (turn : ∀ i T vs m₁ Zs h tk, i < n → P i vs → J i m₁ → Fr h₀ env.locals h m₁ → News h₀ env.locals h (Zs ++ B) → h.IsTuple T vs →
      wpAny (model prog w) A (assign target env (.ref T)) (fun _ s₂ => wpAny (model prog w) A (execs body env) (fun f s₃ => InvPostZ h₀ env.locals (J (i + 1)) (Zs ++ B) { s with heap := h, toks := tk } Q f s₃) (fun _ _ => False) s₂) (fun _ _ => False) { s with heap := h, toks := tk })
    (done : ∀ m₁ h tk, J n m₁ → Fr h₀ env.locals h m₁ → News h₀ env.locals h B → Q .next { s with heap := h, toks := tk })
    {elts : List Expr} {ex : Nat} {tp : Pos} (htg : target = .Tuple elts ex tp) : LoopC prog w A env target body Q (.ref z) s := by
  subst htg
  have up : ∀ {h h' : Heap} {m₁ : Str → Option Value}, Fr h₀ env.locals h m₁ → News h₀ env.locals h B → (∀ b o, b ∉ wr → h.get? b = some o → h'.get? b = some o) → Fr h₀ env.locals h' m₁ ∧ News h₀ env.locals h' B := by
    intro h h' m₁ F₁ N₁ k
    refine by_goal fun Gg hGg => ?_
    obtain ⟨⟨oL, es, ep, hL, r⟩, kp, ab⟩ := F₁
    refine hGg ?_
    clear hGg Gg
    refine ⟨⟨⟨oL, es, ep, k _ _ hLw hL, r⟩, fun b o e => k b o (fun q => ?_) (kp b o e), ab⟩, fun p hp => ⟨k _ _ (hBw p hp) (N₁ p hp).1, (N₁ p hp).2⟩⟩
    rw [hgw b q] at e
    cases e
  refine codeAny_forLoop_any (fun k s' => ∃ h' tk m' i, s' = { s with heap := h', toks := tk } ∧ St i h' ∧ Fr h₀ env.locals h' m' ∧ News h₀ env.locals h' B ∧ J i m' ∧ i ≤ n ∧ k = n + 1 - i) ?_ (n + 1)
    ⟨s.heap, s.toks, m₀, 0, rfl, hst, F, N, hj, Nat.zero_le _, rfl⟩
  rintro k s' ⟨h, tk, m₁, i, rfl, hst', F₁, N₁, hJ, hi, rfl⟩
  by_cases hlt : i < n
  · refine W.item i _ _ _ hlt hst' fun T vs h' tk' hP _ hT hM hk => ?_
    obtain ⟨F₂, N₂⟩ := up F₁ N₁ hk
    (refine (?_ : (fun T2 T1 : Prop => T2 → (T2 → T1) → T1) _ _) ?_ (by intro h; dsimp only; exact h); exact fun p _ => p)
    refine W.go elts ex tp i T _ _ _ hM fun h₂ hst₂ hk₂ => ?_
    obtain ⟨F₃, N₃⟩ := up F₂ N₂ hk₂
    have hT₃ : h₂.IsTuple T vs := hT.at fun o e => hk₂ T o (W.apart _ _ _ hM) e
    refine by_goal fun Gg hGg => ?_
    obtain ⟨Zs, hZ, hfp⟩ := hents _ _ hst₂
    refine hGg ?_
    clear hGg Gg
    have N₄ : News h₀ env.locals h₂ (Zs ++ B) := fun p hp => (List.mem_append.mp hp).elim (fun q => hZ p q) (fun q => N₃ p q)
    refine wpAny_mono (turn i T vs m₁ Zs h₂ tk' hlt hP hJ F₃ N₄ hT₃) (fun _ s₂ h₂ => wpAny_mono h₂ (fun f s₃ h₃ => ?_) fun _ _ e => e.elim) fun _ _ e => e.elim
    have fin : (∃ h' tk m' news', s₃ = { s with heap := h', toks := tk } ∧ Fr h₀ env.locals h' m' ∧ News h₀ env.locals h' news' ∧ (∀ p ∈ Zs ++ B, p ∈ news') ∧ J (i + 1) m') → ∃ m, m < n + 1 - i ∧ ∃ h' tk m' j, s₃ = { s with heap := h', toks := tk } ∧ St j h' ∧ Fr h₀ env.locals h' m' ∧ News h₀ env.locals h' B ∧ J j m' ∧ j ≤ n ∧ m = n + 1 - j := by
      rintro ⟨h₄, tk₄, m₄, news₄, rfl, F₄, N₅, hn, hm⟩
      refine ⟨n + 1 - (i + 1), by omega, h₄, tk₄, m₄, i + 1, rfl, ?_, F₄, fun p hp => N₅ p (hn p (List.mem_append_right _ hp)), hm, hlt, rfl⟩
      refine W.frame _ _ _ hst₂ fun b hb o' e => ?_
      rcases hfp b hb with ⟨ob, eb⟩ | ⟨ob, eb⟩
      · have := (hZ _ eb).1
        rw [e] at this
        cases this
        exact (N₅ _ (hn _ (List.mem_append_left _ eb))).1
      · have := (N₃ _ eb).1
        rw [e] at this
        cases this
        exact (N₅ _ (hn _ (List.mem_append_right _ eb))).1
    cases f with
    | ret v => exact h₃
    | brk => exact h₃
    | next => exact fin h₃
    | cont => exact fin h₃
  · have hin : i = n := by omega
    subst hin
    refine W.done _ _ _ hst' fun h' tk' hk => ?_
    obtain ⟨F₂, N₂⟩ := up F₁ N₁ hk
    exact wpAny_execs_nil (done m₁ h' tk' hJ F₂ N₂)
theorem zipC {z l1 l2 : Addr} {xs ys : List Value} {n : Nat} {m₀ : Str → Option Value} {B : List (Addr × Obj)} (J : Nat → (Str → Option Value) → Prop)
    (hh : A.handled = none) (F : Fr h₀ env.locals s.heap m₀) (N : News h₀ env.locals s.heap B) (Z : ZNew h₀ env.locals B s.heap z l1 l2 xs.toArray ys.toArray) (hn : n = min xs.length ys.length) (hw1 : ∃ o, (l1, o) ∈ B) (hw2 : ∃ o, (l2, o) ∈ B) (hj : J 0 m₀)
    (turn : ∀ i T x y m₁ Zs h tk, xs[i]? = some x → ys[i]? = some y → J i m₁ → Fr h₀ env.locals h m₁ → News h₀ env.locals h (Zs ++ B) → h.IsTuple T #[x, y] →
      wpAny (model prog w) A (assign target env (.ref T)) (fun _ s₂ => wpAny (model prog w) A (execs body env) (fun f s₃ => InvPostZ h₀ env.locals (J (i + 1)) (Zs ++ B) { s with heap := h, toks := tk } Q f s₃) (fun _ _ => False) s₂) (fun _ _ => False) { s with heap := h, toks := tk })
    (done : ∀ m₁ h tk, J n m₁ → Fr h₀ env.locals h m₁ → News h₀ env.locals h B → Q .next { s with heap := h, toks := tk })
    {elts : List Expr} {ex : Nat} {tp : Pos} (htg : target = .Tuple elts ex tp) {E : Value → Shared → Prop} :
    wpAny (model prog w) A (pyIter (.ref z)) (fun it s₂ => LoopC prog w A env target body Q it s₂) E s := by
  refine by_goal fun Gg hGg => ?_
  obtain ⟨TI, TO, i1, i2, D, Z, oI, off⟩ := Z
  refine hGg ?_
  clear hGg Gg
  obtain ⟨hz, hTO⟩ : IsZip s.heap z TI TO .none ∧ ∃ a b, IsPair s.heap TO a b := by
    rcases Z.zip with ⟨_, a, b⟩ | ⟨⟨T, b, hm, _⟩, _⟩
    · exact ⟨a, b⟩
    · cases hm
  refine wpAny_pyIter_zip hz ?_
  have hn' : n = min xs.toArray.size ys.toArray.size := by simpa using hn
  rw [hn'] at done
  have offw : ∀ b ∈ [z, TO, i1, i2], b = z ∨ b = TO ∨ b = i1 ∨ b = i2 := fun b hb => by simpa using hb
  refine loopZ J (WalksT.zip2 hh z TI TO i1 i2 l1 l2 D xs.toArray ys.toArray) (fun hb => (off _ (offw _ hb)).1 rfl) (fun b hb => (off _ (offw _ hb)).2.1) (fun p hp hb => (off _ (offw _ hb)).2.2 p hp rfl) ?_ ⟨hz, Z.hTI, hTO, Z.h1, Z.h2, Z.hl1, Z.hl2⟩ F N hj ?_ done htg
  · rintro i h ⟨a1, a2, ⟨u, v, a3⟩, ⟨o4, a4, _⟩, ⟨o5, a5, _⟩, _, _⟩
    obtain ⟨o1, a1⟩ : ∃ o, h.get? z = some o := ⟨_, a1⟩
    obtain ⟨o2, a2⟩ : ∃ o, h.get? TI = some o := ⟨_, a2⟩
    obtain ⟨o3, a3⟩ : ∃ o, h.get? TO = some o := ⟨_, a3⟩
    refine ⟨[(z, o1), (TI, o2), (TO, o3), (i1, o4), (i2, o5)], fun q hq => ?_, fun b hb => ?_⟩
    rotate_left
    · simp only [List.mem_cons, List.not_mem_nil, or_false] at hb
      rcases hb with rfl | rfl | rfl | rfl | rfl | rfl | rfl
      · exact .inl ⟨_, List.mem_cons_self⟩
      · exact .inl ⟨_, List.mem_cons_of_mem _ List.mem_cons_self⟩
      · exact .inl ⟨_, List.mem_cons_of_mem _ (List.mem_cons_of_mem _ List.mem_cons_self)⟩
      · exact .inl ⟨_, List.mem_cons_of_mem _ (List.mem_cons_of_mem _ (List.mem_cons_of_mem _ List.mem_cons_self))⟩
      · exact .inl ⟨_, List.mem_cons_of_mem _ (List.mem_cons_of_mem _ (List.mem_cons_of_mem _ (List.mem_cons_of_mem _ List.mem_cons_self)))⟩
      · exact .inr hw1
      · exact .inr hw2
    · simp only [List.mem_cons, List.not_mem_nil, or_false] at hq
      rcases hq with rfl | rfl | rfl | rfl | rfl
      · exact ⟨a1, (off _ (.inl rfl)).1, (off _ (.inl rfl)).2.1⟩
      · exact ⟨a2, oI⟩
      · exact ⟨a3, (off _ (.inr (.inl rfl))).1, (off _ (.inr (.inl rfl))).2.1⟩
      · exact ⟨a4, (off _ (.inr (.inr (.inl rfl)))).1, (off _ (.inr (.inr (.inl rfl)))).2.1⟩
      · exact ⟨a5, (off _ (.inr (.inr (.inr rfl)))).1, (off _ (.inr (.inr (.inr rfl)))).2.1⟩
  · rintro i T vs m₁ Zs h tk hi ⟨x, y, hx, hy, rfl⟩ hJ F₁ N₁ hT
    exact turn i T x y m₁ Zs h tk (arr_get hx) (arr_get hy) hJ F₁ N₁ hT
end
end Mine
end
section
open PySem PySem.W PySem.Calls PyProof.Rows
theorem Mine.fresh_ZP8 {prog : Program} {w : World} {A : Around} {env : Env} {Q : Flow → Shared → Prop} {E : Value → Shared → Prop} {s : Shared} (h : Q .next s) : wpAny (model prog w) A (execs [] env) Q E s := by
  w_top off
  k_with_none
  walk1
  exact h
end
section
open PySem PySem.W PySem.Calls PyProof.Rows
set_option Elab.async false
set_option maxRecDepth 100000
namespace Mine
section
variable {prog : Program} {w : World} {A : Around} {E : Value → Shared → Prop} {s : Shared} {g : Heap} {L l : Addr} {m : Str → Option Value} {news : List (Addr × Obj)} {vs : List Value} {Q : Value → Shared → Prop}
theorem slice_1 {value slice : Expr} {u : Tok} (F : Fr g L s.heap m) (N : News g L s.heap news) (hl : s.heap.IsList l vs.toArray) (hsz : vs.length < 60)
    (h : ∀ h' S, Fr g L h' m → News g L h' ((S, W.listOf (vs.drop 1).toArray 0) :: news) → Q (.ref S) { s with heap := h' })
    (hs : subscripted slice false (.ref l) (.ref s.heap.objs.size) = operate [.ref s.heap.objs.size, .ref l] (getItem (.ref l) (.ref s.heap.objs.size)))
    (ht : ∀ r, letTemporaryGo value (.ref l) r = pure ()) :
    wpAny (model prog w) A (subscriptTail value slice (.ref l) (.ref s.heap.objs.size)) Q E { s with heap := s.heap.push { cls := .type "slice", data := .fields #[.int 1 u, .none, .none] } } := by
  refine slice_list F N hl (IsPart.int 1 u) .none (fun h' F' N' => ?_) hs ht (by rw [List.size_toArray, sizeLine_eq]; omega)
  have e : slicePick vs.toArray (some 1) none none = (vs.drop 1).toArray := slicePick_from' vs.toArray 1
  rw [e] at N'
  exact h h' _ F' N'
theorem add_two {a b : Addr} {ws : List Value} (F : Fr g L s.heap m) (N : News g L s.heap news) (ha : s.heap.IsList a vs.toArray) (hb : s.heap.IsList b ws.toArray) (hz : vs.length + ws.length ≤ 100)
    (h : ∀ D h', Fr g L h' m → News g L h' ((D, W.listOf (vs ++ ws).toArray 0) :: news) → Q (.ref D) { s with heap := h' }) : wpAny (model prog w) A (binaryOp .Add (.ref a) (.ref b)) Q E s := by
  refine add_lists (hsz := by rw [sizeLine_eq]; omega) F N ha hb fun h' F' N' => h _ h' F' N'
theorem LawB.up {B B' : List (Addr × Obj)} {DC DL DR C : Addr} {xs : List Int} (x : LawB w B L DC DL DR C xs) (k : ∀ p ∈ B, p ∈ B') : LawB w B' L DC DL DR C xs where
  leads := fun N => x.leads (fun p hp => N p (k p hp))
  cols := fun N => x.cols (fun p hp => N p (k p hp))
  cls := fun N => x.cls (fun p hp => N p (k p hp))
  row := fun N => x.row (fun p hp => N p (k p hp))
  rank := fun N => x.rank (fun p hp => N p (k p hp))
  lcell := fun N => x.lcell (fun p hp => N p (k p hp))
/-- the pairs that the loop over neighbours meets -/
structure PairsL (B : List (Addr × Obj)) (Ts : List Addr) (vs : List Value) : Prop where
  at_ : ∀ (j : Nat) (T : Addr), Ts[j]? = some T → ∃ i x y, vs[i]? = some x ∧ vs[i + 1]? = some y ∧ ((T, ({ cls := .type "tuple", data := .seq #[x, y] } : Obj)) ∈ B ∨ (T, ({ cls := .type "tuple", data := .seq #[y, x] } : Obj)) ∈ B)
theorem PairsL.of {B r1 r2 : List (Addr × Obj)} {T1 T2 : List Addr} {n1 n2 : Nat} (p1 : PairRows r1 T1 vs.toArray (vs.drop 1).toArray n1) (p2 : PairRows r2 T2 (vs.drop 1).toArray vs.toArray n2) (s1 : ∀ p ∈ r1, p ∈ B) (s2 : ∀ p ∈ r2, p ∈ B) : PairsL B (T1 ++ T2) vs := by
  refine ⟨fun j T e => ?_⟩
  by_cases hj : j < T1.length
  · rw [List.getElem?_append_left hj] at e
    obtain ⟨x, y, a, b, c⟩ := p1.at_ j T e
    exact ⟨j, x, y, by simpa using a, by simpa using b, .inl (s1 _ c)⟩
  · rw [List.getElem?_append_right (by omega)] at e
    obtain ⟨x, y, a, b, c⟩ := p2.at_ _ T e
    exact ⟨j - T1.length, y, x, by simpa using b, by simpa using a, .inr (s2 _ c)⟩
/-- neighbours in a row, either way -/
noncomputable def Nb (row : List Int) (a b : Int) : Prop := ∃ i, (row[i]? = some a ∧ row[i + 1]? = some b) ∨ (row[i]? = some b ∧ row[i + 1]? = some a)
theorem ints_get {vs : List Value} {ns : List Int} (h : IntsAre vs ns) : ∀ {i : Nat} {v : Value}, vs[i]? = some v → ∃ n t, v = .int n t ∧ ns[i]? = some n := by
  induction h with
  | nil => intro i v h; cases h
  | cons n t r ih =>
    intro i v h
    cases i with
    | zero => cases h; exact ⟨n, t, rfl, rfl⟩
    | succ i => rw [List.getElem?_cons_succ] at h ⊢; exact ih h
theorem pair_use {B X : List (Addr × Obj)} {Ts : List Addr} {row : List Int} {h : Heap} {i : Nat} {v : Value} (P : PairsL B Ts vs) (hr : IntsAre vs row) (N : News g L h X) (up : ∀ p ∈ B, p ∈ X) (hv : (Ts.map Value.ref)[i]? = some v) :
    ∃ T a b ta tb, v = .ref T ∧ h.IsTuple T #[.int a ta, .int b tb] ∧ Nb row a b := by
  rw [List.getElem?_map] at hv
  cases q : Ts[i]? with
  | none => rw [q] at hv; cases hv
  | some T =>
    rw [q] at hv
    obtain ⟨j, x, y, e1, e2, e3⟩ := P.at_ i T q
    obtain ⟨a, ta, rfl, ha⟩ := ints_get hr e1
    obtain ⟨b, tb, rfl, hb⟩ := ints_get hr e2
    rcases e3 with e3 | e3
    · exact ⟨T, a, b, ta, tb, by cases hv; rfl, ⟨_, (N _ (up _ e3)).1, rfl, _, rfl⟩, j, .inl ⟨ha, hb⟩⟩
    · exact ⟨T, b, a, tb, ta, by cases hv; rfl, ⟨_, (N _ (up _ e3)).1, rfl, _, rfl⟩, j, .inr ⟨ha, hb⟩⟩
end
end Mine
end
section
open PySem PySem.W PySem.Calls PyProof.Rows
theorem Mine.fresh_ZP4 {prog : Program} {w : World} {A : Around} {env : Env} {Q : Flow → Shared → Prop} {E : Value → Shared → Prop} {s : Shared} (h : Q .next s) : wpAny (model prog w) A (execs [] env) Q E s := by
  w_top off
  k_with_none
  walk1
  exact h
end
section
open PySem PySem.W PySem.Calls PyProof.Rows
set_option Elab.async false
set_option maxRecDepth 100000
set_option maxHeartbeats 8000000
set_option pp.deepTerms false
set_option pp.deepTerms.threshold 6
namespace Mine
section
variable {prog : Program} {w : World} {A : Around} {E : Value → Shared → Prop} {s : Shared} {g : Heap} {L DC DL DR C : Addr} {m : Str → Option Value} {news B : List (Addr × Obj)} {xs : List Int} {Q : Value → Shared → Prop} {p : Program} {loose : List Str} {mean : ExcName → Option Value} {mg mb : Str → Option Value}
theorem eval_key {env : Env} {x : Str} {i : Int} {t : Tok} {p1 p2 p3 p4 p5 : Pos} (T : Top p loose mean mg mb g) (F : Fr g L s.heap m) (N : News g L s.heap news) (LB : LawB w B L DC DL DR C xs) (up : ∀ q ∈ B, q ∈ news)
    (hm : m x = some (.int i t)) (h0 : 0 ≤ i) (h1 : i.toNat < xs.length) (hxs : xs.length < 20) (hA : A.handled = none) (hd : A.depth ≤ 750) (hu : A.units ≤ 7500)
    (h : ∀ h' tk' y dx r, Over s.heap h' → Fr g L h' m → News g L h' ([(y, slotInst C dx (.ref r.x)), (dx, dictOf [] 0)] ++ news) → WsAt w.params g h' r (wsx (xs.getD i.toNat 0)) → Q (.ref y) { s with heap := h', toks := tk' })
    (hdb : (x == Str.ofString "__debug__") = false) (hL : env.locals = L) (hk : env.scope.kind = .function) (k1 : env.kindOf (Str.ofString "rank") = some .cell) (k2 : env.kindOf (Str.ofString "leads") = some .cell) (k3 : env.kindOf x = some .local) (l1 : env.cells.lookup (Str.ofString "rank") = some (L + 1 + 1)) (l2 : env.cells.lookup (Str.ofString "leads") = some (L + 1)) :
    wpAny (model prog w) A (eval (.Call (.Name (Str.ofString "rank") p1) [.Subscript (.Name (Str.ofString "leads") p2) (.Name x p3) p4] [] p5) env) Q E s := by
  subst hL
  have NB : News g env.locals s.heap B := fun q hq => N q (up q hq)
  have XC := LB.cls NB
  obtain ⟨K, XK, P⟩ := id XC.ex
  obtain ⟨md, cell, fs, G, M, O⟩ := id P.ex
  obtain ⟨rs, hl, hn, hx⟩ := LB.leads NB
  rw [List.length_map] at hn
  have h2 : i.toNat < rs.length := by omega
  have e1 : rs[i.toNat]? = some rs[i.toNat] := List.getElem?_eq_getElem h2
  have e2 : (xs.map wsx)[i.toNat]? = some (wsx (xs.getD i.toNat 0)) := by
    rw [List.getElem?_map, List.getD_eq_getElem?_getD, List.getElem?_eq_getElem h1]; rfl
  have W := hx i.toNat _ _ e1 e2
  refine wpAny_Call_NameR ?_
  refine wpAny_Name (wpAny_loadName_cell hk k1 l1 (LB.rank NB) ?_) (by decide)
  refine callWith_K XK.x (keep_of_makes M.makes) ?_
  walk1
  walk1
  refine wpAny_Name (wpAny_loadName_cell hk k2 l2 (LB.lcell NB) ?_) (by decide)
  refine wpAny_Name (wpAny_loadName_local hk k3 F.ns hm ?_) hdb
  refine item_at hl h0 (by omega) (y := .ref rs[i.toNat].x) (by simpa using congrArg (Option.map fun r => Value.ref r.x) e1) ?_ (by with_unfolding_all rfl)
  walk1
  refine ⟨XK.x, ?_⟩
  refine wpAny_le (A' := A4) hA hd rfl rfl hu (key_make T F.keep XC fun h' tk' y dx ho hled => ?_)
  exact h _ _ _ _ _ ho (fr_over F ho) (news_join F (news_over N ho) hled) ⟨W.1.over ho, W.2⟩
theorem use_answers_keys {i j dx dy : Addr} {r r' : WsR} {a b : Int} (X : (hd.heap_1 w.params).In g) (T : Top p loose mean mg mb g) (F : Fr g L s.heap m) (N : News g L s.heap news) (LB : LawB w B L DC DL DR C xs) (up : ∀ q ∈ B, q ∈ news)
    (h1 : (i, slotInst C dx (.ref r.x)) ∈ news) (h2 : (dx, dictOf [] 0) ∈ news) (h3 : (j, slotInst C dy (.ref r'.x)) ∈ news) (h4 : (dy, dictOf [] 0) ∈ news) (W : WsAt w.params g s.heap r (wsx a)) (W' : WsAt w.params g s.heap r' (wsx b)) (hA : A.handled = none) (hd : A.depth ≤ 700) (hu : A.units ≤ 7000)
    (h : ∀ h' tk' l, Fr g L h' m → News g L h' news → h'.IsList l [Value.bool (opRes .Lt (cmpV (wsx a) (wsx b))), .bool (opRes .LtE (cmpV (wsx a) (wsx b))), .bool (opRes .Eq (cmpV (wsx a) (wsx b))), .bool (opRes .GtE (cmpV (wsx a) (wsx b))), .bool (opRes .Gt (cmpV (wsx a) (wsx b)))].toArray → Q (.ref l) { s with heap := h', toks := tk' }) :
    wpAny (model prog w) A (call (.ref 127) [.ref i, .ref j]) Q E s :=
  wpAny_le hA hd rfl rfl hu (answers_keys X T F.keep ⟨⟨r, r', LB.cls fun q hq => N q (up q hq), ⟨dx, (N _ h1).1, (N _ h2).1⟩, ⟨dy, (N _ h3).1, (N _ h4).1⟩, W, W'⟩, small_x a, small_x b, first_x a b⟩ fun h' tk' l hO hl => h h' tk' l (fr_over F hO) (news_over N hO) hl)
theorem use_answers_cols {a b : Addr} {ns ms : List Int} (X : (hd.heap_1 w.params).In g) (T : Top p loose mean mg mb g) (F : Fr g L s.heap m) (N : News g L s.heap news) (ha : IntList s.heap a ns) (hb : IntList s.heap b ms) (hn : ns.length = ms.length) (hm : ms.length = 7) (hA : A.handled = none) (hd : A.depth ≤ 800) (hu : A.units ≤ 8000)
    (h : ∀ h' tk' l, Over s.heap h' → Fr g L h' m → News g L h' news → h'.IsList l [Value.bool (lt7 ns ms), .bool (le7 ns ms), .bool (decide (ns = ms)), .bool (ge7 ns ms), .bool (gt7 ns ms)].toArray → Q (.ref l) { s with heap := h', toks := tk' }) :
    wpAny (model prog w) A (call (.ref 127) [.ref a, .ref b]) Q E s :=
  wpAny_le hA hd rfl rfl hu (answers_cols X T F.keep ha hb hn hm fun h' tk' l hO hl => h h' tk' l hO (fr_over F hO) (news_over N hO) hl)
theorem item_col {value slice : Expr} {i : Int} {u : Tok} (N : News g L s.heap news) (LB : LawB w B L DC DL DR C xs) (up : ∀ q ∈ B, q ∈ news) (h0 : 0 ≤ i) (h1 : i.toNat < xs.length) (hxs : xs.length < 20)
    (h : ∀ a, IntList s.heap a (colx (xs.getD i.toNat 0)) → Q (.ref a) s)
    (hs : subscripted slice false (.ref DC) (.int i u) = operate [.ref DC, .int i u] (getItem (.ref DC) (.int i u)) := by with_unfolding_all rfl) :
    wpAny (model prog w) A (subscriptTail value slice (.ref DC) (.int i u)) Q E s := by
  obtain ⟨as, a, vs, hl, ha, hla, hi, hn⟩ := cols_at (LB.cols fun q hq => N q (up q hq)) (by rw [List.length_map]; exact h1)
  refine item_at hl h0 (by omega) ha (h a ⟨vs, hla, ?_⟩) hs
  have e : xs.getD i.toNat 0 = xs[i.toNat] := by rw [List.getD_eq_getElem?_getD, List.getElem?_eq_getElem h1]; rfl
  rw [e]
  simpa using hi
end
end Mine
end
section
open PySem PySem.W PySem.Calls PyProof.Rows
theorem Mine.fresh_ZP5 {prog : Program} {w : World} {A : Around} {env : Env} {Q : Flow → Shared → Prop} {E : Value → Shared → Prop} {s : Shared} (h : Q .next s) : wpAny (model prog w) A (execs [] env) Q E s := by
  w_top off
  k_with_none
  walk1
  exact h
end
section
open PySem PySem.W PySem.Calls PyProof.Rows
set_option Elab.async false
set_option maxRecDepth 100000
namespace Mine
section
variable {prog : Program} {w : World} {A : Around} {E : Value → Shared → Prop} {s : Shared} {g : Heap} {L DC DL DR C : Addr} {m : Str → Option Value} {news B : List (Addr × Obj)} {xs : List Int} {Q : Value → Shared → Prop} {p : Program} {loose : List Str} {mean : ExcName → Option Value} {mg mb : Str → Option Value}
theorem use_parts {k₀ : Int} {row : List Int} (hrow : laid (xs.map colx) (xs.map colx).length = k₀ :: row) (X : (hd.heap_1 w.params).In g) (T : Top p loose mean mg mb g) (F : Fr g L s.heap m) (N : News g L s.heap news) (LB : LawB w B L DC DL DR C xs) (up : ∀ q ∈ B, q ∈ news)
    (hxs : xs.length < 20) (hA : A.handled = none) (hd : A.depth ≤ 800) (hu : A.units ≤ 8000)
    (h : ∀ h' tk' D n as rows, Fr g L h' m → News g L h' (((D, W.listOf (as.map Value.ref).toArray n) :: rows) ++ news) → PRows rows as (partsOf (xs.map wsx) k₀ row) → (∀ q ∈ (D, W.listOf (as.map Value.ref).toArray n) :: rows, ∀ q' ∈ news, q.1 ≠ q'.1) → Q (.ref D) { s with heap := h', toks := tk' }) :
    wpAny (model prog w) A (call (.ref 134) [.ref DL, .ref DR]) Q E s := by
  have NB : News g L s.heap B := fun q hq => N q (up q hq)
  have hm := laid_mem (cols := xs.map colx) (xs.map colx).length
  have hlen := congrArg List.length hrow
  rw [laid_len, List.length_map, List.length_cons] at hlen
  rw [hrow, List.length_map] at hm
  refine wpAny_le hA hd rfl rfl hu (parts_spec X T F.keep (LB.leads NB) (by rw [List.length_map]; exact hxs) (fun c hc => by obtain ⟨x, _, rfl⟩ := List.mem_map.mp hc; exact small_x x) (hrow ▸ LB.row NB) (fun k hk => ⟨(hm k hk).1, by rw [List.length_map]; have := hm k hk; omega⟩) (by omega) fun h' tk' D n as rows hO hled hP => ?_)
  exact h h' tk' D n as rows (fr_over F hO) (news_join F (news_over N hO) hled) hP (led_ne N hled)
end
end Mine
end
section
open PySem PySem.W PySem.Calls PyProof.Rows
theorem Mine.fresh_ZP6 {prog : Program} {w : World} {A : Around} {env : Env} {Q : Flow → Shared → Prop} {E : Value → Shared → Prop} {s : Shared} (h : Q .next s) : wpAny (model prog w) A (execs [] env) Q E s := by
  w_top off
  k_with_none
  walk1
  exact h
end
section
open PySem PySem.W PySem.Calls PyProof.Rows
set_option Elab.async false
set_option maxRecDepth 100000
namespace Mine
theorem PRows.one {rows : List (Addr × Obj)} {as : List Addr} {ps : List (List Int)} (x : PRows rows as ps) {i : Nat} {v : Value} (e : (as.map Value.ref)[i]? = some v) :
    ∃ a q vs n, v = .ref a ∧ ps[i]? = some q ∧ IntsAre vs q ∧ (a, W.listOf (List.toArray vs) n) ∈ rows := by
  rw [List.getElem?_map] at e
  cases h : as[i]? with
  | none => rw [h] at e; cases e
  | some a =>
    rw [h] at e
    have hi : i < ps.length := by rw [← x.1]; exact (List.getElem?_eq_some_iff.mp h).1
    obtain ⟨vs, n, hm, hv⟩ := x.2 i a _ h (List.getElem?_eq_getElem hi)
    exact ⟨a, _, vs, n, by cases e; rfl, List.getElem?_eq_getElem hi, hv, hm⟩
section
variable {prog : Program} {w : World} {A : Around} {E : Value → Shared → Prop} {s : Shared} {g : Heap} {L DC DL DR C P : Addr} {m : Str → Option Value} {news B : List (Addr × Obj)} {xs part : List Int} {Q : Value → Shared → Prop} {p : Program} {loose : List Str} {mean : ExcName → Option Value} {mg mb : Str → Option Value}
theorem use_order (X : (hd.heap_1 w.params).In g) (T : Top p loose mean mg mb g) (F : Fr g L s.heap m) (N : News g L s.heap news) (LB : LawB w B L DC DL DR C xs) (up : ∀ q ∈ B, q ∈ news) (hP : IntList s.heap P part)
    (hxs : xs.length < 20) (hb : ∀ k ∈ part, 0 ≤ k ∧ k.toNat < xs.length) (hpl : part.length < 40) (hA : A.handled = none) (hd : A.depth ≤ 900) (hu : A.units ≤ 9000)
    (h : ∀ h' tk', Fr g L h' m → News g L h' news → Q (.bool (oneOrder (xs.map colx) part)) { s with heap := h', toks := tk' }) : wpAny (model prog w) A (call (.ref 139) [.ref DC, .ref P]) Q E s :=
  wpAny_le hA hd rfl rfl hu (order_spec X T F.keep (LB.cols fun q hq => N q (up q hq)) (by rw [List.length_map]; exact hxs) (fun c hc => by obtain ⟨x, _, rfl⟩ := List.mem_map.mp hc; exact colx_len x) hP (fun k hk => by rw [List.length_map]; exact hb k hk) hpl
    fun h' tk' hO => h h' tk' (fr_over F hO) (news_over N hO))
end
theorem intsAre_append {us vs : List Value} {ns ms : List Int} (h1 : IntsAre us ns) (h2 : IntsAre vs ms) : IntsAre (us ++ vs) (ns ++ ms) := by
  induction h1 with
  | nil => exact h2
  | cons n t r ih => exact .cons n t ih
end Mine
end
section
open PySem PySem.W PySem.Calls PyProof.Rows
theorem Mine.fresh_ZP7 {prog : Program} {w : World} {A : Around} {env : Env} {Q : Flow → Shared → Prop} {E : Value → Shared → Prop} {s : Shared} (h : Q .next s) : wpAny (model prog w) A (execs [] env) Q E s := by
  w_top off
  k_with_none
  walk1
  exact h
end
section
open PySem PySem.W PySem.Calls PyProof.Rows
set_option Elab.async false
set_option maxRecDepth 100000
namespace Mine
structure PartsOk (xs : List Int) (ps : List (List Int)) : Prop where
  bnd : ∀ q ∈ ps, ∀ k ∈ q, 0 ≤ k ∧ k.toNat < xs.length
  len : ∀ q ∈ ps, q.length ≤ 9
  num : ps.length ≤ 9
  one : ∀ q ∈ ps, oneOrder (xs.map colx) q = true
  two : ∀ (i : Nat) q q', ps[i]? = some q → ps[i + 1]? = some q' → oneOrder (xs.map colx) (q ++ q') = false
theorem first_diff : ∀ {v w : List Int}, v.length = w.length → v ≠ w → ∃ k : Nat, k < v.length ∧ v.getD k 0 ≠ w.getD k 0 ∧ ∀ i : Nat, i < k → v.getD i 0 = w.getD i 0
  | [], [], _, h => absurd rfl h
  | [], _ :: _, h, _ => by simp at h
  | _ :: _, [], h, _ => by simp at h
  | a :: r, b :: t, hl, hne => by
    by_cases e : a = b
    · subst e
      obtain ⟨k, h1, h2, h3⟩ := first_diff (v := r) (w := t) (by simpa using hl) (fun e => hne (by rw [e]))
      refine ⟨k + 1, by simpa using h1, by simpa using h2, fun i hi => ?_⟩
      cases i with
      | zero => simp
      | succ i => simpa using h3 i (by omega)
    · exact ⟨0, by simp, by simpa using e, fun i hi => absurd hi (Nat.not_lt_zero i)⟩
theorem num_le {α : Type} : ∀ {ps : List (List α)}, (∀ q ∈ ps, q ≠ []) → ps.length ≤ ps.flatten.length
  | [], _ => Nat.le_refl _
  | q :: r, h => by
    have ih := num_le (ps := r) fun q hq => h q (List.mem_cons_of_mem _ hq)
    have := List.length_pos_iff.mpr (h q List.mem_cons_self)
    rw [List.flatten_cons, List.length_append, List.length_cons]
    omega
theorem parts_ok {xs row : List Int} {k₀ : Int} (hx : xs.length ≤ 9) (h : laid (xs.map colx) (xs.map colx).length = k₀ :: row) : PartsOk xs (partsOf (xs.map wsx) k₀ row) := by
  have hm := laid_mem (cols := xs.map colx) (xs.map colx).length
  have hll : (laid (xs.map colx) (xs.map colx).length).length = xs.length := by rw [laid_len, List.length_map]
  have hW : ∀ c ∈ xs.map colx, c.length = 7 := fun c hc => by obtain ⟨x, _, rfl⟩ := List.mem_map.mp hc; exact colx_len x
  have hpw := laid_pair hW (xs.map colx).length (Nat.le_refl _)
  rw [h] at hm hll hpw
  rw [List.length_map] at hm
  have ok : ∀ k ∈ k₀ :: row, 0 ≤ k ∧ k.toNat < xs.length := fun k hk => ⟨(hm k hk).1, by have := hm k hk; omega⟩
  have P := pinv_all (S := fun a b => Sm (colAt (xs.map colx) a) (colAt (xs.map colx) b)) (fun a b c h1 h2 => Sm.trans h1 h2) (leads := xs.map wsx) (k₀ := k₀) (row := row) (ok := fun k => 0 ≤ k ∧ k.toNat < xs.length) (fun a b ha hb => step_test xs ha.2 hb.2) ok row.length (Nat.le_refl _)
  rw [List.take_length] at P
  obtain ⟨flat, ne, one, two⟩ := P
  change (partsOf (xs.map wsx) k₀ row).flatten = _ at flat
  change ∀ q ∈ partsOf (xs.map wsx) k₀ row, _ at ne
  change ∀ q ∈ partsOf (xs.map wsx) k₀ row, _ at one
  change ∀ (i : Nat) q q', (partsOf (xs.map wsx) k₀ row)[i]? = some q → (partsOf (xs.map wsx) k₀ row)[i + 1]? = some q' → _ at two
  generalize partsOf (xs.map wsx) k₀ row = ps at *
  have inr : ∀ q ∈ ps, ∀ k ∈ q, k ∈ k₀ :: row := fun q hq k hk => flat ▸ List.mem_flatten.mpr ⟨q, hq, hk⟩
  have cl : ∀ k ∈ k₀ :: row, (colAt (xs.map colx) k).length = 7 := fun k hk => by
    rw [colD_at (by rw [List.length_map]; exact (ok k hk).2)]
    exact colD_len hW _
  refine ⟨fun q hq k hk => ok k (inr q hq k hk), fun q hq => ?_, ?_, fun q hq => ?_, fun i q q' h1 h2 => ?_⟩
  · have := (List.sublist_flatten_of_mem hq).length_le
    rw [flat] at this
    omega
  · have := num_le ne
    rw [flat] at this
    omega
  · refine one_true fun m hm k hk j hj => ?_
    have key : ∀ {v w : List Int}, Sm v w ∨ Sm w v → decide (v.getD j 0 < w.getD j 0) = decide (v.getD 0 0 < w.getD 0 0) := by
      intro v w hs
      rw [decide_eq_decide]
      rcases hs with (rfl | hs) | (rfl | hs)
      · omega
      · have := hs j hj; have := hs 0 (by decide); omega
      · omega
      · have := hs j hj; have := hs 0 (by decide); omega
    refine key ?_
    obtain ⟨i1, hi1, rfl⟩ := List.mem_iff_getElem.mp hm
    obtain ⟨i2, hi2, rfl⟩ := List.mem_iff_getElem.mp hk
    have pw := List.pairwise_iff_getElem.mp (one q hq)
    rcases Nat.lt_trichotomy i1 i2 with hlt | heq | hgt
    · exact .inl (pw i1 i2 hi1 hi2 hlt)
    · subst heq; exact .inl (.inl rfl)
    · exact .inr (pw i2 i1 hi2 hi1 hgt)
  · obtain ⟨l, hl, f, hf, hn⟩ := two i q q' h1 h2
    have hl' := inr q (List.mem_of_getElem? h1) l hl
    have hf' := inr q' (List.mem_of_getElem? h2) f hf
    have hpre : preI (xs.map colx) l f := by
      rw [← flat] at hpw
      have pp := (List.pairwise_flatten.mp hpw).2
      have hi1 := List.getElem?_eq_some_iff.mp h1
      have hi2 := List.getElem?_eq_some_iff.mp h2
      have := List.pairwise_iff_getElem.mp pp i (i + 1) hi1.1 hi2.1 (Nat.lt_succ_self i)
      rw [hi1.2, hi2.2] at this
      exact this l hl f hf
    have e1 := colD_at (cols := xs.map colx) (k := l) (by rw [List.length_map]; exact (ok l hl').2)
    have e2 := colD_at (cols := xs.map colx) (k := f) (by rw [List.length_map]; exact (ok f hf').2)
    have c1 := cl l hl'
    have c2 := cl f hf'
    have hpre' : ltL (colAt (xs.map colx) l) (colAt (xs.map colx) f) = true ∨ ltL (colAt (xs.map colx) f) (colAt (xs.map colx) l) = false := by
      rw [e1, e2]
      rcases hpre with hp | hp
      · exact .inl hp
      · exact .inr hp.1
    have hne : colAt (xs.map colx) l ≠ colAt (xs.map colx) f := fun e => hn (.inl e)
    obtain ⟨k, hk, hk1, hk2⟩ := first_diff (c1.trans c2.symm) hne
    rw [c1] at hk
    have hlt : (colAt (xs.map colx) l).getD k 0 < (colAt (xs.map colx) f).getD k 0 := by
      rcases hpre' with hp | hp
      · rw [ltL_first (c1.trans c2.symm) (by rw [c1]; exact hk) hk1 hk2] at hp
        exact of_decide_eq_true hp
      · rw [ltL_first (c2.trans c1.symm) (by rw [c2]; exact hk) (Ne.symm hk1) fun i hi => (hk2 i hi).symm] at hp
        have := of_decide_eq_false hp
        omega
    have hex : ∃ j : Nat, j < 7 ∧ ¬ (colAt (xs.map colx) l).getD j 0 < (colAt (xs.map colx) f).getD j 0 := by
      refine Classical.byContradiction fun hno => hn (.inr fun j hj => ?_)
      exact Classical.byContradiction fun hh => hno ⟨j, hj, hh⟩
    obtain ⟨j, hj, hjn⟩ := hex
    refine one_false (m := l) (k := f) (i := k) (j := j) (List.mem_append_left _ hl) (List.mem_append_right _ hf) hk hj ?_
    unfold ltB
    rw [decide_eq_true hlt, decide_eq_false hjn]
    decide
end Mine
end
section
open PySem PySem.W PySem.Calls PyProof.Rows
theorem Mine.fresh_PQ {prog : Program} {w : World} {A : Around} {env : Env} {Q : Flow → Shared → Prop} {E : Value → Shared → Prop} {s : Shared} (h : Q .next s) : wpAny (model prog w) A (execs [] env) Q E s := by
  w_top off
  k_with_none
  walk1
  exact h
end
section
open PySem PySem.W PySem.Calls PyProof.Rows
set_option Elab.async false
set_option maxRecDepth 100000
set_option maxHeartbeats 8000000
set_option pp.deepTerms false
set_option pp.deepTerms.threshold 5
namespace Mine
theorem t_l1 {x v a b : Nat} (h1 : a = v - 1) (h2 : b = v - 1) (h3 : v = x) (h4 : x ≤ 9) : a + b ≤ 100 := by
  subst h3 h1 h2
  exact Nat.le_trans (Nat.add_le_add (Nat.le_trans (Nat.sub_le _ _) h4) (Nat.le_trans (Nat.sub_le _ _) h4)) (by decide)
theorem t_l2 {i x r : Nat} (h2 : r = x) (h1 : i < x) : i < r := h2 ▸ h1
theorem t_l3 {k : Int} {n : Nat} (h : 0 ≤ k ∧ k < n) : k.toNat < n := (Int.toNat_lt h.1).mpr h.2
theorem t_l4 {i x : Nat} (h : i < x) (h1 : x ≤ 9) : i < 50 := Nat.lt_of_lt_of_le h (Nat.le_trans h1 (by decide))
theorem t_l5 {v u q r : Nat} (h1 : v = q) (h2 : u = r) (h3 : q ≤ 9) (h4 : r ≤ 9) : v + u ≤ 100 := by
  subst h1 h2
  exact Nat.le_trans (Nat.add_le_add h3 h4) (by decide)
theorem t_l6 {v x : Nat} (h : v = x) (h1 : x ≤ 9) : v - 1 < 60 := Nat.lt_of_le_of_lt (Nat.sub_le _ _) (Nat.lt_of_le_of_lt (h ▸ h1) (by decide))
theorem t_l7 {v x : Nat} (h : v = x) (h1 : x ≤ 9) : v < 60 := Nat.lt_of_le_of_lt (h ▸ h1) (by decide)
theorem t_l8 {r x : Nat} (h : r = x) (h1 : x ≤ 9) : (r : Int) < 9223372036854775808 := Int.ofNat_lt.mpr (Nat.lt_of_le_of_lt (h ▸ h1 : r ≤ 9) (by decide))
theorem t_l9 {x : Nat} {p : Prop} (h : 3 ≤ x) (h1 : 0 = x) : p := absurd (h1 ▸ h : 3 ≤ 0) (by decide)
theorem words_L2_om : True := by
  k_with "om" => (first | assumption | exact Nat.sub_le _ _ | exact Nat.lt_succ_self _ | exact Nat.le_add_right _ _ | exact Nat.zero_le _ | exact Nat.le_of_lt (by assumption) | exact Nat.lt_of_lt_of_le (by assumption) (by assumption) | exact Nat.lt_of_le_of_lt (by assumption) (by assumption) | exact Nat.le_trans (by assumption) (by assumption) | exact Nat.lt_trans (by assumption) (by assumption) | exact Nat.lt_of_le_of_lt (by assumption) (by decide) | exact Nat.le_trans (by assumption) (by decide) | exact Nat.lt_trans (by assumption) (by decide) | exact Nat.le_trans (Nat.le_of_lt (by assumption)) (by decide) | exact Nat.ne_of_lt (by assumption) | exact Nat.ne_of_gt (by assumption) | exact Ne.symm (by assumption) | exact Nat.ne_of_lt (Nat.lt_trans (by assumption) (by assumption)) | exact Nat.ne_of_gt (Nat.lt_trans (by assumption) (by assumption)) | exact Nat.lt_of_not_le (by assumption) | exact Nat.le_of_not_lt (by assumption) | exact Nat.lt_succ_of_lt (by assumption) | exact Nat.le_of_lt_succ (by assumption) | exact Nat.succ_le_of_lt (by assumption) | exact Nat.le_of_succ_le (by assumption) | exact Int.le_of_lt (by assumption) | exact Int.lt_of_lt_of_le (by assumption) (by assumption) | exact Int.lt_of_le_of_lt (by assumption) (by assumption) | exact Int.le_trans (by assumption) (by assumption) | exact Int.lt_trans (by assumption) (by assumption) | exact Int.lt_of_le_of_lt (by assumption) (by decide) | exact Int.lt_trans (by assumption) (by decide) | exact Int.not_le.mp (by assumption) | exact Int.not_lt.mp (by assumption) | exact t_l2 (by assumption) (by assumption) | exact t_l3 (by assumption) | exact t_l4 (by assumption) (by assumption) | exact t_l1 (by assumption) (by assumption) (by assumption) (by assumption) | exact t_l5 (by assumption) (by assumption) (by assumption) (by assumption) | exact t_l6 (by assumption) (by assumption) | exact t_l7 (by assumption) (by assumption) | exact t_l8 (by assumption) (by assumption) | fail "om")
  trivial
theorem words_L2_1 : True := by
  k_with "w1" => (first | ((with_reducible show wpAny _ _ (subscriptTail _ _ _ _) _ _ _); walk1) | ((refine (?_ : (fun T2 T1 : Prop => T2 → (T2 → T1) → T1) _ _) ?_ (by intro h; dsimp only; exact h); exact fun p _ => p); walk1) | walk1)
  k_with "k_steps" => (repeat' (first | (k_unfold; (try (refine (?_ : (fun T2 T1 : Prop => T2 → (T2 → T1) → T1) _ _) ?_ (by intro h; dsimp only; exact h); exact fun p _ => p))) | (k_end; kc_close) | ((refine (?_ : (fun T2 T1 : Prop => T2 → (T2 → T1) → T1) _ _) ?_ (by intro h; dsimp only; exact h); exact fun p _ => p); walk1) | walk1 | (leave1; walk_say "STEP leave1"; (try (refine (?_ : (fun T2 T1 : Prop => T2 → (T2 → T1) → T1) _ _) ?_ (by intro h; dsimp only; exact h); exact fun p _ => p))) | fail "no step"))
  trivial
theorem fillL0 : PySem.Challenge.rw_mq0248_01 = PySem.Challenge.rw_mq0248_01 ∧ Mine.hd.heap_1 = Mine.hd.heap_1 := by
  k_fill
  exact ⟨rfl, rfl⟩
theorem hy_sub {P : Params} {h : Heap} (x : HY P h) : (hd.heap_1 P).In h := frag_sub (hy_sub0 P) x.x
theorem hy_not {P : Params} {a : Addr} {o : Obj} (e : (hy P).lookup a = some o) : a ∉ [23, 141] := by
  have h2 := List.all_eq_true.mp (hy_not0 P) _ (mem_lookup e)
  dsimp only at h2
  intro hm
  simp only [List.mem_cons, List.not_mem_nil, or_false] at hm
  rcases hm with rfl | rfl <;> simp at h2
theorem words_L2_2 : True := by
  k_with "call ref" => (k_here; k_dflt (refine use_lead (by k_asm) (by k_asm) (by k_asm) (by k_asm) rfl (Nat.le_of_ble_eq_true rfl) (Nat.le_of_ble_eq_true rfl) ?_); intro _ _ _ _ _)
  trivial
theorem fit50 {x : Int} : (leadS (mod6 x)).length < 50 := Nat.lt_of_le_of_lt (leadS_len _) (by decide)
theorem fit100 {x : Int} : (leadS (mod6 x)).length < 100 := Nat.lt_of_le_of_lt (leadS_len _) (by decide)
theorem words_L2_3 : True := by
  k_with "call ref" => (k_here; k_dflt (refine use_ws (by k_asm) (by k_asm) (by k_asm) (by k_asm) fit50 rfl (Nat.le_of_ble_eq_true rfl) (Nat.le_of_ble_eq_true rfl) ?_); intro _ _ _ _ _ _ _)
  k_with "call ref" => (k_here; k_dflt (refine use_cols (by k_asm) (by k_asm) (by k_asm) (by k_asm) fit100 rfl (Nat.le_of_ble_eq_true rfl) (Nat.le_of_ble_eq_true rfl) ?_); intro _ _ _ _ _ _ _ _ _)
  k_with "call ref" => (k_here; k_dflt (refine use_laid (by k_asm) (by k_asm) (by k_asm) (by k_asm) (by assumption) (by omega) rfl (Nat.le_of_ble_eq_true rfl) (Nat.le_of_ble_eq_true rfl) ?_); intro _ _ _ _ _ _)
  k_with "compareOp NotEq ref ref" => (refine same_row (LawB.row (by assumption) (by assumption)) (by assumption) (Nat.le_of_ble_eq_true rfl) ?_)
  k_with "CompEnd" => (refine LCg.CompEnd.intro (by assumption) (by assumption) _ (fun _ hp => hp) (by assumption) (by assumption) ⟨rfl, ?_⟩)
  k_with "CompEnd" => (refine led_end (by assumption) (by assumption) (by assumption) (by assumption) (srcAt_app (by assumption)) ?_)
  k_with "exec For" => (k_here; k_dflt (refine for_any ?_ (by intro _; rfl)))
  k_with "call type:zip" => (k_here; k_dflt (refine use_zip (by kmk_list) (by kmk_list) (by k_asm) (by k_asm) ?_); intro _ _ _ _ _)
  k_with "subscriptTail Name Slice ref ref" => (k_here; k_dflt (refine slice_1 (by k_asm) (by k_asm) (by kmk_list) (by omega) ?_ (by with_unfolding_all rfl) (by intro _; with_unfolding_all rfl)); intro _ _ _ _)
  trivial
theorem words_L2_z : True := by
  k_with "call type:list" => (k_here; k_dflt (refine use_list_zip (n := _ - 1) rfl (by k_asm) (by k_asm) (by assumption) (by (simp only [List.size_toArray, List.length_drop]; first | exact (Nat.min_eq_right (Nat.sub_le _ _)).symm | exact (Nat.min_eq_left (Nat.sub_le _ _)).symm)) (by omega) ?_); intro _ _ _ _ _ _ N1 _ _; simp only [List.cons_append] at N1)
  trivial
theorem words_L2_4 : True := by
  k_with "binaryOp Add ref ref" => (k_here; k_dflt (refine add_two (by k_asm) (by k_asm) (by kmk_list) (by kmk_list) (by (simp only [List.length_map]; omega)) ?_); intro _ _ _ _)
  trivial
theorem law_v : Mine.rw2.Holds := hl (by
  intro w s₀ s₁ mg mb G Y fa o pm cd doc dV kV ho hd hcd hD hmg hg args vals as hpre hlay hrd hwl hlo
  have KY0 : HY w.params s₁.heap := ⟨km_in_of Y⟩
  have KX := hy_sub KY0
  km_tabs Y
  have X := (Ground.X G).1
  have V := (Ground.X G).2
  refine Ground.open G ?_
  intro T B D TE TW
  try (refine guard_noD D (by decide +kernel) ?_; clear D)
  km_lay T hmg ho hd cd
  clear hmg
  wrow_args hpre hlay hrd hwl hlo
  all_goals (
    first | refine callC_kw (enter_call ?_) | refine enter_call ?_
    w_top on
    kn_posts
    w_call any ho hd hcd hD T F
    clear hd
    kn_ghosts F T
    k_drop
    skip)
  have KYg : HY w.params (ghostOf s₁.heap [(27, 23), (143, 141)]) := ⟨fun a o e => ghost_ne (KY0.x a o e) (hy_not e)⟩
  rename_i ns hs0 hlay0 hL1 hr1 hl2 w6 w5 S w3 w2 hLs ra w1v r0 hI hr hcond hcond2 h₁ tk₁ oc2 oc1 d2 d1 X0 X' T' K' F' CH27 N' l0
  clear G Y X V T B TE TW hcd hD ho hT8 hs0 hlay0 hL1 hr1 hl2 ra w1v r0 hr hcond2 X0 K' hLs KY0
  refine wpAny_mono (Q := fun f s' => ∃ h' tk' m' B ps ps', f = .ret (.bool true) ∧ s' = { s₁ with heap := h', toks := tk' } ∧ Fr (ghostOf s₁.heap [(27, 23), (143, 141)]) s₁.heap.objs.size h' m' ∧ News (ghostOf s₁.heap [(27, 23), (143, 141)]) s₁.heap.objs.size h' B ∧ (23, tabObj ps) ∈ B ∧ (141, tabObj ps') ∈ B) (E := fun _ _ => False) ?main (fun f s' hq => ?post) (fun _ _ e => e.elim)
  case post =>
    refine by_goal fun Gg hGg => ?_
    obtain ⟨h', tk', m', B, ps, ps', rfl, rfl, F, N, m1, m2⟩ := hq
    refine hGg ?_
    clear hGg Gg
    refine ⟨?_, GrownAt.of N m1, GrownAt.of N m2, trivial⟩
    (refine (?_ : (fun T2 T1 : Prop => T2 → (T2 → T1) → T1) _ _) ?_ (by intro h; dsimp only; exact h); exact fun p _ => p)
    k_steps
  case main =>
    clear hT9
    have hX := X'
    generalize hgg : ghostOf s₁.heap [(27, 23), (143, 141)] = g at *
    generalize hLL : s₁.heap.objs.size = L at *
    clear hgg hLL hX
    obtain ⟨z23, z141⟩ := l0
    have dL : oc2.data = .cell none := d2
    have dR : oc1.data = .cell none := d1
    clear d1 d2
    dsimp only at F' ⊢
    refine gen_q fun Q₀ hQ₀ => ?_
    try (refine (?_ : (fun T2 T1 : Prop => T2 → (T2 → T1) → T1) _ _) ?_ (by intro h; dsimp only; exact h); exact fun p _ => p)
    refine st_c s₁ fun tkS1 => ?_
    refine wpAny_execs_cons ?_
    refine gen_q fun Qg1 hQg1 => ?_
    refine LCg.Assign_ListComp_U (F₀ := F') rfl (by with_unfolding_all rfl) (by with_unfolding_all rfl) (by decide) (by rfl) (by decide) (by rfl) (by rfl) (by rfl) ?_
    iterate 18 k_extra "w1"
    rename_i hI6 hC6 hL6 _ l9 h9 F9 N9 _
    refine kmk_add_ints F9 N9 (by kmk_list) (by kmk_list) hI6 (.cons _ _ (.cons _ _ (.cons _ _ .nil))) ?_ (by rw [sizeLine_eq, hC6]; show min 6 ns.length + 3 ≤ _; exact Nat.le_trans (Nat.add_le_add_right (Nat.min_le_left _ _) 3) (by decide))
    intro DX wsX hX FX NX lX hIX
    have hxl : (List.take 6 ns ++ [2, 27, 22]).length ≤ 9 := by rw [List.length_append, hC6]; show min 6 ns.length + 3 ≤ 9; exact Nat.add_le_add_right (Nat.min_le_left _ _) 3
    have hxl3 : 3 ≤ (List.take 6 ns ++ [2, 27, 22]).length := by rw [List.length_append]; show 3 ≤ _ + 3; exact Nat.le_add_left _ _
    generalize hxs : List.take 6 ns ++ [2, 27, 22] = xs at *
    have hwl : wsX.toArray.size = xs.length := by rw [List.size_toArray, hIX.length]
    replace NX : News g L hX [(DX, W.listOf wsX.toArray 0), (L + 1 + 1, oc2), (L + 1, oc1), (23, tabObj #[]), (141, tabObj #[])] := fun q hq => NX q (sub_cons (by k_mem) (sub_cons (by k_mem) (sub_cons (by k_mem) (sub_cons (by k_mem) (sub_cons (by k_mem) sub_nil)))) q hq)
    refine LCg.CompSrc.ledger (by rfl) FX NX (by k_mem) (by rw [hwl, sizeLine_eq]; omega) ?_
    intro g1
    refine rest_inv (n := wsX.toArray.size) (fun j ys nw => nw = [(DX, W.listOf wsX.toArray 0), (L + 1 + 1, oc2), (L + 1, oc1), (23, tabObj #[]), (141, tabObj #[])] ∧ LR TxtV (xs.take j) ys) ?_ ?_ _ 0 [] _ (Nat.zero_add _) ⟨rfl, .nil⟩
    · rintro j v I2 oI C2 oC2 D2 m₂ ys nw hh tk₆ E' hj ⟨rfl, hys⟩ hv hoC hm₂ F₆ N₆ off ne
      refine by_goal fun Gg hGg => ?_
      obtain ⟨x, tx, rfl, hx⟩ := hIX.at j v (arr_get hv)
      refine hGg ?_
      clear hGg Gg
      have hts := take_snoc hx
      have hsrc : LCg.SrcAt g DX wsX.toArray [(DX, W.listOf wsX.toArray 0), (L + 1 + 1, oc2), (L + 1, oc1), (23, tabObj #[]), (141, tabObj #[])] := .inr ⟨_, by k_mem, rfl, _, rfl⟩
      k_steps
      rw [hts]
      exact hys.snoc ⟨_, rfl⟩
    · rintro txs nw ⟨rfl, htx⟩
      rw [hwl, List.take_length] at htx
      k_extra "w1"
      rename_i DT hT tkT FT NT oT
      replace NT : News g L hT [(DT, LCg.lst txs), (L + 1 + 1, oc2), (L + 1, oc1), (23, tabObj #[]), (141, tabObj #[])] := fun q hq => NT q (sub_cons (by k_mem) (sub_cons (by k_mem) (sub_cons (by k_mem) (sub_cons (by k_mem) (sub_cons (by k_mem) sub_nil)))) q hq)
      have nT : ∀ p ∈ [(L + 1 + 1, oc2), (L + 1, oc1), (23, tabObj #[]), (141, tabObj #[])], p.1 ≠ DT := all_cons' oT.2.1 (all_cons' oT.2.2.1 (all_cons' oT.2.2.2.1 (all_cons' oT.2.2.2.2 (List.forall_mem_nil _))))
      clear oT NX FX lX hIX F9 N9 hI6 hC6 hL6
      have htl := htx.length
      -- leads
      subst hQg1
      try (refine (?_ : (fun T2 T1 : Prop => T2 → (T2 → T1) → T1) _ _) ?_ (by intro h; dsimp only; exact h); exact fun p _ => p)
      refine st_c s₁ fun tkS2 => ?_
      refine wpAny_execs_cons ?_
      refine gen_q fun Qg2 hQg2 => ?_
      refine wpAny_Assign_Name ?_
      refine LCg.ListComp_U (F₀ := FT) (by with_unfolding_all rfl) (by decide) (by rfl) (by decide) (by rfl) ?_
      k_extra "w1"
      refine LCg.CompSrc.ledger (by rfl) FT NT (by k_mem) (by rw [List.size_toArray, htl, sizeLine_eq]; omega) ?_
      intro g2
      refine rest_inv (n := txs.toArray.size) (fun j ys nw => LeadsJ w.params [(DT, LCg.lst txs), (L + 1 + 1, oc2), (L + 1, oc1), (23, tabObj #[]), (141, tabObj #[])] ((xs.take j).map fun x => wsDat (leadS (mod6 x))) ys nw) ?_ ?_ _ 0 [] _ (Nat.zero_add _) LeadsJ.nil
      · rintro j v I2 oI C2 oC2 D2 m₂ ys nw hh tk₆ E' hj hJ hv hoC hm₂ F₆ N₆ off ne
        refine by_goal fun Gg hGg => ?_
        obtain ⟨rs, rows, rfl, rfl, hR, hsep⟩ := hJ
        refine hGg ?_
        clear hGg Gg
        refine by_goal fun Gg hGg => ?_
        obtain ⟨x, hx, tx, rfl⟩ := htx.get (i := j) (v := v) (arr_get hv)
        refine hGg ?_
        clear hGg Gg
        have hts := take_snoc hx
        have hsrc : LCg.SrcAt g DT txs.toArray ([(DT, LCg.lst txs), (L + 1 + 1, oc2), (L + 1, oc1), (23, tabObj #[]), (141, tabObj #[])] ++ rows) := .inr ⟨_, List.mem_append_left _ (by k_mem), rfl, _, rfl⟩
        dsimp only [List.cons_append, List.nil_append] at N₆ off hsrc
        k_steps
        exact LeadsJ.next hR hsep (by assumption) (by assumption) (by rw [hts, List.map_append]; rfl)
      · rintro ys nw hJ
        refine by_goal fun Gg hGg => ?_
        obtain ⟨rs, rows, rfl, rfl, hR, hsep⟩ := hJ
        refine hGg ?_
        clear hGg Gg
        (refine (?_ : (fun T2 T1 : Prop => T2 → (T2 → T1) → T1) _ _) ?_ (by intro h; dsimp only [List.cons_append, List.nil_append]; exact h); exact fun p _ => p)
        rw [List.size_toArray, htl, List.take_length] at hR
        k_extra "w1"
        rename_i DL hLd tkL FL NL oL
        refine by_goal fun Gg hGg => ?_
        obtain ⟨oL1, oL2, oL3, oL4, oL5, oL6⟩ := oL
        refine hGg ?_
        clear hGg Gg
        have sL := hR.1
        rw [List.length_map] at sL
        refine storeC [(DL, LCg.lst (rs.map fun r => Value.ref r.x)), (DT, LCg.lst txs), (L + 1 + 1, oc2)] ((23, tabObj #[]) :: (141, tabObj #[]) :: rows) rfl (by rfl) (c := L + 1) (by rfl) FL NL (all_cons' (Ne.symm oL3) (all_cons' (Ne.symm (nT (L + 1, oc1) (by k_mem))) (all_cons' (Nat.ne_of_gt (Nat.lt_succ_self _)) (List.forall_mem_nil _))))
          (all_cons' (Nat.ne_of_lt (Nat.lt_succ_of_lt z23)) (all_cons' (Nat.ne_of_lt (Nat.lt_succ_of_lt z141)) fun p hp => hsep p hp (L + 1, oc1) (by k_mem))) dR fun h4 oc1' F4 N4 dL' => ?_
        clear FL NL FT NT dR
        dsimp only [List.cons_append, List.nil_append] at N4
        have hsep2 : ∀ p ∈ rows, ∀ q ∈ [(DT, LCg.lst txs), (DL, LCg.lst (rs.map fun r => Value.ref r.x)), (L + 1 + 1, oc2), (L + 1, oc1'), (23, tabObj #[]), (141, tabObj #[])], p.1 ≠ q.1 := fun p hp =>
          all_cons' (hsep p hp (DT, LCg.lst txs) (by k_mem)) (all_cons' (fun e => off1_mem oL6 p hp e) (all_cons' (hsep p hp (L + 1 + 1, oc2) (by k_mem)) (all_cons' (hsep p hp (L + 1, oc1) (by k_mem)) (all_cons' (hsep p hp (23, tabObj #[]) (by k_mem)) (all_cons' (hsep p hp (141, tabObj #[]) (by k_mem)) (List.forall_mem_nil _))))))
        -- columns
        subst hQg2
        try (refine (?_ : (fun T2 T1 : Prop => T2 → (T2 → T1) → T1) _ _) ?_ (by intro h; dsimp only; exact h); exact fun p _ => p)
        refine st_c s₁ fun tkS3 => ?_
        refine wpAny_execs_cons ?_
        refine gen_q fun Qg3 hQg3 => ?_
        refine LCg.Assign_ListComp_U (F₀ := F4) rfl (by with_unfolding_all rfl) (by with_unfolding_all rfl) (by decide) (by rfl) (by decide) (by rfl) (by rfl) (by rfl) ?_
        k_extra "w1"
        refine LCg.CompSrc.ledger (news := [(DT, LCg.lst txs), (DL, LCg.lst (rs.map fun r => Value.ref r.x)), (L + 1 + 1, oc2), (L + 1, oc1'), (23, tabObj #[]), (141, tabObj #[])] ++ rows) (by rfl) F4 (fun q hq => N4 q ((sub_cons (by k_mem) (sub_cons (by k_mem) (sub_cons (by k_mem) (sub_cons (by k_mem) (sub_cons (by k_mem) (sub_cons (by k_mem) (fun q h => by repeat (first | exact h | refine List.Mem.tail _ ?_)))))))) q hq)) (List.mem_append_left _ (by k_mem)) (by rw [List.size_toArray, htl, sizeLine_eq]; omega) ?_
        intro g3
        refine rest_inv (n := txs.toArray.size) (fun j ys nw => ColsJ ([(DT, LCg.lst txs), (DL, LCg.lst (rs.map fun r => Value.ref r.x)), (L + 1 + 1, oc2), (L + 1, oc1'), (23, tabObj #[]), (141, tabObj #[])] ++ rows) ((xs.take j).map fun x => (rangeKs 1 7).map (colOf (KStt.codes (leadS (mod6 x))))) ys nw) ?_ ?_ _ 0 [] _ (Nat.zero_add _) ColsJ.nil
        · rintro j v I2 oI C2 oC2 D2 m₂ ys nw hh tk₆ E' hj hJ hv hoC hm₂ F₆ N₆ off ne
          refine by_goal fun Gg hGg => ?_
          obtain ⟨as, rowsC, rfl, rfl, hRC, hsepC⟩ := hJ
          refine hGg ?_
          clear hGg Gg
          refine by_goal fun Gg hGg => ?_
          obtain ⟨x, hx, tx, rfl⟩ := htx.get (i := j) (v := v) (arr_get hv)
          refine hGg ?_
          clear hGg Gg
          have hts := take_snoc hx
          have hsrc : LCg.SrcAt g DT txs.toArray ([(DT, LCg.lst txs), (DL, LCg.lst (rs.map fun r => Value.ref r.x)), (L + 1 + 1, oc2), (L + 1, oc1'), (23, tabObj #[]), (141, tabObj #[])] ++ rows ++ rowsC) := .inr ⟨_, List.mem_append_left _ (List.mem_append_left _ (by k_mem)), rfl, _, rfl⟩
          dsimp only [List.cons_append, List.nil_append] at N₆ off hsrc
          k_steps
          exact ColsJ.next hRC hsepC (by assumption) (by assumption) (by rw [hts, List.map_append]; rfl)
        · rintro ys nw hJ
          refine by_goal fun Gg hGg => ?_
          obtain ⟨as, rowsC, rfl, rfl, hRC, hsepC⟩ := hJ
          refine hGg ?_
          clear hGg Gg
          (refine (?_ : (fun T2 T1 : Prop => T2 → (T2 → T1) → T1) _ _) ?_ (by intro h; dsimp only [List.cons_append, List.nil_append]; exact h); exact fun p _ => p)
          rw [List.size_toArray, htl, List.take_length] at hRC
          k_extra "w1"
          rename_i DC h5 tk5 F5 N5 o5
          refine by_goal fun Gg hGg => ?_
          obtain ⟨o51, o52, o53, o54, o55, o56, o57⟩ := o5
          refine hGg ?_
          clear hGg Gg
          have sC := hRC.1
          rw [List.length_map] at sC
          clear F4 N4
          have N6 : News g L h5 ([(DC, LCg.lst (as.map Value.ref)), (DL, LCg.lst (rs.map fun r => Value.ref r.x)), (L + 1 + 1, oc2), (L + 1, oc1')] ++ (23, tabObj #[]) :: ((141, tabObj #[]) :: (rows ++ rowsC))) := fun q hq => N5 q ((sub_cons (by k_mem) (sub_cons (by k_mem) (sub_cons (by k_mem) (sub_cons (by k_mem) (sub_cons (by k_mem) (sub_cons (by k_mem) (fun q h => by repeat (first | exact h | refine List.Mem.tail _ ?_)))))))) q hq)
          clear N5
          subst hQg3
          try (refine (?_ : (fun T2 T1 : Prop => T2 → (T2 → T1) → T1) _ _) ?_ (by intro h; dsimp only; exact h); exact fun p _ => p)
          refine st_c s₁ fun tkS4 => ?_
          refine wpAny_execs_cons ?_
          refine gen_q fun Qg4 hQg4 => ?_
          refine wpAny_Assign_Name ?_
          iterate 7 k_extra "w1"
          have q1 : ∀ p ∈ [(DC, LCg.lst (as.map Value.ref)), (DL, LCg.lst (rs.map fun r => Value.ref r.x)), (L + 1 + 1, oc2), (L + 1, oc1')], p.1 ≠ 23 := all_cons' (Ne.symm o55) (all_cons' (Ne.symm oL4) (all_cons' (Nat.ne_of_gt (Nat.lt_succ_of_lt (Nat.lt_succ_of_lt z23))) (all_cons' (Nat.ne_of_gt (Nat.lt_succ_of_lt z23)) (List.forall_mem_nil _))))
          have q2 : ∀ p ∈ (141, tabObj #[]) :: (rows ++ rowsC), p.1 ≠ 23 := all_cons' (by decide) fun p hp => (List.mem_append.mp hp).elim (fun h => hsep2 p h (23, tabObj #[]) (by k_mem)) (fun h => hsepC p h (23, tabObj #[]) (by k_mem))
          refine use_ctk _ _ (by k_asm) (by k_asm) KYg CH27 F5 N6 q1 q2 rfl (Nat.le_of_ble_eq_true rfl) (Nat.le_of_ble_eq_true rfl) ?_
          intro h7 tk7 C K ps F7 N7 hK sepK
          have sZ : ∀ c, (c = L + 1 + 1 ∧ (c, oc2) = (L + 1 + 1, oc2)) → ∀ p ∈ rows ++ rowsC ++ K, p.1 ≠ L + 1 + 1 := fun c _ p hp => by
            rcases List.mem_append.mp hp with hp | hp
            · rcases List.mem_append.mp hp with hp | hp
              · exact hsep2 p hp (L + 1 + 1, oc2) (by k_mem)
              · exact hsepC p hp (L + 1 + 1, oc2) (by k_mem)
            · exact sepK p hp (L + 1 + 1, oc2) (by k_mem)
          have sZ1 : ∀ p ∈ rows ++ rowsC ++ K, p.1 ≠ 141 := fun p hp => by
            rcases List.mem_append.mp hp with hp | hp
            · rcases List.mem_append.mp hp with hp | hp
              · exact hsep2 p hp (141, tabObj #[]) (by k_mem)
              · exact hsepC p hp (141, tabObj #[]) (by k_mem)
            · exact sepK p hp (141, tabObj #[]) (by k_mem)
          have N8 : News g L h7 ([(DC, LCg.lst (as.map Value.ref)), (DL, LCg.lst (rs.map fun r => Value.ref r.x))] ++ (L + 1 + 1, oc2) :: ((L + 1, oc1') :: (23, tabObj ps) :: (141, tabObj #[]) :: (rows ++ rowsC ++ K))) := fun q hq => N7 q ((sub_cons (by k_mem) (sub_cons (by k_mem) (sub_cons (by k_mem) (sub_cons (by k_mem) (sub_cons (by k_mem) (sub_cons (by k_mem) (fun q h => by repeat (first | exact h | refine List.Mem.tail _ ?_)))))))) q hq)
          refine storeC _ _ rfl (by rfl) (c := L + 1 + 1) (by rfl) F7 N8 (all_cons' (Ne.symm o53) (all_cons' (Ne.symm oL2) (List.forall_mem_nil _)))
            (all_cons' (Nat.ne_of_lt (Nat.lt_succ_self _)) (all_cons' (Nat.ne_of_lt (Nat.lt_succ_of_lt (Nat.lt_succ_of_lt z23))) (all_cons' (Nat.ne_of_lt (Nat.lt_succ_of_lt (Nat.lt_succ_of_lt z141))) (sZ (L + 1 + 1) ⟨rfl, rfl⟩)))) dL fun h9 oR F9 N9 dR => ?_
          have zL : ∀ p ∈ rows, p ∈ rows ++ rowsC ++ K := fun p hp => List.mem_append_left _ (List.mem_append_left _ hp)
          have zC : ∀ p ∈ rowsC, p ∈ rows ++ rowsC ++ K := fun p hp => List.mem_append_left _ (List.mem_append_right _ hp)
          have zK : ∀ p ∈ K, p ∈ rows ++ rowsC ++ K := fun p hp => List.mem_append_right _ hp
          clear N8 F7 N7 F5 N6 q1 q2 sepK hsepC hsep2 hsep dL sZ nT o57 oL6
          generalize rows ++ rowsC ++ K = Z at *
          dsimp only [List.cons_append, List.nil_append] at N9
          have s9 : ∀ p ∈ [(DC, LCg.lst (as.map Value.ref)), (DL, LCg.lst (rs.map fun r => Value.ref r.x)), (L + 1 + 1, oR), (L + 1, oc1'), (23, tabObj ps), (141, tabObj #[])] ++ Z, p.1 < h9.objs.size := fun p hp => Heap.lt_size (N9 p hp).1
          have f9 : L < h9.objs.size ∧ g.get? h9.objs.size = none := ⟨F9.ns.lt, next_is_new F9⟩
          subst hQg4
          try (refine (?_ : (fun T2 T1 : Prop => T2 → (T2 → T1) → T1) _ _) ?_ (by intro h; dsimp only; exact h); exact fun p _ => p)
          refine st_c s₁ fun tkS5 => ?_
          refine wpAny_execs_cons ?_
          refine gen_q fun Qg5 hQg5 => ?_
          refine wpAny_Assign_Name ?_
          iterate 14 k_extra "w1"
          refine call_len_list (lst_is (N9 (DL, LCg.lst (rs.map fun r => Value.ref r.x)) (by k_mem)).1) (by simp; omega) ?_
          simp only [List.size_toArray, List.length_map, sL]
          iterate 4 k_extra "w1"
          rename_i hR9 tkR tR uR vR hRng FR NR _
          have NR2 := all_cons' (P := fun p : Addr × Obj => hR9.get? p.1 = some p.2 ∧ p.1 ≠ L ∧ g.get? p.1 = none) (a := (h9.objs.size, rngObj xs.length tR uR vR)) ⟨hRng, Nat.ne_of_gt f9.1, f9.2⟩ NR
          change News g L hR9 _ at NR2
          have U : UpdF 141 (tabObj #[]) _ _ := UpdF.tail (p := (h9.objs.size, rngObj xs.length tR uR vR)) (Nat.ne_of_gt (s9 (141, tabObj #[]) (List.mem_append_left _ (by k_mem)))) (UpdF.tail (p := (DC, LCg.lst (as.map Value.ref))) (Ne.symm o56) (UpdF.tail (p := (DL, LCg.lst (rs.map fun r => Value.ref r.x))) (Ne.symm oL5) (UpdF.tail (p := (L + 1 + 1, oR)) (Nat.ne_of_gt (Nat.lt_succ_of_lt (Nat.lt_succ_of_lt z141))) (UpdF.tail (p := (L + 1, oc1')) (Nat.ne_of_gt (Nat.lt_succ_of_lt z141)) (UpdF.tail (p := (23, tabObj ps)) (show (23 : Nat) ≠ 141 by decide) (UpdF.head sZ1))))))
          k_dflt (refine kla_eval rfl ?_)
          k_dflt (refine kla_nest FR NR2 T' codeHd rfl U trivial rfl (by with_unfolding_all rfl) ?_)
          intro f c' ocf vsf tf ctv hf tkf Ff Nf d1f d2f l1f l2f
          dsimp only at Nf
          clear NR2 U NR FR
          iterate 1 k_extra "w1"
          obtain ⟨B, hB⟩ := news_abs Nf
          have mF := mem_at hB 0 rfl
          have mC' := mem_at hB 1 rfl
          have mG := mem_at hB 2 rfl
          have mDC := mem_at hB 3 rfl
          have mDL := mem_at hB 4 rfl
          have mR := mem_at hB 5 rfl
          have mL := mem_at hB 6 rfl
          have m23 := mem_at hB 7 rfl
          have m141 := mem_at hB 8 rfl
          have mZ : ∀ p ∈ Z, p ∈ B := mem_drop hB 9
          rw [← hB] at Nf
          have hRw : LeadsRows w.params rows rs (xs.map wsx) := hR
          have hRCw : ColsRows rowsC as (xs.map colx) := hRC
          have hW : ∀ c ∈ xs.map colx, c.length = 7 := fun c hc => by obtain ⟨x, _, rfl⟩ := List.mem_map.mp hc; exact colx_len x
          show wpAny _ _ (call (Value.builtin "sorted") [Value.ref _] [(Str.ofString "key", Value.ref f)]) _ _ _
          refine sorted_key (C := C) (ys := ysOf rs) (n := xs.length) (lt := ltN (xs.map colx)) Ff Nf rfl (Nf _ mG).1 (by omega) (by omega) (wo_cols hW) ?hk (cmp_rule X' T' hRw (fun p hp => mZ p (zL p hp)) (fun p hp => mZ p (zK p hp)) hK rfl (Nat.le_of_ble_eq_true rfl) (Nat.le_of_ble_eq_true rfl)) ?ha1 ?ha2 ?hb ?hQ
          case hb => exact beq_self_eq_true _
          case ha1 => exact args_sorted_key _ _
          case ha2 => exact fun x => args_sort_key _ _
          case hk =>
            intro i t h tk X Q hi F N hX hq
            have e1 : rs[i]? = some (rs[i]'(by omega)) := List.getElem?_eq_getElem _
            refine lam_key (cR := L + 1 + 1) (cL := L + 1) (items := rs.map fun r => Value.ref r.x) (y := ysOf rs i) (s := { s₁ with heap := h, toks := tk }) T' F.keep (N _ (hX _ mF)).1 ⟨c', ocf, vsf, tf, rfl, (N _ (hX _ mC')).1, d1f, d2f⟩
              ⟨oR, (N _ (hX _ mR)).1, dR⟩ ⟨oc1', (N _ (hX _ mL)).1, dL'⟩ (kcls_of (fun p hp => (N p (hX p (mZ p (zK p hp)))).1) hK) (lst_is (N _ (hX _ mDL)).1) (by rw [List.getElem?_map, e1, ysOf_at e1]; rfl) (by omega) rfl (by rfl) (by rfl) (by rfl) (by rfl) (by rfl) rfl rfl rfl (by decide) (by k_room) (fun _ => rfl) (fun _ => Nat.le_of_ble_eq_true rfl) (fun _ => Nat.le_of_ble_eq_true rfl) hq
          case hQ =>
            intro DR hr tkr pr vr kr ar asc hvr Fr9 Nr9 sepR
            have hrow : IntsAre vr (laid (xs.map colx) (xs.map colx).length) := by
              rw [← row_is hW (p := pr) (by rw [List.length_map]; exact ar) (by rw [List.length_map]; exact asc)]
              exact hvr
            clear Nf Ff mF mC' mG hB asc ar hvr
            k_extra "w1"
            rename_i hS FS NS
            obtain ⟨B1, hB1⟩ := news_abs NS
            have up : ∀ p ∈ B, p ∈ B1 := mem_drop hB1 1
            have LBw : LawB w B1 L DC DL DR C xs := LawB.of hRw hRCw hK hrow (up _ mDL) (up _ mDC) (mem_at hB1 0 rfl) (up _ mR) dR (up _ mL) dL' (fun p hp => up p (mZ p (zL p hp))) (fun p hp => up p (mZ p (zC p hp))) (fun p hp => up p (mZ p (zK p hp)))
            have n23 := up _ m23
            have n141 := up _ m141
            subst hB1
            have hvr : vr.length = xs.length := by rw [hrow.length, laid_len, List.length_map]
            clear up mDC mDL mR mL m23 m141 mZ zL zC zK hRw hRCw hK hR hRC sL sC dR dL' sZ1 sepR
            subst hQg5
            try (refine (?_ : (fun T2 T1 : Prop => T2 → (T2 → T1) → T1) _ _) ?_ (by intro h; dsimp only; exact h); exact fun p _ => p)
            refine st_c s₁ fun tkS6 => ?_
            refine wpAny_execs_cons ?_
            refine gen_q fun Qg6 hQg6 => ?_
            iterate 14 k_extra "w1"
            refine wpAny_execs_nil ?_
            subst hQg6
            try (refine (?_ : (fun T2 T1 : Prop => T2 → (T2 → T1) → T1) _ _) ?_ (by intro h; dsimp only; exact h); exact fun p _ => p)
            refine st_c s₁ fun tkS7 => ?_
            refine wpAny_execs_cons ?_
            refine gen_q fun Qg7 hQg7 => ?_
            iterate 12 k_extra "w1"
            iterate 34 k_extra "w1"
            have pr1 := ‹PairRows _ _ vr.toArray (List.drop 1 vr).toArray _›
            have pr2 := ‹PairRows _ _ (List.drop 1 vr).toArray vr.toArray _›
            have l1 := pr1.len
            have l2 := pr2.len
            k_extra "w1"
            rename_i D3 hP FP NP
            obtain ⟨B2, hB2⟩ := news_abs NP
            have mD3 := mem_at hB2 0 rfl
            have up : ∀ p ∈ (DR, W.listOf vr.toArray kr) :: B, p ∈ B2 := fun p hp => by
              rw [hB2]
              rcases List.mem_cons.mp hp with e | e <;> simp [e]
            have PL := PairsL.of (B := B2) pr1 pr2 (fun p hp => by rw [hB2]; simp [hp]) (fun p hp => by rw [hB2]; simp [hp])
            rw [← List.map_append] at mD3
            rw [← hB2] at NP
            obtain ⟨T12, mD3, PL⟩ : ∃ T12, (D3, W.listOf (List.map Value.ref T12).toArray 0) ∈ B2 ∧ PairsL B2 T12 vr := ⟨_, mD3, PL⟩
            replace LBw := LBw.up up
            replace n23 := up _ n23
            replace n141 := up _ n141
            clear hB2 up pr1 pr2
            refine listP (keepL := [(D3, W.listOf (List.map Value.ref T12).toArray 0)]) (fun i m nx => nx = B2 ∧ m (Str.ofString "columns") = some (.ref DC) ∧ m (Str.ofString "row") = some (.ref DR)) rfl (PySem.IsL.isList (n := 0) (NP _ mD3).1) (.inr ⟨_, List.mem_singleton.mpr rfl⟩) FP NP ⟨rfl, rfl, rfl⟩ ?hkp ?turn ?done rfl ?hrefs
            case hkp =>
              rintro i m nx ⟨rfl, _, _⟩ q hq
              rw [List.mem_singleton.mp hq]
              exact mD3
            case hrefs =>
              intro v hv
              refine by_goal fun Gg hGg => ?_
              obtain ⟨T, _, rfl⟩ := List.mem_map.mp hv
              refine hGg ?_
              clear hGg Gg
              exact ⟨T, rfl⟩
            case turn =>
              rintro i v m₁ nx h₇ tk₇ I₇ o₇ hv ⟨rfl, hmc, hmr⟩ hne F₇ N₇
              refine by_goal fun Gg hGg => ?_
              obtain ⟨T₇, a₇, b₇, ta₇, tb₇, rfl, hT₇, hnb⟩ := pair_use PL hrow N₇ (fun p hp => List.mem_cons_of_mem _ hp) hv
              refine hGg ?_
              clear hGg Gg
              replace F₇ := fr_ps' (ps := [(Str.ofString "columns", .ref DC), (Str.ofString "row", .ref DR)]) (List.forall_mem_cons.mpr ⟨hmc, List.forall_mem_cons.mpr ⟨hmr, List.forall_mem_nil _⟩⟩) F₇
              change Fr g L _ _ at F₇
              change News g L _ _ at N₇
              (refine (?_ : (fun T2 T1 : Prop => T2 → (T2 → T1) → T1) _ _) ?_ (by intro h; dsimp only; exact h); exact fun p _ => p)
              have hlaid := laid_mem (cols := xs.map colx) (xs.map colx).length
              have hab : (0 ≤ a₇ ∧ a₇.toNat < xs.length) ∧ (0 ≤ b₇ ∧ b₇.toNat < xs.length) := by
                rw [List.length_map] at hlaid
                have q : ∀ k ∈ laid (xs.map colx) xs.length, 0 ≤ k ∧ k.toNat < xs.length := fun k hk => ⟨(hlaid k hk).1, by have := hlaid k hk; omega⟩
                rw [List.length_map] at hnb
                obtain ⟨i, ⟨e1, e2⟩ | ⟨e1, e2⟩⟩ := hnb
                · exact ⟨q _ (List.mem_of_getElem? e1), q _ (List.mem_of_getElem? e2)⟩
                · exact ⟨q _ (List.mem_of_getElem? e2), q _ (List.mem_of_getElem? e1)⟩
              clear hlaid
              iterate 16 k_extra "w1"
              refine eval_key T' (by assumption) (by assumption) LBw (fun q hq => List.mem_cons_of_mem _ hq) (x := Str.ofString "m") (i := a₇) (by rfl) hab.1.1 hab.1.2 (by omega) rfl (Nat.le_of_ble_eq_true rfl) (Nat.le_of_ble_eq_true rfl) ?_ (by decide) rfl rfl (by rfl) (by rfl) (by rfl) (by rfl) (by rfl)
              intro h₉ tk₉ y₉ dx₉ r₉ _ F₉ N₉ W₉
              k_extra "w1"
              refine eval_key T' F₉ N₉ LBw (fun q hq => by repeat (first | exact hq | refine List.Mem.tail _ ?_)) (x := Str.ofString "k") (i := b₇) (by rfl) hab.2.1 hab.2.2 (by omega) rfl (Nat.le_of_ble_eq_true rfl) (Nat.le_of_ble_eq_true rfl) ?_ (by decide) rfl rfl (by rfl) (by rfl) (by rfl) (by rfl) (by rfl)
              intro h₁₀ tk₁₀ y₁₀ dx₁₀ r₁₀ O₁₀ F₁₀ N₁₀ W₁₀
              have W₉' : WsAt w.params g h₁₀ r₉ (wsx (xs.getD a₇.toNat 0)) := ⟨W₉.1.over O₁₀, W₉.2⟩
              k_extra "w1"
              k_extra "w1"
              refine use_answers_keys X' T' F₁₀ N₁₀ LBw (fun q hq => by repeat (first | exact hq | refine List.Mem.tail _ ?_)) (dx := dx₉) (dy := dx₁₀) (r := r₉) (r' := r₁₀) (by k_mem) (by k_mem) (by k_mem) (by k_mem) W₉' W₁₀ rfl (Nat.le_of_ble_eq_true rfl) (Nat.le_of_ble_eq_true rfl) ?_
              intro h₁₁ tk₁₁ l₁₁ F₁₁ N₁₁ hl₁₁
              refine by_goal fun Gg hGg => ?_
              obtain ⟨⟨ha0, ha1⟩, hb0, hb1⟩ := hab
              refine hGg ?_
              clear hGg Gg
              iterate 7 k_extra "w1"
              refine item_col N₁₁ LBw (fun q hq => by repeat (first | exact hq | refine List.Mem.tail _ ?_)) ha0 ha1 (by omega) ?_
              intro a₁₂ ia
              iterate 4 k_extra "w1"
              refine item_col N₁₁ LBw (fun q hq => by repeat (first | exact hq | refine List.Mem.tail _ ?_)) hb0 hb1 (by omega) ?_
              intro b₁₂ ib
              k_extra "w1"
              k_extra "w1"
              refine use_answers_cols X' T' F₁₁ N₁₁ ia ib (by rw [colx_len, colx_len]) (colx_len _) rfl (Nat.le_of_ble_eq_true rfl) (Nat.le_of_ble_eq_true rfl) ?_
              intro h₁₂ tk₁₂ l₁₂ O₁₂ F₁₂ N₁₂ hl₁₂
              refine cmp_bools (bs := ansK (wsx (xs.getD a₇.toNat 0)) (wsx (xs.getD b₇.toNat 0))) (cs := ansC (colx (xs.getD a₇.toNat 0)) (colx (xs.getD b₇.toNat 0))) (hl₁₁.at fun o e => O₁₂ _ _ e) hl₁₂ rfl (Nat.le_of_ble_eq_true rfl) ?_
              rw [ans_same, beq_self_eq_true, Bool.not_true]
              iterate 2 k_extra "w1"
              refine wpAny_execs_nil ?_
              refine wpAny_execs_nil ?_
              (refine (?_ : (fun T2 T1 : Prop => T2 → (T2 → T1) → T1) _ _) ?_ (by intro h; dsimp only [InvPostL]; exact h); exact fun p _ => p)
              refine ⟨_, _, _, _, nx, rfl, F₁₂, N₁₂, fun q hq => by repeat (first | exact hq | refine List.Mem.tail _ ?_), by k_mem, hne, rfl, ?_, ?_⟩
              · rfl
              · rfl
            case done =>
              rintro m₁ nx h₈ tk₈ ⟨rfl, hmc, hmr⟩ F₈ N₈
              replace F₈ := fr_ps' (ps := [(Str.ofString "columns", .ref DC), (Str.ofString "row", .ref DR)]) (List.forall_mem_cons.mpr ⟨hmc, List.forall_mem_cons.mpr ⟨hmr, List.forall_mem_nil _⟩⟩) F₈
              change Fr g L _ _ at F₈
              change News g L _ _ at N₈
              (refine (?_ : (fun T2 T1 : Prop => T2 → (T2 → T1) → T1) _ _) ?_ (by intro h; dsimp only; exact h); exact fun p _ => p)
              subst hQg7
              try (refine (?_ : (fun T2 T1 : Prop => T2 → (T2 → T1) → T1) _ _) ?_ (by intro h; dsimp only; exact h); exact fun p _ => p)
              refine st_c s₁ fun tkS8 => ?_
              refine wpAny_execs_cons ?_
              refine gen_q fun Qg8 hQg8 => ?_
              iterate 5 k_extra "w1"
              refine wpAny_Name (wpAny_loadName_cell (by rfl) (by rfl) (by rfl) (LBw.lcell N₈) ?_) (by decide)
              iterate 2 k_extra "w1"
              obtain ⟨k₀, row, hrow'⟩ : ∃ k₀ row, laid (xs.map colx) (xs.map colx).length = k₀ :: row := by
                have hll : (laid (xs.map colx) (xs.map colx).length).length = xs.length := by rw [laid_len, List.length_map]
                cases e : laid (xs.map colx) (xs.map colx).length with
                | nil => rw [e] at hll; simp only [List.length_nil] at hll; first | exact t_l9 (by assumption) hll | omega
                | cons a b => exact ⟨a, b, rfl⟩
              iterate 2 k_extra "w1"
              refine use_parts hrow' X' T' F₈ N₈ LBw (fun q hq => hq) (by omega) rfl (Nat.le_of_ble_eq_true rfl) (Nat.le_of_ble_eq_true rfl) ?_
              intro hp tkp DP np as rowsP FP' NP' hPR djP
              obtain ⟨B3, hB3⟩ := news_abs NP'
              have mDP := mem_at hB3 0 rfl
              have up3 : ∀ p ∈ nx, p ∈ B3 := fun p hp => by rw [hB3]; exact List.mem_append_right _ hp
              have upP : ∀ p ∈ rowsP, p ∈ B3 := fun p hp => by rw [hB3]; exact List.mem_append_left _ (List.mem_cons_of_mem _ hp)
              rw [← hB3] at NP'
              clear hB3 djP
              replace LBw := LBw.up up3
              replace n23 := up3 _ n23
              replace n141 := up3 _ n141
              clear up3
              k_extra "w1"
              subst hQg8
              try (refine (?_ : (fun T2 T1 : Prop => T2 → (T2 → T1) → T1) _ _) ?_ (by intro h; dsimp only; exact h); exact fun p _ => p)
              k_extra "w1"
              refine gen_q fun Qg8 hQg8 => ?_
              k_extra "w1"
              have hok := parts_ok hxl hrow'
              rename_i h9 F9 N9
              k_dflt (refine for_any ?_ (by intro _; rfl))
              iterate 1 k_extra "w1"
              refine listC (keepL := [(DP, W.listOf (as.map Value.ref).toArray np)]) (fun i m nx => nx = B3 ∧ m (Str.ofString "columns") = some (.ref DC) ∧ m (Str.ofString "parts") = some (.ref DP)) rfl ⟨_, (N9 _ mDP).1, rfl, _, rfl⟩ (.inr ⟨_, List.mem_singleton.mpr rfl⟩) F9 N9 ⟨rfl, rfl, rfl⟩ ?hkp9 ?turn9 ?done9 (by intros; rfl)
              case hkp9 =>
                rintro i m nx ⟨rfl, _, _⟩ q hq
                rw [List.mem_singleton.mp hq]
                exact mDP
              case turn9 =>
                rintro i v m₁ nx h₇ tk₇ I₇ o₇ hv ⟨rfl, hmc, hmr⟩ hne F₇ N₇
                refine by_goal fun Gg hGg => ?_
                obtain ⟨a₇, q₇, vs₇, n₇, rfl, hq₇, hi₇, hm₇⟩ := hPR.one hv
                refine hGg ?_
                clear hGg Gg
                replace F₇ := fr_ps' (ps := [(Str.ofString "columns", .ref DC), (Str.ofString "parts", .ref DP)]) (List.forall_mem_cons.mpr ⟨hmc, List.forall_mem_cons.mpr ⟨hmr, List.forall_mem_nil _⟩⟩) F₇
                change Fr g L _ _ at F₇
                change News g L _ _ at N₇
                (refine (?_ : (fun T2 T1 : Prop => T2 → (T2 → T1) → T1) _ _) ?_ (by intro h; dsimp only; exact h); exact fun p _ => p)
                iterate 16 k_extra "w1"
                rename_i h9b F9b N9b
                have hmq : q₇ ∈ partsOf (xs.map wsx) k₀ row := List.mem_of_getElem? hq₇
                refine use_order X' T' F9b N9b LBw (fun q hq => List.mem_cons_of_mem _ hq) ⟨vs₇, ⟨_, (N9b _ (List.mem_cons_of_mem _ (upP _ hm₇))).1, rfl, _, rfl⟩, hi₇⟩ (by omega) (hok.bnd q₇ hmq) (Nat.lt_of_le_of_lt (hok.len q₇ hmq) (by decide)) rfl (Nat.le_of_ble_eq_true rfl) (Nat.le_of_ble_eq_true rfl) ?_
                intro h9c tk9c F9c N9c
                rw [hok.one q₇ hmq]
                iterate 3 k_extra "w1"
                refine wpAny_execs_nil ?_
                (refine (?_ : (fun T2 T1 : Prop => T2 → (T2 → T1) → T1) _ _) ?_ (by intro h; dsimp only [InvPostL]; exact h); exact fun p _ => p)
                exact ⟨_, _, _, _, nx, rfl, F9c, N9c, fun q hq => List.mem_cons_of_mem _ hq, List.mem_cons_self, hne, rfl, rfl, rfl⟩
              case done9 =>
                rintro m₁ nx h₈ tk₈ ⟨rfl, hmc, hmr⟩ F₈ N₈
                replace F₈ := fr_ps' (ps := [(Str.ofString "columns", .ref DC), (Str.ofString "parts", .ref DP)]) (List.forall_mem_cons.mpr ⟨hmc, List.forall_mem_cons.mpr ⟨hmr, List.forall_mem_nil _⟩⟩) F₈
                change Fr g L _ _ at F₈
                change News g L _ _ at N₈
                (refine (?_ : (fun T2 T1 : Prop => T2 → (T2 → T1) → T1) _ _) ?_ (by intro h; dsimp only; exact h); exact fun p _ => p)
                subst hQg8
                try (refine (?_ : (fun T2 T1 : Prop => T2 → (T2 → T1) → T1) _ _) ?_ (by intro h; dsimp only; exact h); exact fun p _ => p)
                refine st_c s₁ fun tkS9 => ?_
                refine wpAny_execs_cons ?_
                refine gen_q fun Qg9 hQg9 => ?_
                k_dflt (refine for_any ?_ (by intro _; rfl))
                iterate 13 k_extra "w1"
                have hasl : (as.map Value.ref).length ≤ 9 := by rw [List.length_map, hPR.1]; exact hok.num
                refine slice_1 F₈ N₈ ⟨_, (N₈ _ mDP).1, rfl, _, rfl⟩ (by omega) ?_ (by with_unfolding_all rfl) (by intro _; with_unfolding_all rfl)
                intro h10 S10 F10 N10
                iterate 1 k_extra "w1"
                refine use_zip ⟨_, (N10 _ (List.mem_cons_of_mem _ mDP)).1, rfl, _, rfl⟩ ⟨_, (N10 _ List.mem_cons_self).1, rfl, _, rfl⟩ F10 N10 ?_
                intro h11 z11 F11 N11 Z11
                refine zipC (n := as.length - 1) (fun _ m => m (Str.ofString "columns") = some (.ref DC)) rfl F11 N11 Z11 (by simp) ⟨_, List.mem_cons_of_mem _ mDP⟩ ⟨_, List.mem_cons_self⟩ rfl ?turn10 ?done10 rfl
                case turn10 =>
                  rintro i T₇ x₇ y₇ m₁ Zs h₇ tk₇ hx₇ hy₇ hmc F₇ N₇ hT₇
                  refine by_goal fun Gg hGg => ?_
                  obtain ⟨a₇, q₇, vs₇, n₇, rfl, hq₇, hi₇, hm₇⟩ := hPR.one hx₇
                  refine hGg ?_
                  clear hGg Gg
                  rw [List.getElem?_drop, Nat.add_comm] at hy₇
                  refine by_goal fun Gg hGg => ?_
                  obtain ⟨b₇, r₇, us₇, k₇, rfl, hr₇, hj₇, hn₇⟩ := hPR.one hy₇
                  refine hGg ?_
                  clear hGg Gg
                  replace F₇ := fr_ps' (ps := [(Str.ofString "columns", .ref DC)]) (List.forall_mem_cons.mpr ⟨hmc, List.forall_mem_nil _⟩) F₇
                  change Fr g L _ _ at F₇
                  change News g L _ _ at N₇
                  (refine (?_ : (fun T2 T1 : Prop => T2 → (T2 → T1) → T1) _ _) ?_ (by intro h; dsimp only; exact h); exact fun p _ => p)
                  have upZ : ∀ q ∈ nx, q ∈ Zs ++ (S10, W.listOf (List.drop 1 (as.map Value.ref)).toArray 0) :: nx := fun q hq => List.mem_append_right _ (List.mem_cons_of_mem _ hq)
                  have mq₇ := List.mem_of_getElem? hq₇
                  have mr₇ := List.mem_of_getElem? hr₇
                  have lq₇ := hok.len _ mq₇
                  have lr₇ := hok.len _ mr₇
                  have lv₇ := hi₇.length
                  have lu₇ := hj₇.length
                  iterate 21 k_extra "w1"
                  rename_i h13 F13 N13
                  refine add_two F13 N13 ⟨_, (N13 _ (upZ _ (upP _ hm₇))).1, rfl, _, rfl⟩ ⟨_, (N13 _ (upZ _ (upP _ hn₇))).1, rfl, _, rfl⟩ (by omega) ?_
                  intro D14 h14 F14 N14
                  iterate 2 k_extra "w1"
                  refine use_order (part := q₇ ++ r₇) X' T' F14 N14 LBw (fun q hq => List.mem_cons_of_mem _ (upZ _ hq)) ⟨vs₇ ++ us₇, ⟨_, (N14 _ List.mem_cons_self).1, rfl, _, rfl⟩, intsAre_append hi₇ hj₇⟩ (by omega)
                    (fun k hk => (List.mem_append.mp hk).elim (hok.bnd q₇ mq₇ k) (hok.bnd r₇ mr₇ k)) (by rw [List.length_append]; omega) rfl (Nat.le_of_ble_eq_true rfl) (Nat.le_of_ble_eq_true rfl) ?_
                  intro h15 tk15 F15 N15
                  rw [hok.two _ _ _ hq₇ hr₇]
                  iterate 2 k_extra "w1"
                  refine wpAny_execs_nil ?_
                  refine wpAny_execs_nil ?_
                  (refine (?_ : (fun T2 T1 : Prop => T2 → (T2 → T1) → T1) _ _) ?_ (by intro h; dsimp only [InvPostZ]; exact h); exact fun p _ => p)
                  exact ⟨_, _, _, _, rfl, F15, N15, fun q hq => List.mem_cons_of_mem _ hq, rfl⟩
                case done10 =>
                  rintro m₁ h12 tk12 hmc F12 N12
                  replace F12 := fr_ps' (ps := []) (List.forall_mem_nil _) F12
                  change Fr g L _ _ at F12
                  change News g L _ _ at N12
                  (refine (?_ : (fun T2 T1 : Prop => T2 → (T2 → T1) → T1) _ _) ?_ (by intro h; dsimp only; exact h); exact fun p _ => p)
                  subst hQg9
                  try (refine (?_ : (fun T2 T1 : Prop => T2 → (T2 → T1) → T1) _ _) ?_ (by intro h; dsimp only; exact h); exact fun p _ => p)
                  refine st_c s₁ fun tkS10 => ?_
                  refine wpAny_execs_cons ?_
                  refine gen_q fun Qg10 hQg10 => ?_
                  iterate 2 k_extra "w1"
                  subst hQg10
                  try (refine (?_ : (fun T2 T1 : Prop => T2 → (T2 → T1) → T1) _ _) ?_ (by intro h; dsimp only; exact h); exact fun p _ => p)
                  subst hQ₀
                  exact ⟨_, _, _, _, ps, _, rfl, rfl, F12, N12, List.mem_cons_of_mem _ n23, List.mem_cons_of_mem _ n141⟩)
theorem law_w : PySem.Challenge.rw_mq0248_01.Holds := rw2_eq law_v
end Mine
end
section
open PySem PySem.W PySem.Calls PyProof.Rows
theorem Mine.fresh_L2 {prog : Program} {w : World} {A : Around} {env : Env} {Q : Flow → Shared → Prop} {E : Value → Shared → Prop} {s : Shared} (h : Q .next s) : wpAny (model prog w) A (execs [] env) Q E s := by
  w_top off
  k_with_none
  walk1
  exact h
end
theorem PySem.Challenge.cw_mq0248_01_holds : PySem.Challenge.rw_mq0248_01.Holds :=
  Mine.law_w
