import PyProof.Rows.All
import Wide.All
import OpenK.AllK
import Wide.FinOn
import PySem.Challenge.RW_sn0056_01
set_option Elab.async false
set_option linter.all false
set_option compiler.extract_closed false
namespace Mine
section
open PySem PySem.W PyProof.Rows
set_option compiler.extract_closed false
theorem r0 {d a c : Nat} (h : d + a < c) : d < c := Nat.lt_of_le_of_lt (Nat.le_add_right d a) h
theorem r1 {d a c i : Nat} (h : d + a < c) (e : Nat.ble i a = true) : d + i < c := Nat.lt_of_le_of_lt (Nat.add_le_add_left (Nat.le_of_ble_eq_true e) d) h
theorem r2 {d a c i j : Nat} (h : d + a < c) (e : Nat.ble (i + j) a = true) : d + i + j < c := Nat.add_assoc d i j ▸ r1 h e
theorem nle {d k m : Nat} (h : d ≤ k) (e : Nat.ble k m = true) : d ≤ m := Nat.le_trans h (Nat.le_of_ble_eq_true e)
theorem o1 (a : Nat) : a < a + 1 := by omega
theorem o2 (a : Nat) : a < a + 1 + 1 := by omega
theorem o3 (a : Nat) : a < a + 1 + 1 + 1 := by omega
theorem o4 (a : Nat) : a < a + 1 + 1 + 1 + 1 := by omega
theorem o5 (a : Nat) : a < a + 1 + 1 + 1 + 1 + 1 := by omega
theorem z63 {d k : Nat} (h : d < k) (e : Nat.ble k 9223372036854775808 = true) : (d : Int) < 2 ^ 63 := by have := Nat.le_of_ble_eq_true e; omega
theorem mc {α : Type} {P : α → Prop} {q a : α} {l : List α} (h : q ∈ a :: l) (h1 : P a) (h2 : q ∈ l → P q) : P q := (List.mem_cons.mp h).elim (fun e => e ▸ h1) h2
theorem ma {α : Type} {C : Prop} {q : α} {a b : List α} (h : q ∈ a ++ b) (h1 : q ∈ a → C) (h2 : q ∈ b → C) : C := (List.mem_append.mp h).elim h1 h2
/-- some things are so, told by what follows from them -/
def Cps (P : Prop → Prop) : Prop := ∀ C : Prop, P C → C
theorem fa {α : Type} {P : α → Prop} {a : α} {l : List α} (h : P a) (t : ∀ q, q ∈ l → P q) : ∀ q, q ∈ a :: l → P q := fun q hq => (List.mem_cons.mp hq).elim (fun e => e ▸ h) (t q)
theorem fapp {α : Type} {P : α → Prop} {a b : List α} (h : ∀ q, q ∈ a → P q) (t : ∀ q, q ∈ b → P q) : ∀ q, q ∈ a ++ b → P q := fun q hq => (List.mem_append.mp hq).elim (h q) (t q)
section
variable {M : Model} {A : Around} {E : Value → Shared → Prop} {s : Shared} {h₀ : Heap} {L a : Addr} {m : Str → Option Value} {cn : Str} {cs : Scope} {ccd : Value} {cl : List (Str × Addr)} {x : Str} {v : Value} {Q : Unit → Shared → Prop} {news : List (Addr × Obj)}
/-- a store into the frame; the frame's map by a name -/
theorem stl (F : Fr h₀ L s.heap m) (N : News h₀ L s.heap news) (h : let m' := fun y => if y = x then some v else m y; ∀ h', Fr h₀ L h' m' → News h₀ L h' news → Q () { s with heap := h', toks := s.toks + 1 })
    (hk : cs.kind = .function := by rfl) (hx : (envX cn cs L a ccd cl).kindOf x = some .local := by rfl) : wpAny M A (storeName (envX cn cs L a ccd cl) x v) Q E s := storeX_L F N h hk hx
end
/-! arithmetic by hand -/
theorem s2a {j l : Nat} (h : j < l) (m : l ≤ 100) : 200 - (j + 1) < 200 - j := Nat.sub_lt_sub_left (Nat.lt_of_lt_of_le h (Nat.le_trans m (by decide))) (Nat.lt_succ_self j)
theorem jn {j n a l : Nat} (h : j < n) (k : a + n < l) : j < l := Nat.lt_trans h (Nat.lt_of_le_of_lt (Nat.le_add_left n a) k)
theorem l16 {t c j l : Nat} (hc : c = 1) (ht : t ≤ j) (hj : j < l) (m : l ≤ 100) : t + c ≤ 16777216 := hc ▸ Nat.le_trans (Nat.succ_le_succ ht) (Nat.le_trans hj (Nat.le_trans m (by decide)))
theorem sub1 {a b k : Nat} (h : a - b = k + 1) : a - (b + 1) = k := congrArg Nat.pred h
theorem sub0 {a b : Nat} (h : a - b = 0) (k : b ≤ a) : b = a := Nat.le_antisymm k (Nat.le_of_sub_eq_zero h)
theorem subl {n i : Nat} (h : i < n) : n + 1 - (i + 1) < n + 1 - i := Nat.sub_lt_sub_left (Nat.lt_succ_of_lt h) (Nat.lt_succ_self i)
theorem tm2 {q s l o : Nat} (hq : q < 3) (h1 : s ≤ 6) (h2 : l ≤ 6) (h3 : o ≤ 6) : 75 - 4 * (l + o + s) - (q + 1) < 75 - 4 * (s + l + o) - q := by
  rw [Nat.add_comm (l + o) s, ← Nat.add_assoc s l o]
  exact Nat.sub_lt_sub_left (Nat.lt_of_lt_of_le hq (Nat.sub_le_sub_left (Nat.mul_le_mul_left 4 (Nat.add_le_add (Nat.add_le_add h1 h2) h3)) 75)) (Nat.lt_succ_self q)
theorem tm5 {q s l l' o : Nat} (hq : q < 3) (h1 : s ≤ 6) (h2 : l' ≤ 6) (h3 : o ≤ 6) (hl : l < l') : 75 - 4 * (l' + o + s) - 0 < 75 - 4 * (s + l + o) - q := by
  rw [Nat.add_comm (l' + o) s, ← Nat.add_assoc s l' o, Nat.sub_zero]
  refine Nat.lt_of_le_of_lt (Nat.sub_le_sub_left (Nat.mul_le_mul_left 4 (Nat.add_le_add_right (Nat.add_le_add_left hl s) o) : 4 * (s + (l + 1) + o) ≤ 4 * (s + l' + o)) 75) ?_
  rw [show 4 * (s + (l + 1) + o) = 4 * (s + l + o) + 4 from congrArg (4 * ·) (Nat.succ_add (s + l) o), Nat.sub_add_eq]
  exact Nat.sub_lt_sub_left (Nat.lt_of_lt_of_le hq (Nat.sub_le_sub_left (Nat.mul_le_mul_left 4 (Nat.add_le_add (Nat.add_le_add h1 (Nat.le_of_lt (Nat.lt_of_lt_of_le hl h2))) h3)) 75)) (Nat.lt_succ_of_lt hq)
theorem mx3_lt {a b c k : Nat} (h0 : a < k) (h1 : b < k) (h2 : c < k) : max a (max b c) < k := Nat.max_lt.mpr ⟨h0, Nat.max_lt.mpr ⟨h1, h2⟩⟩
theorem mn3_lt {a k : Nat} (b c : Nat) (h0 : a < k) : min a (min b c) < k := Nat.lt_of_le_of_lt (Nat.min_le_left _ _) h0
theorem mn_mx (a b c : Nat) : min a (min b c) ≤ max a (max b c) := Nat.le_trans (Nat.min_le_left _ _) (Nat.le_max_left _ _)
theorem cmin2 (a b : Nat) : ((min a b : Nat) : Int) = min (a : Int) b := (Nat.le_total a b).elim (fun h => by rw [Nat.min_eq_left h, Int.min_eq_left (Int.ofNat_le.mpr h)]) fun h => by rw [Nat.min_eq_right h, Int.min_eq_right (Int.ofNat_le.mpr h)]
theorem cmax2 (a b : Nat) : ((max a b : Nat) : Int) = max (a : Int) b := (Nat.le_total a b).elim (fun h => by rw [Nat.max_eq_right h, Int.max_eq_right (Int.ofNat_le.mpr h)]) fun h => by rw [Nat.max_eq_left h, Int.max_eq_left (Int.ofNat_le.mpr h)]
theorem cmin {a b c m : Nat} {x y z : Int} (hx : x = a) (hy : y = b) (hz : z = c) (hm : m = min a (min b c)) : (m : Int) = min x (min y z) := by rw [hm, hx, hy, hz, cmin2, cmin2]
theorem cmax {a b c m : Nat} {x y z : Int} (hx : x = a) (hy : y = b) (hz : z = c) (hm : m = max a (max b c)) : (m : Int) = max x (max y z) := by rw [hm, hx, hy, hz, cmax2, cmax2]
theorem seg_sub {lo M hi : Nat} (h1 : lo < M) (h2 : M < hi) : hi - lo = (M - lo) + (hi - M) := ((Nat.add_comm _ _).trans (Nat.sub_add_sub_cancel (Nat.le_of_lt h2) (Nat.le_of_lt h1))).symm
theorem lt3 {y : Int} (h0 : 0 ≤ y) (h : y < 3) : y = 0 ∨ y = 1 ∨ y = 2 := match y, h0, h with
  | .ofNat 0, _, _ => .inl rfl
  | .ofNat 1, _, _ => .inr (.inl rfl)
  | .ofNat 2, _, _ => .inr (.inr rfl)
  | .ofNat (n + 3), _, h => absurd (Int.ofNat_lt.mp h) (Nat.not_lt.mpr (Nat.le_add_left 3 n))
theorem lt2 {y : Int} (h0 : 0 ≤ y) (h : y < 2) : y = 0 ∨ y = 1 := match y, h0, h with
  | .ofNat 0, _, _ => .inl rfl
  | .ofNat 1, _, _ => .inr rfl
  | .ofNat (n + 2), _, h => absurd (Int.ofNat_lt.mp h) (Nat.not_lt.mpr (Nat.le_add_left 2 n))
theorem toN {y : Int} (h0 : 0 ≤ y) : y = (y.toNat : Int) := (Int.toNat_of_nonneg h0).symm
theorem toN_lt {y : Int} {k : Nat} (h0 : 0 ≤ y) (h : y < k) : y.toNat < k := (Int.toNat_lt h0).mpr h
theorem i4 (a b c d : Int) : a + b + (c + d) = a + c + (b + d) := by rw [Int.add_assoc, Int.add_assoc, Int.add_left_comm b c d]
theorem max3_eq {x y z M : Int} (hx : x ≤ M) (hy : y ≤ M) (hz : z ≤ M) (h : M = x ∨ M = y ∨ M = z) : M = max x (max y z) :=
  Int.le_antisymm (h.elim (fun e => e ▸ Int.le_max_left _ _) fun h => Int.le_trans (h.elim (fun e => e ▸ Int.le_max_left _ _) fun e => e ▸ Int.le_max_right _ _) (Int.le_max_right _ _)) (Int.max_le.mpr ⟨hx, Int.max_le.mpr ⟨hy, hz⟩⟩)
theorem min3_eq {x y z M : Int} (hx : M ≤ x) (hy : M ≤ y) (hz : M ≤ z) (h : M = x ∨ M = y ∨ M = z) : M = min x (min y z) :=
  Int.le_antisymm (Int.le_min.mpr ⟨hx, Int.le_min.mpr ⟨hy, hz⟩⟩) (h.elim (fun e => e ▸ Int.min_le_left _ _) fun h => Int.le_trans (Int.min_le_right _ _) (h.elim (fun e => e ▸ Int.min_le_left _ _) fun e => e ▸ Int.min_le_right _ _))
theorem mxa {a b c : Nat} (h : b ≤ a) (k : c ≤ a) : max a (max b c) = a := Nat.max_eq_left (Nat.max_le.mpr ⟨h, k⟩)
theorem mxb {a b c : Nat} (h : a ≤ b) (k : c ≤ b) : max a (max b c) = b := (congrArg (max a) (Nat.max_eq_left k)).trans (Nat.max_eq_right h)
theorem mxc {a b c : Nat} (h : a ≤ c) (k : b ≤ c) : max a (max b c) = c := (congrArg (max a) (Nat.max_eq_right k)).trans (Nat.max_eq_right h)
theorem mna {a b c : Nat} (h : a ≤ b) (k : a ≤ c) : min a (min b c) = a := Nat.min_eq_left (Nat.le_min.mpr ⟨h, k⟩)
theorem mnb {a b c : Nat} (h : b ≤ a) (k : b ≤ c) : min a (min b c) = b := (congrArg (min a) (Nat.min_eq_left k)).trans (Nat.min_eq_right h)
theorem mnc {a b c : Nat} (h : c ≤ a) (k : c ≤ b) : min a (min b c) = c := (congrArg (min a) (Nat.min_eq_right k)).trans (Nat.min_eq_right h)
theorem sl_len (a b : Str) : (a ++ b).length = a.length + b.length := by unfold Str.length; rw [Str.cps_append, Array.size_append]
theorem sl {a b : Str} {k l : Nat} (h : a.length ≤ k) (h' : b.length ≤ l) : (a ++ b).length ≤ k + l := (sl_len a b) ▸ Nat.add_le_add h h'
theorem sla {a b : Str} {k l n : Nat} (h : a.length ≤ n + k) (h' : b.length ≤ l) : (a ++ b).length ≤ n + (k + l) := Nat.add_assoc n k l ▸ sl h h'
theorem sb {a b k l : Nat} (h : a ≤ k) (h' : b ≤ l) (e : Nat.ble (k + l) 16777216 = true) : a + b ≤ 16777216 := Nat.le_trans (Nat.add_le_add h h') (Nat.le_of_ble_eq_true e)
theorem l10 {n i k : Nat} (h : n ≤ 10 * i + k) (e : Nat.ble k 10 = true) : n ≤ 10 * (i + 1) := Nat.le_trans h (Nat.add_le_add_left (Nat.le_of_ble_eq_true e) (10 * i))
theorem bd0 {t : Int} {i : Nat} (h : t < 2000 + 1000000 * (i : Int)) : t < 2000 + 1000000 * ((i + 1 : Nat) : Int) := show t < 2000 + 1000000 * ((i : Int) + 1) from Int.lt_of_lt_of_le h (Int.add_le_add_left (Int.mul_le_mul_of_nonneg_left (Int.le_add_of_nonneg_right (by decide)) (by decide)) _)
theorem bd1 {t f : Int} {i : Nat} (h : t < 2000 + 1000000 * (i : Int)) (hf : f < 1000000) : t + f < 2000 + 1000000 * ((i + 1 : Nat) : Int) := by
  show t + f < 2000 + 1000000 * ((i : Int) + 1)
  rw [Int.mul_add, ← Int.add_assoc]; exact Int.add_lt_add h hf
theorem bd2 {t : Int} {n : Nat} (h : t < 2000 + 1000000 * (n : Int)) (hn : n ≤ 16) : t < 2 ^ 40 := Int.lt_of_lt_of_le h (Int.le_trans (Int.add_le_add_left (Int.mul_le_mul_of_nonneg_left (Int.ofNat_le.mpr hn) (by decide)) 2000) (by decide))
theorem bd3 {t : Int} (n : Nat) (h : t < 2000) : t < 2000 + 1000000 * (n : Int) := Int.lt_of_lt_of_le h (Int.le_add_of_nonneg_right (Int.mul_nonneg (by decide) (Int.natCast_nonneg n)))
open Lean in
/-- the arguments of a rule, a letter each -/
def ag (t : String) : MacroM (TSyntaxArray `term) := do
  let f ← `(tactic| first | assumption | with_reducible assumption | k_asm | k_mem | k_is | (first | with_reducible assumption | rfl) | (first | with_reducible assumption | rfl | (dsimp only; (repeat rw [if_neg (by decide)]); with_reducible assumption) | assumption) | (first | omega | l_fact) | (first | decide | omega) | ktr_room | exact rfl | decide | array_mem_dec | k_upd | k_in | boot_fast | (first | assumption | exact rfl) | decide +kernel | (rw [sizeLine_eq]; omega) | (first | exact BindsTo.of_eq rfl | exact binds_K (by k_in) rfl (by k_is) rfl rfl rfl) | exact codeRec_news (by k_asm) (by k_mem) (by assumption) (by assumption) | exact locs rfl | with_unfolding_all rfl)
  let b ← `(by skip)
  let h ← `(_)
  let g ← `(?_)
  return t.toList.toArray.map fun c => if c == '?' then g else if c == '_' then h else ⟨b.raw.setArg 1 f.raw[1]["xwamsfvoitrDcunbqdzBCLe".toList.idxOf c][1]⟩
open Lean in
/-- these names, with such arguments -/
def al (fs t : String) : MacroM (Array (TSyntax `Lean.Parser.Tactic.tacticSeq)) := do
  let xs ← ag t
  (fs.splitOn " ").toArray.mapM fun f => `(tacticSeq| refine' $(mkIdent f.toName) $xs*)
open Lean in
/-- try these rules in turn -/
def gs (ts : List (String × String)) : MacroM (TSyntax `tactic) := do
  let l ← ts.toArray.mapM fun (f, t) => do `(tacticSeq| refine' $(mkIdent f.toName) $(← ag t)*; k_whole)
  `(tactic| k_dflt (first $[| $l]*))
open Lean in
/-- a pattern: each name with the number of its arguments, ahead of these -/
def pt (t : String) : MacroM Term := do
  let h ← `(_)
  return ((t.splitOn " ").foldr (fun w st => match w.splitOn ":" with | [f, n] => Syntax.mkApp (mkIdent f.toName) (st.take n.toNat!).toArray :: st.drop n.toNat! | _ => h :: st) []).headD h
open Lean in
/-- not one of these -/
def nt (ts : List String) : MacroM (TSyntax `tactic) := do
  let l ← ts.toArray.mapM pt
  `(tactic| fail_if_success (first $[| with_reducible show $l]*))
/-- the rules by their steps -/
def tb : List (String × List (String × String)) := [("eval Name", [("PySem.W.nameX_L", "av?f"), ("PySem.W.nameX_C", "armw?f"), ("PySem.W.nameX_F", "armw?f"), ("PySem.W.nameX_K", "aaas?f"), ("PySem.W.nameX_B", "aaasbD?f")]), ("call builtin:len", [("Mine.len_M", "amo?")]), ("truthy ref", [("Mine.truthy_M", "amo??")]), ("my item", [("Mine.item_M", "amiiw?")]), ("subscriptTail Name Name ref int", [("Mine.item_M", "amiiw?")]), ("subscriptTail Name Constant ref int", [("Mine.item_M", "amiiw?")]), ("my titem", [("Mine.titem_M", "amiirr?")]), ("subscriptTail Call Name cons cons Constant ref int", [("Mine.titem_M", "amiirr?")]), ("subscriptTail Call Name cons nil Constant ref int", [("Mine.titem_M", "amiirr?")]), ("loadName", [("PyProof.Rows.ldn", "av?")]), ("callWith ref", [("PySem.W.callWith_K", "as?"), ("PySem.W.callWith_K0", "ns?")])]
end
section
open PySem PySem.W PyProof.Rows
/-- a statement of the row's program, by its place -/
noncomputable def stA (i : Nat) : PySem.Stmt := PySem.Challenge.pw_sn0056_01.main.body.getD i (.Pass ⟨0, 0, 0, 0⟩)
noncomputable def bOf : PySem.Stmt → List PySem.Stmt
  | .FunctionDef _ _ b _ _ _ _ _ _ _ => b
  | .ClassDef _ _ _ b _ _ _ _ _ _ _ => b
  | _ => []
noncomputable def mtA (i j : Nat) : PySem.Stmt := (bOf (stA i)).getD j (.Pass ⟨0, 0, 0, 0⟩)
noncomputable def aOf : PySem.Stmt → PySem.Arguments
  | .FunctionDef _ a _ _ _ _ _ _ _ _ => a
  | _ => ⟨[], [], none, [], [], none, []⟩
noncomputable def sOf : PySem.Stmt → PySem.Scope
  | .FunctionDef _ _ _ _ _ _ s _ _ _ => s
  | .ClassDef _ _ _ _ _ _ s _ _ _ _ => s
  | _ => PySem.Challenge.pw_sn0056_01.main.scope
/-- the program's statements that matter -/
noncomputable def hd.view_39 : PySem.Program := { PySem.Challenge.pw_sn0056_01 with main := { PySem.Challenge.pw_sn0056_01.main with body := [stA 1, stA 2, stA 3, stA 4, stA 5, stA 6, stA 7, stA 9, stA 10, stA 12, stA 13, stA 14, stA 16, stA 18, stA 19, stA 20, stA 21, stA 22, stA 23, stA 24, stA 25, stA 26, stA 27] } }
/-- the objects that the law reaches -/
noncomputable def hd.heap_39 (P : PySem.Params) : PySem.W.Frag :=
  (nat_lit 2, { cls := PySem.Value.none, data := PySem.Data.dict #[] }) ::
  (nat_lit 3, { cls := PySem.Value.type "dict", data := PySem.Data.dict #[{ hash := PySem.PyData.keyHash P (PySem.Str.ofString "__name__"), key := PySem.Value.str (PySem.Str.ofString "__name__") 165, val := PySem.Value.str (PySem.Str.ofString "law_sn0056_01") 394 }, { hash := PySem.PyData.keyHash P (PySem.Str.ofString "__doc__"), key := PySem.Value.str (PySem.Str.ofString "__doc__") 166, val := PySem.Value.none }, { hash := PySem.PyData.keyHash P (PySem.Str.ofString "__package__"), key := PySem.Value.str (PySem.Str.ofString "__package__") 167, val := PySem.Value.none }, { hash := PySem.PyData.keyHash P (PySem.Str.ofString "__loader__"), key := PySem.Value.str (PySem.Str.ofString "__loader__") 168, val := PySem.Value.builtin "__main__.__loader__#opaque" }, { hash := PySem.PyData.keyHash P (PySem.Str.ofString "__spec__"), key := PySem.Value.str (PySem.Str.ofString "__spec__") 169, val := PySem.Value.none }, { hash := PySem.PyData.keyHash P (PySem.Str.ofString "__annotations__"), key := PySem.Value.str (PySem.Str.ofString "__annotations__") 170, val := PySem.Value.ref 6 }, { hash := PySem.PyData.keyHash P (PySem.Str.ofString "__builtins__"), key := PySem.Value.str (PySem.Str.ofString "__builtins__") 171, val := PySem.Value.ref 4 }, { hash := PySem.PyData.keyHash P (PySem.Str.ofString "__file__"), key := PySem.Value.str (PySem.Str.ofString "__file__") 173, val := PySem.Value.str (PySem.Str.ofString "/claim/cut.py") 172 }, { hash := PySem.PyData.keyHash P (PySem.Str.ofString "__cached__"), key := PySem.Value.str (PySem.Str.ofString "__cached__") 174, val := PySem.Value.none }, { hash := PySem.PyData.keyHash P (PySem.Str.ofString "_DIV_LIMIT"), key := PySem.Value.str (PySem.Str.ofString "_DIV_LIMIT") 190, val := PySem.Value.int 4000 189 }, { hash := PySem.PyData.keyHash P (PySem.Str.ofString "_div2n1n"), key := PySem.Value.str (PySem.Str.ofString "_div2n1n") 207, val := PySem.Value.ref 21 }, { hash := PySem.PyData.keyHash P (PySem.Str.ofString "_div3n2n"), key := PySem.Value.str (PySem.Str.ofString "_div3n2n") 221, val := PySem.Value.ref 28 }, { hash := PySem.PyData.keyHash P (PySem.Str.ofString "_int2digits"), key := PySem.Value.str (PySem.Str.ofString "_int2digits") 232, val := PySem.Value.ref 35 }, { hash := PySem.PyData.keyHash P (PySem.Str.ofString "_digits2int"), key := PySem.Value.str (PySem.Str.ofString "_digits2int") 243, val := PySem.Value.ref 42 }, { hash := PySem.PyData.keyHash P (PySem.Str.ofString "_divmod_pos"), key := PySem.Value.str (PySem.Str.ofString "_divmod_pos") 258, val := PySem.Value.ref 49 }, { hash := PySem.PyData.keyHash P (PySem.Str.ofString "int_divmod"), key := PySem.Value.str (PySem.Str.ofString "int_divmod") 268, val := PySem.Value.ref 56 }, { hash := PySem.PyData.keyHash P (PySem.Str.ofString "rgb_to_hls"), key := PySem.Value.str (PySem.Str.ofString "rgb_to_hls") 289, val := PySem.Value.ref 63 }, { hash := PySem.PyData.keyHash P (PySem.Str.ofString "rgb_to_hsv"), key := PySem.Value.str (PySem.Str.ofString "rgb_to_hsv") 307, val := PySem.Value.ref 70 }, { hash := PySem.PyData.keyHash P (PySem.Str.ofString "ELLIPSIS_MARKER"), key := PySem.Value.str (PySem.Str.ofString "ELLIPSIS_MARKER") 311, val := PySem.Value.str (PySem.Str.ofString "...") 310 }, { hash := PySem.PyData.keyHash P (PySem.Str.ofString "_ellipsis_match"), key := PySem.Value.str (PySem.Str.ofString "_ellipsis_match") 323, val := PySem.Value.ref 77 }, { hash := PySem.PyData.keyHash P (PySem.Str.ofString "_strip_exception_details"), key := PySem.Value.str (PySem.Str.ofString "_strip_exception_details") 333, val := PySem.Value.ref 84 }, { hash := PySem.PyData.keyHash P (PySem.Str.ofString "_netrclex"), key := PySem.Value.str (PySem.Str.ofString "_netrclex") 393, val := PySem.Value.ref 122 }, { hash := PySem.PyData.keyHash P (PySem.Str.ofString "_law_totals"), key := PySem.Value.str (PySem.Str.ofString "_law_totals") 405, val := PySem.Value.ref 133 }, { hash := PySem.PyData.keyHash P (PySem.Str.ofString "_law_day"), key := PySem.Value.str (PySem.Str.ofString "_law_day") 411, val := PySem.Value.ref 138 }, { hash := PySem.PyData.keyHash P (PySem.Str.ofString "_law_order"), key := PySem.Value.str (PySem.Str.ofString "_law_order") 421, val := PySem.Value.ref 145 }, { hash := PySem.PyData.keyHash P (PySem.Str.ofString "_law_written"), key := PySem.Value.str (PySem.Str.ofString "_law_written") 431, val := PySem.Value.ref 152 }, { hash := PySem.PyData.keyHash P (PySem.Str.ofString "_law_queue"), key := PySem.Value.str (PySem.Str.ofString "_law_queue") 445, val := PySem.Value.ref 159 }, { hash := PySem.PyData.keyHash P (PySem.Str.ofString "_law_cells"), key := PySem.Value.str (PySem.Str.ofString "_law_cells") 451, val := PySem.Value.ref 164 }, { hash := PySem.PyData.keyHash P (PySem.Str.ofString "_law_shares"), key := PySem.Value.str (PySem.Str.ofString "_law_shares") 457, val := PySem.Value.ref 169 }, { hash := PySem.PyData.keyHash P (PySem.Str.ofString "_law_talk"), key := PySem.Value.str (PySem.Str.ofString "_law_talk") 474, val := PySem.Value.ref 176 }, { hash := PySem.PyData.keyHash P (PySem.Str.ofString "_law_blocks"), key := PySem.Value.str (PySem.Str.ofString "_law_blocks") 480, val := PySem.Value.ref 181 }, { hash := PySem.PyData.keyHash P (PySem.Str.ofString "law"), key := PySem.Value.str (PySem.Str.ofString "law") 486, val := PySem.Value.ref 186 }] 32 }) ::
  (nat_lit 15, { cls := PySem.Value.type "tuple", data := PySem.Data.seq #[] }) ::
  (nat_lit 17, { cls := PySem.Value.type "tuple", data := PySem.Data.seq #[PySem.Value.str (PySem.Str.ofString "a") 194, PySem.Value.str (PySem.Str.ofString "b") 195, PySem.Value.str (PySem.Str.ofString "n") 196, PySem.Value.str (PySem.Str.ofString "pad") 197, PySem.Value.str (PySem.Str.ofString "half_n") 198, PySem.Value.str (PySem.Str.ofString "mask") 199, PySem.Value.str (PySem.Str.ofString "b1") 200, PySem.Value.str (PySem.Str.ofString "b2") 201, PySem.Value.str (PySem.Str.ofString "q1") 202, PySem.Value.str (PySem.Str.ofString "r") 203, PySem.Value.str (PySem.Str.ofString "q2") 204] }) ::
  (nat_lit 18, { cls := PySem.Value.type "tuple", data := PySem.Data.seq #[] }) ::
  (nat_lit 20, { cls := PySem.Value.type "code", data := PySem.Data.fields #[PySem.Value.str (PySem.Str.ofString "_div2n1n") 191, PySem.Value.str (PySem.Str.ofString "_div2n1n") 192, PySem.Value.str (PySem.Str.ofString "/claim/cut.py") 193, PySem.Value.int 3 0, PySem.Value.int 3 0, PySem.Value.int 0 0, PySem.Value.int 0 0, PySem.Value.int 3 0, PySem.Value.ref 15, PySem.Value.bool Bool.true, PySem.Value.int 181 0, PySem.Value.ref 16, PySem.Value.none, PySem.Value.ref 17, PySem.Value.ref 18, PySem.Value.ref 19, PySem.Value.int 205 0, PySem.Value.int 3 0, PySem.Value.str (PySem.Str.ofString "/claim/cut.py") 206] }) ::
  (nat_lit 21, { cls := PySem.Value.type "function", data := PySem.Data.func { name := PySem.Str.ofString "_div2n1n", qualname := PySem.Str.ofString "_div2n1n", params := (aOf (stA 2)), body := (PySem.FuncBody.stmts (bOf (stA 2))), scope := (sOf (stA 2)), globals := 3, closure := [], defaults := PySem.Value.none, kwdefaults := PySem.Value.none, pyModule := PySem.Value.str (PySem.Str.ofString "cpy313._pylong") 187, code := PySem.Value.ref 20 } }) ::
  (nat_lit 22, { cls := PySem.Value.type "tuple", data := PySem.Data.seq #[] }) ::
  (nat_lit 24, { cls := PySem.Value.type "tuple", data := PySem.Data.seq #[PySem.Value.str (PySem.Str.ofString "a12") 211, PySem.Value.str (PySem.Str.ofString "a3") 212, PySem.Value.str (PySem.Str.ofString "b") 213, PySem.Value.str (PySem.Str.ofString "b1") 214, PySem.Value.str (PySem.Str.ofString "b2") 215, PySem.Value.str (PySem.Str.ofString "n") 216, PySem.Value.str (PySem.Str.ofString "q") 217, PySem.Value.str (PySem.Str.ofString "r") 218] }) ::
  (nat_lit 25, { cls := PySem.Value.type "tuple", data := PySem.Data.seq #[] }) ::
  (nat_lit 27, { cls := PySem.Value.type "code", data := PySem.Data.fields #[PySem.Value.str (PySem.Str.ofString "_div3n2n") 208, PySem.Value.str (PySem.Str.ofString "_div3n2n") 209, PySem.Value.str (PySem.Str.ofString "/claim/cut.py") 210, PySem.Value.int 19 0, PySem.Value.int 6 0, PySem.Value.int 0 0, PySem.Value.int 0 0, PySem.Value.int 3 0, PySem.Value.ref 22, PySem.Value.bool Bool.true, PySem.Value.int 181 0, PySem.Value.ref 23, PySem.Value.none, PySem.Value.ref 24, PySem.Value.ref 25, PySem.Value.ref 26, PySem.Value.int 219 0, PySem.Value.int 19 0, PySem.Value.str (PySem.Str.ofString "/claim/cut.py") 220] }) ::
  (nat_lit 28, { cls := PySem.Value.type "function", data := PySem.Data.func { name := PySem.Str.ofString "_div3n2n", qualname := PySem.Str.ofString "_div3n2n", params := (aOf (stA 3)), body := (PySem.FuncBody.stmts (bOf (stA 3))), scope := (sOf (stA 3)), globals := 3, closure := [], defaults := PySem.Value.none, kwdefaults := PySem.Value.none, pyModule := PySem.Value.str (PySem.Str.ofString "cpy313._pylong") 187, code := PySem.Value.ref 27 } }) ::
  (nat_lit 29, { cls := PySem.Value.type "tuple", data := PySem.Data.seq #[] }) ::
  (nat_lit 31, { cls := PySem.Value.type "tuple", data := PySem.Data.seq #[PySem.Value.str (PySem.Str.ofString "a") 225, PySem.Value.str (PySem.Str.ofString "n") 226] }) ::
  (nat_lit 32, { cls := PySem.Value.type "tuple", data := PySem.Data.seq #[PySem.Value.str (PySem.Str.ofString "n") 227, PySem.Value.str (PySem.Str.ofString "a_digits") 228, PySem.Value.str (PySem.Str.ofString "inner") 229] }) ::
  (nat_lit 34, { cls := PySem.Value.type "code", data := PySem.Data.fields #[PySem.Value.str (PySem.Str.ofString "_int2digits") 222, PySem.Value.str (PySem.Str.ofString "_int2digits") 223, PySem.Value.str (PySem.Str.ofString "/claim/cut.py") 224, PySem.Value.int 29 0, PySem.Value.int 2 0, PySem.Value.int 0 0, PySem.Value.int 0 0, PySem.Value.int 3 0, PySem.Value.ref 29, PySem.Value.bool Bool.true, PySem.Value.int 181 0, PySem.Value.ref 30, PySem.Value.none, PySem.Value.ref 31, PySem.Value.ref 32, PySem.Value.ref 33, PySem.Value.int 230 0, PySem.Value.int 29 0, PySem.Value.str (PySem.Str.ofString "/claim/cut.py") 231] }) ::
  (nat_lit 35, { cls := PySem.Value.type "function", data := PySem.Data.func { name := PySem.Str.ofString "_int2digits", qualname := PySem.Str.ofString "_int2digits", params := (aOf (stA 4)), body := (PySem.FuncBody.stmts (bOf (stA 4))), scope := (sOf (stA 4)), globals := 3, closure := [], defaults := PySem.Value.none, kwdefaults := PySem.Value.none, pyModule := PySem.Value.str (PySem.Str.ofString "cpy313._pylong") 187, code := PySem.Value.ref 34 } }) ::
  (nat_lit 36, { cls := PySem.Value.type "tuple", data := PySem.Data.seq #[] }) ::
  (nat_lit 38, { cls := PySem.Value.type "tuple", data := PySem.Data.seq #[PySem.Value.str (PySem.Str.ofString "digits") 236, PySem.Value.str (PySem.Str.ofString "n") 237] }) ::
  (nat_lit 39, { cls := PySem.Value.type "tuple", data := PySem.Data.seq #[PySem.Value.str (PySem.Str.ofString "digits") 238, PySem.Value.str (PySem.Str.ofString "n") 239, PySem.Value.str (PySem.Str.ofString "inner") 240] }) ::
  (nat_lit 41, { cls := PySem.Value.type "code", data := PySem.Data.fields #[PySem.Value.str (PySem.Str.ofString "_digits2int") 233, PySem.Value.str (PySem.Str.ofString "_digits2int") 234, PySem.Value.str (PySem.Str.ofString "/claim/cut.py") 235, PySem.Value.int 45 0, PySem.Value.int 2 0, PySem.Value.int 0 0, PySem.Value.int 0 0, PySem.Value.int 3 0, PySem.Value.ref 36, PySem.Value.bool Bool.true, PySem.Value.int 181 0, PySem.Value.ref 37, PySem.Value.none, PySem.Value.ref 38, PySem.Value.ref 39, PySem.Value.ref 40, PySem.Value.int 241 0, PySem.Value.int 45 0, PySem.Value.str (PySem.Str.ofString "/claim/cut.py") 242] }) ::
  (nat_lit 42, { cls := PySem.Value.type "function", data := PySem.Data.func { name := PySem.Str.ofString "_digits2int", qualname := PySem.Str.ofString "_digits2int", params := (aOf (stA 5)), body := (PySem.FuncBody.stmts (bOf (stA 5))), scope := (sOf (stA 5)), globals := 3, closure := [], defaults := PySem.Value.none, kwdefaults := PySem.Value.none, pyModule := PySem.Value.str (PySem.Str.ofString "cpy313._pylong") 187, code := PySem.Value.ref 41 } }) ::
  (nat_lit 43, { cls := PySem.Value.type "tuple", data := PySem.Data.seq #[] }) ::
  (nat_lit 45, { cls := PySem.Value.type "tuple", data := PySem.Data.seq #[PySem.Value.str (PySem.Str.ofString "a") 247, PySem.Value.str (PySem.Str.ofString "b") 248, PySem.Value.str (PySem.Str.ofString "n") 249, PySem.Value.str (PySem.Str.ofString "a_digits") 250, PySem.Value.str (PySem.Str.ofString "r") 251, PySem.Value.str (PySem.Str.ofString "q_digits") 252, PySem.Value.str (PySem.Str.ofString "a_digit") 253, PySem.Value.str (PySem.Str.ofString "q_digit") 254, PySem.Value.str (PySem.Str.ofString "q") 255] }) ::
  (nat_lit 46, { cls := PySem.Value.type "tuple", data := PySem.Data.seq #[] }) ::
  (nat_lit 48, { cls := PySem.Value.type "code", data := PySem.Data.fields #[PySem.Value.str (PySem.Str.ofString "_divmod_pos") 244, PySem.Value.str (PySem.Str.ofString "_divmod_pos") 245, PySem.Value.str (PySem.Str.ofString "/claim/cut.py") 246, PySem.Value.int 54 0, PySem.Value.int 2 0, PySem.Value.int 0 0, PySem.Value.int 0 0, PySem.Value.int 3 0, PySem.Value.ref 43, PySem.Value.bool Bool.true, PySem.Value.int 181 0, PySem.Value.ref 44, PySem.Value.none, PySem.Value.ref 45, PySem.Value.ref 46, PySem.Value.ref 47, PySem.Value.int 256 0, PySem.Value.int 54 0, PySem.Value.str (PySem.Str.ofString "/claim/cut.py") 257] }) ::
  (nat_lit 49, { cls := PySem.Value.type "function", data := PySem.Data.func { name := PySem.Str.ofString "_divmod_pos", qualname := PySem.Str.ofString "_divmod_pos", params := (aOf (stA 6)), body := (PySem.FuncBody.stmts (bOf (stA 6))), scope := (sOf (stA 6)), globals := 3, closure := [], defaults := PySem.Value.none, kwdefaults := PySem.Value.none, pyModule := PySem.Value.str (PySem.Str.ofString "cpy313._pylong") 187, code := PySem.Value.ref 48 } }) ::
  (nat_lit 50, { cls := PySem.Value.type "tuple", data := PySem.Data.seq #[] }) ::
  (nat_lit 52, { cls := PySem.Value.type "tuple", data := PySem.Data.seq #[PySem.Value.str (PySem.Str.ofString "a") 262, PySem.Value.str (PySem.Str.ofString "b") 263, PySem.Value.str (PySem.Str.ofString "q") 264, PySem.Value.str (PySem.Str.ofString "r") 265] }) ::
  (nat_lit 53, { cls := PySem.Value.type "tuple", data := PySem.Data.seq #[] }) ::
  (nat_lit 55, { cls := PySem.Value.type "code", data := PySem.Data.fields #[PySem.Value.str (PySem.Str.ofString "int_divmod") 259, PySem.Value.str (PySem.Str.ofString "int_divmod") 260, PySem.Value.str (PySem.Str.ofString "/claim/cut.py") 261, PySem.Value.int 65 0, PySem.Value.int 2 0, PySem.Value.int 0 0, PySem.Value.int 0 0, PySem.Value.int 3 0, PySem.Value.ref 50, PySem.Value.bool Bool.true, PySem.Value.int 181 0, PySem.Value.ref 51, PySem.Value.none, PySem.Value.ref 52, PySem.Value.ref 53, PySem.Value.ref 54, PySem.Value.int 266 0, PySem.Value.int 65 0, PySem.Value.str (PySem.Str.ofString "/claim/cut.py") 267] }) ::
  (nat_lit 56, { cls := PySem.Value.type "function", data := PySem.Data.func { name := PySem.Str.ofString "int_divmod", qualname := PySem.Str.ofString "int_divmod", params := (aOf (stA 7)), body := (PySem.FuncBody.stmts (bOf (stA 7))), scope := (sOf (stA 7)), globals := 3, closure := [], defaults := PySem.Value.none, kwdefaults := PySem.Value.none, pyModule := PySem.Value.str (PySem.Str.ofString "cpy313._pylong") 187, code := PySem.Value.ref 55 } }) ::
  (nat_lit 57, { cls := PySem.Value.type "tuple", data := PySem.Data.seq #[] }) ::
  (nat_lit 59, { cls := PySem.Value.type "tuple", data := PySem.Data.seq #[PySem.Value.str (PySem.Str.ofString "r") 274, PySem.Value.str (PySem.Str.ofString "g") 275, PySem.Value.str (PySem.Str.ofString "b") 276, PySem.Value.str (PySem.Str.ofString "maxc") 277, PySem.Value.str (PySem.Str.ofString "minc") 278, PySem.Value.str (PySem.Str.ofString "sumc") 279, PySem.Value.str (PySem.Str.ofString "rangec") 280, PySem.Value.str (PySem.Str.ofString "l") 281, PySem.Value.str (PySem.Str.ofString "s") 282, PySem.Value.str (PySem.Str.ofString "rc") 283, PySem.Value.str (PySem.Str.ofString "gc") 284, PySem.Value.str (PySem.Str.ofString "bc") 285, PySem.Value.str (PySem.Str.ofString "h") 286] }) ::
  (nat_lit 60, { cls := PySem.Value.type "tuple", data := PySem.Data.seq #[] }) ::
  (nat_lit 62, { cls := PySem.Value.type "code", data := PySem.Data.fields #[PySem.Value.str (PySem.Str.ofString "rgb_to_hls") 271, PySem.Value.str (PySem.Str.ofString "rgb_to_hls") 272, PySem.Value.str (PySem.Str.ofString "/claim/cut.py") 273, PySem.Value.int 77 0, PySem.Value.int 3 0, PySem.Value.int 0 0, PySem.Value.int 0 0, PySem.Value.int 3 0, PySem.Value.ref 57, PySem.Value.bool Bool.true, PySem.Value.int 181 0, PySem.Value.ref 58, PySem.Value.none, PySem.Value.ref 59, PySem.Value.ref 60, PySem.Value.ref 61, PySem.Value.int 287 0, PySem.Value.int 77 0, PySem.Value.str (PySem.Str.ofString "/claim/cut.py") 288] }) ::
  (nat_lit 63, { cls := PySem.Value.type "function", data := PySem.Data.func { name := PySem.Str.ofString "rgb_to_hls", qualname := PySem.Str.ofString "rgb_to_hls", params := (aOf (stA 9)), body := (PySem.FuncBody.stmts (bOf (stA 9))), scope := (sOf (stA 9)), globals := 3, closure := [], defaults := PySem.Value.none, kwdefaults := PySem.Value.none, pyModule := PySem.Value.str (PySem.Str.ofString "cpy313.colorsys") 269, code := PySem.Value.ref 62 } }) ::
  (nat_lit 64, { cls := PySem.Value.type "tuple", data := PySem.Data.seq #[] }) ::
  (nat_lit 66, { cls := PySem.Value.type "tuple", data := PySem.Data.seq #[PySem.Value.str (PySem.Str.ofString "r") 293, PySem.Value.str (PySem.Str.ofString "g") 294, PySem.Value.str (PySem.Str.ofString "b") 295, PySem.Value.str (PySem.Str.ofString "maxc") 296, PySem.Value.str (PySem.Str.ofString "minc") 297, PySem.Value.str (PySem.Str.ofString "rangec") 298, PySem.Value.str (PySem.Str.ofString "v") 299, PySem.Value.str (PySem.Str.ofString "s") 300, PySem.Value.str (PySem.Str.ofString "rc") 301, PySem.Value.str (PySem.Str.ofString "gc") 302, PySem.Value.str (PySem.Str.ofString "bc") 303, PySem.Value.str (PySem.Str.ofString "h") 304] }) ::
  (nat_lit 67, { cls := PySem.Value.type "tuple", data := PySem.Data.seq #[] }) ::
  (nat_lit 69, { cls := PySem.Value.type "code", data := PySem.Data.fields #[PySem.Value.str (PySem.Str.ofString "rgb_to_hsv") 290, PySem.Value.str (PySem.Str.ofString "rgb_to_hsv") 291, PySem.Value.str (PySem.Str.ofString "/claim/cut.py") 292, PySem.Value.int 100 0, PySem.Value.int 3 0, PySem.Value.int 0 0, PySem.Value.int 0 0, PySem.Value.int 3 0, PySem.Value.ref 64, PySem.Value.bool Bool.true, PySem.Value.int 181 0, PySem.Value.ref 65, PySem.Value.none, PySem.Value.ref 66, PySem.Value.ref 67, PySem.Value.ref 68, PySem.Value.int 305 0, PySem.Value.int 100 0, PySem.Value.str (PySem.Str.ofString "/claim/cut.py") 306] }) ::
  (nat_lit 70, { cls := PySem.Value.type "function", data := PySem.Data.func { name := PySem.Str.ofString "rgb_to_hsv", qualname := PySem.Str.ofString "rgb_to_hsv", params := (aOf (stA 10)), body := (PySem.FuncBody.stmts (bOf (stA 10))), scope := (sOf (stA 10)), globals := 3, closure := [], defaults := PySem.Value.none, kwdefaults := PySem.Value.none, pyModule := PySem.Value.str (PySem.Str.ofString "cpy313.colorsys") 269, code := PySem.Value.ref 69 } }) ::
  (nat_lit 71, { cls := PySem.Value.type "tuple", data := PySem.Data.seq #[] }) ::
  (nat_lit 73, { cls := PySem.Value.type "tuple", data := PySem.Data.seq #[PySem.Value.str (PySem.Str.ofString "want") 315, PySem.Value.str (PySem.Str.ofString "got") 316, PySem.Value.str (PySem.Str.ofString "ws") 317, PySem.Value.str (PySem.Str.ofString "startpos") 318, PySem.Value.str (PySem.Str.ofString "endpos") 319, PySem.Value.str (PySem.Str.ofString "w") 320] }) ::
  (nat_lit 74, { cls := PySem.Value.type "tuple", data := PySem.Data.seq #[] }) ::
  (nat_lit 76, { cls := PySem.Value.type "code", data := PySem.Data.fields #[PySem.Value.str (PySem.Str.ofString "_ellipsis_match") 312, PySem.Value.str (PySem.Str.ofString "_ellipsis_match") 313, PySem.Value.str (PySem.Str.ofString "/claim/cut.py") 314, PySem.Value.int 121 0, PySem.Value.int 2 0, PySem.Value.int 0 0, PySem.Value.int 0 0, PySem.Value.int 3 0, PySem.Value.ref 71, PySem.Value.bool Bool.true, PySem.Value.int 181 0, PySem.Value.ref 72, PySem.Value.none, PySem.Value.ref 73, PySem.Value.ref 74, PySem.Value.ref 75, PySem.Value.int 321 0, PySem.Value.int 121 0, PySem.Value.str (PySem.Str.ofString "/claim/cut.py") 322] }) ::
  (nat_lit 77, { cls := PySem.Value.type "function", data := PySem.Data.func { name := PySem.Str.ofString "_ellipsis_match", qualname := PySem.Str.ofString "_ellipsis_match", params := (aOf (stA 13)), body := (PySem.FuncBody.stmts (bOf (stA 13))), scope := (sOf (stA 13)), globals := 3, closure := [], defaults := PySem.Value.none, kwdefaults := PySem.Value.none, pyModule := PySem.Value.str (PySem.Str.ofString "cpy313.doctest") 308, code := PySem.Value.ref 76 } }) ::
  (nat_lit 78, { cls := PySem.Value.type "tuple", data := PySem.Data.seq #[] }) ::
  (nat_lit 80, { cls := PySem.Value.type "tuple", data := PySem.Data.seq #[PySem.Value.str (PySem.Str.ofString "msg") 327, PySem.Value.str (PySem.Str.ofString "start") 328, PySem.Value.str (PySem.Str.ofString "end") 329, PySem.Value.str (PySem.Str.ofString "i") 330] }) ::
  (nat_lit 81, { cls := PySem.Value.type "tuple", data := PySem.Data.seq #[] }) ::
  (nat_lit 83, { cls := PySem.Value.type "code", data := PySem.Data.fields #[PySem.Value.str (PySem.Str.ofString "_strip_exception_details") 324, PySem.Value.str (PySem.Str.ofString "_strip_exception_details") 325, PySem.Value.str (PySem.Str.ofString "/claim/cut.py") 326, PySem.Value.int 149 0, PySem.Value.int 1 0, PySem.Value.int 0 0, PySem.Value.int 0 0, PySem.Value.int 3 0, PySem.Value.ref 78, PySem.Value.bool Bool.true, PySem.Value.int 181 0, PySem.Value.ref 79, PySem.Value.none, PySem.Value.ref 80, PySem.Value.ref 81, PySem.Value.ref 82, PySem.Value.int 331 0, PySem.Value.int 149 0, PySem.Value.str (PySem.Str.ofString "/claim/cut.py") 332] }) ::
  (nat_lit 84, { cls := PySem.Value.type "function", data := PySem.Data.func { name := PySem.Str.ofString "_strip_exception_details", qualname := PySem.Str.ofString "_strip_exception_details", params := (aOf (stA 14)), body := (PySem.FuncBody.stmts (bOf (stA 14))), scope := (sOf (stA 14)), globals := 3, closure := [], defaults := PySem.Value.none, kwdefaults := PySem.Value.none, pyModule := PySem.Value.str (PySem.Str.ofString "cpy313.doctest") 308, code := PySem.Value.ref 83 } }) ::
  (nat_lit 92, { cls := PySem.Value.type "tuple", data := PySem.Data.seq #[] }) ::
  (nat_lit 94, { cls := PySem.Value.type "tuple", data := PySem.Data.seq #[PySem.Value.str (PySem.Str.ofString "self") 351, PySem.Value.str (PySem.Str.ofString "fp") 352] }) ::
  (nat_lit 95, { cls := PySem.Value.type "tuple", data := PySem.Data.seq #[] }) ::
  (nat_lit 97, { cls := PySem.Value.type "code", data := PySem.Data.fields #[PySem.Value.str (PySem.Str.ofString "__init__") 348, PySem.Value.str (PySem.Str.ofString "_netrclex.__init__") 349, PySem.Value.str (PySem.Str.ofString "/claim/cut.py") 350, PySem.Value.int 164 0, PySem.Value.int 2 0, PySem.Value.int 0 0, PySem.Value.int 0 0, PySem.Value.int 3 0, PySem.Value.ref 92, PySem.Value.bool Bool.true, PySem.Value.int 181 0, PySem.Value.ref 93, PySem.Value.none, PySem.Value.ref 94, PySem.Value.ref 95, PySem.Value.ref 96, PySem.Value.int 353 0, PySem.Value.int 164 0, PySem.Value.str (PySem.Str.ofString "/claim/cut.py") 354] }) ::
  (nat_lit 98, { cls := PySem.Value.type "function", data := PySem.Data.func { name := PySem.Str.ofString "__init__", qualname := PySem.Str.ofString "_netrclex.__init__", params := (aOf (mtA 16 0)), body := (PySem.FuncBody.stmts (bOf (mtA 16 0))), scope := (sOf (mtA 16 0)), globals := 3, closure := [], defaults := PySem.Value.none, kwdefaults := PySem.Value.none, pyModule := PySem.Value.str (PySem.Str.ofString "cpy313.netrc") 334, code := PySem.Value.ref 97 } }) ::
  (nat_lit 99, { cls := PySem.Value.type "tuple", data := PySem.Data.seq #[] }) ::
  (nat_lit 101, { cls := PySem.Value.type "tuple", data := PySem.Data.seq #[PySem.Value.str (PySem.Str.ofString "self") 359, PySem.Value.str (PySem.Str.ofString "ch") 360] }) ::
  (nat_lit 102, { cls := PySem.Value.type "tuple", data := PySem.Data.seq #[] }) ::
  (nat_lit 104, { cls := PySem.Value.type "code", data := PySem.Data.fields #[PySem.Value.str (PySem.Str.ofString "_read_char") 356, PySem.Value.str (PySem.Str.ofString "_netrclex._read_char") 357, PySem.Value.str (PySem.Str.ofString "/claim/cut.py") 358, PySem.Value.int 170 0, PySem.Value.int 1 0, PySem.Value.int 0 0, PySem.Value.int 0 0, PySem.Value.int 3 0, PySem.Value.ref 99, PySem.Value.bool Bool.true, PySem.Value.int 181 0, PySem.Value.ref 100, PySem.Value.none, PySem.Value.ref 101, PySem.Value.ref 102, PySem.Value.ref 103, PySem.Value.int 361 0, PySem.Value.int 170 0, PySem.Value.str (PySem.Str.ofString "/claim/cut.py") 362] }) ::
  (nat_lit 105, { cls := PySem.Value.type "function", data := PySem.Data.func { name := PySem.Str.ofString "_read_char", qualname := PySem.Str.ofString "_netrclex._read_char", params := (aOf (mtA 16 1)), body := (PySem.FuncBody.stmts (bOf (mtA 16 1))), scope := (sOf (mtA 16 1)), globals := 3, closure := [], defaults := PySem.Value.none, kwdefaults := PySem.Value.none, pyModule := PySem.Value.str (PySem.Str.ofString "cpy313.netrc") 334, code := PySem.Value.ref 104 } }) ::
  (nat_lit 106, { cls := PySem.Value.type "tuple", data := PySem.Data.seq #[] }) ::
  (nat_lit 108, { cls := PySem.Value.type "tuple", data := PySem.Data.seq #[PySem.Value.str (PySem.Str.ofString "self") 367, PySem.Value.str (PySem.Str.ofString "token") 368, PySem.Value.str (PySem.Str.ofString "fiter") 369, PySem.Value.str (PySem.Str.ofString "ch") 370] }) ::
  (nat_lit 109, { cls := PySem.Value.type "tuple", data := PySem.Data.seq #[] }) ::
  (nat_lit 111, { cls := PySem.Value.type "code", data := PySem.Data.fields #[PySem.Value.str (PySem.Str.ofString "get_token") 364, PySem.Value.str (PySem.Str.ofString "_netrclex.get_token") 365, PySem.Value.str (PySem.Str.ofString "/claim/cut.py") 366, PySem.Value.int 176 0, PySem.Value.int 1 0, PySem.Value.int 0 0, PySem.Value.int 0 0, PySem.Value.int 3 0, PySem.Value.ref 106, PySem.Value.bool Bool.true, PySem.Value.int 181 0, PySem.Value.ref 107, PySem.Value.none, PySem.Value.ref 108, PySem.Value.ref 109, PySem.Value.ref 110, PySem.Value.int 371 0, PySem.Value.int 176 0, PySem.Value.str (PySem.Str.ofString "/claim/cut.py") 372] }) ::
  (nat_lit 112, { cls := PySem.Value.type "function", data := PySem.Data.func { name := PySem.Str.ofString "get_token", qualname := PySem.Str.ofString "_netrclex.get_token", params := (aOf (mtA 16 2)), body := (PySem.FuncBody.stmts (bOf (mtA 16 2))), scope := (sOf (mtA 16 2)), globals := 3, closure := [], defaults := PySem.Value.none, kwdefaults := PySem.Value.none, pyModule := PySem.Value.str (PySem.Str.ofString "cpy313.netrc") 334, code := PySem.Value.ref 111 } }) ::
  (nat_lit 113, { cls := PySem.Value.type "tuple", data := PySem.Data.seq #[] }) ::
  (nat_lit 115, { cls := PySem.Value.type "tuple", data := PySem.Data.seq #[PySem.Value.str (PySem.Str.ofString "self") 377, PySem.Value.str (PySem.Str.ofString "token") 378] }) ::
  (nat_lit 116, { cls := PySem.Value.type "tuple", data := PySem.Data.seq #[] }) ::
  (nat_lit 118, { cls := PySem.Value.type "code", data := PySem.Data.fields #[PySem.Value.str (PySem.Str.ofString "push_token") 374, PySem.Value.str (PySem.Str.ofString "_netrclex.push_token") 375, PySem.Value.str (PySem.Str.ofString "/claim/cut.py") 376, PySem.Value.int 203 0, PySem.Value.int 2 0, PySem.Value.int 0 0, PySem.Value.int 0 0, PySem.Value.int 3 0, PySem.Value.ref 113, PySem.Value.bool Bool.true, PySem.Value.int 181 0, PySem.Value.ref 114, PySem.Value.none, PySem.Value.ref 115, PySem.Value.ref 116, PySem.Value.ref 117, PySem.Value.int 379 0, PySem.Value.int 203 0, PySem.Value.str (PySem.Str.ofString "/claim/cut.py") 380] }) ::
  (nat_lit 119, { cls := PySem.Value.type "function", data := PySem.Data.func { name := PySem.Str.ofString "push_token", qualname := PySem.Str.ofString "_netrclex.push_token", params := (aOf (mtA 16 3)), body := (PySem.FuncBody.stmts (bOf (mtA 16 3))), scope := (sOf (mtA 16 3)), globals := 3, closure := [], defaults := PySem.Value.none, kwdefaults := PySem.Value.none, pyModule := PySem.Value.str (PySem.Str.ofString "cpy313.netrc") 334, code := PySem.Value.ref 118 } }) ::
  (nat_lit 120, { cls := PySem.Value.type "tuple", data := PySem.Data.seq #[PySem.Value.str (PySem.Str.ofString "instream") 382, PySem.Value.str (PySem.Str.ofString "lineno") 383, PySem.Value.str (PySem.Str.ofString "pushback") 384, PySem.Value.str (PySem.Str.ofString "whitespace") 385] }) ::
  (nat_lit 121, { cls := PySem.Value.type "dict", data := PySem.Data.dict #[{ hash := PySem.PyData.keyHash P (PySem.Str.ofString "__module__"), key := PySem.Value.str (PySem.Str.ofString "__module__") 343, val := PySem.Value.str (PySem.Str.ofString "cpy313.netrc") 334 }, { hash := PySem.PyData.keyHash P (PySem.Str.ofString "__firstlineno__"), key := PySem.Value.str (PySem.Str.ofString "__firstlineno__") 347, val := PySem.Value.int 162 346 }, { hash := PySem.PyData.keyHash P (PySem.Str.ofString "__init__"), key := PySem.Value.str (PySem.Str.ofString "__init__") 355, val := PySem.Value.ref 98 }, { hash := PySem.PyData.keyHash P (PySem.Str.ofString "_read_char"), key := PySem.Value.str (PySem.Str.ofString "_read_char") 363, val := PySem.Value.ref 105 }, { hash := PySem.PyData.keyHash P (PySem.Str.ofString "get_token"), key := PySem.Value.str (PySem.Str.ofString "get_token") 373, val := PySem.Value.ref 112 }, { hash := PySem.PyData.keyHash P (PySem.Str.ofString "push_token"), key := PySem.Value.str (PySem.Str.ofString "push_token") 381, val := PySem.Value.ref 119 }, { hash := PySem.PyData.keyHash P (PySem.Str.ofString "__static_attributes__"), key := PySem.Value.str (PySem.Str.ofString "__static_attributes__") 386, val := PySem.Value.ref 120 }, { hash := PySem.PyData.keyHash P (PySem.Str.ofString "__dict__"), key := PySem.Value.str (PySem.Str.ofString "__dict__") 388, val := PySem.Value.ref 123 }, { hash := PySem.PyData.keyHash P (PySem.Str.ofString "__weakref__"), key := PySem.Value.str (PySem.Str.ofString "__weakref__") 390, val := PySem.Value.ref 124 }, { hash := PySem.PyData.keyHash P (PySem.Str.ofString "__doc__"), key := PySem.Value.str (PySem.Str.ofString "__doc__") 391, val := PySem.Value.none }] 4 }) ::
  (nat_lit 122, { cls := PySem.Value.type "type", data := PySem.Data.cls { name := PySem.Str.ofString "_netrclex", bases := [PySem.Value.type "object"], mro := [PySem.Value.ref 122, PySem.Value.type "object"], ns := 121, qualname := PySem.Str.ofString "_netrclex" }, slots := #[Option.none, Option.none, Option.some (PySem.Value.str (PySem.Str.ofString "_netrclex") 336), Option.some (PySem.Value.str (PySem.Str.ofString "_netrclex") 344), Option.some (PySem.Value.builtin "object.__new__"), Option.some (PySem.Value.bool Bool.true)] }) ::
  (nat_lit 123, { cls := PySem.Value.type "getset_descriptor", data := PySem.Data.fields #[PySem.Value.str (PySem.Str.ofString "__dict__") 387, PySem.Value.ref 122, PySem.Value.builtin "function.__dict__", PySem.Value.builtin "function.__dict__#set"] }) ::
  (nat_lit 124, { cls := PySem.Value.type "getset_descriptor", data := PySem.Data.fields #[PySem.Value.str (PySem.Str.ofString "__weakref__") 389, PySem.Value.ref 122, PySem.Value.builtin "ExceptionGroup.__weakref__", PySem.Value.none] }) ::
  (nat_lit 127, { cls := PySem.Value.type "tuple", data := PySem.Data.seq #[] }) ::
  (nat_lit 129, { cls := PySem.Value.type "tuple", data := PySem.Data.seq #[PySem.Value.str (PySem.Str.ofString "script") 399, PySem.Value.str (PySem.Str.ofString "first") 400, PySem.Value.str (PySem.Str.ofString "totals") 401, PySem.Value.str (PySem.Str.ofString "k") 402] }) ::
  (nat_lit 130, { cls := PySem.Value.type "tuple", data := PySem.Data.seq #[] }) ::
  (nat_lit 132, { cls := PySem.Value.type "code", data := PySem.Data.fields #[PySem.Value.str (PySem.Str.ofString "_law_totals") 396, PySem.Value.str (PySem.Str.ofString "_law_totals") 397, PySem.Value.str (PySem.Str.ofString "/claim/cut.py") 398, PySem.Value.int 206 0, PySem.Value.int 2 0, PySem.Value.int 0 0, PySem.Value.int 0 0, PySem.Value.int 3 0, PySem.Value.ref 127, PySem.Value.bool Bool.true, PySem.Value.int 181 0, PySem.Value.ref 128, PySem.Value.none, PySem.Value.ref 129, PySem.Value.ref 130, PySem.Value.ref 131, PySem.Value.int 403 0, PySem.Value.int 206 0, PySem.Value.str (PySem.Str.ofString "/claim/cut.py") 404] }) ::
  (nat_lit 133, { cls := PySem.Value.type "function", data := PySem.Data.func { name := PySem.Str.ofString "_law_totals", qualname := PySem.Str.ofString "_law_totals", params := (aOf (stA 18)), body := (PySem.FuncBody.stmts (bOf (stA 18))), scope := (sOf (stA 18)), globals := 3, closure := [], defaults := PySem.Value.none, kwdefaults := PySem.Value.none, pyModule := PySem.Value.str (PySem.Str.ofString "law_sn0056_01") 394, code := PySem.Value.ref 132 } }) ::
  (nat_lit 134, { cls := PySem.Value.type "tuple", data := PySem.Data.seq #[] }) ::
  (nat_lit 137, { cls := PySem.Value.type "code", data := PySem.Data.fields #[PySem.Value.str (PySem.Str.ofString "_law_day") 406, PySem.Value.str (PySem.Str.ofString "_law_day") 407, PySem.Value.str (PySem.Str.ofString "/claim/cut.py") 408, PySem.Value.int 211 0, PySem.Value.int 2 0, PySem.Value.int 0 0, PySem.Value.int 0 0, PySem.Value.int 3 0, PySem.Value.ref 134, PySem.Value.bool Bool.true, PySem.Value.int 181 0, PySem.Value.ref 135, PySem.Value.none, PySem.Value.none, PySem.Value.none, PySem.Value.ref 136, PySem.Value.int 409 0, PySem.Value.int 211 0, PySem.Value.str (PySem.Str.ofString "/claim/cut.py") 410] }) ::
  (nat_lit 138, { cls := PySem.Value.type "function", data := PySem.Data.func { name := PySem.Str.ofString "_law_day", qualname := PySem.Str.ofString "_law_day", params := (aOf (stA 19)), body := (PySem.FuncBody.stmts (bOf (stA 19))), scope := (sOf (stA 19)), globals := 3, closure := [], defaults := PySem.Value.none, kwdefaults := PySem.Value.none, pyModule := PySem.Value.str (PySem.Str.ofString "law_sn0056_01") 394, code := PySem.Value.ref 137 } }) ::
  (nat_lit 139, { cls := PySem.Value.type "tuple", data := PySem.Data.seq #[] }) ::
  (nat_lit 141, { cls := PySem.Value.type "tuple", data := PySem.Data.seq #[PySem.Value.str (PySem.Str.ofString "names") 415, PySem.Value.str (PySem.Str.ofString "draw") 416, PySem.Value.str (PySem.Str.ofString "left") 417, PySem.Value.str (PySem.Str.ofString "order") 418] }) ::
  (nat_lit 142, { cls := PySem.Value.type "tuple", data := PySem.Data.seq #[] }) ::
  (nat_lit 144, { cls := PySem.Value.type "code", data := PySem.Data.fields #[PySem.Value.str (PySem.Str.ofString "_law_order") 412, PySem.Value.str (PySem.Str.ofString "_law_order") 413, PySem.Value.str (PySem.Str.ofString "/claim/cut.py") 414, PySem.Value.int 216 0, PySem.Value.int 2 0, PySem.Value.int 0 0, PySem.Value.int 0 0, PySem.Value.int 3 0, PySem.Value.ref 139, PySem.Value.bool Bool.true, PySem.Value.int 181 0, PySem.Value.ref 140, PySem.Value.none, PySem.Value.ref 141, PySem.Value.ref 142, PySem.Value.ref 143, PySem.Value.int 419 0, PySem.Value.int 216 0, PySem.Value.str (PySem.Str.ofString "/claim/cut.py") 420] }) ::
  (nat_lit 145, { cls := PySem.Value.type "function", data := PySem.Data.func { name := PySem.Str.ofString "_law_order", qualname := PySem.Str.ofString "_law_order", params := (aOf (stA 20)), body := (PySem.FuncBody.stmts (bOf (stA 20))), scope := (sOf (stA 20)), globals := 3, closure := [], defaults := PySem.Value.none, kwdefaults := PySem.Value.none, pyModule := PySem.Value.str (PySem.Str.ofString "law_sn0056_01") 394, code := PySem.Value.ref 144 } }) ::
  (nat_lit 146, { cls := PySem.Value.type "tuple", data := PySem.Data.seq #[] }) ::
  (nat_lit 148, { cls := PySem.Value.type "tuple", data := PySem.Data.seq #[PySem.Value.str (PySem.Str.ofString "words") 425, PySem.Value.str (PySem.Str.ofString "draw") 426, PySem.Value.str (PySem.Str.ofString "text") 427, PySem.Value.str (PySem.Str.ofString "word") 428] }) ::
  (nat_lit 149, { cls := PySem.Value.type "tuple", data := PySem.Data.seq #[] }) ::
  (nat_lit 151, { cls := PySem.Value.type "code", data := PySem.Data.fields #[PySem.Value.str (PySem.Str.ofString "_law_written") 422, PySem.Value.str (PySem.Str.ofString "_law_written") 423, PySem.Value.str (PySem.Str.ofString "/claim/cut.py") 424, PySem.Value.int 223 0, PySem.Value.int 2 0, PySem.Value.int 0 0, PySem.Value.int 0 0, PySem.Value.int 3 0, PySem.Value.ref 146, PySem.Value.bool Bool.true, PySem.Value.int 181 0, PySem.Value.ref 147, PySem.Value.none, PySem.Value.ref 148, PySem.Value.ref 149, PySem.Value.ref 150, PySem.Value.int 429 0, PySem.Value.int 223 0, PySem.Value.str (PySem.Str.ofString "/claim/cut.py") 430] }) ::
  (nat_lit 152, { cls := PySem.Value.type "function", data := PySem.Data.func { name := PySem.Str.ofString "_law_written", qualname := PySem.Str.ofString "_law_written", params := (aOf (stA 21)), body := (PySem.FuncBody.stmts (bOf (stA 21))), scope := (sOf (stA 21)), globals := 3, closure := [], defaults := PySem.Value.none, kwdefaults := PySem.Value.none, pyModule := PySem.Value.str (PySem.Str.ofString "law_sn0056_01") 394, code := PySem.Value.ref 151 } }) ::
  (nat_lit 153, { cls := PySem.Value.type "tuple", data := PySem.Data.seq #[] }) ::
  (nat_lit 155, { cls := PySem.Value.type "tuple", data := PySem.Data.seq #[PySem.Value.str (PySem.Str.ofString "text") 435, PySem.Value.str (PySem.Str.ofString "_law_read_on") 436, PySem.Value.str (PySem.Str.ofString "stream") 437, PySem.Value.str (PySem.Str.ofString "line") 438, PySem.Value.str (PySem.Str.ofString "words") 439, PySem.Value.str (PySem.Str.ofString "word") 440] }) ::
  (nat_lit 156, { cls := PySem.Value.type "tuple", data := PySem.Data.seq #[PySem.Value.str (PySem.Str.ofString "text") 441, PySem.Value.str (PySem.Str.ofString "at") 442] }) ::
  (nat_lit 158, { cls := PySem.Value.type "code", data := PySem.Data.fields #[PySem.Value.str (PySem.Str.ofString "_law_queue") 432, PySem.Value.str (PySem.Str.ofString "_law_queue") 433, PySem.Value.str (PySem.Str.ofString "/claim/cut.py") 434, PySem.Value.int 235 0, PySem.Value.int 1 0, PySem.Value.int 0 0, PySem.Value.int 0 0, PySem.Value.int 3 0, PySem.Value.ref 153, PySem.Value.bool Bool.true, PySem.Value.int 181 0, PySem.Value.ref 154, PySem.Value.none, PySem.Value.ref 155, PySem.Value.ref 156, PySem.Value.ref 157, PySem.Value.int 443 0, PySem.Value.int 235 0, PySem.Value.str (PySem.Str.ofString "/claim/cut.py") 444] }) ::
  (nat_lit 159, { cls := PySem.Value.type "function", data := PySem.Data.func { name := PySem.Str.ofString "_law_queue", qualname := PySem.Str.ofString "_law_queue", params := (aOf (stA 22)), body := (PySem.FuncBody.stmts (bOf (stA 22))), scope := (sOf (stA 22)), globals := 3, closure := [], defaults := PySem.Value.none, kwdefaults := PySem.Value.none, pyModule := PySem.Value.str (PySem.Str.ofString "law_sn0056_01") 394, code := PySem.Value.ref 158 } }) ::
  (nat_lit 160, { cls := PySem.Value.type "tuple", data := PySem.Data.seq #[] }) ::
  (nat_lit 163, { cls := PySem.Value.type "code", data := PySem.Data.fields #[PySem.Value.str (PySem.Str.ofString "_law_cells") 446, PySem.Value.str (PySem.Str.ofString "_law_cells") 447, PySem.Value.str (PySem.Str.ofString "/claim/cut.py") 448, PySem.Value.int 253 0, PySem.Value.int 1 0, PySem.Value.int 0 0, PySem.Value.int 0 0, PySem.Value.int 3 0, PySem.Value.ref 160, PySem.Value.bool Bool.true, PySem.Value.int 181 0, PySem.Value.ref 161, PySem.Value.none, PySem.Value.none, PySem.Value.none, PySem.Value.ref 162, PySem.Value.int 449 0, PySem.Value.int 253 0, PySem.Value.str (PySem.Str.ofString "/claim/cut.py") 450] }) ::
  (nat_lit 164, { cls := PySem.Value.type "function", data := PySem.Data.func { name := PySem.Str.ofString "_law_cells", qualname := PySem.Str.ofString "_law_cells", params := (aOf (stA 23)), body := (PySem.FuncBody.stmts (bOf (stA 23))), scope := (sOf (stA 23)), globals := 3, closure := [], defaults := PySem.Value.none, kwdefaults := PySem.Value.none, pyModule := PySem.Value.str (PySem.Str.ofString "law_sn0056_01") 394, code := PySem.Value.ref 163 } }) ::
  (nat_lit 165, { cls := PySem.Value.type "tuple", data := PySem.Data.seq #[] }) ::
  (nat_lit 168, { cls := PySem.Value.type "code", data := PySem.Data.fields #[PySem.Value.str (PySem.Str.ofString "_law_shares") 452, PySem.Value.str (PySem.Str.ofString "_law_shares") 453, PySem.Value.str (PySem.Str.ofString "/claim/cut.py") 454, PySem.Value.int 255 0, PySem.Value.int 3 0, PySem.Value.int 0 0, PySem.Value.int 0 0, PySem.Value.int 3 0, PySem.Value.ref 165, PySem.Value.bool Bool.true, PySem.Value.int 181 0, PySem.Value.ref 166, PySem.Value.none, PySem.Value.none, PySem.Value.none, PySem.Value.ref 167, PySem.Value.int 455 0, PySem.Value.int 255 0, PySem.Value.str (PySem.Str.ofString "/claim/cut.py") 456] }) ::
  (nat_lit 169, { cls := PySem.Value.type "function", data := PySem.Data.func { name := PySem.Str.ofString "_law_shares", qualname := PySem.Str.ofString "_law_shares", params := (aOf (stA 24)), body := (PySem.FuncBody.stmts (bOf (stA 24))), scope := (sOf (stA 24)), globals := 3, closure := [], defaults := PySem.Value.none, kwdefaults := PySem.Value.none, pyModule := PySem.Value.str (PySem.Str.ofString "law_sn0056_01") 394, code := PySem.Value.ref 168 } }) ::
  (nat_lit 170, { cls := PySem.Value.type "tuple", data := PySem.Data.seq #[] }) ::
  (nat_lit 172, { cls := PySem.Value.type "tuple", data := PySem.Data.seq #[PySem.Value.str (PySem.Str.ofString "seen") 461, PySem.Value.str (PySem.Str.ofString "heavy") 462, PySem.Value.str (PySem.Str.ofString "fits") 463, PySem.Value.str (PySem.Str.ofString "line") 464, PySem.Value.str (PySem.Str.ofString "known") 465, PySem.Value.str (PySem.Str.ofString "name") 466, PySem.Value.str (PySem.Str.ofString "whispered") 467, PySem.Value.str (PySem.Str.ofString "calm") 468, PySem.Value.str (PySem.Str.ofString "speaker") 469, PySem.Value.str (PySem.Str.ofString "listener") 470, PySem.Value.str (PySem.Str.ofString "fresh") 471] }) ::
  (nat_lit 173, { cls := PySem.Value.type "tuple", data := PySem.Data.seq #[] }) ::
  (nat_lit 175, { cls := PySem.Value.type "code", data := PySem.Data.fields #[PySem.Value.str (PySem.Str.ofString "_law_talk") 458, PySem.Value.str (PySem.Str.ofString "_law_talk") 459, PySem.Value.str (PySem.Str.ofString "/claim/cut.py") 460, PySem.Value.int 265 0, PySem.Value.int 4 0, PySem.Value.int 0 0, PySem.Value.int 0 0, PySem.Value.int 3 0, PySem.Value.ref 170, PySem.Value.bool Bool.true, PySem.Value.int 181 0, PySem.Value.ref 171, PySem.Value.none, PySem.Value.ref 172, PySem.Value.ref 173, PySem.Value.ref 174, PySem.Value.int 472 0, PySem.Value.int 265 0, PySem.Value.str (PySem.Str.ofString "/claim/cut.py") 473] }) ::
  (nat_lit 176, { cls := PySem.Value.type "function", data := PySem.Data.func { name := PySem.Str.ofString "_law_talk", qualname := PySem.Str.ofString "_law_talk", params := (aOf (stA 25)), body := (PySem.FuncBody.stmts (bOf (stA 25))), scope := (sOf (stA 25)), globals := 3, closure := [], defaults := PySem.Value.none, kwdefaults := PySem.Value.none, pyModule := PySem.Value.str (PySem.Str.ofString "law_sn0056_01") 394, code := PySem.Value.ref 175 } }) ::
  (nat_lit 177, { cls := PySem.Value.type "tuple", data := PySem.Data.seq #[] }) ::
  (nat_lit 180, { cls := PySem.Value.type "code", data := PySem.Data.fields #[PySem.Value.str (PySem.Str.ofString "_law_blocks") 475, PySem.Value.str (PySem.Str.ofString "_law_blocks") 476, PySem.Value.str (PySem.Str.ofString "/claim/cut.py") 477, PySem.Value.int 281 0, PySem.Value.int 1 0, PySem.Value.int 0 0, PySem.Value.int 0 0, PySem.Value.int 3 0, PySem.Value.ref 177, PySem.Value.bool Bool.true, PySem.Value.int 181 0, PySem.Value.ref 178, PySem.Value.none, PySem.Value.none, PySem.Value.none, PySem.Value.ref 179, PySem.Value.int 478 0, PySem.Value.int 281 0, PySem.Value.str (PySem.Str.ofString "/claim/cut.py") 479] }) ::
  (nat_lit 181, { cls := PySem.Value.type "function", data := PySem.Data.func { name := PySem.Str.ofString "_law_blocks", qualname := PySem.Str.ofString "_law_blocks", params := (aOf (stA 26)), body := (PySem.FuncBody.stmts (bOf (stA 26))), scope := (sOf (stA 26)), globals := 3, closure := [], defaults := PySem.Value.none, kwdefaults := PySem.Value.none, pyModule := PySem.Value.str (PySem.Str.ofString "law_sn0056_01") 394, code := PySem.Value.ref 180 } }) ::
  (nat_lit 182, { cls := PySem.Value.type "tuple", data := PySem.Data.seq #[] }) ::
  (nat_lit 185, { cls := PySem.Value.type "code", data := PySem.Data.fields #[PySem.Value.str (PySem.Str.ofString "law") 481, PySem.Value.str (PySem.Str.ofString "law") 482, PySem.Value.str (PySem.Str.ofString "/claim/cut.py") 483, PySem.Value.int 289 0, PySem.Value.int 1 0, PySem.Value.int 0 0, PySem.Value.int 0 0, PySem.Value.int 3 0, PySem.Value.ref 182, PySem.Value.bool Bool.true, PySem.Value.int 181 0, PySem.Value.ref 183, PySem.Value.none, PySem.Value.none, PySem.Value.none, PySem.Value.ref 184, PySem.Value.int 484 0, PySem.Value.int 289 0, PySem.Value.str (PySem.Str.ofString "/claim/cut.py") 485] }) ::
  (nat_lit 186, { cls := PySem.Value.type "function", data := PySem.Data.func { name := PySem.Str.ofString "law", qualname := PySem.Str.ofString "law", params := (aOf (stA 27)), body := (PySem.FuncBody.stmts (bOf (stA 27))), scope := (sOf (stA 27)), globals := 3, closure := [], defaults := PySem.Value.none, kwdefaults := PySem.Value.none, pyModule := PySem.Value.str (PySem.Str.ofString "law_sn0056_01") 394, code := PySem.Value.ref 185 } }) :: []
noncomputable def hd.hook : PySem.W.Hook := kmHook hd.heap_39 (2 :: 3 :: 15 :: 17 :: 18 :: 20 :: 21 :: 22 :: 24 :: 25 :: 27 :: 28 :: 29 :: 31 :: 32 :: 34 :: 35 :: 36 :: 38 :: 39 :: 41 :: 42 :: 43 :: 45 :: 46 :: 48 :: 49 :: 50 :: 52 :: 53 :: 55 :: 56 :: 57 :: 59 :: 60 :: 62 :: 63 :: 64 :: 66 :: 67 :: 69 :: 70 :: 71 :: 73 :: 74 :: 76 :: 77 :: 78 :: 80 :: 81 :: 83 :: 84 :: 92 :: 94 :: 95 :: 97 :: 98 :: 99 :: 101 :: 102 :: 104 :: 105 :: 106 :: 108 :: 109 :: 111 :: 112 :: 113 :: 115 :: 116 :: 118 :: 119 :: 120 :: 121 :: 122 :: 123 :: 124 :: 127 :: 129 :: 130 :: 132 :: 133 :: 134 :: 137 :: 138 :: 139 :: 141 :: 142 :: 144 :: 145 :: 146 :: 148 :: 149 :: 151 :: 152 :: 153 :: 155 :: 156 :: 158 :: 159 :: 160 :: 163 :: 164 :: 165 :: 168 :: 169 :: 170 :: 172 :: 173 :: 175 :: 176 :: 177 :: 180 :: 181 :: 182 :: 185 :: 186 :: []) (fun _ => by kernel_rfl) [37, 30, 154]
/-- a function's own table entry beside its code -/
noncomputable def tw (o : Obj) : Obj := match o.data with
  | .func d => { cls := .none, data := .func { d with globals := 0, pyModule := .none, code := .none } }
  | _ => { cls := .none, data := .fields #[] }
noncomputable def gap (a : Nat) : Frag → Obj
  | (b, _) :: (_, o) :: _ => match Nat.beq b (Nat.succ a) with | true => tw o | false => { cls := .none, data := .fields #[] }
  | _ => { cls := .none, data := .fields #[] }
/-- the heap's objects from a on: those that the law reaches, those of X, and between them what a def lays -/
noncomputable def fill : Nat → Nat → Frag → Frag → List Obj
  | 0, _, _, _ => []
  | n + 1, a, [], _ => []
  | n + 1, a, (b, o) :: F, [] => match Nat.beq b a with | true => o :: fill n (Nat.succ a) F [] | false => gap a ((b, o) :: F) :: fill n (Nat.succ a) ((b, o) :: F) []
  | n + 1, a, (b, o) :: F, (c, x) :: X => match Nat.beq b a with
    | true => o :: fill n (Nat.succ a) F ((c, x) :: X)
    | false => match Nat.beq c a with
      | true => x :: fill n (Nat.succ a) ((b, o) :: F) X
      | false => gap a ((b, o) :: F) :: fill n (Nat.succ a) ((b, o) :: F) ((c, x) :: X)
noncomputable def exX (P : PySem.Params) : Frag :=
  (nat_lit 85, { cls := PySem.Value.type "tuple", data := PySem.Data.seq #[] }) ::
  (nat_lit 86, { cls := PySem.Value.type "builtin_function_or_method", data := PySem.Data.fields #[PySem.Value.builtin "type.__prepare__", PySem.Value.type "type"] }) ::
  (nat_lit 87, { cls := PySem.Value.type "dict", data := PySem.Data.dict #[{ hash := PySem.PyData.keyHash P (PySem.Str.ofString "__module__"), key := PySem.Value.str (PySem.Str.ofString "__module__") 343, val := PySem.Value.str (PySem.Str.ofString "cpy313.netrc") 334 }, { hash := PySem.PyData.keyHash P (PySem.Str.ofString "__qualname__"), key := PySem.Value.str (PySem.Str.ofString "__qualname__") 345, val := PySem.Value.str (PySem.Str.ofString "_netrclex") 344 }, { hash := PySem.PyData.keyHash P (PySem.Str.ofString "__firstlineno__"), key := PySem.Value.str (PySem.Str.ofString "__firstlineno__") 347, val := PySem.Value.int 162 346 }, { hash := PySem.PyData.keyHash P (PySem.Str.ofString "__init__"), key := PySem.Value.str (PySem.Str.ofString "__init__") 355, val := PySem.Value.ref 98 }, { hash := PySem.PyData.keyHash P (PySem.Str.ofString "_read_char"), key := PySem.Value.str (PySem.Str.ofString "_read_char") 363, val := PySem.Value.ref 105 }, { hash := PySem.PyData.keyHash P (PySem.Str.ofString "get_token"), key := PySem.Value.str (PySem.Str.ofString "get_token") 373, val := PySem.Value.ref 112 }, { hash := PySem.PyData.keyHash P (PySem.Str.ofString "push_token"), key := PySem.Value.str (PySem.Str.ofString "push_token") 381, val := PySem.Value.ref 119 }, { hash := PySem.PyData.keyHash P (PySem.Str.ofString "__static_attributes__"), key := PySem.Value.str (PySem.Str.ofString "__static_attributes__") 386, val := PySem.Value.ref 120 }] 8 }) ::
  (nat_lit 88, { cls := PySem.Value.type "tuple", data := PySem.Data.seq #[] }) ::
  (nat_lit 89, { cls := PySem.Value.none, data := PySem.Data.fields #[PySem.Value.int 164 0, PySem.Value.int 4 0, PySem.Value.ref 97, PySem.Value.int 170 0, PySem.Value.int 4 0, PySem.Value.ref 104, PySem.Value.int 176 0, PySem.Value.int 4 0, PySem.Value.ref 111, PySem.Value.int 203 0, PySem.Value.int 4 0, PySem.Value.ref 118] }) ::
  (nat_lit 90, { cls := PySem.Value.type "code", data := PySem.Data.fields #[PySem.Value.str (PySem.Str.ofString "_netrclex") 338, PySem.Value.str (PySem.Str.ofString "_netrclex") 339, PySem.Value.str (PySem.Str.ofString "/claim/cut.py") 340, PySem.Value.int 162 0, PySem.Value.int 0 0, PySem.Value.int 0 0, PySem.Value.int 0 0, PySem.Value.int 0 0, PySem.Value.ref 88, PySem.Value.bool Bool.false, PySem.Value.int 181 0, PySem.Value.ref 89, PySem.Value.none, PySem.Value.none, PySem.Value.none, PySem.Value.none, PySem.Value.int 341 0, PySem.Value.int 162 0, PySem.Value.str (PySem.Str.ofString "/claim/cut.py") 342] }) ::
  (nat_lit 91, { cls := PySem.Value.type "frame", slots := #[Option.some (PySem.Value.ref 90), Option.some (PySem.Value.ref 3), Option.some (PySem.Value.ref 87), Option.none, Option.some (PySem.Value.str (PySem.Str.ofString "cpy313.netrc") 334), Option.none, Option.some (PySem.Value.ref 0)] }) ::
  (nat_lit 125, { cls := PySem.Value.type "super", data := PySem.Data.fields #[PySem.Value.ref 122, PySem.Value.ref 122, PySem.Value.ref 122] }) ::
  (nat_lit 126, { cls := PySem.Value.type "builtin_function_or_method", data := PySem.Data.fields #[PySem.Value.builtin "object.__init_subclass__", PySem.Value.ref 122] }) ::
  []
noncomputable def ch12 : List Value := [PySem.Value.int 3 0, PySem.Value.int 0 0, PySem.Value.ref 20, PySem.Value.int 19 0, PySem.Value.int 0 0, PySem.Value.ref 27, PySem.Value.int 29 0, PySem.Value.int 0 0, PySem.Value.ref 34, PySem.Value.int 45 0, PySem.Value.int 0 0, PySem.Value.ref 41, PySem.Value.int 54 0, PySem.Value.int 0 0, PySem.Value.ref 48, PySem.Value.int 65 0, PySem.Value.int 0 0, PySem.Value.ref 55, PySem.Value.int 77 0, PySem.Value.int 0 0, PySem.Value.ref 62, PySem.Value.int 100 0, PySem.Value.int 0 0, PySem.Value.ref 69, PySem.Value.int 121 0, PySem.Value.int 0 0, PySem.Value.ref 76, PySem.Value.int 149 0, PySem.Value.int 0 0, PySem.Value.ref 83, PySem.Value.int 162 0, PySem.Value.int 0 0, PySem.Value.ref 90, PySem.Value.int 206 0, PySem.Value.int 0 0, PySem.Value.ref 132, PySem.Value.int 211 0, PySem.Value.int 0 0, PySem.Value.ref 137, PySem.Value.int 216 0, PySem.Value.int 0 0, PySem.Value.ref 144, PySem.Value.int 223 0, PySem.Value.int 0 0, PySem.Value.ref 151, PySem.Value.int 235 0, PySem.Value.int 0 0, PySem.Value.ref 158, PySem.Value.int 253 0, PySem.Value.int 0 0, PySem.Value.ref 163, PySem.Value.int 255 0, PySem.Value.int 0 0, PySem.Value.ref 168, PySem.Value.int 265 0, PySem.Value.int 0 0, PySem.Value.ref 175, PySem.Value.int 281 0, PySem.Value.int 0 0, PySem.Value.ref 180, PySem.Value.int 289 0, PySem.Value.int 0 0, PySem.Value.ref 185]
noncomputable def ob11 : Obj := { cls := PySem.Value.type "tuple", data := PySem.Data.seq #[] }
noncomputable def ob13 : Obj := { cls := PySem.Value.type "code", data := PySem.Data.fields #[PySem.Value.str (PySem.Str.ofString "<module>") 182, PySem.Value.str (PySem.Str.ofString "<module>") 183, PySem.Value.str (PySem.Str.ofString "/claim/cut.py") 184, PySem.Value.int 1 0, PySem.Value.int 0 0, PySem.Value.int 0 0, PySem.Value.int 0 0, PySem.Value.int 0 0, PySem.Value.ref 11, PySem.Value.bool Bool.false, PySem.Value.int 181 0, PySem.Value.ref 12, PySem.Value.none, PySem.Value.none, PySem.Value.none, PySem.Value.none, PySem.Value.int 185 0, PySem.Value.int 1 0, PySem.Value.str (PySem.Str.ofString "/claim/cut.py") 186] }
noncomputable def ob14 : Obj := { cls := PySem.Value.type "frame", slots := #[Option.some (PySem.Value.ref 13), Option.some (PySem.Value.ref 3), Option.some (PySem.Value.ref 3), Option.none, Option.some (PySem.Value.str (PySem.Str.ofString "__main__") 164), Option.none, Option.some (PySem.Value.ref 0)] }
noncomputable def nmd (v : Value) : List DictEntry → List DictEntry
  | e :: r => { e with val := v } :: r
  | [] => []
noncomputable def ob3 (o : Obj) (j : Nat) (v : Value) : Obj := match o.data with
  | .dict a _ => { o with data := .dict ⟨nmd v (a.toList.take j)⟩ j }
  | _ => o
noncomputable def hpF (P : PySem.Params) (n j i : Nat) (v : Value) : Frag → Heap
  | _ :: (_, o) :: F => { objs := ⟨boot_o_0 P :: boot_o_1 P :: boot_o_2 P :: ob3 o j v :: boot_o_4 P :: boot_o_5 P :: boot_o_6 P :: boot_o_7 P :: boot_o_8 P :: boot_o_9 P :: boot_o_10 P :: ob11 :: { cls := .none, data := .fields ⟨ch12.take i⟩ } :: ob13 :: ob14 :: fill n 15 F (exX P)⟩ }
  | _ => { objs := #[] }
/-- the heap after some statements of the text: n objects past the first fifteen, j names, i numbers of the code's children, the name's value -/
noncomputable def hp (P : PySem.Params) (n j i : Nat) (v : Value) : Heap := hpF P n j i v (hd.heap_39 P)
noncomputable abbrev pg : Program := PySem.Challenge.rw_sn0056_01.row.prog
noncomputable abbrev bE : List Stmt := behindTheImports pg
noncomputable abbrev nE : Env := { scope := pg.main.scope, locals := mainNs, globals := mainNs, cells := [], code := .ref 13, frame := some 14 }
noncomputable abbrev cE : Code := .body bE nE
noncomputable abbrev p0 : Pos := ⟨0, 0, 0, 0⟩
noncomputable abbrev sh (w : World) (n j i k : Nat) (v : Value) (os : OsState) : Shared := ⟨hp w.params n j i v, #[], boot_drawn, k, os⟩
noncomputable abbrev vA : Value := .str (Str.ofString "__main__") 164
noncomputable abbrev vB : Value := .str (Str.ofString "cpy313.colorsys") 269
noncomputable abbrev vC : Value := .str (Str.ofString "cpy313.netrc") 334
noncomputable abbrev vD : Value := .str (Str.ofString "law_sn0056_01") 394
set_option maxRecDepth 100000 in
theorem g_pre (w : World) (os : OsState) : topGo treeTable pg w 11 (some (.ref 6)) 12 ⟨boot_heap w.params, #[], boot_drawn, boot_toks, os⟩ (topStub pg) = some (sh w 0 9 0 187 vA os, ⟨denote treeTable cE, cE, p0, [topFrame p0]⟩) := by kernel_rfl
set_option maxRecDepth 100000 in
theorem g_blk (w : World) (os : OsState) : segRun treeTable pg w 11 (some (.ref 6)) 1 1 (sh w 0 9 0 187 vA os) (blockOf bE nE cE p0 [topFrame p0]) = some (.next, sh w 0 9 0 187 vA os, cE, p0) := by kernel_rfl
set_option maxRecDepth 100000 in
theorem g_A (w : World) (os : OsState) : segRun treeTable pg w 11 (some (.ref 6)) 1 279 (sh w 0 9 0 187 vA os) (piecesOf [stA 0, stA 1, stA 2, stA 3, stA 4, stA 5, stA 6, stA 7, stA 8, stA 9] nE cE p0 [topFrame p0]) = some (.next, sh w 49 17 21 290 vB os, cE, ⟨77, 0, 99, 20⟩) := by kernel_rfl
set_option maxRecDepth 100000 in
theorem g_B (w : World) (os : OsState) : segRun treeTable pg w 11 (some (.ref 6)) 1 134 (sh w 49 17 21 290 vB os) (piecesOf [stA 10, stA 11, stA 12, stA 13, stA 14, stA 15] nE cE ⟨77, 0, 99, 20⟩ [topFrame p0]) = some (.next, sh w 70 21 30 336 vC os, cE, ⟨161, 0, 161, 8⟩) := by kernel_rfl
set_option maxRecDepth 100000 in
theorem g_C (w : World) (os : OsState) : segRun treeTable pg w 11 (some (.ref 6)) 1 324 (sh w 70 21 30 336 vC os) (piecesOf [stA 16] nE cE ⟨161, 0, 161, 8⟩ [topFrame p0]) = some (.next, sh w 112 22 33 394 vC os, cE, ⟨162, 0, 204, 35⟩) := by kernel_rfl
set_option maxRecDepth 100000 in
theorem g_D (w : World) (os : OsState) : segRun treeTable pg w 11 (some (.ref 6)) 1 168 (sh w 112 22 33 394 vC os) (piecesOf [stA 17, stA 18, stA 19, stA 20, stA 21, stA 22] nE cE ⟨162, 0, 204, 35⟩ [topFrame p0]) = some (.next, sh w 145 27 48 446 vD os, cE, ⟨235, 0, 252, 15⟩) := by kernel_rfl
set_option maxRecDepth 100000 in
theorem g_E (w : World) (os : OsState) : segRun treeTable pg w 11 (some (.ref 6)) 1 144 (sh w 145 27 48 446 vD os) (piecesOf [stA 23, stA 24, stA 25, stA 26, stA 27] nE cE ⟨235, 0, 252, 15⟩ [topFrame p0]) = some (.next, sh w 172 32 63 487 vD os, cE, ⟨289, 0, 307, 15⟩) := by kernel_rfl
set_option maxRecDepth 100000 in
theorem g_fin (w : World) (os : OsState) : topRun treeTable pg w 11 (some (.ref 6)) 2 (sh w 172 32 63 487 vD os) ⟨doneF .next, cE, ⟨289, 0, 307, 15⟩, [topFrame p0]⟩ = some (sh w 172 32 63 487 vD os) := by kernel_rfl
set_option maxRecDepth 100000 in
theorem g_l1 (w : World) (os : OsState) : (staticsOk (importedModules pg.main.body) (boot_heap w.params) (hp w.params 172 32 63 vD) && namesBound pg (hp w.params 172 32 63 vD) && gensDone (sh w 172 32 63 487 vD os) && laidKept (boot_heap w.params) (hp w.params 172 32 63 vD)) = true := by kernel_rfl
set_option maxRecDepth 100000 in
theorem g_l2 (w : World) (os : OsState) : openSeen hd.view_39 [] (importedModules pg.main.body) (fun s => xlAt hd.view_39 [] s && recOk (RowW.records PySem.Challenge.rw_sn0056_01.row.toRowW) s) true (sh w 172 32 63 487 vD os) = openGood hd.view_39 [] := by kernel_rfl
set_option maxRecDepth 100000 in
theorem g_l3 (w : World) (os : OsState) : Hook.obs hd.hook (sh w 172 32 63 487 vD os) = Hook.val hd.hook w := by kernel_rfl
noncomputable abbrev gM : Nat := 12 + (1 + (279 + (134 + (324 + (168 + (144 + 2))))))
noncomputable abbrev lstA : List Stmt := [stA 0, stA 1, stA 2, stA 3, stA 4, stA 5, stA 6, stA 7, stA 8, stA 9]
noncomputable abbrev lstB : List Stmt := [stA 10, stA 11, stA 12, stA 13, stA 14, stA 15]
noncomputable abbrev lstD : List Stmt := [stA 17, stA 18, stA 19, stA 20, stA 21, stA 22]
noncomputable abbrev lstE : List Stmt := [stA 23, stA 24, stA 25, stA 26, stA 27]
theorem g_split : bE = lstA ++ (lstB ++ ([stA 16] ++ (lstD ++ (lstE ++ [])))) := by kernel_rfl
theorem g_rest (w : World) (os : OsState) : topRun treeTable pg w 11 (some (.ref 6)) (279 + (134 + (324 + (168 + (144 + 2))))) (sh w 0 9 0 187 vA os) (restOf (lstA ++ (lstB ++ ([stA 16] ++ (lstD ++ (lstE ++ []))))) nE cE p0 [topFrame p0]) = some (sh w 172 32 63 487 vD os) :=
  piece_app (g_A w os) (piece_app (g_B w os) (piece_app (g_C w os) (piece_app (g_D w os) (piece_app (g_E w os) (piece_nil (g_fin w os))))))
theorem g_run (w : World) (os : OsState) : topRun treeTable pg w 11 (some (.ref 6)) gM ⟨boot_heap w.params, #[], boot_drawn, boot_toks, os⟩ (topStub pg) = some (sh w 172 32 63 487 vD os) :=
  go_top (g_pre w os) (piece_block (g_blk w os) ((congrArg (fun l => topRun treeTable pg w 11 (some (.ref 6)) (279 + (134 + (324 + (168 + (144 + 2))))) (sh w 0 9 0 187 vA os) (restOf l nE cE p0 [topFrame p0])) g_split).trans (g_rest w os)))
theorem g_open : ∀ w : World, (fencedOpening treeTable pg w 2214).map (fun s => (s.heap, s.gens, s.drawn, s.toks)) = some (boot_heap w.params, #[], boot_drawn, boot_toks) :=
  boot_open (by kernel_rfl) (by decide) (fun s => by kernel_rfl)
theorem g_size (w : World) : ((boot_heap w.params).isNs mainGlobals && (#[] : Array GenState).size == 0, (boot_heap w.params).objs.size, (boot_heap w.params).nsMap mainGlobals "__annotations__") = (true, 11, some (.ref 6)) := by kernel_rfl
theorem hd.left : LeftO PySem.Challenge.rw_sn0056_01.row.prog hd.view_39 [] (fun s => xlAt hd.view_39 [] s && recOk (RowW.records PySem.Challenge.rw_sn0056_01.row.toRowW) s) (Hook.obs hd.hook) (Hook.val hd.hook) 2214 :=
  LeftO.of_pieces (H₁ := fun P => hp P 172 32 63 vD) (M := gM) g_open g_size g_run (by rfl) (fun w => funext fun os => Prod.ext (g_l1 w os) (Prod.ext (g_l2 w os) (g_l3 w os)))
end
section
open PySem PySem.Spec PySem.Calls PySem.W PyProof.Rows
set_option maxRecDepth 100000 in
theorem sd_n0 : sreFenced pg.main = true := by kernel_rfl
set_option maxRecDepth 100000 in
theorem sd_n00 : ((moduleNames pg.main.body).isEmpty || lookedIntoSs (moduleNames pg.main.body) pg.main.body) = true := by kernel_rfl
set_option maxRecDepth 100000 in
theorem sd_n1 : namesResolve pg = true := by kernel_rfl
set_option maxRecDepth 100000 in
theorem sd_n2 : (pg.boundNames.all fun n => !worldNames.contains n) = true := by kernel_rfl
set_option maxRecDepth 100000 in
theorem sd_n3 : noRoadLSs { strict := false, foot := none, bare := [] } pg.main.body = true := by kernel_rfl
theorem sd_n3c {c} (h : c = { strict := false, foot := none, bare := [] }) : noRoadLSs c pg.main.body = true := h ▸ sd_n3
set_option maxRecDepth 100000 in
theorem sd_n4 : namesMeet pg pg.main.body (fun _ n => attrL n) = true := by kernel_rfl
set_option maxRecDepth 100000 in
theorem sd_n5 : looksOpen pg = true := by
  unfold looksOpen
  refine look_both (look_both (look_both (look_both (look_both sd_n0 sd_n00) sd_n1) sd_n2) (sd_n3c ?_)) sd_n4
  kernel_rfl
set_option maxRecDepth 100000 in
theorem said_part : PySem.Challenge.rw_sn0056_01.row.wellSaid = true := by
  unfold OpenRow.wellSaid
  refine look_both (look_both ?_ ?_) ?_
  · unfold OpenRow.partSaid
    refine look_both (look_both (look_both (look_both (look_both (look_both (look_both (look_both (look_both (look_both (look_both (look_both (look_both sd_n5 ?_) ?_) ?_) ?_) ?_) ?_) ?_) ?_) ?_) ?_) ?_) ?_) ?_
    all_goals kernel_rfl
  all_goals kernel_rfl
set_option maxRecDepth 100000 in
theorem said_law : PySem.Challenge.rw_sn0056_01.wellSaid = true := by
  unfold OpenLaw.wellSaid
  repeat' (with_reducible refine look_both ?_ ?_)
  exact said_part
  all_goals kernel_rfl
end
open PySem PySem.Spec PySem.Calls PySem.W PyProof.Rows PyProof.Rows.LCg
local macro_rules | `(tactic| obtain $p:rcasesPatMed := $v:term) => `(tactic| (refine Classical.byContradiction fun hG => ?_; rcases $v:term with $p:rcasesPatMed; all_goals (refine hG ?_; clear hG)))
local macro_rules | `(tactic| omega) => do `(tactic| first | (k_whole; with_reducible first | assumption $[| $((← al "Int.natCast_nonneg Nat.zero_le Nat.le_refl Mine.o1 Mine.o2 Mine.o3 Mine.o4 Mine.o5" "_") ++ (← al "Mine.z63 Mine.nle Mine.r2" "we") ++ (← al "Mine.r0" "w"))]*) | omega +splitDisjunctions)
local macro_rules | `(tactic| rcases List.mem_cons.mp $h:ident with rfl | $k:ident) => `(tactic| (refine mc $h ?_ ?_; rotate_left; (clear $h; intro $k:ident); rotate_right))
local macro_rules | `(tactic| rcases List.mem_append.mp $h:ident with $k:ident | $j:ident) => `(tactic| (refine ma $h ?_ ?_; rotate_left; (clear $h; intro $j:ident); rotate_right; (clear $h; intro $k:ident)))
section
/-- the plain side -/
noncomputable def cellOf (c : Nat → Nat) (k : Nat) : List Nat := (List.range 6).filter fun d => c d == k
noncomputable def tot (h : Nat → Int) (l : List Nat) : Int := (l.map h).sum
noncomputable def shareOf (c : Nat → Nat) (h : Nat → Int) (f : Nat → Bool) (k : Nat) : Int :=
  (2048 * tot h ((cellOf c (c k)).filter f)).fdiv (tot h (cellOf c (c k)))
theorem sum_bd {h : Nat → Int} (hh : ∀ d, 5 ≤ h d ∧ h d ≤ 7) : ∀ l : List Nat, 0 ≤ (l.map h).sum ∧ 5 * (l.length : Int) ≤ (l.map h).sum ∧ (l.map h).sum ≤ 7 * (l.length : Int)
  | [] => by simp
  | d :: l => by
    have := sum_bd hh l
    have := hh d
    simp only [List.map_cons, List.sum_cons, List.length_cons]
    omega
theorem tot_bd {h : Nat → Int} (hh : ∀ d, 5 ≤ h d ∧ h d ≤ 7) (l : List Nat) (f : Nat → Bool) : 0 ≤ ((l.filter f).map h).sum ∧ ((l.filter f).map h).sum ≤ 7 * (l.length : Int) ∧ 5 * ((l.filter f).length : Int) ≤ ((l.filter f).map h).sum := by
  have h1 := sum_bd hh (l.filter f)
  have h2 := List.length_filter_le f l
  omega
end
section
/-- the first of six that stands in R to d -/
noncomputable def canon (R : Nat → Nat → Bool) (d : Nat) : Nat := (List.range 6).findIdx fun e => R e d
/-- a parting of six, each class known by its first -/
noncomputable def Valid (c : Nat → Nat) : Prop := ∀ k, k < 6 → c k ≤ k ∧ c (c k) = c k
noncomputable def cnt (c : Nat → Nat) : Nat := ((List.range 6).filter fun k => c k == k).length
theorem cnt_le (c : Nat → Nat) : cnt c ≤ 6 := by
  have := List.length_filter_le (fun k => c k == k) (List.range 6)
  simpa [cnt] using this
theorem canon_spec {R : Nat → Nat → Bool} {d : Nat} (hd : d < 6) (hr : R d d = true) : canon R d ≤ d ∧ R (canon R d) d = true ∧ ∀ e, e < canon R d → R e d = false := by
  have hex : ∃ x, x ∈ List.range 6 ∧ R x d = true := ⟨d, List.mem_range.mpr hd, hr⟩
  have hlt : (List.range 6).findIdx (fun e => R e d) < (List.range 6).length := List.findIdx_lt_length_of_exists hex
  have h1 := List.findIdx_getElem (xs := List.range 6) (p := fun e => R e d) (w := hlt)
  rw [List.getElem_range] at h1
  have h2 : ∀ e, e < canon R d → R e d = false := fun e he => by
    have h3 := List.not_of_lt_findIdx (xs := List.range 6) (p := fun e => R e d) he
    rw [List.getElem_range] at h3
    simpa using h3
  refine ⟨?_, h1, h2⟩
  rcases Nat.lt_or_ge d (canon R d) with h | h
  · have := h2 d h
    rw [hr] at this; cases this
  · exact h
/-- the relation of a listener's refined knowledge -/
noncomputable def finer (c : Nat → Nat) (g : Nat → Int) (e d : Nat) : Bool := decide (c e = c d) && decide (g e = g d)
theorem finer_canon {c : Nat → Nat} {g : Nat → Int} {d : Nat} (hd : d < 6) : canon (finer c g) d ≤ d ∧ c (canon (finer c g) d) = c d ∧ g (canon (finer c g) d) = g d ∧ ∀ e, e < canon (finer c g) d → ¬ (c e = c d ∧ g e = g d) := by
  obtain ⟨h1, h2, h3⟩ := canon_spec (R := finer c g) hd (by simp [finer])
  simp only [finer, Bool.and_eq_true, decide_eq_true_eq] at h2
  refine ⟨h1, h2.1, h2.2, fun e he hh => ?_⟩
  have := h3 e he
  simp [finer, hh.1, hh.2] at this
theorem finer_valid {c : Nat → Nat} {g : Nat → Int} : Valid (canon (finer c g)) := by
  intro k hk
  obtain ⟨h1, h2, h3, h4⟩ := finer_canon (c := c) (g := g) hk
  refine ⟨h1, ?_⟩
  have hk' : canon (finer c g) k < 6 := by omega
  obtain ⟨g1, g2, g3, g4⟩ := finer_canon (c := c) (g := g) hk'
  rcases Nat.lt_or_ge (canon (finer c g) (canon (finer c g) k)) (canon (finer c g) k) with h | h
  · exact absurd ⟨g2.trans h2, g3.trans h3⟩ (h4 _ h)
  · omega
theorem finer_rep {c : Nat → Nat} {g : Nat → Int} (hv : Valid c) {k : Nat} (hk : k < 6) (e : c k = k) : canon (finer c g) k = k := by
  obtain ⟨h1, h2, h3, h4⟩ := finer_canon (c := c) (g := g) hk
  have := (hv (canon (finer c g) k) (by omega)).1
  omega
theorem filter_lt {p q : Nat → Bool} : ∀ {l : List Nat}, (∀ x ∈ l, p x = true → q x = true) → (∃ x ∈ l, q x = true ∧ p x = false) → (l.filter p).length < (l.filter q).length
  | [], _, ⟨_, h, _⟩ => by cases h
  | a :: l, h1, ⟨x, hx, hq, hp⟩ => by
    have hle : (l.filter p).length ≤ (l.filter q).length := filter_le fun x hx => h1 x (.tail _ hx)
    rw [List.filter_cons, List.filter_cons]
    rcases List.mem_cons.mp hx with rfl | hx
    · rw [hp, hq]; simp; omega
    · have ih := filter_lt (fun x hx => h1 x (.tail _ hx)) ⟨x, hx, hq, hp⟩
      cases hpa : p a with
      | true => rw [h1 a (.head _) hpa]; simp; omega
      | false => cases q a <;> simp <;> omega
where
  filter_le {p q : Nat → Bool} : ∀ {l : List Nat}, (∀ x ∈ l, p x = true → q x = true) → (l.filter p).length ≤ (l.filter q).length
  | [], _ => Nat.le_refl _
  | a :: l, h1 => by
    have ih := filter_le fun x hx => h1 x (List.mem_cons_of_mem a hx)
    rw [List.filter_cons, List.filter_cons]
    cases hpa : p a with
    | true => rw [h1 a (.head _) hpa]; simp; omega
    | false => cases q a <;> simp <;> omega
theorem finer_cnt {c : Nat → Nat} {g : Nat → Int} (hv : Valid c) (hne : ∃ d, d < 6 ∧ canon (finer c g) d ≠ c d) : cnt c < cnt (canon (finer c g)) := by
  refine filter_lt (fun x hx h => ?_) ?_
  · have := finer_rep (g := g) hv (List.mem_range.mp hx) (by simpa using h)
    simpa using this
  · obtain ⟨d, hd, hne⟩ := hne
    obtain ⟨h1, h2, h3, h4⟩ := finer_canon (c := c) (g := g) hd
    have hr : canon (finer c g) d < 6 := by omega
    have hrr := (finer_valid (c := c) (g := g) d hd).2
    refine ⟨canon (finer c g) d, List.mem_range.mpr hr, by simpa using hrr, ?_⟩
    rw [beq_eq_false_iff_ne]
    intro e
    rw [h2] at e
    exact hne e.symm
theorem finer_same {c : Nat → Nat} {g : Nat → Int} (h : ∀ d, d < 6 → canon (finer c g) d = c d) {d e : Nat} (hd : d < 6) (he : e < 6) (hc : c d = c e) : g d = g e := by
  have h1 := (finer_canon (c := c) (g := g) hd).2.2.1
  have h2 := (finer_canon (c := c) (g := g) he).2.2.1
  rw [h d hd] at h1
  rw [h e he] at h2
  rw [← h1, ← h2, hc]
theorem shareOf_congr {c c' : Nat → Nat} {h : Nat → Int} {f : Nat → Bool} (e : ∀ d, d < 6 → c d = c' d) : (List.range 6).map (shareOf c h f) = (List.range 6).map (shareOf c' h f) := by
  refine List.map_congr_left fun k hk => ?_
  have hk6 := List.mem_range.mp hk
  unfold shareOf
  have : cellOf c (c k) = cellOf c' (c' k) := by
    unfold cellOf
    rw [e k hk6]
    refine List.filter_congr fun d hd => ?_
    rw [e d (List.mem_range.mp hd)]
  rw [this]
end
section
open PySem PySem.Spec PySem.Calls PySem.W PyProof.Rows PyProof.Rows.LCg

noncomputable abbrev Led := List (Addr × Obj)

/-- where a turn of a for leaves things -/
inductive TurnI (h₀ : Heap) (L : Addr) (gs : Array GenState) (ds : Drawn) (qs : OsState) (I : Addr) (oI : Obj) (J : (Str → Option Value) → Led → Prop) (s₄ : Shared) : Prop
  | mk (h' : Heap) (tk' : Nat) (m₂ : Str → Option Value) (news₂ : Led) : s₄ = ⟨h', gs, ds, tk', qs⟩ → Fr h₀ L h' m₂ → News h₀ L h' ((I, oI) :: news₂) → (∀ q ∈ news₂, q.1 ≠ I) → J m₂ news₂ → TurnI h₀ L gs ds qs I oI J s₄
/-- where a turn of a while leaves things -/
inductive TurnW (h₀ : Heap) (L : Addr) (gs : Array GenState) (ds : Drawn) (qs : OsState) (k : Nat) (J : Nat → (Str → Option Value) → Led → Prop) (s₄ : Shared) : Prop
  | mk (h' : Heap) (tk' k' : Nat) (m₂ : Str → Option Value) (news₂ : Led) : s₄ = ⟨h', gs, ds, tk', qs⟩ → k' < k → Fr h₀ L h' m₂ → News h₀ L h' news₂ → J k' m₂ news₂ → TurnW h₀ L gs ds qs k J s₄
/-- where a for over I begins -/
inductive StartG (h₀ : Heap) (L : Addr) (gs : Array GenState) (ds : Drawn) (qs : OsState) (I : Addr) (J : Nat → (Str → Option Value) → Led → Prop) (it : Value) (s₂ : Shared) : Prop
  | mk (h : Heap) (tk k : Nat) (m₁ : Str → Option Value) (news₁ : Led) : s₂ = ⟨h, gs, ds, tk, qs⟩ → it = .ref I → J k m₁ news₁ → Fr h₀ L h m₁ → News h₀ L h news₁ → StartG h₀ L gs ds qs I J it s₂
/-- an iterator at I over as; src: what it reads beside itself -/
structure ItM {α : Type} (prog : Program) (w : World) (A : Around) (h₀ : Heap) (L : Addr) (src : Led) (as : List α) (Is : α → Value → Prop) (I : Addr) (St : Nat → Heap → Prop) : Prop where
  item : ∀ i a (s : Shared) (Q : Option Value → Shared → Prop) (E : Value → Shared → Prop), as[i]? = some a → St i s.heap →
    (∀ v h' tk, Is a v → St (i + 1) h' → (∀ b o, b ≠ I → s.heap.get? b = some o → h'.get? b = some o) → Q (some v) { s with heap := h', toks := tk }) → wpAny (model prog w) A (pyNext (.ref I)) Q E s
  done : ∀ (s : Shared) (Q : Option Value → Shared → Prop) (E : Value → Shared → Prop), St as.length s.heap →
    (∀ h' tk, (∀ b o, b ≠ I → s.heap.get? b = some o → h'.get? b = some o) → Q none { s with heap := h', toks := tk }) → wpAny (model prog w) A (pyNext (.ref I)) Q E s
  self : ∀ i (s : Shared) (Q : Value → Shared → Prop) (E : Value → Shared → Prop), St i s.heap → Q (.ref I) s → wpAny (model prog w) A (pyIter (.ref I)) Q E s
  has : ∀ i h, St i h → ∃ o, h.get? I = some o
  stay : ∀ i (h h' : Heap) o, St i h → h.get? I = some o → h'.get? I = some o → (∀ b o, h₀.get? b = some o → h.get? b = some o) → (∀ b o, h₀.get? b = some o → h'.get? b = some o) →
    (∀ p ∈ src, h.get? p.1 = some p.2) → (∀ p ∈ src, h'.get? p.1 = some p.2) → St i h'
  fresh : h₀.get? I = none
  offL : I ≠ L

section
variable {prog : Program} {w : World} {A : Around} {E : Value → Shared → Prop} {s : Shared} {h₀ : Heap} {L : Addr} {m : Str → Option Value} {env : Env} {news : Led}

theorem ItM.ofWalks {α : Type} {src : Led} {as : List α} {Is : α → Value → Prop} {I : Addr} {fp : List Addr} {P : Nat → Value → Prop} {St : Nat → Heap → Prop}
    (W : Walks prog w A I fp [I] as.length P St) (hP : ∀ (i : Nat) (a : α) v, as[i]? = some a → P i v → Is a v) (has : ∀ i h, St i h → ∃ o, h.get? I = some o)
    (hfp : ∀ b ∈ fp, b = I ∨ (∃ o, h₀.get? b = some o) ∨ ∃ o, (b, o) ∈ src) (fresh : h₀.get? I = none) (offL : I ≠ L) : ItM prog w A h₀ L src as Is I St where
  item := fun i a s Q E ha st k => by
    have hi : i < as.length := (List.getElem?_eq_some_iff.mp ha).1
    exact W.item i s Q E hi st fun v h' tk hv st' hk => k v h' tk (hP i a v ha hv) st' fun b o hb e => hk b o (by simpa using hb) e
  done := fun s Q E st k => W.done s Q E st fun h' tk hk => k h' tk fun b o hb e => hk b o (by simpa using hb) e
  self := W.self
  has := has
  stay := fun i h h' o st e e' k k' n n' => W.frame i h h' st fun b hb ob eb => by
    rcases hfp b hb with rfl | ⟨o₀, h0⟩ | ⟨o₀, hm⟩
    · rw [e] at eb; cases eb; exact e'
    · have := k _ _ h0; rw [this] at eb; cases eb; exact k' _ _ h0
    · have := n _ hm; rw [this] at eb; cases eb; exact n' _ hm
  fresh := fresh
  offL := offL

/-- what a comprehension has gathered -/
inductive Got {α : Type} (R : α → Value → Led → Prop) : List α → List Value → Led → Prop
  | nil : Got R [] [] []
  | snoc {as ys tl a y tl'} : Got R as ys tl → R a y tl' → Got R (as ++ [a]) (ys ++ [y]) (tl' ++ tl)

theorem Got.length {α : Type} {R : α → Value → Led → Prop} {as : List α} {ys : List Value} {tl : Led} (g : Got R as ys tl) : ys.length = as.length := by
  induction g with
  | nil => rfl
  | snoc _ _ ih => simp [ih]

theorem Got.get {α : Type} {R : α → Value → Led → Prop} {as : List α} {ys : List Value} {tl : Led} (g : Got R as ys tl) :
    ∀ (i : Nat) (a : α), as[i]? = some a → ∃ y tl', ys[i]? = some y ∧ R a y tl' ∧ ∀ q ∈ tl', q ∈ tl := by
  induction g with
  | nil => intro i a h; simp at h
  | @snoc as ys tl a y tl' g r ih =>
    intro i b h
    have hl := g.length
    rcases Nat.lt_trichotomy i as.length with hi | hi | hi
    · rw [List.getElem?_append_left hi] at h
      obtain ⟨z, tz, h1, h2, h3⟩ := ih i b h
      exact ⟨z, tz, by rw [List.getElem?_append_left (by omega)]; exact h1, h2, fun q hq => List.mem_append.mpr (.inr (h3 q hq))⟩
    · subst hi
      simp at h
      subst h
      exact ⟨y, tl', by rw [List.getElem?_append_right (by omega), hl]; simp, r, fun q hq => List.mem_append.mpr (.inl hq)⟩
    · have : (as ++ [a])[i]? = none := List.getElem?_eq_none (by simp; omega)
      rw [this] at h; cases h

/-- the loop of a comprehension, its clause any -/
theorem compLoop_any {elt target iter : Expr} {ifs : List Expr} {scope : Scope} {pos : Pos} {it acc : Value} {R : Result → Shared → Prop} (I : Nat → Shared → Prop) (E' : Value → Shared → Prop) (hE : ∀ e s', E' e s' → notedBy (model prog w) A env (fun e s' => R (.error e) s') e s')
    (turn : ∀ n s, I n s → wpAny (model prog w) A (pyNext it) (fun r s₁ => match r with
      | none => R (.ok .next) s₁
      | some v => wpAny (model prog w) A (letOwnedTupleGo target it v) (fun _ s₂ => wpAny (model prog w) A (assign target env v) (fun _ s₃ =>
          wpAny (model prog w) A (forIn ifs true fun c r => if r = true then do let ok ← isTrue c env (eval c env); pure (ForInStep.yield ok) else pure (ForInStep.yield r)) (fun ok s₄ =>
            if ok = true then wpAny (model prog w) A (eval elt env) (fun x s₅ => wpAny (model prog w) A (call (.builtin "list.append") [acc, x]) (fun _ s₆ => ∃ m, m < n ∧ I m s₆) E' s₅) E' s₄
            else ∃ m, m < n ∧ I m s₄) E' s₃) E' s₂) E' s₁) E' s)
    (n : Nat) (h : I n s) : codeAny (model prog w) A (.compLoop (.ListComp elt [⟨target, iter, ifs, 0⟩] scope pos) 0 it acc env) R s := by
  refine codeAny_loop rfl I (fun n s hI => ?_) n h
  show wpAny _ A ((compTurn (.ListComp elt [⟨target, iter, ifs, 0⟩] scope pos) 0 it acc env).onRaise (fun x => do noteFrame x env; theTreesLotGoes x)) _ _ s
  refine wpAny_noted ?_
  rw [compTurn_list]
  refine wpAny_mono (E := E') ?_ (fun _ _ x => x) hE
  refine wpAny_bind (wpAny_standAt (wpAny_bind (wpAny_mono (turn n s hI) (fun r s₁ h₁ => ?_) fun _ _ h' => h')))
  cases r with
  | none => exact wpAny_pure h₁
  | some v =>
    refine wpAny_bind (wpAny_mono h₁ (fun _ s₂ h₂ => wpAny_bind (wpAny_mono h₂ (fun _ s₃ h₃ => wpAny_bind (wpAny_mono h₃ (fun ok s₄ h₄ => ?_) fun _ _ h' => h')) fun _ _ h' => h')) fun _ _ h' => h')
    cases ok with
    | false => exact wpAny_pure ⟨rfl, h₄⟩
    | true =>
      exact wpAny_bind (wpAny_bind (wpAny_mono h₄ (fun x s₅ h₅ => wpAny_bind (wpAny_mono h₅ (fun _ s₆ h₆ => wpAny_pure (wpAny_pure ⟨rfl, h₆⟩)) fun _ _ h' => h')) fun _ _ h' => h'))

/-- what the items of a comprehension must do -/
structure CompOk {α : Type} (prog : Program) (w : World) (A : Around) (h₀ : Heap) (L : Addr) (m : Str → Option Value) (env : Env) (scope : Scope) (cl : List (Str × Addr)) (target : Expr) (ifs : List Expr) (elt : Expr)
    (as : List α) (Is : α → Value → Prop) (p : α → Bool) (R : α → Value → Led → Prop) (Bd : α → Value → (Str → Option Value) → Prop) (news : Led) (I : Addr) (St : Nat → Heap → Prop) : Prop where
  go : ∀ i a v (s : Shared) (Q : Unit → Shared → Prop) (E' : Value → Shared → Prop), a ∈ as → Is a v → St i s.heap → Fr h₀ L s.heap m → News h₀ L s.heap news → Q () s → wpAny (model prog w) A (letOwnedTupleGo target (.ref I) v) Q E' s
  asg : ∀ a v C oC m₁ own (s : Shared) (Q : Unit → Shared → Prop) (E' : Value → Shared → Prop), a ∈ as → Is a v → NsObj oC m₁ → Fr h₀ L s.heap m → News h₀ L s.heap ((C, oC) :: (own ++ news)) → (∀ p ∈ own ++ news, p.1 ≠ C) →
    (∀ oC' m₁' h' tk, NsObj oC' m₁' → Bd a v m₁' → Fr h₀ L h' m → News h₀ L h' ((C, oC') :: (own ++ news)) → Q () { s with heap := h', toks := tk }) → wpAny (model prog w) A (assign target (compEnvC scope cl C env) v) Q E' s
  test : ∀ a v C oC m₁ own (s : Shared) (Q : Bool → Shared → Prop) (E' : Value → Shared → Prop), a ∈ as → Is a v → Bd a v m₁ → NsObj oC m₁ → Fr h₀ L s.heap m → News h₀ L s.heap ((C, oC) :: (own ++ news)) →
    (∀ h' tk, Fr h₀ L h' m → News h₀ L h' ((C, oC) :: (own ++ news)) → Q (p a) { s with heap := h', toks := tk }) →
    wpAny (model prog w) A (forIn ifs true fun c r => if r = true then do let ok ← isTrue c (compEnvC scope cl C env) (eval c (compEnvC scope cl C env)); pure (ForInStep.yield ok) else pure (ForInStep.yield r)) Q E' s
  elt : ∀ a v C oC m₁ own (s : Shared) (Q : Value → Shared → Prop) (E' : Value → Shared → Prop), a ∈ as → Is a v → p a = true → Bd a v m₁ → NsObj oC m₁ → Fr h₀ L s.heap m → News h₀ L s.heap ((C, oC) :: (own ++ news)) →
    (∀ y tl h' tk, R a y tl → Fr h₀ L h' m → News h₀ L h' (tl ++ (C, oC) :: (own ++ news)) → (∀ q ∈ tl, ∀ p ∈ (C, oC) :: (own ++ news), p.1 < q.1) → Q y { s with heap := h', toks := tk }) →
    wpAny (model prog w) A (eval elt (compEnvC scope cl C env)) Q E' s

theorem Fr.but1 {h h' : Heap} {b : Addr} (F : Fr h₀ L h m) (hk : ∀ a o, a ≠ b → h.get? a = some o → h'.get? a = some o) (hL : L ≠ b) (h0 : h₀.get? b = none) : Fr h₀ L h' m :=
  ⟨F.ns.at' fun o e => hk L o hL e, fun a o e => hk a o (fun q => by rw [q, h0] at e; cases e) (F.keep a o e), F.above⟩
theorem News.but1 {h h' : Heap} {b : Addr} {nw : Led} (N : News h₀ L h nw) (hk : ∀ a o, a ≠ b → h.get? a = some o → h'.get? a = some o) (off : ∀ p ∈ nw, p.1 ≠ b) : News h₀ L h' nw :=
  fun p hp => ⟨hk _ _ (off p hp) (N p hp).1, (N p hp).2⟩
theorem News.sub {h : Heap} {nw nw' : Led} (N : News h₀ L h nw) (hs : ∀ p ∈ nw', p ∈ nw) : News h₀ L h nw' := fun p hp => N p (hs p hp)
theorem News.cons {h : Heap} {b : Addr} {o : Obj} {nw : Led} (e : h.get? b = some o) (hL : b ≠ L) (h0 : h₀.get? b = none) (N : News h₀ L h nw) : News h₀ L h ((b, o) :: nw) := fun p hp => by
  rcases List.mem_cons.mp hp with rfl | hp
  · exact ⟨e, hL, h0⟩
  · exact N p hp
theorem News.lt {h : Heap} {nw : Led} (N : News h₀ L h nw) : ∀ p ∈ nw, p.1 < h.objs.size := fun p hp => Heap.lt_size (N p hp).1
theorem News.of_append {h : Heap} {a b : Led} (x : News h₀ L h a) (y : News h₀ L h b) : News h₀ L h (a ++ b) := fun p hp => (List.mem_append.mp hp).elim (x p) (y p)

theorem Got.mono {α : Type} {R R' : α → Value → Led → Prop} {as : List α} {ys : List Value} {TL : Led} (g : Got R as ys TL) (h : ∀ a y tl, R a y tl → R' a y tl) : Got R' as ys TL := by
  induction g with
  | nil => exact .nil
  | snoc _ r ih => exact .snoc ih (h _ _ _ r)

/-- what the items of a comprehension must do, the counter watched -/
structure CompOkT {α : Type} (prog : Program) (w : World) (A : Around) (h₀ : Heap) (L : Addr) (m : Str → Option Value) (env : Env) (scope : Scope) (cl : List (Str × Addr)) (target : Expr) (ifs : List Expr) (elt : Expr)
    (as : List α) (Is : α → Value → Prop) (p : α → Bool) (R : α → Nat → Value → Led → Nat → Prop) (Bd : α → Value → (Str → Option Value) → Prop) (news : Led) (I : Addr) (St : Nat → Heap → Prop) : Prop where
  go : ∀ i a v (s : Shared) (Q : Unit → Shared → Prop) (E' : Value → Shared → Prop), a ∈ as → Is a v → St i s.heap → Fr h₀ L s.heap m → News h₀ L s.heap news → Q () s → wpAny (model prog w) A (letOwnedTupleGo target (.ref I) v) Q E' s
  asg : ∀ a v C oC m₁ own (s : Shared) (Q : Unit → Shared → Prop) (E' : Value → Shared → Prop), a ∈ as → Is a v → NsObj oC m₁ → Fr h₀ L s.heap m → News h₀ L s.heap ((C, oC) :: (own ++ news)) → (∀ p ∈ own ++ news, p.1 ≠ C) →
    (∀ oC' m₁' h' tk, NsObj oC' m₁' → Bd a v m₁' → Fr h₀ L h' m → News h₀ L h' ((C, oC') :: (own ++ news)) → Q () { s with heap := h', toks := tk }) → wpAny (model prog w) A (assign target (compEnvC scope cl C env) v) Q E' s
  test : ∀ a v C oC m₁ own (s : Shared) (Q : Bool → Shared → Prop) (E' : Value → Shared → Prop), a ∈ as → Is a v → Bd a v m₁ → NsObj oC m₁ → Fr h₀ L s.heap m → News h₀ L s.heap ((C, oC) :: (own ++ news)) →
    (∀ h' tk, Fr h₀ L h' m → News h₀ L h' ((C, oC) :: (own ++ news)) → Q (p a) { s with heap := h', toks := tk }) →
    wpAny (model prog w) A (forIn ifs true fun c r => if r = true then do let ok ← isTrue c (compEnvC scope cl C env) (eval c (compEnvC scope cl C env)); pure (ForInStep.yield ok) else pure (ForInStep.yield r)) Q E' s
  elt : ∀ a v C oC m₁ own (s : Shared) (Q : Value → Shared → Prop) (E' : Value → Shared → Prop), a ∈ as → Is a v → p a = true → Bd a v m₁ → NsObj oC m₁ → Fr h₀ L s.heap m → News h₀ L s.heap ((C, oC) :: (own ++ news)) →
    (∀ y tl h' tk, R a s.toks y tl tk → Fr h₀ L h' m → News h₀ L h' (tl ++ (C, oC) :: (own ++ news)) → (∀ q ∈ tl, ∀ p ∈ (C, oC) :: (own ++ news), p.1 < q.1) → Q y { s with heap := h', toks := tk }) →
    wpAny (model prog w) A (eval elt (compEnvC scope cl C env)) Q E' s

inductive CBJ {α : Type} (h₀ : Heap) (L : Addr) (m : Str → Option Value) (news : Led) (as : List α) (p : α → Bool) (R : α → Nat → Value → Led → Nat → Prop) (Iv : List Value → Nat → Prop) (s₂ : Shared) (St : Nat → Heap → Prop) (D : Addr) (k : Nat) (s' : Shared) : Prop
  | mk : ∀ (h' : Heap) (tk i : Nat) (ys : List Value) (TL : Led) (m' : Str → Option Value) (oC : Obj), s' = { s₂ with heap := h', toks := tk } → i ≤ as.length → k = as.length + 1 - i → ys.length ≤ i → St i h' → Fr h₀ L h' m → h'.get? (D + 1) = some oC → NsObj oC m' → News h₀ L h' ((D, lst ys) :: (TL ++ news)) →
        Got (fun a y tl => ∃ t1 t2, R a t1 y tl t2) ((as.take i).filter p) ys TL → (∀ q ∈ TL, D + 1 < q.1) → Iv ys tk → CBJ h₀ L m news as p R Iv s₂ St D k s'
theorem comp_blockT {α : Type} {elt target iter : Expr} {ifs : List Expr} {scope : Scope} {cl : List (Str × Addr)} {pos : Pos} {s₂ : Shared} {as : List α} {Is : α → Value → Prop} {p : α → Bool} {R : α → Nat → Value → Led → Nat → Prop} {Iv : List Value → Nat → Prop}
    {Bd : α → Value → (Str → Option Value) → Prop} {src : Led} {I : Addr} {St : Nat → Heap → Prop} {RR : Value → Addr → Result → Shared → Prop}
    (W : ItM prog w A h₀ L src as Is I St) (hsz : as.length ≤ sizeLine) (hst : St 0 s₂.heap) (F : Fr h₀ L s₂.heap m) (N : News h₀ L s₂.heap news) (hsrc : ∀ q ∈ src, q ∈ news) (off : ∀ q ∈ news, q.1 ≠ I)
    (hcell : ∀ y ∈ scope.names, y.2 ≠ .cell) (hkind : scope.kind = .function)
    (hI0 : ∀ tk, Iv [] tk) (hIm : ∀ ys a b, Iv ys a → a ≤ b → Iv ys b) (hIs : ∀ ys x y tl a b, Iv ys a → R x a y tl b → Iv (ys ++ [y]) b)
    (ok : CompOkT prog w A h₀ L m env scope cl target ifs elt as Is p R Bd news I St)
    (hRR : ∀ D C ys TL h tk m', Got (fun a y tl => ∃ t1 t2, R a t1 y tl t2) (as.filter p) ys TL → (∃ tk', Iv ys tk') → Fr h₀ L h m → News h₀ L h ((D, lst ys) :: (TL ++ news)) → (∀ q ∈ TL, D < q.1) → (∀ q ∈ news, q.1 < D) → h.Ns C m' → h₀.get? C = none → C ≠ L → C ≠ D → (∀ q ∈ TL ++ news, q.1 ≠ C) → RR (.ref D) C (.ok .next) { s₂ with heap := h, toks := tk }) :
    wpAny (model prog w) A (newList []) (fun acc s₃ => wpAny (model prog w) A (newFunctionEnv scope env.globals cl [] env.qual none .none (some env)) (fun cenv s₄ =>
      codeAny (model prog w) A (.compStart (.ListComp elt [⟨target, iter, ifs, 0⟩] scope pos) 0 (.ref I) acc { cenv with scope := relabel scope env }) (RR acc cenv.locals) s₄) E s₃) E s₂ := by
  refine wpAny_newObj_type (wpAny_newFunctionEnv hcell (by intro y hy; simp at hy) (fun h₁ hns₁ hsb₁ => ?_) hkind)
  dsimp only at hns₁ hsb₁ ⊢
  generalize hD : s₂.heap.objs.size = D at hns₁ hsb₁ ⊢
  have hC : (s₂.heap.push { cls := .type "list", dict := none, data := .seq ([] : List Value).toArray }).objs.size = D + 1 := by rw [Heap.size_push, hD]
  rw [hC] at hns₁ hsb₁ ⊢
  have below : ∀ b o, s₂.heap.get? b = some o → b < D := fun b o e => hD ▸ Heap.lt_size e
  have old : ∀ b o, s₂.heap.get? b = some o → h₁.get? b = some o := fun b o e => hsb₁.extBut b o (Nat.ne_of_lt (Nat.lt_succ_of_lt (below b o e))) (Heap.get?_push_of_some _ (Heap.get?_push_of_some _ e))
  have hacc : h₁.get? D = some (lst []) := hsb₁.extBut _ _ (Nat.ne_of_lt (Nat.lt_succ_self _)) (by rw [← hD]; exact Heap.get?_push_of_some _ (Heap.get?_push_size _ rfl))
  have fresh : ∀ b, D ≤ b → h₀.get? b = none := fun b hb => by
    cases e : h₀.get? b with
    | none => rfl
    | some o' => exact absurd (below b o' (F.keep b o' e)) (Nat.not_lt.mpr hb)
  obtain ⟨oI₀, hoI₀⟩ := W.has _ _ hst
  have hID : I < D := below _ _ hoI₀
  have hLD : L < D := hD ▸ F.ns.lt
  have hst₁ : St 0 h₁ := W.stay _ _ _ _ hst hoI₀ (old _ _ hoI₀) F.keep (F.keeps old).keep (fun q hq => (N q (hsrc q hq)).1) (fun q hq => old _ _ (N q (hsrc q hq)).1)
  have hnD : ∀ q ∈ news, q.1 < D := fun q hq => below _ _ (N q hq).1
  have loop : ∀ s₃ : Shared, s₃ = { s₂ with heap := h₁, toks := s₂.toks + ([] : List (Str × Value)).length } →
      codeAny (model prog w) A (.compLoop (.ListComp elt [⟨target, iter, ifs, 0⟩] scope pos) 0 (.ref I) (.ref D) (compEnvC scope cl (D + 1) env)) (RR (.ref D) (D + 1)) s₃ := by
    rintro s₃ rfl
    refine compLoop_any
      (CBJ h₀ L m news as p R Iv s₂ St D) (fun _ _ => False) (fun _ _ x => x.elim) ?_ (as.length + 1) ?_
    · rintro k s' ⟨h', tk, i, ys, TL, m', oC, rfl, hi, rfl, hyl, hst', F', hoC, hnC, N', G, hTL, hIv⟩
      have h0D : h₀.get? D = none := fresh D (Nat.le_refl _)
      have h0C : h₀.get? (D + 1) = none := fresh (D + 1) (Nat.le_succ _)
      have offI : ∀ q ∈ (D, lst ys) :: (TL ++ news), q.1 ≠ I := fun q hq => by
        rcases List.mem_cons.mp hq with rfl | hq
        · exact Nat.ne_of_gt hID
        · rcases List.mem_append.mp hq with hq | hq
          · exact Nat.ne_of_gt (Nat.lt_trans hID (Nat.lt_of_succ_lt (hTL q hq)))
          · exact off q hq
      cases ha : as[i]? with
      | none =>
        have hle : as.length ≤ i := by simpa using ha
        obtain rfl : i = as.length := Nat.le_antisymm hi hle
        refine W.done _ _ _ hst' fun h₂ tk₂ hk₂ => ?_
        rw [List.take_length] at G
        refine hRR D (D + 1) ys TL h₂ tk₂ m' G ⟨tk, hIv⟩ (Fr.but1 F' hk₂ (Ne.symm W.offL) W.fresh) (News.but1 N' hk₂ offI) (fun q hq => Nat.lt_of_succ_lt (hTL q hq)) hnD (hnC.ns (hk₂ _ _ (Nat.ne_of_gt (Nat.lt_succ_of_lt hID)) hoC)) h0C (Nat.ne_of_gt (Nat.lt_succ_of_lt hLD)) (Nat.succ_ne_self _) fun q hq => ?_
        rcases List.mem_append.mp hq with hq | hq
        · exact Nat.ne_of_gt (hTL q hq)
        · exact Nat.ne_of_lt (Nat.lt_succ_of_lt (hnD q hq))
      | some a =>
        have hmem : a ∈ as := List.mem_of_getElem? ha
        have hlt : i < as.length := (List.getElem?_eq_some_iff.mp ha).1
        refine wpAny_with_toks (n := tk) (Nat.le_refl _) (W.item i a _ _ _ ha hst' fun v h₂ tk₂ hv hst₂ hk₂ htk₂ => ?_)
        have F₂ : Fr h₀ L h₂ m := Fr.but1 F' hk₂ (Ne.symm W.offL) W.fresh
        have N₂ : News h₀ L h₂ ((D, lst ys) :: (TL ++ news)) := News.but1 N' hk₂ offI
        have hoC₂ : h₂.get? (D + 1) = some oC := hk₂ _ _ (Nat.ne_of_gt (Nat.lt_succ_of_lt hID)) hoC
        refine ok.go (i + 1) a v _ _ _ hmem hv hst₂ F₂ (News.sub N₂ fun q hq => List.mem_cons_of_mem _ (List.mem_append_right _ hq)) ?_
        obtain ⟨oI, hoI⟩ := W.has _ _ hst₂
        have own₂ : News h₀ L h₂ ((D + 1, oC) :: (((I, oI) :: (D, lst ys) :: TL) ++ news)) := by
          refine News.cons hoC₂ (Nat.ne_of_gt (Nat.lt_succ_of_lt hLD)) h0C (News.cons hoI W.offL W.fresh ?_)
          exact N₂
        have offC : ∀ q ∈ ((I, oI) :: (D, lst ys) :: TL) ++ news, q.1 ≠ D + 1 := fun q hq => by
          rcases List.mem_append.mp hq with hq | hq
          · rcases List.mem_cons.mp hq with rfl | hq
            · exact Nat.ne_of_lt (Nat.lt_succ_of_lt hID)
            · rcases List.mem_cons.mp hq with rfl | hq
              · exact Nat.ne_of_lt (Nat.lt_succ_self _)
              · exact Nat.ne_of_gt (hTL q hq)
          · exact Nat.ne_of_lt (Nat.lt_succ_of_lt (hnD q hq))
        refine wpAny_with_toks (n := tk₂) (Nat.le_refl _) (ok.asg a v (D + 1) oC m' ((I, oI) :: (D, lst ys) :: TL) _ _ _ hmem hv hnC F₂ own₂ offC fun oC₃ m₃ h₃ tk₃ hnC₃ hB F₃ N₃ htk₃ => ?_)
        refine wpAny_with_toks (n := tk₃) (Nat.le_refl _) (ok.test a v (D + 1) oC₃ m₃ ((I, oI) :: (D, lst ys) :: TL) _ _ _ hmem hv hB hnC₃ F₃ N₃ fun h₄ tk₄ F₄ N₄ htk₄ => ?_)
        replace htk₂ : tk ≤ tk₂ := htk₂
        replace htk₃ : tk₂ ≤ tk₃ := htk₃
        replace htk₄ : tk₃ ≤ tk₄ := htk₄
        have hIv₄ : Iv ys tk₄ := hIm _ _ _ hIv (Nat.le_trans htk₂ (Nat.le_trans htk₃ htk₄))
        have stay : ∀ h₅, Fr h₀ L h₅ m → News h₀ L h₅ ((D + 1, oC₃) :: (((I, oI) :: (D, lst ys) :: TL) ++ news)) → St (i + 1) h₅ := fun h₅ F₅ N₅ =>
          W.stay _ _ _ _ hst₂ hoI (N₅ (I, oI) (.tail _ (.head _))).1 F₂.keep F₅.keep (fun q hq => (N₂ q (List.mem_cons_of_mem _ (List.mem_append_right _ (hsrc q hq)))).1)
            (fun q hq => (N₅ q (List.mem_cons_of_mem _ (List.mem_append_right _ (hsrc q hq)))).1)
        cases hp : p a with
        | false =>
          simp only [Bool.false_eq_true, if_false]
          refine ⟨as.length + 1 - (i + 1), subl hlt, h₄, tk₄, i + 1, ys, TL, m₃, oC₃, rfl, hlt, rfl, Nat.le_succ_of_le hyl, stay h₄ F₄ N₄, F₄, (N₄ _ (.head _)).1, hnC₃, ?_, ?_, hTL, hIv₄⟩
          · exact News.sub N₄ fun q hq => List.mem_cons_of_mem _ (List.mem_cons_of_mem _ hq)
          · rw [take_succ_filter p as i a ha, hp]; simpa using G
        | true =>
          simp only [if_true]
          refine ok.elt a v (D + 1) oC₃ m₃ ((I, oI) :: (D, lst ys) :: TL) _ _ _ hmem hv hp hB hnC₃ F₄ N₄ fun y tl h₅ tk₅ hR F₅ N₅ hlt₅ => ?_
          have N₅' : News h₀ L h₅ ((D + 1, oC₃) :: (((I, oI) :: (D, lst ys) :: TL) ++ news)) := News.sub N₅ fun q hq => List.mem_append_right _ hq
          have hst₅ := stay h₅ F₅ N₅'
          have zD := (N₅' (D, lst ys) (.tail _ (.tail _ (.head _)))).1
          refine append_at (hsz := by show ys.toArray.size ≤ sizeLine; rw [List.size_toArray]; exact Nat.le_trans hyl (Nat.le_trans hi hsz)) zD fun h₆ hs₆ hD₆ => ?_
          have up : ∀ b o, b ≠ D → h₅.get? b = some o → h₆.get? b = some o := fun b o hb e => hs₆.extBut b o hb e
          have F₆ : Fr h₀ L h₆ m := Fr.but1 F₅ up (Nat.ne_of_lt hLD) h0D
          have hTL₆ : ∀ q ∈ tl ++ TL, D + 1 < q.1 := fun q hq => by
            rcases List.mem_append.mp hq with hq | hq
            · exact hlt₅ q hq _ (.head _)
            · exact hTL q hq
          have N₆ : News h₀ L h₆ ((D, lst (ys ++ [y])) :: ((tl ++ TL) ++ news)) := by
            refine News.cons (hD₆.trans (congrArg some (lst_snoc ys y))) (Nat.ne_of_gt hLD) h0D ?_
            refine News.but1 (News.sub N₅ fun q hq => ?_) up fun q hq => ?_
            · rcases List.mem_append.mp hq with hq | hq
              · rcases List.mem_append.mp hq with hq | hq
                · exact List.mem_append_left _ hq
                · exact List.mem_append_right _ (.tail _ (List.mem_append_left _ (.tail _ (.tail _ hq))))
              · exact List.mem_append_right _ (.tail _ (List.mem_append_right _ hq))
            · rcases List.mem_append.mp hq with hq | hq
              · exact Nat.ne_of_gt (Nat.lt_of_succ_lt (hTL₆ q hq))
              · exact Nat.ne_of_lt (hnD q hq)
          refine ⟨as.length + 1 - (i + 1), subl hlt, h₆, tk₅, i + 1, ys ++ [y], tl ++ TL, m₃, oC₃, rfl, hlt, rfl, by simpa using hyl, ?_, F₆, up _ _ (Nat.succ_ne_self _) (N₅' _ (.head _)).1, hnC₃, N₆, ?_, hTL₆, hIs _ _ _ _ _ _ hIv₄ hR⟩
          · exact W.stay _ _ _ _ hst₅ (N₅' (I, oI) (.tail _ (.head _))).1 (up _ _ (Nat.ne_of_lt hID) (N₅' (I, oI) (.tail _ (.head _))).1) F₅.keep F₆.keep (fun q hq => (N₅' q (.tail _ (List.mem_append_right _ (hsrc q hq)))).1)
              (fun q hq => (N₆ q (.tail _ (List.mem_append_right _ (hsrc q hq)))).1)
          · rw [take_succ_filter p as i a ha, hp]; exact G.snoc ⟨_, _, hR⟩
    · obtain ⟨oC, hoC, hnC⟩ := ns_obj hns₁
      refine ⟨h₁, _, 0, [], [], _, oC, rfl, Nat.zero_le _, rfl, Nat.le_refl _, hst₁, F.keeps old, hoC, hnC, ?_, by simpa using Got.nil, (fun q hq => nomatch hq), hI0 _⟩
      exact News.cons hacc (Nat.ne_of_gt hLD) (fresh D (Nat.le_refl _)) (N.grown old)
  exact codeAny_compStart_list (loop _ rfl) (W.self 0 _ _ _ hst₁ (loop _ rfl))


theorem comp_block {α : Type} {elt target iter : Expr} {ifs : List Expr} {scope : Scope} {cl : List (Str × Addr)} {pos : Pos} {s₂ : Shared} {as : List α} {Is : α → Value → Prop} {p : α → Bool} {R : α → Value → Led → Prop}
    {Bd : α → Value → (Str → Option Value) → Prop} {src : Led} {I : Addr} {St : Nat → Heap → Prop} {RR : Value → Addr → Result → Shared → Prop}
    (W : ItM prog w A h₀ L src as Is I St) (hsz : as.length ≤ sizeLine) (hst : St 0 s₂.heap) (F : Fr h₀ L s₂.heap m) (N : News h₀ L s₂.heap news) (hsrc : ∀ q ∈ src, q ∈ news) (off : ∀ q ∈ news, q.1 ≠ I)
    (hcell : ∀ y ∈ scope.names, y.2 ≠ .cell) (hkind : scope.kind = .function)
    (ok : CompOk prog w A h₀ L m env scope cl target ifs elt as Is p R Bd news I St)
    (hRR : ∀ D C ys TL h tk m', Got R (as.filter p) ys TL → Fr h₀ L h m → News h₀ L h ((D, lst ys) :: (TL ++ news)) → (∀ q ∈ TL, D < q.1) → (∀ q ∈ news, q.1 < D) → h.Ns C m' → h₀.get? C = none → C ≠ L → C ≠ D → (∀ q ∈ TL ++ news, q.1 ≠ C) → RR (.ref D) C (.ok .next) { s₂ with heap := h, toks := tk }) :
    wpAny (model prog w) A (newList []) (fun acc s₃ => wpAny (model prog w) A (newFunctionEnv scope env.globals cl [] env.qual none .none (some env)) (fun cenv s₄ =>
      codeAny (model prog w) A (.compStart (.ListComp elt [⟨target, iter, ifs, 0⟩] scope pos) 0 (.ref I) acc { cenv with scope := relabel scope env }) (RR acc cenv.locals) s₄) E s₃) E s₂ :=
  comp_blockT (R := fun a _ y tl _ => R a y tl) (Iv := fun _ _ => True) W hsz hst F N hsrc off hcell hkind (fun _ => True.intro) (fun _ _ _ _ _ => True.intro) (fun _ _ _ _ _ _ _ _ => True.intro)
    ⟨ok.go, ok.asg, ok.test, fun a v C oC m₁ own s Q E' ha hi hp hb hn F N k => ok.elt a v C oC m₁ own s Q E' ha hi hp hb hn F N k⟩
    (fun D C ys TL h tk m' G _ => hRR D C ys TL h tk m' (Got.mono G fun _ _ _ h => h.elim fun _ h => h.elim fun _ h => h))

/-- where the source stands -/
noncomputable def CompAt {α : Type} (prog : Program) (w : World) (A : Around) (h₀ : Heap) (L : Addr) (m : Str → Option Value) (env : Env) (scope : Scope) (cl : List (Str × Addr)) (target : Expr) (ifs : List Expr) (elt : Expr)
    (as : List α) (Is : α → Value → Prop) (p : α → Bool) (R : α → Value → Led → Prop) (Bd : α → Value → (Str → Option Value) → Prop) (Fin : Addr → List Value → Led → Led → Shared → Prop) (it : Value) (s₂ : Shared) : Prop :=
  ∃ (I : Addr) (St : Nat → Heap → Prop) (src news : Led), it = .ref I ∧ ItM prog w A h₀ L src as Is I St ∧ as.length ≤ sizeLine ∧ St 0 s₂.heap ∧ Fr h₀ L s₂.heap m ∧ News h₀ L s₂.heap news ∧ (∀ q ∈ src, q ∈ news) ∧ (∀ q ∈ news, q.1 ≠ I) ∧
    CompOk prog w A h₀ L m env scope cl target ifs elt as Is p R Bd news I St ∧
    ∀ D ys TL h tk, Got R (as.filter p) ys TL → (∀ q ∈ TL, D < q.1) → (∀ q ∈ news, q.1 < D) → Fr h₀ L h m → News h₀ L h ((D, lst ys) :: (TL ++ news)) → Fin D ys TL news { s₂ with heap := h, toks := tk }

theorem ListComp_M {α : Type} {elt target iter : Expr} {ifs : List Expr} {scope : Scope} {cl : List (Str × Addr)} {pos : Pos} {Q : Value → Shared → Prop}
    (_F₀ : Fr h₀ L s.heap m) (as : List α) (Is : α → Value → Prop) (p : α → Bool) (R : α → Value → Led → Prop) (Bd : α → Value → (Str → Option Value) → Prop)
    (hclos : closureFor scope env = pure cl) (hcell : ∀ y ∈ scope.names, y.2 ≠ .cell) (hkind : scope.kind = .function) (hnames : ∀ y ∈ scope.names, y.2 = .local → scope.names.lookup y.1 = some .local)
    (h : wpAny (model prog w) A (eval iter env) (fun xv s₁ => wpAny (model prog w) A (pyIter xv) (CompAt prog w A h₀ L m env scope cl target ifs elt as Is p R Bd (fun D _ _ _ s' => Q (.ref D) s')) E s₁) E s)
    (hs : ∀ x, foldedSetIterable iter env x = pure x) :
    wpAny (model prog w) A (eval (.ListComp elt [⟨target, iter, ifs, 0⟩] scope pos) env) Q E s := by
  rw [eval_ListComp]
  refine wpAny_comprehension_free (use := none) rfl hs hclos hkind hnames (wpAny_mono h (fun xv s₁ h₁ => wpAny_mono h₁ (fun it s₂ h₂ => ?_) fun _ _ e => e) fun _ _ e => e)
  obtain ⟨I, St, src, news, rfl, W, hsz, hst, F, N, hsrc, off, ok, fin⟩ := h₂
  refine comp_block (RR := fun acc C => compPost (model prog w) A E none Q acc C) W hsz hst F N hsrc off hcell hkind ok ?_
  intro D C ys TL h tk m' G F' N' hTL hnD hn hC₀ hCL hCD offC
  refine ⟨m', hn, fun h'' hs'' => fin D ys TL h'' tk G hTL hnD (Fr.but1 F' (fun b o hb e => hs''.extBut b o hb e) (Ne.symm hCL) hC₀) ?_⟩
  refine News.but1 N' (fun b o hb e => hs''.extBut b o hb e) fun q hq => ?_
  rcases List.mem_cons.mp hq with rfl | hq
  · exact Ne.symm hCD
  · exact offC q hq

theorem Assign_ListComp_M {α : Type} {elt target iter : Expr} {ifs : List Expr} {scope : Scope} {cl : List (Str × Addr)} {pos spos py : Pos} {y : Str} {Q : Flow → Shared → Prop}
    (_F₀ : Fr h₀ L s.heap m) (as : List α) (Is : α → Value → Prop) (p : α → Bool) (R : α → Value → Led → Prop) (Bd : α → Value → (Str → Option Value) → Prop) (hLe : env.locals = L)
    (hsw : swapsWith (.ListComp elt [⟨target, iter, ifs, 0⟩] scope pos) (some (.Name y py)) spos.line env = pure true)
    (hclos : closureFor scope env = pure cl) (hcell : ∀ y ∈ scope.names, y.2 ≠ .cell) (hkind : scope.kind = .function) (hnames : ∀ y ∈ scope.names, y.2 = .local → scope.names.lookup y.1 = some .local)
    (hy : env.kindOf y = some .local) (hp : (env.scope.kind == .class || (env.scope.kind == .module && env.locals != env.globals)) = false)
    (h : wpAny (model prog w) A (eval iter env) (fun xv s₁ => wpAny (model prog w) A (pyIter xv) (CompAt prog w A h₀ L m env scope cl target ifs elt as Is p R Bd
      (fun D ys TL news s' => ∀ h' tk, Fr h₀ L h' (fun z => if z = y then some (.ref D) else m z) → News h₀ L h' ((D, lst ys) :: (TL ++ news)) → Q .next { s' with heap := h', toks := tk })) E s₁) E s)
    (hs : ∀ x, foldedSetIterable iter env x = pure x) :
    wpAny (model prog w) A (exec (.Assign [.Name y py] (.ListComp elt [⟨target, iter, ifs, 0⟩] scope pos) spos) env) Q E s := by
  subst hLe
  rw [exec_Assign_Name_used _ _ _ _ hsw]
  refine wpAny_bind (wpAny_standAt (wpAny_bind ?_))
  show wpAny _ A (do let _ ← comprehension (.ListComp elt [⟨target, iter, ifs, 0⟩] scope pos) scope env _ (newList []) false (eval iter env) (some (assign (.Name y py) env))) _ _ s
  refine wpAny_bind (wpAny_mono (wpAny_comprehension_free (use := some (assign (.Name y py) env)) (Q := fun _ s' => Q .next s') rfl hs hclos hkind hnames
    (wpAny_mono h (fun xv s₁ h₁ => wpAny_mono h₁ (fun it s₂ h₂ => ?_) fun _ _ e => e) fun _ _ e => e)) (fun _ s' hq => wpAny_pure (wpAny_pure hq)) fun _ _ e => e)
  obtain ⟨I, St, src, news, rfl, W, hsz, hst, F, N, hsrc, off, ok, fin⟩ := h₂
  refine comp_block (RR := fun acc C => compPost (model prog w) A E (some (assign (.Name y py) env)) (fun _ s' => Q .next s') acc C) W hsz hst F N hsrc off hcell hkind ok ?_
  intro D C ys TL h tk m' G F' N' hTL hnD hn hC₀ hCL hCD offC
  show wpAny _ A (assign (.Name y py) env (.ref D)) _ _ _
  refine wpAny_assign_Name (wpAny_storeName_local hy F'.ns (fun h₂ hn₂ hs₂ => ?_) hp)
  have F₂ := F'.set hn₂ hs₂
  have N₂ := N'.set hs₂
  refine ⟨m', hn.sameBut hs₂ hCL, fun h₃ hs₃ => ?_⟩
  refine fin D ys TL h tk G hTL hnD F' N' h₃ _ (Fr.but1 F₂ (fun b o hb e => hs₃.extBut b o hb e) (Ne.symm hCL) hC₀) (News.but1 N₂ (fun b o hb e => hs₃.extBut b o hb e) fun q hq => ?_)
  rcases List.mem_cons.mp hq with rfl | hq
  · exact Ne.symm hCD
  · exact offC q hq
end
end
section
open PySem PySem.Spec PySem.Calls PySem.W PyProof.Rows PyProof.Rows.LCg
section
variable {prog : Program} {w : World} {A : Around} {E : Value → Shared → Prop} {s : Shared} {h₀ : Heap} {L : Addr} {m : Str → Option Value} {env : Env} {news : Led}

theorem src_list {α : Type} {as : List α} {Is : α → Value → Prop} {l : Addr} {o : Obj} {its : Array Value} {Q : Value → Shared → Prop}
    (hh : A.handled = none) (F : Fr h₀ L s.heap m) (N : News h₀ L s.heap news) (hm : (l, o) ∈ news) (hc : o.cls = .type "list") (hd : ∃ n, o.data = .seq its n)
    (hlen : its.size = as.length) (hIs : ∀ (i : Nat) (a : α) v, as[i]? = some a → its[i]? = some v → Is a v)
    (h : ∀ I h' St, ItM prog w A h₀ L [(l, o)] as Is I St → St 0 h' → Fr h₀ L h' m → News h₀ L h' news → (∀ q ∈ news, q.1 ≠ I) → (∀ i h, St i h → ∃ oI, h.get? I = some oI ∧ oI.cls = .type "list_iterator") → Q (.ref I) { s with heap := h' }) :
    wpAny (model prog w) A (pyIter (.ref l)) Q E s := by
  have hl : s.heap.IsList l its := by obtain ⟨n, hd⟩ := hd; exact ⟨o, (N _ hm).1, hc, n, hd⟩
  refine wpAny_pyIter_list hl ?_
  have hlt : l < s.heap.objs.size := Heap.lt_size (N _ hm).1
  have W := Walks.list (prog := prog) (w := w) hh s.heap.objs.size l (Nat.ne_of_lt hlt) its
  rw [hlen] at W
  have up : ∀ b o', s.heap.get? b = some o' → (s.heap.push { cls := .type "list_iterator", data := .fields #[.ref l, .int 0 0] }).get? b = some o' := fun b o' e => Heap.get?_push_of_some _ e
  refine h _ _ _ (ItM.ofWalks W hIs (fun i h st => by obtain ⟨o, e, _⟩ := st.1; exact ⟨o, e⟩) (fun b hb => ?_) (next_is_new F) (Nat.ne_of_gt F.ns.lt)) ⟨⟨_, Heap.get?_push_size _ rfl, rfl, rfl⟩, hl.push _⟩ (F.keeps up) (N.grown up)
    (fun q hq => Nat.ne_of_lt (Heap.lt_size (N q hq).1)) (fun i h st => by obtain ⟨o, e, c, _⟩ := st.1; exact ⟨o, e, c⟩)
  rcases List.mem_cons.mp hb with rfl | hb
  · exact .inl rfl
  · rw [List.mem_singleton.mp hb]; exact .inr (.inr ⟨o, List.mem_singleton.mpr rfl⟩)

theorem src_tuple {α : Type} {as : List α} {Is : α → Value → Prop} {l : Addr} {o : Obj} {its : Array Value} {Q : Value → Shared → Prop}
    (hh : A.handled = none) (F : Fr h₀ L s.heap m) (N : News h₀ L s.heap news) (hm : (l, o) ∈ news) (hc : o.cls = .type "tuple") (hd : ∃ n, o.data = .seq its n)
    (hlen : its.size = as.length) (hIs : ∀ (i : Nat) (a : α) v, as[i]? = some a → its[i]? = some v → Is a v)
    (h : ∀ I h' St, ItM prog w A h₀ L [(l, o)] as Is I St → St 0 h' → Fr h₀ L h' m → News h₀ L h' news → (∀ q ∈ news, q.1 ≠ I) → Q (.ref I) { s with heap := h' }) :
    wpAny (model prog w) A (pyIter (.ref l)) Q E s := by
  have hl : s.heap.IsTuple l its := by obtain ⟨n, hd⟩ := hd; exact ⟨o, (N _ hm).1, hc, n, hd⟩
  refine wpAny_pyIter_tuple hl ?_
  have hlt : l < s.heap.objs.size := Heap.lt_size (N _ hm).1
  have W := Walks.tuple (prog := prog) (w := w) hh s.heap.objs.size l (Nat.ne_of_lt hlt) its
  rw [hlen] at W
  have up : ∀ b o', s.heap.get? b = some o' → (s.heap.push { cls := .type "tuple_iterator", data := .fields #[.ref l, .int 0 0] }).get? b = some o' := fun b o' e => Heap.get?_push_of_some _ e
  refine h _ _ _ (ItM.ofWalks W hIs (fun i h st => by obtain ⟨o, e, _⟩ := st.1; exact ⟨o, e⟩) (fun b hb => ?_) (next_is_new F) (Nat.ne_of_gt F.ns.lt)) ⟨⟨_, Heap.get?_push_size _ rfl, rfl, rfl⟩, hl.at fun o e => up _ o e⟩ (F.keeps up) (N.grown up)
    (fun q hq => Nat.ne_of_lt (Heap.lt_size (N q hq).1))
  rcases List.mem_cons.mp hb with rfl | hb
  · exact .inl rfl
  · rw [List.mem_singleton.mp hb]; exact .inr (.inr ⟨o, List.mem_singleton.mpr rfl⟩)

theorem src_range {n : Nat} {r : Addr} {t u v : Tok} {Q : Value → Shared → Prop}
    (hh : A.handled = none) (F : Fr h₀ L s.heap m) (N : News h₀ L s.heap news) (hr : IsRange s.heap r 0 (n : Int) 1 t u v) (hn : n ≤ 1000)
    (h : ∀ I h' St, ItM prog w A h₀ L [] (List.range n) (fun (i : Nat) v => ∃ t, v = .int (i : Int) t) I St → St 0 h' → Fr h₀ L h' m → News h₀ L h' news → (∀ q ∈ news, q.1 ≠ I) → Q (.ref I) { s with heap := h' }) :
    wpAny (model prog w) A (pyIter (.ref r)) Q E s := by
  have hsz : Builtin.Range.rangeSize 0 (n : Int) 1 = (n : Int) := by
    unfold Builtin.Range.rangeSize
    simp
    omega
  refine wpAny_pyIter_range hr ?_ ?_
  · unfold Builtin.Range.small
    rw [hsz]
    simp [Builtin.Range.rangeFitsLong]
    omega
  rw [hsz]
  have W := range_walks (prog := prog) (w := w) (I := s.heap.objs.size) hh 0 n
  have hlen : (List.range n).length = n := List.length_range
  have up : ∀ b o', s.heap.get? b = some o' → (s.heap.push { cls := .type "range_iterator", data := .fields #[rawInt 0, rawInt (n : Int), rawInt 1] }).get? b = some o' := fun b o' e => Heap.get?_push_of_some _ e
  refine h _ _ _ (ItM.ofWalks (P := fun (i : Nat) v => ∃ t, v = .int (0 + (i : Int)) t) (by rw [hlen]; exact W) (fun i a v ha hv => ?_) (fun i h st => ⟨_, st⟩) (fun b hb => .inl (List.mem_singleton.mp hb)) (next_is_new F) (Nat.ne_of_gt F.ns.lt)) ?_ (F.keeps up) (N.grown up)
    (fun q hq => Nat.ne_of_lt (Heap.lt_size (N q hq).1))
  · have hi : i < n := by have := (List.getElem?_eq_some_iff.mp ha).1; rwa [hlen] at this
    have : a = i := by rw [List.getElem?_range hi] at ha; exact (Option.some.inj ha).symm
    subst this
    obtain ⟨t, rfl⟩ := hv
    exact ⟨t, by rw [Int.zero_add]⟩
  · show IsRangeIter _ _ _ _ _
    simpa using Heap.get?_push_size _ rfl

theorem src_rev {α : Type} {as : List α} {Is : α → Value → Prop} {I l : Addr} {o : Obj} {its : Array Value} {Q : Value → Shared → Prop}
    (hh : A.handled = none) (F : Fr h₀ L s.heap m) (N : News h₀ L s.heap news) (hm : (l, o) ∈ news) (hc : o.cls = .type "list") (hd : ∃ n, o.data = .seq its n)
    (hlen : its.size = as.length) (hIs : ∀ (i : Nat) (a : α) v, as[i]? = some a → its[its.size - 1 - i]? = some v → Is a v)
    (hit : s.heap.IsRevIter I l ((its.size : Int) - 1)) (hI₀ : h₀.get? I = none) (hIL : I ≠ L) (hIl : l ≠ I)
    (h : ∀ St, ItM prog w A h₀ L [(l, o)] as Is I St → St 0 s.heap → Q (.ref I) s) :
    wpAny (model prog w) A (pyIter (.ref I)) Q E s := by
  have hl : s.heap.IsList l its := by obtain ⟨n, hd⟩ := hd; exact ⟨o, (N _ hm).1, hc, n, hd⟩
  refine wpAny_pyIter_revIter hit ?_
  have W := Walks.listRev (prog := prog) (w := w) hh I l hIl its
  rw [hlen] at W
  refine h _ (ItM.ofWalks W (fun i a v ha hv => hIs i a v ha (by rw [hlen]; exact hv)) (fun i h st => by obtain ⟨o, e, _⟩ := st.2.1; exact ⟨o, e⟩) (fun b hb => ?_) hI₀ hIL) ⟨Nat.zero_le _, by simpa [hlen] using hit, hl⟩
  rcases List.mem_cons.mp hb with rfl | hb
  · exact .inl rfl
  · rw [List.mem_singleton.mp hb]; exact .inr (.inr ⟨o, List.mem_singleton.mpr rfl⟩)

/-- a for over anything that a Name (local or cell) is bound to: J of the turn's number, the frame, the ledger -/
inductive ForAt {α : Type} (prog : Program) (w : World) (A : Around) (h₀ : Heap) (env : Env) (target : Expr) (body : List Stmt) (as : List α) (Is : α → Value → Prop) (J : Nat → (Str → Option Value) → Led → Prop) (Q : Flow → Shared → Prop) (E : Value → Shared → Prop) (it : Value) (s₂ : Shared) : Prop
  | mk : ∀ (I : Addr) (St : Nat → Heap → Prop) (src : Led) (m : Str → Option Value) (news : Led), it = .ref I → ItM prog w A h₀ env.locals src as Is I St → St 0 s₂.heap → Fr h₀ env.locals s₂.heap m → News h₀ env.locals s₂.heap news → (∀ q ∈ news, q.1 ≠ I) → J 0 m news →
    (∀ i m₁ news₁, J i m₁ news₁ → ∀ q ∈ src, q ∈ news₁) →
    (∀ i a v m₁ news₁ (I : Addr) (oI : Obj) h tk, as[i]? = some a → Is a v → J i m₁ news₁ → Fr h₀ env.locals h m₁ → News h₀ env.locals h ((I, oI) :: news₁) → (∀ q ∈ news₁, q.1 ≠ I) →
      wpAny (model prog w) A (assign target env v) (fun _ s₃ => wpAny (model prog w) A (execs body env) (fun f s₄ => match f with
        | .ret v => Q (.ret v) s₄
        | .brk => Q .next s₄
        | _ => TurnI h₀ env.locals s₂.gens s₂.drawn s₂.os I oI (J (i + 1)) s₄) (fun _ _ => False) s₃) (fun _ _ => False) { s₂ with heap := h, toks := tk }) →
    (∀ h' tk m₁ news₁, J as.length m₁ news₁ → Fr h₀ env.locals h' m₁ → News h₀ env.locals h' news₁ → Q .next { s₂ with heap := h', toks := tk }) → ForAt prog w A h₀ env target body as Is J Q E it s₂

inductive FMJ {α : Type} (h₀ : Heap) (L : Addr) (as : List α) (St : Nat → Heap → Prop) (I : Addr) (J : Nat → (Str → Option Value) → Led → Prop) (s₂ : Shared) (k : Nat) (s' : Shared) : Prop
  | mk : ∀ (h' : Heap) (tk i : Nat) (m₁ : Str → Option Value) (news₁ : Led), s' = { s₂ with heap := h', toks := tk } → i ≤ as.length → k = as.length + 1 - i → St i h' → Fr h₀ L h' m₁ → News h₀ L h' news₁ → (∀ q ∈ news₁, q.1 ≠ I) → J i m₁ news₁ → FMJ h₀ L as St I J s₂ k s'

theorem For_M {α : Type} {iter : Expr} {body : List Stmt} {pos xp : Pos} {x : Str} {Q : Flow → Shared → Prop} (as : List α) (Is : α → Value → Prop) (J : Nat → (Str → Option Value) → Led → Prop)
    (h : wpAny (model prog w) A (eval iter env) (fun xv s₁ => wpAny (model prog w) A (pyIter xv) (ForAt prog w A h₀ env (.Name x xp) body as Is J Q E) E s₁) E s)
    (hs : ∀ x, foldedSetIterable iter env x = pure x) :
    wpAny (model prog w) A (exec (.For (.Name x xp) iter body [] pos) env) Q E s := by
  refine wpAny_For (wpAny_mono h (fun xv s₁ h₁ => wpAny_mono h₁ (fun it s₂ h₂ => ?_) fun _ _ e => e) fun _ _ e => e) hs
  obtain ⟨I, St, src, m, news, rfl, W, hst, F, N, off, hJ, hsrc, turn, fin⟩ := h₂
  refine codeAny_forLoop (FMJ h₀ env.locals as St I J s₂) ?_ (as.length + 1)
    ⟨s₂.heap, s₂.toks, 0, m, news, rfl, Nat.zero_le _, rfl, hst, F, N, off, hJ⟩
  rintro k s' ⟨h', tk, i, m₁, news₁, rfl, hi, rfl, hst', F', N', off', hJ'⟩
  cases ha : as[i]? with
  | none =>
    have hle : as.length ≤ i := by simpa using ha
    obtain rfl : i = as.length := Nat.le_antisymm hi hle
    refine W.done _ _ _ hst' fun h₂ tk₂ hk₂ => wpAny_execs_nil ?_
    exact fin h₂ tk₂ m₁ news₁ hJ' (Fr.but1 F' hk₂ (Ne.symm W.offL) W.fresh) (News.but1 N' hk₂ off')
  | some a =>
    have hlt : i < as.length := (List.getElem?_eq_some_iff.mp ha).1
    refine W.item i a _ _ _ ha hst' fun v h₂ tk₂ hv hst₂ hk₂ => ?_
    have F₂ : Fr h₀ env.locals h₂ m₁ := Fr.but1 F' hk₂ (Ne.symm W.offL) W.fresh
    have N₂ : News h₀ env.locals h₂ news₁ := News.but1 N' hk₂ off'
    obtain ⟨oI, hoI⟩ := W.has _ _ hst₂
    refine wpAny_mono (turn i a v m₁ news₁ I oI h₂ tk₂ ha hv hJ' F₂ (News.cons hoI W.offL W.fresh N₂) off') (fun _ s₃ h₃ => wpAny_mono h₃ (fun f s₄ h₄ => ?_) fun _ _ x => x.elim) fun _ _ x => x.elim
    have fin : TurnI h₀ env.locals s₂.gens s₂.drawn s₂.os I oI (J (i + 1)) s₄ →
        ∃ k', k' < as.length + 1 - i ∧ FMJ h₀ env.locals as St I J s₂ k' s₄ := by
      rintro ⟨h₅, tk₅, m₂, news₂, rfl, F₅, N₅, off₅, hJ₅⟩
      refine ⟨as.length + 1 - (i + 1), subl hlt, h₅, tk₅, i + 1, m₂, news₂, rfl, hlt, rfl, ?_, F₅, News.sub N₅ fun q hq => .tail _ hq, off₅, hJ₅⟩
      exact W.stay _ _ _ _ hst₂ hoI (N₅ _ (.head _)).1 F₂.keep F₅.keep (fun q hq => (N₂ q (hsrc _ _ _ hJ' q hq)).1) (fun q hq => (N₅ q (.tail _ (hsrc _ _ _ hJ₅ q hq))).1)
    cases f with
    | ret v => exact h₄
    | brk => exact h₄
    | next => exact fin h₄
    | cont => exact fin h₄

theorem ForAt.intro {α : Type} {target : Expr} {body : List Stmt} {as : List α} {Is : α → Value → Prop} {J : Nat → (Str → Option Value) → Led → Prop} {Q : Flow → Shared → Prop} {I : Addr} {St : Nat → Heap → Prop} {src news : Led}
    (W : ItM prog w A h₀ env.locals src as Is I St) (hst : St 0 s.heap) (F : Fr h₀ env.locals s.heap m) (N : News h₀ env.locals s.heap news) (off : ∀ q ∈ news, q.1 ≠ I) (hJ : J 0 m news)
    (hsrc : ∀ i m₁ news₁, J i m₁ news₁ → ∀ q ∈ src, q ∈ news₁)
    (turn : ∀ i a v m₁ news₁ (I : Addr) (oI : Obj) h tk, as[i]? = some a → Is a v → J i m₁ news₁ → Fr h₀ env.locals h m₁ → News h₀ env.locals h ((I, oI) :: news₁) → (∀ q ∈ news₁, q.1 ≠ I) →
      wpAny (model prog w) A (assign target env v) (fun _ s₃ => wpAny (model prog w) A (execs body env) (fun f s₄ => match f with
        | .ret v => Q (.ret v) s₄
        | .brk => Q .next s₄
        | _ => TurnI h₀ env.locals s.gens s.drawn s.os I oI (J (i + 1)) s₄) (fun _ _ => False) s₃) (fun _ _ => False) { s with heap := h, toks := tk })
    (fin : ∀ h' tk m₁ news₁, J as.length m₁ news₁ → Fr h₀ env.locals h' m₁ → News h₀ env.locals h' news₁ → Q .next { s with heap := h', toks := tk }) :
    ForAt prog w A h₀ env target body as Is J Q E (.ref I) s := ⟨I, St, src, m, news, rfl, W, hst, F, N, off, hJ, hsrc, turn, fin⟩

theorem While_M {test : Expr} {body : List Stmt} {pos : Pos} {Q : Flow → Shared → Prop} (I : Nat → Shared → Prop) (n : Nat) (h0 : I n s)
    (turn : ∀ n s', I n s' → wpAny (model prog w) A (isTrue test env (eval test env)) (fun b s₂ =>
        if b then wpAny (model prog w) A (execs body env) (fun f s₃ => match f with
            | .next | .cont => ∃ m, m < n ∧ I m s₃
            | .brk => Q .next s₃
            | .ret v => Q (.ret v) s₃) (fun _ _ => False) s₂
        else Q .next s₂) (fun _ _ => False) s') :
    wpAny (model prog w) A (exec (.While test body [] pos) env) Q E s := by
  refine wpAny_While (codeAny_whileLoop I (fun n s' hI => wpAny_mono (turn n s' hI) (fun b s₂ hb => ?_) fun _ _ x => x.elim) n h0)
  cases b with
  | true => exact wpAny_mono hb (fun f s₃ h₃ => by cases f <;> exact h₃) fun _ _ x => x.elim
  | false => exact wpAny_execs_nil hb
end
end
section
open PySem PySem.Spec PySem.Calls PySem.W PyProof.Rows PyProof.Rows.LCg
section
variable {prog : Program} {w : World} {A : Around} {E : Value → Shared → Prop} {s : Shared} {h₀ : Heap} {L : Addr} {m : Str → Option Value} {env : Env} {news : Led}

theorem asg_name {scope : Scope} {cl : List (Str × Addr)} {C : Addr} {oC : Obj} {m₁ : Str → Option Value} {led : Led} {x : Str} {xp : Pos} {v : Value} {Q : Unit → Shared → Prop}
    (hC : NsObj oC m₁) (F : Fr h₀ L s.heap m) (N : News h₀ L s.heap ((C, oC) :: led)) (off : ∀ p ∈ led, p.1 ≠ C)
    (hx : scope.names.lookup x = some .local) (hkind : scope.kind = .function)
    (h : ∀ oC' m₁' h' tk, NsObj oC' m₁' → m₁' x = some v → Fr h₀ L h' m → News h₀ L h' ((C, oC') :: led) → Q () { s with heap := h', toks := tk }) :
    wpAny (model prog w) A (assign (.Name x xp) (compEnvC scope cl C env) v) Q E s := by
  have z := N _ (.head _)
  refine wpAny_assign_Name (wpAny_storeName_local (lookup_relabel_local hx) (hC.ns z.1) (fun h' hn hs => ?_) (by simp [compEnvC, relabel, hkind]))
  obtain ⟨oC', e', hC'⟩ := ns_obj hn
  have up : ∀ b o, b ≠ C → s.heap.get? b = some o → h'.get? b = some o := fun b o hb e => hs.extBut b o hb e
  exact h oC' _ h' _ hC' (by simp) (Fr.but1 F up (Ne.symm z.2.1) z.2.2) (News.cons e' z.2.1 z.2.2 (News.but1 (fun p hp => N p (.tail _ hp)) up off))

theorem ldC_cell {scope : Scope} {cl : List (Str × Addr)} {C c : Addr} {o : Obj} {x : Str} {pos : Pos} {v : Value} {Q : Value → Shared → Prop} {M : Model}
    (N : News h₀ L s.heap news) (hc : cl.lookup x = some c) (hm : (c, o) ∈ news) (hd : o.data = .cell (some v)) (h : Q v s)
    (hk : (compEnvC scope cl C env).scope.kind = .function) (hx : (compEnvC scope cl C env).kindOf x = some .cell) (hb : (x == ("__debug__" : Str)) = false) :
    wpAny M A (eval (.Name x pos) (compEnvC scope cl C env)) Q E s := wpAny_Name (wpAny_loadName_cell hk hx hc ⟨o, N.get hm, hd⟩ h) hb

theorem test_nil {scope : Scope} {cl : List (Str × Addr)} {C : Addr} {Q : Bool → Shared → Prop} (h : Q true s) :
    wpAny (model prog w) A (forIn ([] : List Expr) true fun c r => if r = true then do let ok ← isTrue c (compEnvC scope cl C env) (eval c (compEnvC scope cl C env)); pure (ForInStep.yield ok) else pure (ForInStep.yield r)) Q E s :=
  wpAny_tests_nil h
theorem test_one {scope : Scope} {cl : List (Str × Addr)} {C : Addr} {c : Expr} {Q : Bool → Shared → Prop} (h : wpAny (model prog w) A (isTrue c (compEnvC scope cl C env) (eval c (compEnvC scope cl C env))) Q E s) :
    wpAny (model prog w) A (forIn [c] true fun c r => if r = true then do let ok ← isTrue c (compEnvC scope cl C env) (eval c (compEnvC scope cl C env)); pure (ForInStep.yield ok) else pure (ForInStep.yield r)) Q E s :=
  wpAny_tests_one h

theorem index_K {D : Addr} {its : Array Value} {n : Nat} {x : Value} {Q : Value → Shared → Prop} (e : Value → Bool) (N : News h₀ L s.heap news) (hm : (D, ({ cls := .type "list", data := .seq its n } : Obj)) ∈ news)
    (he : ∀ y, y ∈ its → SeqAt.EqAt A.in1 s y x (e y)) (hx : ∃ y, y ∈ its ∧ e y = true) (hsz : its.size ≤ 1000)
    (h : Q (.int (its.toList.findIdx e : Nat) s.toks) { s with toks := s.toks + 1 }) : wpAny (model prog w) A (call (.builtin "list.index") [.ref D, x]) Q E s := by
  have hj : its.toList.findIdx e < its.toList.length := by
    obtain ⟨y, hy, hey⟩ := hx
    exact List.findIdx_lt_length_of_exists ⟨y, by simpa using hy, hey⟩
  have hj' : its.toList.findIdx e < its.size := by simpa using hj
  refine call_meets PySem.F.slot_list_index ⟨_, (N _ hm).1, rfl⟩ PySem.F.entry_list_index (PySem.F.args_list_index_2 _ _)
    (SeqAt.list_indexAt D its n none #[] x e (its.toList.findIdx e) hj' (by omega) ?_ ?_) ⟨(N _ hm).1, fun y hy => he y hy, h⟩
  · have := List.findIdx_getElem (xs := its.toList) (p := e) (w := hj)
    simpa using this
  · intro i hi hlt
    have := List.not_of_lt_findIdx hlt
    simpa using this

/-- ints gathered by a comprehension -/
theorem Got.ints {α : Type} {f : α → Int} {as : List α} {ys : List Value} {TL : Led} (g : Got (fun a y tl => tl = [] ∧ ∃ t, y = .int (f a) t) as ys TL) : TL = [] ∧ IntsAre ys (as.map f) := by
  induction g with
  | nil => exact ⟨rfl, .nil⟩
  | snoc g r ih =>
    obtain ⟨rfl, hi⟩ := ih
    obtain ⟨rfl, t, rfl⟩ := r
    refine ⟨rfl, ?_⟩
    rw [List.map_append]
    exact IntsAre.append hi (.cons _ _ .nil)
end
end
section
open PySem PySem.Spec PySem.Calls PySem.W PyProof.Rows PyProof.Rows.LCg

/-- a table of nested code: empty, or it holds the one code that is asked -/
noncomputable def TabOk (P : Addr) (pos : Pos) (qual : Str) (tl : Led) : Prop :=
  ∃ ps codes, tl = (P, tabObj ps) :: codes ∧ (∀ p ∈ codes, p.1 ≠ P) ∧ (ps = #[] ∨ (TriplesOk ps.toList ∧ ∃ c' oc vs t, codeAmong pos ps.toList = some (.ref c') ∧ (c', oc) ∈ codes ∧ oc.data = .fields vs ∧ vs[1]? = some (.str qual t)))

theorem updF_at {d : Addr} {o : Obj} {post : Led} (h2 : ∀ p ∈ post, p.1 ≠ d) : ∀ {pre : Led}, (∀ p ∈ pre, p.1 ≠ d) → UpdF d o (pre ++ (d, o) :: post) (fun o' => pre ++ (d, o') :: post)
  | [], _ => .head h2
  | q :: r, h1 => .tail (h1 q (.head _)) (updF_at h2 fun p hp => h1 p (.tail _ hp))

section
variable {M : Model} {A : Around} {E : Value → Shared → Prop} {s : Shared} {h₀ : Heap} {L a c P : Addr} {m mg mb : Str → Option Value} {cn : Str} {cs : Scope} {ccd : Value} {cl : List (Str × Addr)} {rest tl : Led}
  {p : Program} {loose : List Str} {mean : ExcName → Option Value} {name qual : Str} {params : Arguments} {body : List Stmt} {scope : Scope} {pos : Pos} {clos : List (Str × Addr)}

theorem nest_any {Q : Flow → Shared → Prop} (F : Fr h₀ L s.heap m) (N : News h₀ L s.heap (rest ++ tl)) (T : Top p loose mean mg mb h₀) (C : CodeHd h₀ c P) (hcd : ccd = .ref c) (ht : TabOk P pos qual tl) (off : ∀ q ∈ rest, ∀ p ∈ tl, q.1 ≠ p.1)
    (hq : qualnameIn (envX cn cs L a ccd cl) name name = qual)
    (hcl : closureFor scope (envX cn cs L a ccd cl) = pure clos) (hd0 : params.defaults = []) (hk0 : params.kw_defaults = []) (ha : annTrees params none (envX cn cs L a ccd cl) = [])
    (h : ∀ f c' oc vs t ctv doc h' tk tl', TabOk P pos qual tl' → (c', oc) ∈ tl' → oc.data = .fields vs → vs[1]? = some (.str qual t) → (∀ q ∈ rest, ∀ p ∈ tl', q.1 ≠ p.1) → (∀ q ∈ rest ++ tl', q.1 < f) → Fr h₀ L h' m →
      News h₀ L h' ((f, fnMade name qual params body scope clos doc ((mg "__name__").getD .none) c' ctv) :: (rest ++ tl')) → wpAny M A (storeName (envX cn cs L a ccd cl) name (.ref f)) (fun _ s'' => Q .next s'') E { s with heap := h', toks := tk }) :
    wpAny M A (exec (.FunctionDef name params body [] none [] scope none name pos) (envX cn cs L a ccd cl)) Q E s := by
  refine nestDef_K hd0 hk0 ha ?_
  rw [hq]
  obtain ⟨ps, codes, rfl, hoc, hps⟩ := ht
  have offP : ∀ q ∈ rest, q.1 ≠ P := fun q hq => off q hq _ (.head _)
  rcases hps with rfl | ⟨ht, c', oc, vs, t, e1, e2, e3, e4⟩
  · refine nest_K F N T C hcd (updF_at hoc offP) trivial rfl hcl fun f c' oc vs t ctv doc h' tk F' N' d1 d2 l1 l2 => ?_
    have hP : P < c' := l1 (P, tabObj #[]) (List.mem_append_right _ (.head _))
    refine h f c' oc vs t ctv doc h' tk ((P, tabObj (#[] ++ #[rawInt pos.line, rawInt pos.col, .ref c'])) :: (c', oc) :: codes) ⟨_, _, rfl, fun p hp => ?_, .inr ⟨?_, c', oc, vs, t, ?_, .head _, d1, d2⟩⟩ (.tail _ (.head _)) d1 d2 (fun q hq p hp => ?_) (fun q hq => ?_) F' (News.sub N' fun q hq => ?_)
    · rcases List.mem_cons.mp hp with rfl | hp
      · exact Nat.ne_of_gt hP
      · exact hoc p hp
    · simp [TriplesOk, rawInt]
    · simp [codeAmong, rawInt]
    · have lq : q.1 < c' := l1 q (List.mem_append_left _ hq)
      rcases List.mem_cons.mp hp with rfl | hp
      · exact offP q hq
      · rcases List.mem_cons.mp hp with rfl | hp
        · exact Nat.ne_of_lt lq
        · exact off q hq p (.tail _ hp)
    · rcases List.mem_append.mp hq with hq | hq
      · exact Nat.lt_trans (l1 q (List.mem_append_left _ hq)) l2
      · rcases List.mem_cons.mp hq with rfl | hq
        · exact Nat.lt_trans hP l2
        · rcases List.mem_cons.mp hq with rfl | hq
          · exact l2
          · exact Nat.lt_trans (l1 q (List.mem_append_right _ (.tail _ hq))) l2
    · rcases List.mem_cons.mp hq with rfl | hq
      · exact .head _
      · rcases List.mem_append.mp hq with hq | hq
        · exact .tail _ (.tail _ (List.mem_append_left _ hq))
        · rcases List.mem_cons.mp hq with rfl | hq
          · exact .tail _ (.tail _ (List.mem_append_right _ (.head _)))
          · rcases List.mem_cons.mp hq with rfl | hq
            · exact .tail _ (.head _)
            · exact .tail _ (.tail _ (List.mem_append_right _ (.tail _ hq)))
  · refine nestHit_K F N T C hcd (List.mem_append_right _ (.head _)) ht e1 hcl fun f ctv doc h' tk F' N' l1 => ?_
    exact h f c' oc vs t ctv doc h' tk ((P, tabObj ps) :: codes) ⟨ps, codes, rfl, hoc, .inr ⟨ht, c', oc, vs, t, e1, e2, e3, e4⟩⟩ (.tail _ e2) e3 e4 off l1 F' N'
end
end
section
open PySem PySem.Spec PySem.Calls PySem.W PyProof.Rows PyProof.Rows.LCg
section
variable {prog : Program} {w : World} {A : Around} {E : Value → Shared → Prop} {s : Shared} {h₀ : Heap} {L : Addr} {m : Str → Option Value} {news : Led}
theorem rep_K {l : Addr} {v : Value} {k : Nat} {x : Int} {u : Tok} {Q : Value → Shared → Prop} (F : Fr h₀ L s.heap m) (N : News h₀ L s.heap news) (hm : (l, ({ cls := .type "list", data := .seq #[v] k } : Obj)) ∈ news)
    (hlo : -(2 ^ 63 : Int) ≤ x) (hhi : x < 10000)
    (h : ∀ D h', (∀ p ∈ news, p.1 < D) → Fr h₀ L h' m → News h₀ L h' ((D, ({ cls := .type "list", data := .seq (List.replicate x.toNat v).toArray } : Obj)) :: news) → Q (.ref D) { s with heap := h' }) :
    wpAny (model prog w) A (binaryOp .Mult (.ref l) (.int x u)) Q E s := by
  refine mul_list F N (N _ hm).1 hlo (by omega) (by show 1 * x.toNat ≤ 2 ^ 24; omega) fun h' F' N' => ?_
  have e : List.foldl (fun x1 x2 => x1 ++ x2) #[] (List.replicate (if (#[v] : Array Value).isEmpty = true then 0 else x.toNat) #[v]) = (List.replicate x.toNat v).toArray := by
    rw [if_neg (by simp), listMul_foldl]
    show ([] ++ (List.replicate x.toNat [v]).flatten).toArray = _
    rw [List.nil_append, lm_rep_flat_one]
  rw [e] at N'
  exact h _ h' (News.lt N) F' N'
end
theorem ne_all1 {l : Led} {b d : Nat} (h : ∀ p ∈ l, p.1 < b) (hb : b ≤ d) : ∀ p ∈ l, p.1 ≠ d := fun p hp => Nat.ne_of_lt (Nat.lt_of_lt_of_le (h p hp) hb)
theorem ne_all2 {l : Led} {b d : Nat} (h : AllLt b l) (hb : b ≤ d) : ∀ p ∈ l, p.1 ≠ d := ne_all1 (ktn_ltOf h) hb
theorem ne_app {a b : Led} {d : Nat} (h : ∀ p ∈ a, p.1 ≠ d) (h' : ∀ p ∈ b, p.1 ≠ d) : ∀ p ∈ a ++ b, p.1 ≠ d := fun p hp => (List.mem_append.mp hp).elim (h p) (h' p)
end
section
open PySem PySem.Spec PySem.Calls PySem.W PyProof.Rows PyProof.Rows.LCg
/-- digits, the lowest first -/
noncomputable def segv (B : Int) : List Int → Int
  | [] => 0
  | d :: r => d + B * segv B r
theorem segv_append (B : Int) : ∀ xs ys : List Int, segv B (xs ++ ys) = segv B xs + B ^ xs.length * segv B ys
  | [], ys => by simp [segv]
  | x :: xs, ys => by
    simp only [List.cons_append, segv, segv_append B xs ys, List.length_cons]
    have : B ^ (xs.length + 1) = B * B ^ xs.length := by rw [Int.pow_succ]; exact Int.mul_comm _ _
    rw [this, Int.mul_add, Int.mul_assoc, Int.add_assoc]

noncomputable def Inner1 (w : World) (p : Program) (loose : List Str) (mean : ExcName → Option Value) (mg mb : Str → Option Value) (base : Heap) (fo : Obj) (f c1 : Addr) (oc : Obj) (ca cn ci d : Addr) (o1 o2 o3 : Obj) (n : Int) (k : Nat) : Prop :=
  ∀ {dp un : Nat} {gd : Option (List Code)} {cn' : Str} {cs : Scope} {a : Addr} {ccd : Value} {cl : List (Str × Addr)} {outer : List Env} {A₀ : Around} {h₀ : Heap} {L : Addr} {m : Str → Option Value} {rest : Led} {s : Shared} {Q E : Value → Shared → Prop}
    (x : Int) (lo hi : Nat) (tx t1 t2 : Tok) (its : Array Value) (ep : Nat) (ns : List Int),
    hi - lo ≤ k → lo < hi → hi ≤ ns.length → ns.length ≤ 200 → 0 ≤ x → x < 2 ^ 30 →
    Below A₀ base outer h₀ → Fr h₀ L s.heap m → (Mine.hd.heap_39 w.params).In h₀ → Top p loose mean mg mb h₀ → cs.kind = .function → dp + k + 1 < recursionLimit → un + 8 * k + 8 < cLine →
    News h₀ L s.heap ((d, ({ cls := .type "list", data := .seq its ep } : Obj)) :: rest) → (∀ q ∈ rest, q.1 ≠ d) → (f, fo) ∈ rest → (c1, oc) ∈ rest → (ca, o1) ∈ rest → (cn, o2) ∈ rest → (ci, o3) ∈ rest → IntsAre its.toList ns →
    (∀ its' ep' ns' h' tk', IntsAre its'.toList ns' → ns'.length = ns.length → (∀ i, i < lo ∨ hi ≤ i → ns'[i]? = ns[i]?) → segv (2 ^ n.toNat) ((ns'.drop lo).take (hi - lo)) = x → (∀ y ∈ (ns'.drop lo).take (hi - lo), 0 ≤ y ∧ y < 2 ^ 30) →
      Fr h₀ L h' m → News h₀ L h' ((d, ({ cls := .type "list", data := .seq its' ep' } : Obj)) :: rest) → Q .none { s with heap := h', toks := tk' }) →
    wpAny (model PySem.Challenge.rw_sn0056_01.prog w) (ktrTop dp un gd cn' cs L a ccd cl outer) (call (.ref f) [.int x tx, .int lo t1, .int hi t2]) Q E s
end
section
open PySem PySem.Spec PySem.Calls PySem.W PyProof.Rows PyProof.Rows.LCg
theorem nat_and_hi (x k : Nat) : x &&& (x / 2 ^ k * 2 ^ k) = x / 2 ^ k * 2 ^ k := by
  apply Nat.eq_of_testBit_eq
  intro i
  rw [Nat.testBit_and, ← Nat.shiftRight_eq_div_pow, ← Nat.shiftLeft_eq, Nat.testBit_shiftLeft, Nat.testBit_shiftRight]
  by_cases h : k ≤ i
  · have : k + (i - k) = i := by omega
    simp [h, this]
  · simp [h]
theorem xor_hi {x : Int} (k : Nat) (h : 0 ≤ x) : Builtin.bitXor x (x.fdiv (2 ^ k) * 2 ^ k) = x.fmod (2 ^ k) := by
  obtain ⟨a, rfl⟩ := Int.eq_ofNat_of_zero_le h
  have e1 : ((a : Int).fdiv (2 ^ k) * 2 ^ k) = ((a / 2 ^ k * 2 ^ k : Nat) : Int) := by
    have : ((2 : Int) ^ k) = ((2 ^ k : Nat) : Int) := by simp
    rw [this, Int.fdiv_eq_ediv_of_nonneg _ (Int.natCast_nonneg _)]
    simp
  have e2 : (a : Int).fmod (2 ^ k) = ((a % 2 ^ k : Nat) : Int) := by
    have : ((2 : Int) ^ k) = ((2 ^ k : Nat) : Int) := by simp
    rw [this, Int.fmod_eq_emod_of_nonneg _ (Int.natCast_nonneg _)]
    simp
  rw [e1, e2, bitXor_and, bitAnd_pp (by omega) (by omega)]
  simp only [Int.toNat_natCast]
  rw [nat_and_hi]
  have := Nat.div_add_mod a (2 ^ k)
  have hc : a / 2 ^ k * 2 ^ k = 2 ^ k * (a / 2 ^ k) := Nat.mul_comm _ _
  have := Nat.mod_le a (2 ^ k)
  omega
theorem seg_join {lo M hi : Nat} (h1 : lo < M) (h2 : M < hi) {ns2 ns3 : List Int} (ha : ∀ i, i < M ∨ hi ≤ i → ns3[i]? = ns2[i]?) :
    (ns3.drop lo).take (hi - lo) = (ns2.drop lo).take (M - lo) ++ (ns3.drop M).take (hi - M) := by
  have e : hi - lo = (M - lo) + (hi - M) := seg_sub h1 h2
  rw [e, List.take_add]
  congr 1
  · apply List.ext_getElem?
    intro i
    rw [List.getElem?_take, List.getElem?_take, List.getElem?_drop, List.getElem?_drop]
    split
    · exact ha _ (.inl (by omega))
    · rfl
  · rw [List.drop_drop]
    congr 2
    omega
theorem fmod_fdiv (x : Int) (k : Nat) : x.fmod (2 ^ k) + 2 ^ k * x.fdiv (2 ^ k) = x := by
  have := Int.fmod_add_mul_fdiv x (2 ^ k)
  omega
theorem pow2_pos (k : Nat) : (0 : Int) < 2 ^ k := Int.pow_pos (by decide)
theorem fdiv_lo {x : Int} (k : Nat) (h : 0 ≤ x) : 0 ≤ x.fdiv (2 ^ k) := by
  rw [Int.fdiv_eq_ediv_of_nonneg _ (Int.le_of_lt (pow2_pos k))]
  exact Int.ediv_nonneg h (Int.le_of_lt (pow2_pos k))
theorem fdiv_le {x : Int} (k : Nat) (h : 0 ≤ x) : x.fdiv (2 ^ k) ≤ x := by
  rw [Int.fdiv_eq_ediv_of_nonneg _ (Int.le_of_lt (pow2_pos k))]
  exact Int.ediv_le_self _ h
theorem fmod_lo {x : Int} (k : Nat) : 0 ≤ x.fmod (2 ^ k) := by rw [Int.fmod_eq_emod_of_nonneg _ (Int.le_of_lt (pow2_pos k))]; exact Int.emod_nonneg _ (Int.ne_of_gt (pow2_pos k))
theorem fmod_le {x : Int} (k : Nat) (h : 0 ≤ x) : x.fmod (2 ^ k) ≤ x := by
  have e := fmod_fdiv x k
  have := Int.mul_nonneg (Int.le_of_lt (pow2_pos k)) (fdiv_lo k h)
  omega
  
theorem pow_seg (n : Int) (hn : 0 ≤ n) (j : Nat) : ((2 : Int) ^ n.toNat) ^ j = 2 ^ ((j : Int) * n).toNat := by
  rw [← Int.pow_mul]
  congr 1
  obtain ⟨a, rfl⟩ := Int.eq_ofNat_of_zero_le hn
  rw [← Int.natCast_mul, Int.toNat_natCast, Int.toNat_natCast, Nat.mul_comm]
section
variable {prog : Program} {w : World} {A : Around} {E : Value → Shared → Prop} {s : Shared} {h₀ : Heap} {L : Addr} {news : Led}
theorem len_M {l : Addr} {its : Array Value} {n : Nat} {Q : Value → Shared → Prop} (N : News h₀ L s.heap news) (hm : (l, ({ cls := .type "list", data := .seq its n } : Obj)) ∈ news) (hs : its.size ≤ 1000000)
    (h : Q (.int (its.size : Nat) (s.toks + 1)) { s with toks := s.toks + 1 + 1 }) : wpAny (model prog w) A (call (.builtin "len") [.ref l]) Q E s :=
  len_list ⟨_, (N _ hm).1, rfl, n, rfl⟩ (by omega) h
theorem truthy_M {l : Addr} {its : Array Value} {n : Nat} {Q : Bool → Shared → Prop} (N : News h₀ L s.heap news) (hm : (l, ({ cls := .type "list", data := .seq its n } : Obj)) ∈ news) (hs : its.size ≤ 1000000)
    (h1 : its.size = 0 → ∀ t, Q false { s with toks := t }) (h2 : its.size ≠ 0 → ∀ t, Q true { s with toks := t }) : wpAny (model prog w) A (truthy (.ref l)) Q E s :=
  wpAny_truthy_list (items := its) ⟨_, (N _ hm).1, rfl, n, rfl⟩ (by omega) (by
    by_cases e : its.size = 0
    · have : (!its.isEmpty) = false := by simp [Array.isEmpty, e]
      rw [this]
      exact h1 e _
    · have : (!its.isEmpty) = true := by simp [Array.isEmpty, e]
      rw [this]
      exact h2 e _)
theorem item_M {value slice : Expr} {l : Addr} {its : Array Value} {n : Nat} {k : Int} {u : Tok} {x : Value} {Q : Value → Shared → Prop} (N : News h₀ L s.heap news) (hm : (l, ({ cls := .type "list", data := .seq its n } : Obj)) ∈ news)
    (h0 : 0 ≤ k) (hfit : k < 2 ^ 63) (hx : its[k.toNat]? = some x) (h : Q x s)
    (hs : subscripted slice false (.ref l) (.int k u) = operate [.ref l, .int k u] (getItem (.ref l) (.int k u)) := by with_unfolding_all rfl) (hg : ∀ r, letTemporaryGo value (.ref l) r = pure () := by intro _; with_unfolding_all rfl) :
    wpAny (model prog w) A (subscriptTail value slice (.ref l) (.int k u)) Q E s :=
  item_list ⟨_, (N _ hm).1, rfl, n, rfl⟩ h0 hfit hx h hs hg
end
section
variable {prog : Program} {w : World} {A : Around} {E : Value → Shared → Prop} {s : Shared} {env : Env} {h₀ : Heap} {m : Str → Option Value} {news : Led}
theorem For_F {α : Type} {iter : Expr} {body : List Stmt} {pos xp : Pos} {x : Str} {Q : Flow → Shared → Prop} (_F₀ : Fr h₀ env.locals s.heap m) (as : List α) (Is : α → Value → Prop) (J : Nat → (Str → Option Value) → Led → Prop)
    (hs : ∀ x, foldedSetIterable iter env x = pure x)
    (h : wpAny (model prog w) A (eval iter env) (fun xv s₁ => wpAny (model prog w) A (pyIter xv) (ForAt prog w A h₀ env (.Name x xp) body as Is J Q E) E s₁) E s) :
    wpAny (model prog w) A (exec (.For (.Name x xp) iter body [] pos) env) Q E s := For_M as Is J h hs
end
theorem fdm (x : Int) {y : Int} (h : 0 < y) : x.fmod y + y * x.fdiv y = x ∧ 0 ≤ x.fmod y ∧ x.fmod y < y :=
  ⟨Int.fmod_add_mul_fdiv x y, by rw [Int.fmod_eq_emod_of_nonneg _ (Int.le_of_lt h)]; exact Int.emod_nonneg _ (Int.ne_of_gt h), by rw [Int.fmod_eq_emod_of_nonneg _ (Int.le_of_lt h)]; exact Int.emod_lt_of_pos _ h⟩
theorem fm3 (x : Int) : x.fmod 3 = 0 ∨ x.fmod 3 = 1 ∨ x.fmod 3 = 2 := have h := fdm x (y := 3) (by decide); lt3 h.2.1 h.2.2
theorem fm2 (x : Int) : x.fmod 2 = 0 ∨ x.fmod 2 = 1 := have h := fdm x (y := 2) (by decide); lt2 h.2.1 h.2.2
theorem fmn (x : Int) (k : Nat) (hk : 0 < k) : x.fmod k = ((x.fmod k).toNat : Int) ∧ (x.fmod k).toNat < k := have h := fdm x (y := k) (Int.ofNat_lt.mpr hk); ⟨toN h.2.1, toN_lt h.2.1 h.2.2⟩
theorem fd_lt {x B k : Int} (h : 0 ≤ x) (h1 : x < B) (hk : 0 < k) : x.fdiv k < B := by
  rw [Int.fdiv_eq_ediv_of_nonneg _ (Int.le_of_lt hk)]
  exact Int.lt_of_le_of_lt (Int.ediv_le_self _ h) h1
theorem fd_lo {x y : Int} (h : 0 ≤ x) (hy : 0 < y) : 0 ≤ x.fdiv y := by
  rw [Int.fdiv_eq_ediv_of_nonneg _ (Int.le_of_lt hy)]
  exact Int.ediv_nonneg h (Int.le_of_lt hy)
theorem ints_snoc {vs : List Value} {ns : List Int} (h : IntsAre vs ns) (n : Int) (t : Tok) : IntsAre (vs ++ [.int n t]) (ns ++ [n]) := by
  induction h with
  | nil => exact .cons n t .nil
  | cons k u _ ih => exact .cons k u ih
theorem ints_rev {vs : List Value} {ns : List Int} (h : IntsAre vs ns) : IntsAre vs.reverse ns.reverse := by
  induction h with
  | nil => exact .nil
  | cons k u _ ih => rw [List.reverse_cons, List.reverse_cons]; exact ints_snoc ih _ _
theorem ints_get {vs : List Value} {ns : List Int} (h : IntsAre vs ns) : ∀ {i : Nat} {d : Int}, ns[i]? = some d → ∃ t, vs[i]? = some (.int d t) := by
  induction h with
  | nil => intro i d e; simp at e
  | cons n t _ ih =>
    intro i d e
    rcases i with _ | i
    · simp at e ⊢
      exact e
    · simp at e ⊢
      exact ih e
theorem segv_pos {B : Int} (hB : 0 ≤ B) : ∀ {xs : List Int}, (∀ y ∈ xs, 0 ≤ y) → 0 ≤ segv B xs
  | [], _ => Int.le_refl _
  | x :: xs, h => Int.add_nonneg (h x (.head _)) (Int.mul_nonneg hB (segv_pos hB fun y hy => h y (.tail _ hy)))
theorem ints_replicate (t : Tok) (k : Nat) : IntsAre (List.replicate k (Value.int 0 t)) (List.replicate k 0) := by
  induction k with
  | zero => exact .nil
  | succ k ih => exact .cons 0 t ih
/-- the middle of a stretch -/
inductive Mid (lo hi k len : Nat) (n : Int) : Prop
  | mk (M : Nat) : ((lo : Int) + hi).fdiv (2 ^ Int.toNat 1) = M → lo < M → M < hi → 0 ≤ (((lo : Int) + hi).fdiv (2 ^ Int.toNat 1) - lo) * n → (((lo : Int) + hi).fdiv (2 ^ Int.toNat 1) - lo) * n ≤ 1000000 → M - lo ≤ k → hi - M ≤ k → M ≤ len → M - lo ≤ len - lo → 0 ≤ ((lo : Int) + hi).fdiv (2 ^ Int.toNat 1) - lo → ((lo : Int) + hi).fdiv (2 ^ Int.toNat 1) - lo ≤ 1000 → -2 ^ 64 < ((lo : Int) + hi).fdiv (2 ^ Int.toNat 1) - lo → ((lo : Int) + hi).fdiv (2 ^ Int.toNat 1) - lo < 2 ^ 64 → lo ≤ M → M ≤ hi → 0 ≤ (lo : Int) + hi → Mid lo hi k len n
theorem mid_all {lo hi k len : Nat} {n : Int} (hlt : lo < hi) (h1 : ¬ (lo : Int) + 1 = hi) (hk : hi - lo ≤ k + 1) (hhi : hi ≤ len) (hlen : len ≤ 200) (hn0 : 0 < n) (hn1 : n < 100) : Mid lo hi k len n := by
  have hM0 : ((lo : Int) + hi).fdiv (2 ^ Int.toNat 1) = (((lo + hi) / 2 : Nat) : Int) := by rw [Int.fdiv_eq_ediv_of_nonneg _ (by decide)]; rfl
  have h2 : lo + 1 < hi := Nat.lt_of_le_of_ne hlt fun e => h1 (congrArg Int.ofNat e)
  have a1 : lo < (lo + hi) / 2 := (Nat.le_div_iff_mul_le (by decide)).mpr (Nat.le_trans (Nat.le_of_eq ((Nat.mul_two _).trans (Nat.succ_add lo (lo + 1)))) (Nat.add_le_add_left h2 lo))
  have a2 : (lo + hi) / 2 < hi := (Nat.div_lt_iff_lt_mul (by decide)).mpr (Nat.lt_of_lt_of_eq (Nat.add_lt_add_right hlt hi) (Nat.mul_two hi).symm)
  generalize (lo + hi) / 2 = M at hM0 a1 a2
  have d3 : M ≤ len := Nat.le_trans (Nat.le_of_lt a2) hhi
  have e : ((lo : Int) + hi).fdiv (2 ^ Int.toNat 1) - lo = ((M - lo : Nat) : Int) := by rw [hM0]; exact (Int.ofNat_sub (Nat.le_of_lt a1)).symm
  have d4 : ((M - lo : Nat) : Int) ≤ 200 := Int.ofNat_le.mpr (Nat.le_trans (Nat.sub_le _ _) (Nat.le_trans d3 hlen))
  have d5 : (0 : Int) ≤ ((M - lo : Nat) : Int) := Int.natCast_nonneg _
  refine ⟨M, hM0, a1, a2, ?_, ?_, Nat.le_of_lt_succ (Nat.lt_of_lt_of_le (Nat.sub_lt_sub_right (Nat.le_of_lt a1) a2) hk), Nat.le_of_lt_succ (Nat.lt_of_lt_of_le (Nat.sub_lt_sub_left hlt a1) hk), d3, Nat.sub_le_sub_right d3 lo, ?_, ?_, ?_, ?_, Nat.le_of_lt a1, Nat.le_of_lt a2, Int.natCast_nonneg (lo + hi)⟩ <;> rw [e]
  · exact Int.mul_nonneg d5 (Int.le_of_lt hn0)
  · exact Int.le_trans (Int.mul_le_mul d4 (Int.le_of_lt hn1) (Int.le_of_lt hn0) (by decide)) (by decide)
  · exact d5
  · exact Int.le_trans d4 (by decide)
  · exact Int.lt_of_lt_of_le (by decide) d5
  · exact Int.lt_of_le_of_lt d4 (by decide)
end
section
open PySem PySem.Spec PySem.Calls PySem.W PyProof.Rows PyProof.Rows.LCg
section
variable {prog : Program} {w : World} {A : Around} {E : Value → Shared → Prop} {s : Shared} {h₀ : Heap} {L : Addr} {m : Str → Option Value} {env : Env} {news : Led}
/-- the items gathered one by one -/
inductive AllV {α : Type} (V : α → Value → Prop) : List α → List Value → Prop
  | nil : AllV V [] []
  | cons {a y as ys} : V a y → AllV V as ys → AllV V (a :: as) (y :: ys)
theorem AllV.snoc {α : Type} {V : α → Value → Prop} {as : List α} {ys : List Value} {a : α} {y : Value} (g : AllV V as ys) (h : V a y) : AllV V (as ++ [a]) (ys ++ [y]) := by
  induction g with
  | nil => exact .cons h .nil
  | cons h' _ ih => exact .cons h' ih
theorem Got.allV {α : Type} {V : α → Value → Prop} {as : List α} {ys : List Value} {TL : Led} (g : Got (fun a y tl => tl = [] ∧ V a y) as ys TL) : TL = [] ∧ AllV V as ys := by
  induction g with
  | nil => exact ⟨rfl, .nil⟩
  | snoc _ r ih => exact ⟨by rw [r.1, ih.1]; rfl, ih.2.snoc r.2⟩
theorem AllV.length {α : Type} {V : α → Value → Prop} {as : List α} {ys : List Value} (g : AllV V as ys) : ys.length = as.length := by
  induction g with
  | nil => rfl
  | cons _ _ ih => simp [ih]
theorem AllV.get {α : Type} {V : α → Value → Prop} {as : List α} {ys : List Value} (g : AllV V as ys) : ∀ {i : Nat} {a : α}, as[i]? = some a → ∃ y, ys[i]? = some y ∧ V a y := by
  induction g with
  | nil => intro i a h; simp at h
  | cons h _ ih =>
    intro i b e
    rcases i with _ | i
    · simp at e ⊢; subst e; exact h
    · simp at e ⊢; exact ih e
theorem AllV.ints {α : Type} {f : α → Int} {as : List α} {ys : List Value} (g : AllV (fun a y => ∃ t, y = .int (f a) t) as ys) : IntsAre ys (as.map f) := by
  induction g with
  | nil => exact .nil
  | cons h _ ih => obtain ⟨t, rfl⟩ := h; exact .cons _ _ ih
theorem AllV.mono {α : Type} {V V' : α → Value → Prop} {as : List α} {ys : List Value} (g : AllV V as ys) (h : ∀ a y, V a y → V' a y) : AllV V' as ys := by
  induction g with
  | nil => exact .nil
  | cons h' _ ih => exact .cons (h _ _ h') ih

/-- a comprehension with a Name for target, whose items make nothing new -/
theorem CompAt.name {α : Type} {x : Str} {xp : Pos} {elt : Expr} {ifs : List Expr} {scope : Scope} {cl : List (Str × Addr)} {as : List α} {Is : α → Value → Prop} {p : α → Bool} {V : α → Value → Prop} {I : Addr} {St : Nat → Heap → Prop} {src : Led}
    {Fin : Addr → List Value → Led → Led → Shared → Prop}
    (W : ItM prog w A h₀ L src as Is I St) (hst : St 0 s.heap) (F : Fr h₀ L s.heap m) (N : News h₀ L s.heap news) (hsrc : ∀ q ∈ src, q ∈ news) (off : ∀ q ∈ news, q.1 ≠ I)
    (hsz : as.length ≤ sizeLine) (hx : scope.names.lookup x = some .local) (hkind : scope.kind = .function)
    (htest : ∀ a v C oC m₁ own (s : Shared) (Q : Bool → Shared → Prop) (E' : Value → Shared → Prop), a ∈ as → Is a v → m₁ x = some v → NsObj oC m₁ → Fr h₀ L s.heap m → News h₀ L s.heap ((C, oC) :: (own ++ news)) →
      (∀ h' tk, Fr h₀ L h' m → News h₀ L h' ((C, oC) :: (own ++ news)) → Q (p a) { s with heap := h', toks := tk }) →
      wpAny (model prog w) A (forIn ifs true fun c r => if r = true then do let ok ← isTrue c (compEnvC scope cl C env) (eval c (compEnvC scope cl C env)); pure (ForInStep.yield ok) else pure (ForInStep.yield r)) Q E' s)
    (helt : ∀ a v C oC m₁ own (s : Shared) (Q : Value → Shared → Prop) (E' : Value → Shared → Prop), a ∈ as → Is a v → p a = true → m₁ x = some v → NsObj oC m₁ → Fr h₀ L s.heap m → News h₀ L s.heap ((C, oC) :: (own ++ news)) →
      (∀ y h' tk, V a y → Fr h₀ L h' m → News h₀ L h' ((C, oC) :: (own ++ news)) → Q y { s with heap := h', toks := tk }) →
      wpAny (model prog w) A (eval elt (compEnvC scope cl C env)) Q E' s)
    (fin : ∀ D ys h tk, AllV V (as.filter p) ys → (∀ q ∈ news, q.1 < D) → Fr h₀ L h m → News h₀ L h ((D, lst ys) :: news) → Fin D ys [] news { s with heap := h, toks := tk }) :
    CompAt prog w A h₀ L m env scope cl (.Name x xp) ifs elt as Is p (fun a y tl => tl = [] ∧ V a y) (fun _ v m₁ => m₁ x = some v) Fin (.ref I) s := by
  refine ⟨I, St, src, news, rfl, W, hsz, hst, F, N, hsrc, off, ⟨?_, ?_, ?_, ?_⟩, ?_⟩
  · intro i a v s Q E' _ _ _ _ _ hq
    exact wpAny_pure hq
  · intro a v C oC m₁ own s Q E' _ _ hC F N off h
    exact asg_name hC F N off hx hkind h
  · intro a v C oC m₁ own s Q E' ha hv hB hC F N h
    exact htest a v C oC m₁ own s Q E' ha hv hB hC F N h
  · intro a v C oC m₁ own s₅ Q₅ E' ha hv hp hB hC F₅ N₅ hQ₅
    exact helt a v C oC m₁ own s₅ Q₅ E' ha hv hp hB hC F₅ N₅ fun y h' tk hV F' N' => hQ₅ y [] h' tk ⟨rfl, hV⟩ F' N' fun _ h => nomatch h
  · intro D ys TL h₃ tk₃ G hTL hD F₃ N₃
    obtain ⟨rfl, hi⟩ := G.allV
    exact fin D ys h₃ tk₃ hi hD F₃ N₃

theorem comp_range {n : Nat} {r : Addr} {t u v : Tok} {x : Str} {xp : Pos} {elt : Expr} {ifs : List Expr} {scope : Scope} {cl : List (Str × Addr)} {p : Nat → Bool} {V : Nat → Value → Prop} {Fin : Addr → List Value → Led → Led → Shared → Prop}
    (hh : A.handled = none) (F : Fr h₀ L s.heap m) (N : News h₀ L s.heap news) (hr : IsRange s.heap r 0 (n : Int) 1 t u v) (hn : n ≤ 1000) (hx : scope.names.lookup x = some .local) (hkind : scope.kind = .function)
    (htest : ∀ a v C oC m₁ own (s : Shared) (Q : Bool → Shared → Prop) (E' : Value → Shared → Prop), a < n → (∃ t, v = .int (a : Int) t) → m₁ x = some v → NsObj oC m₁ → Fr h₀ L s.heap m → News h₀ L s.heap ((C, oC) :: (own ++ news)) →
      (∀ h' tk, Fr h₀ L h' m → News h₀ L h' ((C, oC) :: (own ++ news)) → Q (p a) { s with heap := h', toks := tk }) →
      wpAny (model prog w) A (forIn ifs true fun c r => if r = true then do let ok ← isTrue c (compEnvC scope cl C env) (eval c (compEnvC scope cl C env)); pure (ForInStep.yield ok) else pure (ForInStep.yield r)) Q E' s)
    (helt : ∀ a v C oC m₁ own (s : Shared) (Q : Value → Shared → Prop) (E' : Value → Shared → Prop), a < n → (∃ t, v = .int (a : Int) t) → p a = true → m₁ x = some v → NsObj oC m₁ → Fr h₀ L s.heap m → News h₀ L s.heap ((C, oC) :: (own ++ news)) →
      (∀ y h' tk, V a y → Fr h₀ L h' m → News h₀ L h' ((C, oC) :: (own ++ news)) → Q y { s with heap := h', toks := tk }) →
      wpAny (model prog w) A (eval elt (compEnvC scope cl C env)) Q E' s)
    (fin : ∀ D ys h tk, AllV V ((List.range n).filter p) ys → (∀ q ∈ news, q.1 < D) → Fr h₀ L h m → News h₀ L h ((D, lst ys) :: news) → Fin D ys [] news { s with heap := h, toks := tk }) :
    wpAny (model prog w) A (pyIter (.ref r)) (CompAt prog w A h₀ L m env scope cl (.Name x xp) ifs elt (List.range n) (fun (i : Nat) v => ∃ t, v = .int (i : Int) t) p (fun a y tl => tl = [] ∧ V a y) (fun _ v m₁ => m₁ x = some v) Fin) E s := by
  refine src_range hh F N hr hn ?_
  intro I h' St W hst F' N' off
  refine CompAt.name (news := news) W hst F' N' (fun _ h => nomatch h) off (by rw [List.length_range, sizeLine_eq]; omega) hx hkind ?_ ?_ fin
  · intro a v C oC m₁ own s Q E' ha
    exact htest a v C oC m₁ own s Q E' (List.mem_range.mp ha)
  · intro a v C oC m₁ own s Q E' ha
    exact helt a v C oC m₁ own s Q E' (List.mem_range.mp ha)

theorem comp_list {α : Type} {as : List α} {Is : α → Value → Prop} {l : Addr} {its : Array Value} {n : Nat} {x : Str} {xp : Pos} {elt : Expr} {ifs : List Expr} {scope : Scope} {cl : List (Str × Addr)} {p : α → Bool} {V : α → Value → Prop} {Fin : Addr → List Value → Led → Led → Shared → Prop}
    (hh : A.handled = none) (F : Fr h₀ L s.heap m) (N : News h₀ L s.heap news) (hm : (l, ({ cls := .type "list", data := .seq its n } : Obj)) ∈ news) (hV : AllV Is as its.toList) (hsz : as.length ≤ 1000) (hx : scope.names.lookup x = some .local) (hkind : scope.kind = .function)
    (htest : ∀ a v C oC m₁ own (s : Shared) (Q : Bool → Shared → Prop) (E' : Value → Shared → Prop), a ∈ as → Is a v → m₁ x = some v → NsObj oC m₁ → Fr h₀ L s.heap m → News h₀ L s.heap ((C, oC) :: (own ++ news)) →
      (∀ h' tk, Fr h₀ L h' m → News h₀ L h' ((C, oC) :: (own ++ news)) → Q (p a) { s with heap := h', toks := tk }) →
      wpAny (model prog w) A (forIn ifs true fun c r => if r = true then do let ok ← isTrue c (compEnvC scope cl C env) (eval c (compEnvC scope cl C env)); pure (ForInStep.yield ok) else pure (ForInStep.yield r)) Q E' s)
    (helt : ∀ a v C oC m₁ own (s : Shared) (Q : Value → Shared → Prop) (E' : Value → Shared → Prop), a ∈ as → Is a v → p a = true → m₁ x = some v → NsObj oC m₁ → Fr h₀ L s.heap m → News h₀ L s.heap ((C, oC) :: (own ++ news)) →
      (∀ y h' tk, V a y → Fr h₀ L h' m → News h₀ L h' ((C, oC) :: (own ++ news)) → Q y { s with heap := h', toks := tk }) →
      wpAny (model prog w) A (eval elt (compEnvC scope cl C env)) Q E' s)
    (fin : ∀ D ys h tk, AllV V (as.filter p) ys → (∀ q ∈ news, q.1 < D) → Fr h₀ L h m → News h₀ L h ((D, lst ys) :: news) → Fin D ys [] news { s with heap := h, toks := tk }) :
    wpAny (model prog w) A (pyIter (.ref l)) (CompAt prog w A h₀ L m env scope cl (.Name x xp) ifs elt as Is p (fun a y tl => tl = [] ∧ V a y) (fun _ v m₁ => m₁ x = some v) Fin) E s := by
  have hlen : its.size = as.length := by have := hV.length; rw [Array.length_toList] at this; exact this
  refine src_list (o := { cls := .type "list", data := .seq its n }) (its := its) (as := as) (Is := Is) hh F N hm rfl ⟨n, rfl⟩ hlen ?_ ?_
  · intro i a v h1 h2
    obtain ⟨y, hy, hv⟩ := hV.get h1
    rw [Array.getElem?_toList, h2] at hy
    rw [Option.some.inj hy]; exact hv
  intro I h' St W hst F' N' off _
  refine CompAt.name (news := news) W hst F' N' (fun q hq => by rw [List.mem_singleton.mp hq]; exact hm) off (by rw [sizeLine_eq]; omega) hx hkind htest helt fin

theorem for_range {n : Nat} {r : Addr} {t u v : Tok} {target : Expr} {body : List Stmt} {J : Nat → (Str → Option Value) → Led → Prop} {Q : Flow → Shared → Prop}
    (hh : A.handled = none) (F : Fr h₀ env.locals s.heap m) (N : News h₀ env.locals s.heap news) (hr : IsRange s.heap r 0 (n : Int) 1 t u v) (hn : n ≤ 1000) (hJ : J 0 m news)
    (turn : ∀ (i : Nat) t m₁ news₁ (I : Addr) (oI : Obj) h tk, i < n → J i m₁ news₁ → Fr h₀ env.locals h m₁ → News h₀ env.locals h ((I, oI) :: news₁) → (∀ q ∈ news₁, q.1 ≠ I) →
      wpAny (model prog w) A (assign target env (.int (i : Int) t)) (fun _ s₃ => wpAny (model prog w) A (execs body env) (fun f s₄ => match f with
        | .ret v => Q (.ret v) s₄
        | .brk => Q .next s₄
        | _ => TurnI h₀ env.locals s.gens s.drawn s.os I oI (J (i + 1)) s₄) (fun _ _ => False) s₃) (fun _ _ => False) { s with heap := h, toks := tk })
    (fin : ∀ h' tk m₁ news₁, J n m₁ news₁ → Fr h₀ env.locals h' m₁ → News h₀ env.locals h' news₁ → Q .next { s with heap := h', toks := tk }) :
    wpAny (model prog w) A (pyIter (.ref r)) (ForAt prog w A h₀ env target body (List.range n) (fun (i : Nat) v => ∃ t, v = .int (i : Int) t) J Q E) E s := by
  refine src_range hh F N hr hn ?_
  intro I h' St W hst F' N' off
  refine ForAt.intro W hst F' N' off hJ (fun _ _ _ _ _ h => nomatch h) ?_ ?_
  · rintro i a v m₁ news₁ I oI h tk hi ⟨t, rfl⟩ hJ F N off
    have hia : a = i ∧ i < n := by
      have hin : i < n := by have := (List.getElem?_eq_some_iff.mp hi).1; rwa [List.length_range] at this
      rw [List.getElem?_range hin] at hi
      exact ⟨(Option.some.inj hi).symm, hin⟩
    obtain ⟨rfl, hin⟩ := hia
    exact turn a t m₁ news₁ I oI h tk hin hJ F N off
  · intro h' tk m₁ news₁ hJ
    rw [List.length_range] at hJ
    exact fin h' tk m₁ news₁ hJ

theorem sum_M {l : Addr} {its : Array Value} {n : Nat} {ns : List Int} {Q : Value → Shared → Prop} (hh : A.handled = none) (F : Fr h₀ L s.heap m) (N : News h₀ L s.heap news) (hm : (l, ({ cls := .type "list", data := .seq its n } : Obj)) ∈ news) (hi : IntsAre its.toList ns)
    (h : ∀ h' tk t', Fr h₀ L h' m → News h₀ L h' news → Q (.int ns.sum t') { s with heap := h', toks := tk }) :
    wpAny (model prog w) A (call (.builtin "sum") [.ref l]) Q E s :=
  sumK hh F N ⟨_, (N _ hm).1, rfl, n, rfl⟩ hi h
theorem titem_M {value slice : Expr} {t : Addr} {l : List Value} {n : Nat} {k : Int} {u : Tok} {j : Nat} {x : Value} {Q : Value → Shared → Prop} (N : News h₀ L s.heap news) (hm : (t, ({ cls := .type "tuple", data := .seq l.toArray n } : Obj)) ∈ news)
    (hlo : -(2 ^ 63) ≤ k) (hhi : k < 2 ^ 63) (hj : seqIndex? k l.length = some j) (hx : l[j]? = some x) (h : Q x s)
    (hs : subscripted slice false (.ref t) (.int k u) = operate [.ref t, .int k u] (getItem (.ref t) (.int k u)) := by with_unfolding_all rfl) :
    wpAny (model prog w) A (subscriptTail value slice (.ref t) (.int k u)) Q E s :=
  item_tupleT ⟨_, (N _ hm).1, rfl, n, rfl⟩ hlo hhi hj hx h hs
end
end
section
open PySem PySem.Spec PySem.Calls PySem.W PyProof.Rows PyProof.Rows.LCg
open PySem.Builtin PySem.Builtin.Str
noncomputable def find4 (x y : Str) (i j : Int) : Int := match occurrences x y (fromIndex x.length i) (min (fromIndex x.length j) x.length) 1 with | k :: _ => (k : Int) | [] => -1
noncomputable def rfind4 (x y : Str) (i j : Int) : Int := match lastOccurrence x y (fromIndex x.length i) (min (fromIndex x.length j) x.length) with | some k => (k : Int) | none => -1
theorem gives_find4 (x y : Str) (i j : Int) (t u v z : Tok) : Gives («str.find» ⟨[.str x t, .str y u, .int i v, .int j z], []⟩) (.int (find4 x y i j)) := by
  show Gives (match occurrences x y (fromIndex x.length i) (min (fromIndex x.length j) x.length) 1 with | k :: _ => retInt k | [] => (do rule "str.find.not-found"; retInt (-1))) _
  unfold find4
  cases occurrences x y (fromIndex x.length i) (min (fromIndex x.length j) x.length) 1 with
  | nil => exact .rule (.of_eq rfl)
  | cons k _ => exact .of_eq rfl
theorem gives_rfind4 (x y : Str) (i j : Int) (t u v z : Tok) : Gives («str.rfind» ⟨[.str x t, .str y u, .int i v, .int j z], []⟩) (.int (rfind4 x y i j)) := by
  show Gives (match lastOccurrence x y (fromIndex x.length i) (min (fromIndex x.length j) x.length) with | some k => retInt k | none => (do rule "str.rfind.not-found"; retInt (-1))) _
  unfold rfind4
  cases lastOccurrence x y (fromIndex x.length i) (min (fromIndex x.length j) x.length) with
  | none => exact .rule (.of_eq rfl)
  | some k => exact .of_eq rfl
section
variable {prog : Program} {w : World} {A : Around} {E : Value → Shared → Prop} {s : Shared} {x y : Str} {t u v z : Tok} {i j : Int} {Q : Value → Shared → Prop}
theorem find4_M (hq : Q (.int (find4 x y i j) s.toks) { s with toks := s.toks + 1 }) : wpAny (model prog w) A (call (.builtin "str.find") [.str x t, .str y u, .int i v, .int j z]) Q E s :=
  call_gives F.slot_str_find (typeIs_str _ _ _) F.entry_str_find (F.args_str_find_4 _ _ _ _) (gives_find4 x y i j t u v z) hq
theorem rfind4_M (hq : Q (.int (rfind4 x y i j) s.toks) { s with toks := s.toks + 1 }) : wpAny (model prog w) A (call (.builtin "str.rfind") [.str x t, .str y u, .int i v, .int j z]) Q E s :=
  call_gives F.slot_str_rfind (typeIs_str _ _ _) F.entry_str_rfind (F.args_str_rfind_4 _ _ _ _) (gives_rfind4 x y i j t u v z) hq
end
section
variable {prog : Program} {w : World} {A : Around} {E : Value → Shared → Prop} {s : Shared} {h₀ : Heap} {m : Str → Option Value} {env : Env} {news : Led}
theorem for_list {α : Type} {as : List α} {Is : α → Value → Prop} {l : Addr} {its : Array Value} {n : Nat} {target : Expr} {body : List Stmt} {J : Nat → (Str → Option Value) → Led → Prop} {Q : Flow → Shared → Prop}
    (hh : A.handled = none) (F : Fr h₀ env.locals s.heap m) (N : News h₀ env.locals s.heap news) (hm : (l, ({ cls := .type "list", data := .seq its n } : Obj)) ∈ news) (hV : AllV Is as its.toList) (hJ : J 0 m news)
    (hkeep : ∀ i m₁ news₁, J i m₁ news₁ → (l, ({ cls := .type "list", data := .seq its n } : Obj)) ∈ news₁)
    (turn : ∀ (i : Nat) a v m₁ news₁ (I : Addr) (oI : Obj) h tk, as[i]? = some a → Is a v → J i m₁ news₁ → Fr h₀ env.locals h m₁ → News h₀ env.locals h ((I, oI) :: news₁) → (∀ q ∈ news₁, q.1 ≠ I) →
      wpAny (model prog w) A (assign target env v) (fun _ s₃ => wpAny (model prog w) A (execs body env) (fun f s₄ => match f with
        | .ret v => Q (.ret v) s₄
        | .brk => Q .next s₄
        | _ => TurnI h₀ env.locals s.gens s.drawn s.os I oI (J (i + 1)) s₄) (fun _ _ => False) s₃) (fun _ _ => False) { s with heap := h, toks := tk })
    (fin : ∀ h' tk m₁ news₁, J as.length m₁ news₁ → Fr h₀ env.locals h' m₁ → News h₀ env.locals h' news₁ → Q .next { s with heap := h', toks := tk }) :
    wpAny (model prog w) A (pyIter (.ref l)) (ForAt prog w A h₀ env target body as Is J Q E) E s := by
  have hlen : its.size = as.length := by have := hV.length; rw [Array.length_toList] at this; exact this
  refine src_list (o := { cls := .type "list", data := .seq its n }) (its := its) (as := as) (Is := Is) hh F N hm rfl ⟨n, rfl⟩ hlen ?_ ?_
  · intro i a v h1 h2
    obtain ⟨y, hy, hv⟩ := hV.get h1
    rw [Array.getElem?_toList, h2] at hy
    rw [Option.some.inj hy]; exact hv
  intro I h' St W hst F' N' off _
  refine ForAt.intro W hst F' N' off hJ (fun i m₁ news₁ hJ q hq => by rw [List.mem_singleton.mp hq]; exact hkeep i m₁ news₁ hJ) ?_ ?_
  · exact fun i a v m₁ news₁ I oI h tk hi hv hJ F N off => turn i a v m₁ news₁ I oI h tk hi hv hJ F N off
  · exact fun h' tk m₁ news₁ hJ F N => fin h' tk m₁ news₁ hJ F N
end
end
section
open PySem PySem.Spec PySem.Calls PySem.W PyProof.Rows PyProof.Rows.LCg
open PySem.Flt
section
variable {prog : Program} {w : World} {A : Around} {E : Value → Shared → Prop} {s : Shared} {h₀ : Heap} {L : Addr} {m : Str → Option Value} {news : Led} {Q : Value → Shared → Prop}
noncomputable def mx3 (a b c : Value) : Value := if ltV a b = true then (if ltV b c = true then c else b) else (if ltV a c = true then c else a)
noncomputable def mn3 (a b c : Value) : Value := if ltV b a = true then (if ltV c b = true then c else b) else (if ltV c a = true then c else a)
theorem max3_M {a b c v : Value} (hh : A.handled = none) (ha : NumV a) (hb : NumV b) (hc : NumV c) (hv : mx3 a b c = v) (F : Fr h₀ L s.heap m) (N : News h₀ L s.heap news)
    (h : ∀ h' tk, Fr h₀ L h' m → News h₀ L h' news → Q v { s with heap := h', toks := tk }) :
    wpAny (model prog w) A (call (.builtin "max") [a, b, c]) Q E s := by
  have hT : (s.heap.push { cls := .type "tuple", data := .seq #[a, b, c] }).IsTuple s.heap.objs.size #[a, b, c] := ⟨_, Heap.get?_push_size _ rfl, rfl, 0, rfl⟩
  refine call_max_three (wpAny_pyIter_tuple hT ?_)
  have hsz : (s.heap.push { cls := .type "tuple", data := .seq #[a, b, c] }).objs.size = s.heap.objs.size + 1 := Heap.size_push ..
  refine ⟨_, [_, s.heap.objs.size], [_], _, _, _, _, rfl, Walks.tuple (A := A.in1) hh _ s.heap.objs.size (by rw [hsz]; exact Nat.ne_of_lt (Nat.lt_succ_self _)) #[a, b, c],
    ⟨⟨_, Heap.get?_push_size _ rfl, rfl, rfl⟩, hT.push _⟩, fun d hd => ?_, by simp, cmpOf_gt #[a, b, c] (by simp [ha, hb, hc]), fun y h' tk hP hk => ?_⟩
  · show d < ((s.heap.push _).push _).objs.size
    rw [Heap.size_push, hsz]
    rcases List.mem_cons.mp hd with rfl | hd
    · rw [hsz]; exact Nat.lt_succ_self _
    · rw [List.mem_singleton.mp hd]; exact Nat.lt_succ_of_lt (Nat.lt_succ_self _)
  · have kp : ∀ d o, s.heap.get? d = some o → h'.get? d = some o := fun d o e => by
      refine hk d o (fun hm => ?_) (Heap.get?_push_of_some _ (Heap.get?_push_of_some _ e))
      have := Heap.lt_size e; rw [List.mem_singleton.mp hm, hsz] at this; exact Nat.lt_irrefl _ (Nat.lt_of_succ_lt this)
    have hy : y = v := by
      rw [← hv]; unfold mx3
      cases h1 : ltV a b <;> cases h2 : ltV b c <;> cases h3 : ltV a c <;> simp [argBest, h1, h2, h3] at hP <;> simp [hP]
    rw [hy]
    exact h h' tk (F.grownK kp) (N.grown kp)
theorem min3_M {a b c v : Value} (hh : A.handled = none) (ha : NumV a) (hb : NumV b) (hc : NumV c) (hv : mn3 a b c = v) (F : Fr h₀ L s.heap m) (N : News h₀ L s.heap news)
    (h : ∀ h' tk, Fr h₀ L h' m → News h₀ L h' news → Q v { s with heap := h', toks := tk }) :
    wpAny (model prog w) A (call (.builtin "min") [a, b, c]) Q E s := by
  have hT : (s.heap.push { cls := .type "tuple", data := .seq #[a, b, c] }).IsTuple s.heap.objs.size #[a, b, c] := ⟨_, Heap.get?_push_size _ rfl, rfl, 0, rfl⟩
  refine call_min_three (wpAny_pyIter_tuple hT ?_)
  have hsz : (s.heap.push { cls := .type "tuple", data := .seq #[a, b, c] }).objs.size = s.heap.objs.size + 1 := Heap.size_push ..
  refine ⟨_, [_, s.heap.objs.size], [_], _, _, _, _, rfl, Walks.tuple (A := A.in1) hh _ s.heap.objs.size (by rw [hsz]; exact Nat.ne_of_lt (Nat.lt_succ_self _)) #[a, b, c],
    ⟨⟨_, Heap.get?_push_size _ rfl, rfl, rfl⟩, hT.push _⟩, fun d hd => ?_, by simp, cmpOf_lt #[a, b, c] (by simp [ha, hb, hc]), fun y h' tk hP hk => ?_⟩
  · show d < ((s.heap.push _).push _).objs.size
    rw [Heap.size_push, hsz]
    rcases List.mem_cons.mp hd with rfl | hd
    · rw [hsz]; exact Nat.lt_succ_self _
    · rw [List.mem_singleton.mp hd]; exact Nat.lt_succ_of_lt (Nat.lt_succ_self _)
  · have kp : ∀ d o, s.heap.get? d = some o → h'.get? d = some o := fun d o e => by
      refine hk d o (fun hm => ?_) (Heap.get?_push_of_some _ (Heap.get?_push_of_some _ e))
      have := Heap.lt_size e; rw [List.mem_singleton.mp hm, hsz] at this; exact Nat.lt_irrefl _ (Nat.lt_of_succ_lt this)
    have hy : y = v := by
      rw [← hv]; unfold mn3
      cases h1 : ltV b a <;> cases h2 : ltV c b <;> cases h3 : ltV c a <;> simp [argBest, h1, h2, h3] at hP <;> simp [hP]
    rw [hy]
    exact h h' tk (F.grownK kp) (N.grown kp)
end
end
section
open PySem PySem.Spec PySem.Calls PySem.W PyProof.Rows PyProof.Rows.LCg
section
variable {prog : Program} {w : World} {A : Around} {E : Value → Shared → Prop} {s : Shared} {h₀ : Heap} {m : Str → Option Value} {env : Env} {news : Led}
/-- where a loop stands -/
inductive WMJ (h₀ : Heap) (L : Addr) (J : Nat → (Str → Option Value) → Led → Prop) (s : Shared) (k : Nat) (s' : Shared) : Prop
  | mk : ∀ (h : Heap) (tk : Nat) (m₁ : Str → Option Value) (news₁ : Led), s' = { s with heap := h, toks := tk } → J k m₁ news₁ → Fr h₀ L h m₁ → News h₀ L h news₁ → WMJ h₀ L J s k s'
/-- a while loop: J of a measure, the frame, the ledger -/
theorem While_F {test : Expr} {body : List Stmt} {pos : Pos} {Q : Flow → Shared → Prop} (F : Fr h₀ env.locals s.heap m) (N : News h₀ env.locals s.heap news)
    (J : Nat → (Str → Option Value) → Led → Prop) (k : Nat) (hJ : J k m news)
    (turn : ∀ k m₁ news₁ h tk, J k m₁ news₁ → Fr h₀ env.locals h m₁ → News h₀ env.locals h news₁ →
      wpAny (model prog w) A (isTrue test env (eval test env)) (fun b s₂ => WhlIf b (wpAny (model prog w) A (execs body env) (fun f s₄ => match f with
        | .ret v => Q (.ret v) s₄
        | .brk => Q .next s₄
        | _ => TurnW h₀ env.locals s.gens s.drawn s.os k J s₄) (fun _ _ => False) s₂) (Q .next s₂)) (fun _ _ => False) { s with heap := h, toks := tk }) :
    wpAny (model prog w) A (exec (.While test body [] pos) env) Q E s := by
  refine While_M (WMJ h₀ env.locals J s) k ⟨s.heap, s.toks, m, news, rfl, hJ, F, N⟩ ?_
  rintro k s' ⟨h, tk, m₁, news₁, rfl, hJ, F, N⟩
  refine wpAny_mono (turn k m₁ news₁ h tk hJ F N) (fun b s₂ h₂ => ?_) fun _ _ h => h
  cases b with
  | false => exact h₂
  | true =>
    refine wpAny_mono (show wpAny _ _ _ _ _ _ from h₂) (fun f s₃ h₃ => ?_) fun _ _ h => h
    cases f with
    | ret v => exact h₃
    | brk => exact h₃
    | next => obtain ⟨h', tk', k', m₂, news₂, rfl, hk', F', N', hJ'⟩ := h₃; exact ⟨k', hk', h', tk', m₂, news₂, rfl, hJ', F', N'⟩
    | cont => obtain ⟨h', tk', k', m₂, news₂, rfl, hk', F', N', hJ'⟩ := h₃; exact ⟨k', hk', h', tk', m₂, news₂, rfl, hJ', F', N'⟩
end
section
open PySem.SeqAt
variable {prog : Program} {w : World} {A : Around} {E : Value → Shared → Prop} {s : Shared}
theorem carried_strs : ∀ ps : List (Str × Tok), CarriedAll (ps.map fun p => Value.str p.1 p.2) (ps.map fun p => PyData.str p.1)
  | [] => .nil
  | p :: ps => .cons (.str _ _) (carried_strs ps)
theorem shaped_strs {ps : List (Str × Tok)} (h : ∀ p ∈ ps, PyData.strOk p.1 = true) : shaped (.list (ps.map fun p => PyData.str p.1)) = true := by
  have h1 : PyData.canLayAll0 (ps.map fun p => PyData.str p.1) = true := by
    induction ps with
    | nil => rfl
    | cons p ps ih =>
      show (PyData.strOk p.1 && PyData.canLayAll0 (ps.map fun p => PyData.str p.1)) = true
      rw [ih fun q hq => h q (.tail _ hq), Bool.and_true]; exact h p (.head _)
  have h2 : PyData.depthAll (ps.map fun p => PyData.str p.1) = 0 := by
    clear h h1
    induction ps with
    | nil => rfl
    | cons p ps ih => simp [PyData.depthAll, PyData.depth, ih]
  simp [shaped, PyData.canLay0, PyData.depth, h1, h2]
theorem ne_strs_nil {a b : Addr} {ps : List (Str × Tok)} {Q : Value → Shared → Prop} (ha : s.heap.IsList a (ps.map fun p => Value.str p.1 p.2).toArray) (hb : s.heap.IsList b #[]) (hok : ∀ p ∈ ps, PyData.strOk p.1 = true) (hu : A.units + 64 < cLine) (h : Q (.bool (!ps.isEmpty)) s) :
    wpAny (model prog w) A (compareOp .NotEq (.ref a) (.ref b)) Q E s := by
  refine ne_dataH (reads_newData ha (carried_strs ps)) (reads_newData (ys := []) (ds := []) hb .nil) (shaped_strs hok) (by decide) hu ?_
  have e : PyData.eqv (.list (ps.map fun p => PyData.str p.1)) (.list []) = ps.isEmpty := by
    cases ps <;> rfl
  rw [e]; exact h
end
section
variable {prog : Program} {w : World} {A : Around} {E : Value → Shared → Prop} {s : Shared} {h₀ : Heap} {L : Addr} {m : Str → Option Value} {env : Env} {news : Led}
theorem comp_tuple {α : Type} {as : List α} {Is : α → Value → Prop} {l : Addr} {its : Array Value} {n : Nat} {x : Str} {xp : Pos} {elt : Expr} {ifs : List Expr} {scope : Scope} {cl : List (Str × Addr)} {p : α → Bool} {V : α → Value → Prop} {Fin : Addr → List Value → Led → Led → Shared → Prop}
    (hh : A.handled = none) (F : Fr h₀ L s.heap m) (N : News h₀ L s.heap news) (hm : (l, ({ cls := .type "tuple", data := .seq its n } : Obj)) ∈ news) (hV : AllV Is as its.toList) (hsz : as.length ≤ 1000) (hx : scope.names.lookup x = some .local) (hkind : scope.kind = .function)
    (htest : ∀ a v C oC m₁ own (s : Shared) (Q : Bool → Shared → Prop) (E' : Value → Shared → Prop), a ∈ as → Is a v → m₁ x = some v → NsObj oC m₁ → Fr h₀ L s.heap m → News h₀ L s.heap ((C, oC) :: (own ++ news)) →
      (∀ h' tk, Fr h₀ L h' m → News h₀ L h' ((C, oC) :: (own ++ news)) → Q (p a) { s with heap := h', toks := tk }) →
      wpAny (model prog w) A (forIn ifs true fun c r => if r = true then do let ok ← isTrue c (compEnvC scope cl C env) (eval c (compEnvC scope cl C env)); pure (ForInStep.yield ok) else pure (ForInStep.yield r)) Q E' s)
    (helt : ∀ a v C oC m₁ own (s : Shared) (Q : Value → Shared → Prop) (E' : Value → Shared → Prop), a ∈ as → Is a v → p a = true → m₁ x = some v → NsObj oC m₁ → Fr h₀ L s.heap m → News h₀ L s.heap ((C, oC) :: (own ++ news)) →
      (∀ y h' tk, V a y → Fr h₀ L h' m → News h₀ L h' ((C, oC) :: (own ++ news)) → Q y { s with heap := h', toks := tk }) →
      wpAny (model prog w) A (eval elt (compEnvC scope cl C env)) Q E' s)
    (fin : ∀ D ys h tk, AllV V (as.filter p) ys → (∀ q ∈ news, q.1 < D) → Fr h₀ L h m → News h₀ L h ((D, lst ys) :: news) → Fin D ys [] news { s with heap := h, toks := tk }) :
    wpAny (model prog w) A (pyIter (.ref l)) (CompAt prog w A h₀ L m env scope cl (.Name x xp) ifs elt as Is p (fun a y tl => tl = [] ∧ V a y) (fun _ v m₁ => m₁ x = some v) Fin) E s := by
  have hlen : its.size = as.length := by have := hV.length; rw [Array.length_toList] at this; exact this
  refine src_tuple (o := { cls := .type "tuple", data := .seq its n }) (its := its) (as := as) (Is := Is) hh F N hm rfl ⟨n, rfl⟩ hlen ?_ ?_
  · intro i a v h1 h2
    obtain ⟨y, hy, hv⟩ := hV.get h1
    rw [Array.getElem?_toList, h2] at hy
    rw [Option.some.inj hy]; exact hv
  intro I h' St W hst F' N' off
  refine CompAt.name (news := news) W hst F' N' (fun q hq => by rw [List.mem_singleton.mp hq]; exact hm) off (by rw [sizeLine_eq]; omega) hx hkind htest helt fin

end
theorem News.pick2 {h₀ h : Heap} {L : Addr} {nw news : Led} {p q : Addr × Obj} (N : News h₀ L h nw) (hp : p ∈ nw) (hq : q ∈ nw) (hs : ∀ r ∈ news, r ∈ nw) : News h₀ L h (p :: q :: news) := fun r hr => by
  rcases List.mem_cons.mp hr with rfl | hr
  · exact N _ hp
  · rcases List.mem_cons.mp hr with rfl | hr
    · exact N _ hq
    · exact N _ (hs _ hr)
theorem seqIdx (n k : Nat) (h : k < n) : seqIndex? (k : Int) n = some k := by
  unfold seqIndex?
  have h1 : ¬ ((k : Int) < 0) := by omega
  have h2 : (decide ((0 : Int) ≤ (k : Int)) && decide ((k : Int) < (n : Int))) = true := by simp; omega
  simp only [if_neg h1]
  rw [if_pos h2]
  simp
end
section
open PySem PySem.Spec PySem.Calls PySem.W PyProof.Rows PyProof.Rows.LCg
open Builtin Builtin.ObjectAttr
set_option maxRecDepth 100000
theorem fn_sa : Slot "function" "__setattr__" "object.__setattr__" := .of (owner := "object") (n := "__setattr__") (by rw [typeLookup_type, builtinLookup_eq_fast]; kernel_rfl) (by decide +kernel) (by decide +kernel) (by decide +kernel)
    (by first | exact .inl (by decide +kernel) | exact .inr (by decide +kernel)) (by rw [isSubtype_type]; kernel_rfl)
theorem fn_mro : mroOf (.type "function") = pure [.type "function", .type "object"] := by kernel_rfl
theorem fn_refuse (self : Value) : refuseLoop self "__setattr__" [.type "function", .type "object"] = pure () := by kernel_rfl
theorem fn_tells (x : Addr) : ownStreamTells (.ref x) (.type "function") = pure () := by kernel_rfl
theorem fn_dictMade (a d : Addr) : dictMade (.type "function") a d = pure (some d) := by kernel_rfl
section
variable {prog : Program} {w : World} {A : Around} {E : Value → Shared → Prop} {h : Heap} {g : Array GenState} {dr : Drawn} {t : Nat} {os : OsState} {x : Addr} {fd : FuncData} {sl : Array (Option Value)} {name : Str} {v : Value}
theorem fn_set_entry {tk : Tok} {Q : Fin → Shared → Prop} (hx : h.get? x = some ⟨.type "function", none, .func fd, sl⟩) (hB : typeLookup (.type "function") name = pure none)
    (hq : ∀ h' tk' od, h'.get? x = some ⟨.type "function", some h.objs.size, .func fd, sl⟩ → h'.get? h.objs.size = some od → NsObj od (fun y => if y = name then some v else none) → (∀ b o, b ≠ x → h.get? b = some o → h'.get? b = some o) → Q (.done (.ret .none)) ⟨h', g, dr, tk', os⟩) :
    wpAny (model prog w) A (Builtin.«object.__setattr__» ⟨[.ref x, .str name tk, v], []⟩) Q E ⟨h, g, dr, t, os⟩ := by
  have ht : Looks (model prog w) h (typeOf (.ref x)) (.type "function") := (Looks.ld hx).andThen .now
  rw [osa_eq, refuse_eq]
  refine wpAny_bind (wpAny_bind (ht.here (wpAny_bind ?_)))
  rw [fn_mro]
  refine wpAny_pure ?_
  rw [fn_refuse]
  refine wpAny_pure (wpAny_bind (ht.here (wpAny_bind ?_)))
  rw [hB]
  refine wpAny_pure (wpAny_bind (wpAny_pure ?_))
  show wpAny _ _ (storeInOwnDict (.ref x) (.type "function") (.str name tk) name v false) _ _ _
  unfold storeInOwnDict
  rw [fn_tells]
  refine wpAny_bind (wpAny_pure ?_)
  have hm : ((Value.type "function") == (Value.type "module")) = false := by decide
  rw [hm]
  simp only [Bool.false_eq_true, if_false]
  unfold ownDictForStores instanceDict
  dsimp only
  refine wpAny_bind (wpAny_bind (wpAny_loadPart hx ?_))
  dsimp only
  have hth : (!true || !typeHasDict (.type "function")) = false := by kernel_rfl
  rw [hth]
  simp only [Bool.false_eq_true, if_false]
  have hx₁ : (h.push { cls := .type "dict", data := .dict #[] }).get? x = some ⟨.type "function", none, .func fd, sl⟩ := Heap.get?_push_of_some _ hx
  have hxs : x ≠ h.objs.size := Nat.ne_of_lt (Heap.lt_size hx)
  refine wpAny_bind (wpAny_alloc' ?_)
  refine wpAny_bind (wpAny_update' hx₁ ?_)
  rw [fn_dictMade]
  refine wpAny_pure ?_
  have hgd : ((h.push { cls := .type "dict", data := .dict #[] }).update x fun o => { cls := o.cls, dict := some h.objs.size, data := o.data, slots := o.slots }).get? h.objs.size
      = some { cls := .type "dict", data := .dict #[] } :=
    (Heap.get?_update_ne _ _ _ _ hxs.symm).trans (Heap.get?_push_at rfl rfl)
  have hnd : ((h.push { cls := .type "dict", data := .dict #[] }).update x fun o => { cls := o.cls, dict := some h.objs.size, data := o.data, slots := o.slots }).Ns h.objs.size (fun _ => none) :=
    ⟨_, #[], _, hgd, rfl, fun e he => absurd he (by simp), fun _ => rfl⟩
  show wpAny _ _ (storeInDict h.objs.size (.str name tk) name v) _ _ _
  unfold storeInDict newKeyGuard
  refine wpAny_bind (wpAny_pure (wpAny_bind (wpAny_nsSet1 (Heap.Ns1.of_empty hnd) fun h' hn' hs => ?_)))
  obtain ⟨oD, esD, epD, hoD, hdD, hcD⟩ := hn'.count (Within.cons name v Within.nil)
  refine wpAny_bind (wpAny_lookBehind hoD (by rw [hdD]; exact pastItsLine_dict (Nat.le_trans hcD (by rw [List.length_cons, List.length_nil, sizeLine_eq]; omega))) ?_)
  refine wpAny_pure (hq h' _ oD ?_ hoD ?_ fun b o hb e => ?_)
  · refine (hs.2 x hxs).trans (Heap.get?_update_self _ hx₁ ?_)
    rfl
  · obtain ⟨o', es', ep', e1, e2, e3, eu, e4⟩ := hn'
    rw [hoD] at e1
    cases e1
    exact ⟨es', ep', e2, e3, fun y => e4 y⟩
  · exact (hs.2 b (Nat.ne_of_lt (Heap.lt_size e))).trans ((Heap.get?_update_ne _ _ _ _ hb).trans (Heap.get?_push_of_some _ e))
end
section
variable {prog : Program} {w : World} {A : Around} {E : Value → Shared → Prop} {s : Shared} {h₀ : Heap} {L x d : Addr} {m : Str → Option Value} {fd : FuncData} {sl : Array (Option Value)} {name : Str} {v : Value} {news : Led}
theorem fn_set {Q : Unit → Shared → Prop} (F : Fr h₀ L s.heap m) (N : News h₀ L s.heap ((x, ⟨.type "function", none, .func fd, sl⟩) :: news)) (hB : typeLookup (.type "function") name = pure none) (off : ∀ q ∈ news, q.1 ≠ x)
    (hq : ∀ d h' tk' od, (∀ q ∈ news, q.1 < d) → x < d → NsObj od (fun y => if y = name then some v else none) → Fr h₀ L h' m → News h₀ L h' ((d, od) :: (x, ⟨.type "function", some d, .func fd, sl⟩) :: news) → Q () { s with heap := h', toks := tk' }) :
    wpAny (model prog w) A (setAttr (.ref x) name v) Q E s := by
  obtain ⟨hh, gg, dd, tt, oo⟩ := s
  have hx := (N _ (.head _)).1
  have ht : Looks (model prog w) hh (typeOf (.ref x)) (.type "function") := (Looks.ld hx).andThen .now
  have htt : ∀ t, (⟨hh, gg, dd, t, oo⟩ : Shared).TypeIs (.ref x) "function" := fun t => ⟨_, hx, rfl⟩
  refine wpAny_bind (wpAny_mkText (wpAny_bind (wpAny_bind (wpAny_bind (ht.at ((Looks.of_pure fn_sa.lookup).at (wpAny_holding ?_)))))))
  rw [fn_sa.bind]
  refine wpAny_bind (wpAny_pure (wpAny_bind (wpAny_call (codeAny_call_builtin fn_sa.plain PySem.F.store_object.entry (fn_sa.check _ _ _ _ _ _ _ _ (htt _) (PySem.F.store_object.args _ _ _) ?_)))))
  refine fn_set_entry hx hB fun h' tk' od e1 e2 e3 e4 => ?_
  refine wpAny_pure (wpAny_pure ?_)
  have hxL := (N _ (.head _)).2
  have hlt : x < hh.objs.size := Heap.lt_size hx
  have hfr : ∀ b o, h₀.get? b = some o → b ≠ x := fun b o e q => by subst q; rw [hxL.2] at e; cases e
  have F' : Fr h₀ L h' m := Fr.but1 F (fun a o ha e => e4 a o ha e) (Ne.symm hxL.1) hxL.2
  have hnew : h₀.get? hh.objs.size = none := next_is_new F
  have hdL : hh.objs.size ≠ L := Nat.ne_of_gt F.ns.lt
  refine hq hh.objs.size h' tk' od (fun q hq => Heap.lt_size (N q (.tail _ hq)).1) hlt e3 F' fun q hq => ?_
  rcases List.mem_cons.mp hq with rfl | hq
  · exact ⟨e2, hdL, hnew⟩
  · rcases List.mem_cons.mp hq with rfl | hq
    · exact ⟨e1, hxL⟩
    · exact ⟨e4 _ _ (off q hq) (N q (.tail _ hq)).1, (N q (.tail _ hq)).2⟩
theorem fn_ga : Slot "function" "__getattribute__" "object.__getattribute__" := .of (owner := "object") (n := "__getattribute__") (by rw [typeLookup_type, builtinLookup_eq_fast]; kernel_rfl) (by decide +kernel) (by decide +kernel) (by decide +kernel)
    (by first | exact .inl (by decide +kernel) | exact .inr (by decide +kernel)) (by rw [isSubtype_type]; kernel_rfl)
theorem fn_ga_entry : entryFor table "object.__getattribute__" = some Builtin.«object.__getattribute__» := entryFor_of_fast (by kernel_rfl)
theorem fn_ga_args (a b : Value) : argsOk "object.__getattribute__" ⟨[a, b], []⟩ := by unfold argsOk; kernel_rfl
theorem fn_ga_eq (self : Value) (name : Str) (tk : Tok) : Builtin.«object.__getattribute__» ⟨[self, .str name tk], []⟩ = (typeOf self >>= fun tp => find self tp name >>= fun r => match r with
    | .value v => ret v
    | .bind g a => bindTo g a self tp
    | .missing => do
      if tp == .type "module" then
        if ← isOpaqueModuleObj self then
          let byTheModulesOwnEntry := match (← stack).drop 1 with
            | (.builtin "module.__getattribute__" ⟨m :: _, _⟩, _) :: _ => m == self
            | _ => false
          if !byTheModulesOwnEntry then unsupported "thirdparty:object.__getattribute__:a-miss-on-an-opaque-module"
      if tp == .type "type" then
        if let some key ← opaqueClassAbove self then unsupported s!"thirdparty:{key.toString}.{name.toString}:object.__getattribute__-misses-on-an-opaque-class"
      noSuchAttribute self name) := by kernel_rfl
theorem fn_get {expr : Bool} {od : Obj} {m' : Str → Option Value} {Q : Value → Shared → Prop} (hx : s.heap.get? x = some ⟨.type "function", some d, .func fd, sl⟩) (hd : s.heap.get? d = some od) (hn : NsObj od m') (hm : m' name = some v) (hB : typeLookup (.type "function") name = pure none) (hv : handedIn v = true)
    (hq : Q v { s with toks := s.toks + 1 }) : wpAny (model prog w) A (getAttr (.ref x) name expr) Q E s := by
  obtain ⟨hh, gg, dd, tt, oo⟩ := s
  have htt : ∀ t, (⟨hh, gg, dd, t, oo⟩ : Shared).TypeIs (.ref x) "function" := fun t => ⟨_, hx, rfl⟩
  have ht : Looks (model prog w) hh (typeOf (.ref x)) (.type "function") := (Looks.ld hx).andThen .now
  refine wpAny_bind (wpAny_mkText ?_)
  refine wpAny_holding (wpAny_bind (ht.at (wpAny_bind ((Looks.of_pure fn_ga.lookup).at ?_))))
  show wpAny _ A (getAttrByItsOwn (.ref x) (.str name tt) (.type "function") (.builtin "object.__getattribute__") true expr) _ _ _
  unfold getAttrByItsOwn hookBefore
  refine wpAny_bind (wpAny_pure (wpAny_bind (wpAny_attempt (wpAny_holding ?_))))
  unfold callGetattribute
  have h0 : (expr && onTheHeap (.builtin "object.__getattribute__")) = false := by cases expr <;> rfl
  rw [h0]
  simp only [Bool.false_eq_true, if_false]
  unfold boundAndCalled
  rw [fn_ga.bind]
  refine wpAny_bind (wpAny_pure (wpAny_call (codeAny_call_builtin fn_ga.plain fn_ga_entry (fn_ga.check _ _ _ _ _ _ _ _ (htt _) (fn_ga_args _ _) ?_))))
  show wpAny _ _ (Builtin.«object.__getattribute__» ⟨[.ref x, .str name tt], []⟩) _ _ _
  rw [fn_ga_eq]
  refine wpAny_bind (ht.at (wpAny_bind ?_))
  unfold find
  refine wpAny_bind ((Looks.of_pure hB).at (wpAny_bind (wpAny_pure (wpAny_bind (wpAny_pure ?_)))))
  show wpAny _ _ (ownThenClass (.ref x) name none none) _ _ _
  unfold ownThenClass inOwnDict ObjectAttr.ownDict loadHead instanceDict
  dsimp only
  refine wpAny_bind (wpAny_bind (wpAny_bind (wpAny_loadPart hx ?_)))
  dsimp only
  refine wpAny_bind (wpAny_loadPart hx ?_)
  dsimp only
  refine wpAny_pure ?_
  dsimp only [inDict]
  refine wpAny_nsGet (hn.ns hd) ?_
  rw [hm]
  refine wpAny_bind (wpAny_rule (wpAny_pure ?_))
  refine wpAny_pure ?_
  show wpAny _ _ (handedOut v) _ _ _
  rw [handedOut_of hv]; exact wpAny_pure hq
theorem fn_canon : (Manifest.canonical "object.__getattribute__" != "object.__getattribute__") = false := by decide +kernel
theorem fn_gattr : typeLookup (.type "function") "__getattr__" = pure none := by rw [typeLookup_type, builtinLookup_eq_fast]; kernel_rfl
theorem fn_meth {od : Obj} {m' : Str → Option Value} {pl : Sem Bool} {Q : Value × List Value → Shared → Prop} (hx : s.heap.get? x = some ⟨.type "function", some d, .func fd, sl⟩) (hd : s.heap.get? d = some od) (hn : NsObj od m') (hm : m' name = some v) (hB : typeLookup (.type "function") name = pure none) (hv : handedIn v = true)
    (hq : Q (v, []) { s with toks := s.toks + 1 }) : wpAny (model prog w) A (getMethod (.ref x) name pl) Q E s := by
  obtain ⟨hh, gg, dd, tt, oo⟩ := s
  have ht : Looks (model prog w) hh (typeOf (.ref x)) (.type "function") := (Looks.ld hx).andThen .now
  unfold getMethod
  refine wpAny_bind (wpAny_bind (ht.at ((Looks.of_pure fn_ga.lookup).at ?_)))
  dsimp only
  rw [fn_canon]
  simp only [Bool.false_eq_true, if_false]
  refine wpAny_bind (wpAny_bind (ht.at ((Looks.of_pure fn_gattr).at ?_)))
  simp only [Option.isSome_none, Bool.false_eq_true, if_false]
  refine wpAny_bind (wpAny_bind (ht.at ((Looks.of_pure hB).at ?_)))
  dsimp only
  refine wpAny_bind (fn_get hx hd hn hm hB hv ?_)
  exact wpAny_pure hq
end
end
section
open PySem PySem.Spec PySem.Calls PySem.W PyProof.Rows PyProof.Rows.LCg
open Builtin
set_option maxRecDepth 100000
noncomputable abbrev citObj (b : Addr) (t : Tok) : Obj := { cls := .type "callable_iterator", data := .fields #[.ref b, .str (Str.ofString "") t, .bool false] }
theorem ci_next : Slot "callable_iterator" "__next__" "callable_iterator.__next__" := .of (owner := "callable_iterator") (n := "__next__") (by rw [typeLookup_type, builtinLookup_eq_fast]; kernel_rfl) (by decide +kernel) (by decide +kernel) (by decide +kernel)
    (by first | exact .inl (by decide +kernel) | exact .inr (by decide +kernel)) (by rw [isSubtype_type]; kernel_rfl)
theorem ci_next_entry : entryFor table "callable_iterator.__next__" = some Builtin.«callable_iterator.__next__» := entryFor_of_fast (by kernel_rfl)
theorem ci_next_args (a : Value) : argsOk "callable_iterator.__next__" ⟨[a], []⟩ := by unfold argsOk; kernel_rfl
theorem ci_iter : Slot "callable_iterator" "__iter__" "callable_iterator.__iter__" := .of (owner := "callable_iterator") (n := "__iter__") (by rw [typeLookup_type, builtinLookup_eq_fast]; kernel_rfl) (by decide +kernel) (by decide +kernel) (by decide +kernel)
    (by first | exact .inl (by decide +kernel) | exact .inr (by decide +kernel)) (by rw [isSubtype_type]; kernel_rfl)
theorem ci_iter_entry : entryFor table "callable_iterator.__iter__" = some Builtin.«dict_keyiterator.__iter__» := entryFor_alias (id' := "dict_keyiterator.__iter__") (by kernel_rfl) (by first | rfl | decide +kernel) (by decide +kernel) (by kernel_rfl)
theorem ci_iter_args (a : Value) : argsOk "callable_iterator.__iter__" ⟨[a], []⟩ := by unfold argsOk; kernel_rfl
section
variable {prog : Program} {w : World} {A : Around} {E : Value → Shared → Prop} {s : Shared}
theorem wpAny_callBorrowed {M : Model} {f : Value} {pos : List Value} {Q : Value → Shared → Prop}
    (hc : codeAny M A (.call f ⟨pos, []⟩) (fun r s' => match r with | .ok (.ret v) => Q v s' | .ok _ => False | .error e => E e s') s) :
    wpAny M A (callBorrowed f pos) Q E s := fun Γ p hΓ => by
  unfold callBorrowed
  rw [Sem.wp_call]
  refine wpCode_mono (fun r s' h' => ?_) (hc _ p rfl (hΓ.enter _ none p (by intro x; cases x)))
  cases r with
  | error e => exact h'
  | ok f => cases f <;> exact h'
theorem ci_pyIter {I b : Addr} {t : Tok} {Q : Value → Shared → Prop} (hI : s.heap.get? I = some (citObj b t)) (hq : Q (.ref I) s) : wpAny (model prog w) A (pyIter (.ref I)) Q E s := by
  have hT : s.TypeIs (.ref I) "callable_iterator" := ⟨_, hI, rfl⟩
  refine wpAny_pyIter_slot hT ci_iter (wpAny_call_entry ci_iter hT ci_iter_entry ?_ (ci_iter_args _))
  show wpAny _ _ (ret (.ref I)) _ _ s
  exact wpAny_pure ⟨_, rfl, _, _, hT, ci_next.lookup, hq⟩
theorem ci_borrows {M : Model} {b f x : Addr} {o : Obj} {fd : FuncData} {Q : Bool → Shared → Prop} (hb : s.heap.get? b = some (methodObj (.ref f) (.ref x))) (hf : s.heap.get? f = some o) (hfd : o.data = .func fd) (hq : Q true s) : wpAny M A (borrowsExactly (.ref b)) Q E s := by
  unfold borrowsExactly
  dsimp only
  refine wpAny_bind (wpAny_load hb ?_)
  dsimp only
  have hc : ((Value.type "method") == (Value.type "method")) = true := by decide
  rw [hc]
  simp only [if_true]
  refine wpAny_bind (wpAny_load (a := f) hf ?_)
  rw [hfd]
  exact wpAny_pure hq
theorem ci_pyNext {I b f x : Addr} {tz : Tok} {o : Obj} {fd : FuncData} {Q : Option Value → Shared → Prop} (hh : A.handled = none) (hI : s.heap.get? I = some (citObj b tz)) (hb : s.heap.get? b = some (methodObj (.ref f) (.ref x))) (hf : s.heap.get? f = some o) (hfd : o.data = .func fd)
    (hc : codeAny (model prog w) A.in1 (.call (.ref b) ⟨[], []⟩) (fun r s' => match r with
      | .ok (.ret v) => ∃ c t, v = .str c t ∧ s'.heap.get? I = some (citObj b tz) ∧ s'.heap.get? b = some (methodObj (.ref f) (.ref x)) ∧ s'.heap.get? f = some o ∧ (c ≠ Str.ofString "" → Q (some (.str c t)) s') ∧
          (c = Str.ofString "" → ∀ h' tk', (∀ a ob, a ≠ I → s'.heap.get? a = some ob → h'.get? a = some ob) → Q none { s' with heap := h', toks := tk' })
      | _ => False) s) :
    wpAny (model prog w) A (pyNext (.ref I)) Q E s := by
  have hT : s.TypeIs (.ref I) "callable_iterator" := ⟨_, hI, rfl⟩
  unfold pyNext
  refine wpAny_bind (wpAny_attempt (wpAny_callSpecial?_slot (name := Str.ofString "__next__") hT ci_next
    (wpAny_call_entry ci_next hT ci_next_entry ?_ (ci_next_args _))))
  show wpAny _ _ (field (.ref I) 2 >>= _) _ _ s
  refine wpAny_bind (wpAny_field hI rfl (x := .bool false) rfl ?_)
  show wpAny _ _ (if (Value.bool false == Value.bool true) = true then _ else _) _ _ s
  rw [if_neg (by decide)]
  refine wpAny_bind (wpAny_field hI rfl (x := .ref b) rfl ?_)
  refine wpAny_bind (wpAny_attempt ?_)
  unfold callOutOfASlot
  refine wpAny_bind (ci_borrows hb hf hfd ?_)
  simp only [if_true]
  refine wpAny_callBorrowed (codeAny_mono hc fun r s' h' => ?_)
  rcases r with e | fl
  · exact h'.elim
  cases fl with
  | next => exact h'.elim
  | brk => exact h'.elim
  | cont => exact h'.elim
  | ret v =>
    obtain ⟨c, t, rfl, hI', hb', hf', h1, h2⟩ := h'
    refine wpAny_bind (wpAny_field hI' rfl (x := .bool false) rfl ?_)
    show wpAny _ _ (if (Value.bool false == Value.bool true) = true then _ else _) _ _ s'
    rw [if_neg (by decide)]
    refine wpAny_bind (wpAny_field hI' rfl (x := .str (Str.ofString "") tz) rfl (wpAny_bind (wpAny_holding (wpAny_eqBool_str ?_))))
    by_cases hc0 : c = Str.ofString ""
    · subst hc0
      simp only [decide_true, Bool.not_true, Bool.false_eq_true, if_false]
      refine wpAny_bind (wpAny_rule ?_)
      refine wpAny_bind ?_
      show wpAny _ _ (field (.ref I) 0 >>= _) _ _ s'
      refine wpAny_bind (wpAny_field hI' rfl (x := .ref b) rfl ?_)
      refine wpAny_bind ?_
      unfold slotLetsGo
      refine wpAny_bind (ci_borrows hb' hf' hfd ?_)
      simp only [if_true]
      refine wpAny_pure ?_
      refine wpAny_bind (wpAny_setField hI' rfl (by simp) ?_)
      have g1 : (s'.heap.update I (Obj.mapFields (·.setIfInBounds 0 .none))).get? I = some { cls := .type "callable_iterator", data := .fields #[.none, .str (Str.ofString "") tz, .bool false] } := Heap.get?_update_self _ hI' rfl
      refine wpAny_bind (wpAny_setField g1 rfl (by simp) ?_)
      have g2 : ((s'.heap.update I (Obj.mapFields (·.setIfInBounds 0 .none))).update I (Obj.mapFields (·.setIfInBounds 1 .none))).get? I = some { cls := .type "callable_iterator", data := .fields #[.none, .none, .bool false] } := Heap.get?_update_self _ g1 rfl
      refine wpAny_setField g2 rfl (by simp) ?_
      show wpAny _ _ (newExc (.type "StopIteration") [] >>= _) _ _ _
      refine wpAny_bind ?_
      simp only [newExc, newTuple]
      refine wpAny_bind (wpAny_newObj_type ?_ (by size_fits))
      refine wpAny_bind (m := firstArgMember _ _) (wpAny_of_eq (a := Value.none) (by first | rfl | (simp only [firstArgMember]; rfl)) ?_)
      refine wpAny_newObj_type ?_ (by size_fits)
      simp only [raiseNew]
      refine wpAny_bind (wpAny_handled ?_)
      rw [show A.in1.handled = none from hh]
      refine wpAny_bind (wpAny_pure (wpAny_throw ?_))
      refine wpAny_bind (wpAny_isInstance (T := "StopIteration") (b := true) ⟨_, Heap.get?_push_size _ rfl, rfl⟩ isSubtype_stop ?_)
      refine wpAny_pure (h2 rfl _ _ fun a ob ha e => ?_)
      exact Heap.get?_push_of_some _ (Heap.get?_push_of_some _ ((Heap.get?_update_ne _ _ _ _ ha).trans ((Heap.get?_update_ne _ _ _ _ ha).trans ((Heap.get?_update_ne _ _ _ _ ha).trans e))))
    · have : decide (Str.ofString "" = c) = false := decide_eq_false fun e => hc0 e.symm
      simp only [this, Bool.not_false, if_true]
      exact wpAny_pure ⟨_, rfl, wpAny_pure (h1 hc0)⟩
theorem ci_method_call : typeLookup (.type "method") "__call__" = pure (some (.builtin "method.__call__")) := by rw [typeLookup_type, builtinLookup_eq_fast]; kernel_rfl
theorem ci_iter_builtin_entry : entryFor table "iter" = some Builtin.«iter» := entryFor_of_fast (by kernel_rfl)
theorem ci_iter2_args (a b : Value) : argsOk "iter" ⟨[a, b], []⟩ := by unfold argsOk; kernel_rfl
theorem ci_make {h₀ : Heap} {L b : Addr} {m : Str → Option Value} {news : Led} {f x : Value} {t : Tok} {Q : Value → Shared → Prop} (F : Fr h₀ L s.heap m) (N : News h₀ L s.heap news) (hb : (b, methodObj f x) ∈ news)
    (h : ∀ I h', Fr h₀ L h' m → News h₀ L h' ((I, citObj b t) :: news) → (∀ q ∈ news, q.1 < I) → Q (.ref I) { s with heap := h' }) :
    wpAny (model prog w) A (call (.builtin "iter") [.ref b, .str (Str.ofString "") t]) Q E s := by
  have hT : s.TypeIs (.ref b) "method" := ⟨_, (N _ hb).1, rfl⟩
  refine call_function_entry (by decide +kernel) (by decide +kernel) ci_iter_builtin_entry (ci_iter2_args _ _) ?_
  unfold Builtin.«iter»
  refine wpAny_bind (m := someArgs "iter" 1 2 _) (wpAny_of_eq (a := [Value.ref b, .str (Str.ofString "") t]) (by first | rfl | kernel_rfl!) ?_)
  show wpAny _ _ (specialOf (.ref b) (Str.ofString "__call__") >>= _) _ _ _
  refine wpAny_bind (wpAny_specialOf hT ci_method_call ?_)
  simp only [Option.isNone_some, Bool.false_eq_true, if_false]
  refine wpAny_bind (wpAny_rule (wpAny_bind (wpAny_newObj_type (wpAny_pure ⟨_, rfl, ?_⟩))))
  exact h _ _ (F.push _) (News.push F N _ rfl) (fun q hq => Heap.lt_size (N q hq).1)
end
end
section
open PySem PySem.Spec PySem.Calls PySem.W PyProof.Rows PyProof.Rows.LCg
section
variable {prog : Program} {w : World} {A : Around} {E : Value → Shared → Prop} {s : Shared} {h₀ : Heap} {L : Addr} {m : Str → Option Value} {env : Env} {news : Led}
/-- a for over an iterator that the turns themselves move on -/
theorem For_G {iter : Expr} {x : Str} {xp : Pos} {body : List Stmt} {pos : Pos} {Q : Flow → Shared → Prop} (_F₀ : Fr h₀ L s.heap m) (I : Addr) (J : Nat → (Str → Option Value) → Led → Prop)
    (h : wpAny (model prog w) A (eval iter env) (fun xv s₁ => wpAny (model prog w) A (pyIter xv) (fun it s₂ => StartG h₀ L s.gens s.drawn s.os I J it s₂) E s₁) E s)
    (turn : ∀ k m₁ news₁ h tk, J k m₁ news₁ → Fr h₀ L h m₁ → News h₀ L h news₁ →
      wpAny (model prog w) A (pyNext (.ref I)) (fun r s₁ => match r with
        | none => Q .next s₁
        | some v => wpAny (model prog w) A (assign (.Name x xp) env v) (fun _ s₂ => wpAny (model prog w) A (execs body env) (fun f s₃ => match f with
          | .ret v => Q (.ret v) s₃
          | .brk => Q .next s₃
          | _ => TurnW h₀ L s.gens s.drawn s.os k J s₃) (fun _ _ => False) s₂) (fun _ _ => False) s₁) (fun _ _ => False) { s with heap := h, toks := tk })
    (hs : ∀ x, foldedSetIterable iter env x = pure x) :
    wpAny (model prog w) A (exec (.For (.Name x xp) iter body [] pos) env) Q E s := by
  refine wpAny_For (wpAny_mono h (fun xv s₁ h₁ => wpAny_mono h₁ (fun it s₂ h₂ => ?_) fun _ _ e => e) fun _ _ e => e) hs
  obtain ⟨h, tk, k, m₁, news₁, rfl, rfl, hJ, F, N⟩ := h₂
  refine codeAny_forLoop (WMJ h₀ L J s) ?_ k ⟨h, tk, m₁, news₁, rfl, hJ, F, N⟩
  rintro n s' ⟨h, tk, m₁, news₁, rfl, hJ, F, N⟩
  refine wpAny_mono (turn n m₁ news₁ h tk hJ F N) (fun r s₁ h₁ => ?_) fun _ _ x => x.elim
  cases r with
  | none => exact wpAny_execs_nil h₁
  | some v =>
    refine wpAny_mono (show wpAny _ _ _ _ _ _ from h₁) (fun _ s₂ h₂ => wpAny_mono h₂ (fun f s₃ h₃ => ?_) fun _ _ x => x.elim) fun _ _ x => x.elim
    cases f with
    | ret v => exact h₃
    | brk => exact h₃
    | next => obtain ⟨h', tk', k', m₂, news₂, rfl, hk, F', N', hJ'⟩ := h₃; exact ⟨k', hk, h', tk', m₂, news₂, rfl, hJ', F', N'⟩
    | cont => obtain ⟨h', tk', k', m₂, news₂, rfl, hk, F', N', hJ'⟩ := h₃; exact ⟨k', hk, h', tk', m₂, news₂, rfl, hJ', F', N'⟩
end
end
section
open PySem PySem.Spec PySem.Calls PySem.W PyProof.Rows PyProof.Rows.LCg
open Builtin
set_option maxRecDepth 100000
noncomputable abbrev IsZipB (h : Heap) (z TI TO T0 : Addr) (bb : Bool) : Prop :=
  h.get? z = some { cls := .type "zip", dict := none, data := .fields #[rawInt T0, .bool bb, .bool false, .ref TI, .ref TO], slots := #[] }
section
variable {prog : Program} {w : World} {A : Around} {E : Value → Shared → Prop} {s : Shared}
theorem wpAny_loadIfAlive {M : Model} {a : Addr} {Q : Option Obj → Shared → Prop} (h : Q (s.heap.get? a) s) : wpAny M A (loadIfAlive a) Q E s := fun Γ p hΓ => by
  unfold loadIfAlive
  rw [Sem.wp_loadIfAlive]
  exact h
theorem zip_busy {z TI TO T0 : Addr} {bb : Bool} {o0 : Obj} {Q : Bool → Shared → Prop} (hz : IsZipB s.heap z TI TO T0 bb) (h0 : s.heap.get? T0 = some o0)
    (hQ : ∀ h', IsZipB h' z TI TO T0 true → (∀ c o, c ≠ z → s.heap.get? c = some o → h'.get? c = some o) → h'.objs.size = s.heap.objs.size → Q false { s with heap := h' }) :
    wpAny (model prog w) A (Builtin.SmallTypes.ownedTupleIsFree (.ref z)) Q E s := by
  unfold Builtin.SmallTypes.ownedTupleIsFree
  refine wpAny_bind (wpAny_field hz rfl (x := rawInt T0) rfl ?_)
  show wpAny _ _ (loadIfAlive (Int.toNat (T0 : Nat)) >>= _) _ _ _
  rw [Int.toNat_natCast]
  refine wpAny_bind (wpAny_loadIfAlive ?_)
  rw [h0]
  simp only [Option.isNone_some, Bool.false_eq_true, if_false]
  refine wpAny_bind (wpAny_field hz rfl (x := .bool bb) rfl ?_)
  cases bb with
  | true =>
    rw [if_neg (by decide)]
    exact wpAny_pure (hQ s.heap hz (fun _ _ _ e => e) rfl)
  | false =>
    rw [if_pos (by decide)]
    refine wpAny_bind (wpAny_setField_rec hz (by simp) fun h₁ hz₁ hs₁ => ?_)
    exact wpAny_pure (hQ h₁ hz₁ (fun c o hc e => hs₁.extBut _ _ hc e) hs₁.1)
theorem zipb_next_item {z TI TO T0 i1 i2 l1 l2 : Addr} {bb : Bool} {o0 : Obj} {k1 k2 : Nat} {xs ys : Array Value} {x y : Value} {Q : Value → Shared → Prop} (D : ZipApart z TI TO i1 i2 l1 l2)
    (hz : IsZipB s.heap z TI TO T0 bb) (h0 : s.heap.get? T0 = some o0) (hTI : IsPair s.heap TI (.ref i1) (.ref i2))
    (h1 : s.heap.IsListIter i1 l1 k1) (h2 : s.heap.IsListIter i2 l2 k2) (hl1 : s.heap.IsList l1 xs) (hl2 : s.heap.IsList l2 ys) (hx : xs[k1]? = some x) (hy : ys[k2]? = some y)
    (hQ : ∀ h', IsZipB h' z TI TO T0 true → h'.IsListIter i1 l1 (k1 + 1) → h'.IsListIter i2 l2 (k2 + 1) → IsPair h' s.heap.objs.size x y → h'.objs.size = s.heap.objs.size + 1 →
      (∀ c o, c ≠ z → c ≠ i1 → c ≠ i2 → s.heap.get? c = some o → h'.get? c = some o) → Q (.ref s.heap.objs.size) { s with heap := h' }) :
    wpAny (model prog w) A (Builtin.«zip.__next__» ⟨[.ref z], []⟩) (fun fin s' => ∃ v, fin = .done (.ret v) ∧ Q v s') E s := by
  show wpAny _ _ (field (.ref z) 2 >>= _) _ _ _
  refine wpAny_bind (wpAny_field hz rfl (x := .bool false) rfl ?_)
  show wpAny _ _ (field (.ref z) 3 >>= _) _ _ _
  refine wpAny_bind (wpAny_field hz rfl (x := .ref TI) rfl ?_)
  refine wpAny_bind (wpAny_seqItems hTI rfl ?_)
  show wpAny _ _ (Builtin.SmallTypes.ownedTupleIsFree (.ref z) >>= _) _ _ _
  refine wpAny_bind (zip_busy hz h0 fun hA hzA hkA hsA => ?_)
  simp only [Bool.false_eq_true, if_false]
  refine wpAny_bind ?_
  simp only [← Array.forIn_toList, List.forIn_cons, List.forIn_nil]
  have d0 : hA.IsListIter i1 l1 k1 := h1.at fun o e => hkA _ o D.i1z e
  have d1 : hA.IsListIter i2 l2 k2 := h2.at fun o e => hkA _ o D.i2z e
  have d2 : hA.IsList l1 xs := hl1.at fun o e => hkA _ o D.l1z e
  have d3 : hA.IsList l2 ys := hl2.at fun o e => hkA _ o D.l2z e
  refine wpAny_bind (wpAny_bind (wpAny_holding ?_))
  show wpAny _ _ (Builtin.SmallTypes.nextOf (.ref i1) >>= _) _ _ _
  refine wpAny_bind (wpAny_nextOf_list_item d0 d2 hx fun h₂ h1₂ hs₂ => wpAny_pure (wpAny_pure ?_))
  dsimp only
  refine wpAny_bind (wpAny_bind (wpAny_holding ?_))
  show wpAny _ _ (Builtin.SmallTypes.nextOf (.ref i2) >>= _) _ _ _
  refine wpAny_bind (wpAny_nextOf_list_item (d1.extBut hs₂.extBut D.i12.symm) (d3.extBut hs₂.extBut D.l2i1) hy fun h₄ h2₄ hs₄ => wpAny_pure (wpAny_pure (wpAny_pure ?_)))
  dsimp only
  refine wpAny_bind (wpAny_newTuple ?_ (by show 2 ≤ _; rw [sizeLine_eq]; decide))
  have hsz : h₄.objs.size = s.heap.objs.size := by rw [hs₄.1, hs₂.1, hsA]
  have kp : ∀ c o, c ≠ z → c ≠ i1 → c ≠ i2 → s.heap.get? c = some o → h₄.get? c = some o := fun c o c1 c2 c3 e => hs₄.extBut _ _ c3 (hs₂.extBut _ _ c2 (hkA _ _ c1 e))
  have hz₄ : IsZipB h₄ z TI TO T0 true := hs₄.extBut _ _ D.i2z.symm (hs₂.extBut _ _ D.i1z.symm hzA)
  refine wpAny_pure ⟨_, rfl, ?_⟩
  show Q (.ref h₄.objs.size) _
  rw [hsz]
  have up : ∀ c o, h₄.get? c = some o → (h₄.push { cls := .type "tuple", data := .seq #[x, y] }).get? c = some o := fun c o e => Heap.get?_push_of_some _ e
  refine hQ _ (up _ _ hz₄) ((h1₂.extBut hs₄.extBut D.i12).at fun o e => up _ o e) (h2₄.at fun o e => up _ o e) ?_ ?_ fun c o c1 c2 c3 e => up _ _ (kp c o c1 c2 c3 e)
  · rw [← hsz]; exact Heap.get?_push_size _ rfl
  · rw [← hsz]; exact Heap.size_push ..
theorem zipb_next_end {z TI TO T0 i1 i2 l1 l2 : Addr} {bb : Bool} {o0 : Obj} {k1 : Nat} {xs ys : Array Value} {Q : Fin → Shared → Prop} (hh : A.handled = none) (D : ZipApart z TI TO i1 i2 l1 l2)
    (hz : IsZipB s.heap z TI TO T0 bb) (h0 : s.heap.get? T0 = some o0) (hTI : IsPair s.heap TI (.ref i1) (.ref i2))
    (h1 : s.heap.IsListIter i1 l1 k1) (hl1 : s.heap.IsList l1 xs) (hx : xs[k1]? = none)
    (hE : ∀ h' e, (∀ c o, c ≠ z → c ≠ i1 → s.heap.get? c = some o → h'.get? c = some o) → (∃ o, h'.get? e = some o ∧ o.cls = .type "StopIteration") → E (.ref e) { s with heap := h' }) :
    wpAny (model prog w) A (Builtin.«zip.__next__» ⟨[.ref z], []⟩) Q E s := by
  show wpAny _ _ (field (.ref z) 2 >>= _) _ _ _
  refine wpAny_bind (wpAny_field hz rfl (x := .bool false) rfl ?_)
  show wpAny _ _ (field (.ref z) 3 >>= _) _ _ _
  refine wpAny_bind (wpAny_field hz rfl (x := .ref TI) rfl ?_)
  refine wpAny_bind (wpAny_seqItems hTI rfl ?_)
  show wpAny _ _ (Builtin.SmallTypes.ownedTupleIsFree (.ref z) >>= _) _ _ _
  refine wpAny_bind (zip_busy hz h0 fun hA hzA hkA hsA => ?_)
  simp only [Bool.false_eq_true, if_false]
  refine wpAny_bind ?_
  simp only [← Array.forIn_toList, List.forIn_cons, List.forIn_nil]
  have d0 : hA.IsListIter i1 l1 k1 := h1.at fun o e => hkA _ o D.i1z e
  have d2 : hA.IsList l1 xs := hl1.at fun o e => hkA _ o D.l1z e
  refine wpAny_bind (wpAny_bind (wpAny_holding ?_))
  show wpAny _ _ (Builtin.SmallTypes.nextOf (.ref i1) >>= _) _ _ _
  refine wpAny_bind (wpAny_nextOf_list_end hh d0 d2 hx fun h₂ e hs₂ he => ?_)
  exact hE h₂ e (fun c o c1 c2 x => hs₂ _ _ c2 (hkA _ _ c1 x)) he
theorem zipb_pyNext_item {z TI TO T0 i1 i2 l1 l2 : Addr} {bb : Bool} {o0 : Obj} {k1 k2 : Nat} {xs ys : Array Value} {x y : Value} {Q : Option Value → Shared → Prop} (D : ZipApart z TI TO i1 i2 l1 l2)
    (hz : IsZipB s.heap z TI TO T0 bb) (h0 : s.heap.get? T0 = some o0) (hTI : IsPair s.heap TI (.ref i1) (.ref i2))
    (h1 : s.heap.IsListIter i1 l1 k1) (h2 : s.heap.IsListIter i2 l2 k2) (hl1 : s.heap.IsList l1 xs) (hl2 : s.heap.IsList l2 ys) (hx : xs[k1]? = some x) (hy : ys[k2]? = some y)
    (hQ : ∀ h', IsZipB h' z TI TO T0 true → h'.IsListIter i1 l1 (k1 + 1) → h'.IsListIter i2 l2 (k2 + 1) → IsPair h' s.heap.objs.size x y → h'.objs.size = s.heap.objs.size + 1 →
      (∀ c o, c ≠ z → c ≠ i1 → c ≠ i2 → s.heap.get? c = some o → h'.get? c = some o) → Q (some (.ref s.heap.objs.size)) { s with heap := h' }) :
    wpAny (model prog w) A (pyNext (.ref z)) Q E s := by
  have hT : s.TypeIs (.ref z) "zip" := ⟨_, hz, rfl⟩
  unfold pyNext
  exact wpAny_bind (wpAny_attempt (wpAny_callSpecial?_slot (name := Str.ofString "__next__") hT PySem.F.slot_zip_next
    (wpAny_call_entry PySem.F.slot_zip_next hT PySem.F.entry_zip_next
      (zipb_next_item D hz h0 hTI h1 h2 hl1 hl2 hx hy fun h' a1 a2 a3 a4 a5 a6 => wpAny_pure (hQ h' a1 a2 a3 a4 a5 a6)) (PySem.F.args_zip_next_1 _))))
theorem zipb_pyNext_end {z TI TO T0 i1 i2 l1 l2 : Addr} {bb : Bool} {o0 : Obj} {k1 : Nat} {xs ys : Array Value} {Q : Option Value → Shared → Prop} (hh : A.handled = none) (D : ZipApart z TI TO i1 i2 l1 l2)
    (hz : IsZipB s.heap z TI TO T0 bb) (h0 : s.heap.get? T0 = some o0) (hTI : IsPair s.heap TI (.ref i1) (.ref i2))
    (h1 : s.heap.IsListIter i1 l1 k1) (hl1 : s.heap.IsList l1 xs) (hx : xs[k1]? = none)
    (hQ : ∀ h', (∀ c o, c ≠ z → c ≠ i1 → s.heap.get? c = some o → h'.get? c = some o) → Q none { s with heap := h' }) : wpAny (model prog w) A (pyNext (.ref z)) Q E s := by
  have hT : s.TypeIs (.ref z) "zip" := ⟨_, hz, rfl⟩
  unfold pyNext
  refine wpAny_bind (wpAny_attempt (wpAny_callSpecial?_slot (name := Str.ofString "__next__") hT PySem.F.slot_zip_next
    (wpAny_call_entry PySem.F.slot_zip_next hT PySem.F.entry_zip_next (zipb_next_end (ys := ys) hh D hz h0 hTI h1 hl1 hx fun h' e hk he => ?_) (PySem.F.args_zip_next_1 _))))
  obtain ⟨o, ho, hc⟩ := he
  refine wpAny_bind (wpAny_isInstance (T := "StopIteration") (b := true) ⟨o, ho, hc⟩ isSubtype_stop ?_)
  exact wpAny_pure (hQ _ hk)
/-- a zip of two lists after i of its items -/
structure ZL (h : Heap) (z TI TO i1 i2 l1 l2 : Addr) (xs ys : Array Value) (ts : List Addr) (B : Nat) : Prop where
  ti : IsPair h TI (.ref i1) (.ref i2)
  it1 : h.IsListIter i1 l1 ts.length
  it2 : h.IsListIter i2 l2 ts.length
  li1 : h.IsList l1 xs
  li2 : h.IsList l2 ys
  st : (ts = [] ∧ IsZip h z TI TO .none ∧ ∃ a b, IsPair h TO a b) ∨ ∃ T0 bb, T0 ∈ ts ∧ IsZipB h z TI TO T0 bb
  prs : ∀ (j : Nat) t, ts[j]? = some t → ∃ x y, xs[j]? = some x ∧ ys[j]? = some y ∧ IsPair h t x y
  far : ∀ t ∈ ts, @LE.le Nat _ B t
  big : B ≤ h.objs.size
theorem extend_zip {z TI TO i1 i2 l1 l2 S B : Addr} {xs ys : Array Value} {H : Heap} {R : Result → Shared → Prop} {res : Value} (hh : A.handled = none) (D : ZipApart z TI TO i1 i2 l1 l2) (hxy : ys.size = xs.size) (hn : xs.size ≤ 1000)
    (hS1 : S ≠ z) (hS2 : S ≠ TO) (hS3 : S ≠ i1) (hS4 : S ≠ i2) (hS5 : S ≠ TI) (hS6 : S ≠ l1) (hS7 : S ≠ l2) (bz : @LT.lt Nat _ z B) (bTI : @LT.lt Nat _ TI B) (bTO : @LT.lt Nat _ TO B) (b1 : @LT.lt Nat _ i1 B) (b2 : @LT.lt Nat _ i2 B) (bS : @LT.lt Nat _ S B) :
    ∀ (k : Nat) (ts : List Addr) (s : Shared) (acc : Array Value) (c : Nat), xs.size - ts.length = k → ts.length ≤ xs.size → ZL s.heap z TI TO i1 i2 l1 l2 xs ys ts B → s.heap.get? S = some { cls := .type "list", dict := none, data := .seq acc c, slots := #[] } → acc.toList = ts.map Value.ref →
      (∀ a o, a ≠ z → a ≠ TO → a ≠ i1 → a ≠ i2 → a ≠ S → H.get? a = some o → s.heap.get? a = some o) →
      (∀ (ts : List Addr) h' tk (acc' : Array Value) c', ts.length = xs.size → (∀ (j : Nat) t, ts[j]? = some t → ∃ x y, xs[j]? = some x ∧ ys[j]? = some y ∧ IsPair h' t x y) → (∀ t ∈ ts, @LE.le Nat _ B t) → h'.get? S = some { cls := .type "list", dict := none, data := .seq acc' c', slots := #[] } → acc'.toList = ts.map Value.ref →
        (∀ a o, a ≠ z → a ≠ TO → a ≠ i1 → a ≠ i2 → a ≠ S → H.get? a = some o → h'.get? a = some o) → R (.ok (.ret res)) { s with heap := h', toks := tk }) →
      codeAny (model prog w) A (.builtin "list.extend.loop" ⟨[.ref S, .ref z, res], []⟩) R s := by
  intro k
  induction k with
  | zero =>
    intro ts s acc c hk hi Z hS hacc hkeep hR
    have hin : ts.length = xs.size := sub0 hk hi
    refine codeAny_builtin PySem.F.entry_extend_loop ?_
    rw [Around.under_plainId PySem.F.plain_extend_loop _]
    show wpAny _ A.in1 (pyNext (.ref z) >>= _) _ _ s
    have hx : xs[ts.length]? = none := by rw [hin]; simp
    have fin : ∀ h', (∀ a o, a ≠ z → a ≠ TO → a ≠ i1 → a ≠ i2 → s.heap.get? a = some o → h'.get? a = some o) → R (.ok (.ret res)) { s with heap := h' } := fun h' hk' =>
      hR ts h' s.toks acc c hin (fun j t e => by
        obtain ⟨x, y, h1, h2, h3⟩ := Z.prs j t e
        have hb := Z.far t (List.mem_of_getElem? e)
        exact ⟨x, y, h1, h2, hk' _ _ (Nat.ne_of_gt (Nat.lt_of_lt_of_le bz hb)) (Nat.ne_of_gt (Nat.lt_of_lt_of_le bTO hb)) (Nat.ne_of_gt (Nat.lt_of_lt_of_le b1 hb)) (Nat.ne_of_gt (Nat.lt_of_lt_of_le b2 hb)) h3⟩)
        Z.far (hk' _ _ hS1 hS2 hS3 hS4 hS) hacc fun a o c1 c2 c3 c4 c5 e => hk' a o c1 c2 c3 c4 (hkeep a o c1 c2 c3 c4 c5 e)
    rcases Z.st with ⟨_, hz, a, b, hTO⟩ | ⟨T0, bb, hm, hz⟩
    · exact wpAny_bind (wpAny_pyNext_zip_end hh D hz Z.ti hTO Z.it1 Z.it2 Z.li1 Z.li2 (.inl hx) fun h' hk' => wpAny_pure (fin h' hk'))
    · obtain ⟨j, hj⟩ := List.mem_iff_getElem?.mp hm
      obtain ⟨x, y, _, _, hp⟩ := Z.prs j T0 hj
      exact wpAny_bind (zipb_pyNext_end (ys := ys) (l2 := l2) (i2 := i2) hh D hz hp Z.ti Z.it1 Z.li1 hx fun h' hk' => wpAny_pure (fin h' fun a o c1 _ c3 _ e => hk' a o c1 c3 e))
  | succ k ih =>
    intro ts s acc c hk hi Z hS hacc hkeep hR
    have hlt : ts.length < xs.size := Nat.lt_of_sub_pos (hk ▸ Nat.succ_pos k)
    have hx : xs[ts.length]? = some xs[ts.length] := by simp [hlt]
    have hlt2 : ts.length < ys.size := hxy ▸ hlt
    have hy : ys[ts.length]? = some ys[ts.length] := by simp [hlt2]
    generalize xs[ts.length] = x at hx
    generalize ys[ts.length] = y at hy
    refine codeAny_builtin PySem.F.entry_extend_loop ?_
    rw [Around.under_plainId PySem.F.plain_extend_loop _]
    show wpAny _ A.in1 (pyNext (.ref z) >>= _) _ _ s
    have hsz : acc.size = ts.length := by have := congrArg List.length hacc; simpa using this
    have next : ∀ h' : Heap, (∃ T0 bb, T0 ∈ ts ++ [s.heap.objs.size] ∧ IsZipB h' z TI TO T0 bb) → h'.IsListIter i1 l1 (ts.length + 1) → h'.IsListIter i2 l2 (ts.length + 1) → IsPair h' s.heap.objs.size x y → h'.objs.size = s.heap.objs.size + 1 →
        (∀ a o, a ≠ z → a ≠ TO → a ≠ i1 → a ≠ i2 → s.heap.get? a = some o → h'.get? a = some o) →
        wpAny (model prog w) A.in1 (updateSeq S (·.push (.ref s.heap.objs.size)) >>= fun _ => again (.builtin "list.extend.loop" ⟨[.ref S, .ref z, res], []⟩))
          (fun fin s' => match fin with | .done f => R (.ok f) s' | .again c' => c'.quiet = true ∧ codeAny (model prog w) A c' R s') (fun e s' => R (.error e) s') { s with heap := h' } := by
      intro h' hzz q1 q2 q3 q4 hk'
      have hS' := hk' S _ hS1 hS2 hS3 hS4 hS
      have hoth : ∀ b o, b ≠ S → h'.get? b = some o → (h'.update S (Obj.mapSeq (·.push (.ref s.heap.objs.size)))).get? b = some o := fun b o hb e => (Heap.get?_update_other _ _ (Ne.symm hb)).trans e
      have nS : ∀ t, @LE.le Nat _ B t → t ≠ S := fun t ht => Nat.ne_of_gt (Nat.lt_of_lt_of_le bS ht)
      refine wpAny_bind ?_
      refine wpAny_updateSeq hS' rfl (wpAny_pure ⟨plainId_quiet PySem.F.plain_extend_loop _, ih (ts ++ [s.heap.objs.size]) _ (acc.push (.ref s.heap.objs.size)) _ (by rw [List.length_append]; exact sub1 hk) (by rw [List.length_append]; exact hlt) ?_ (Heap.get?_update_self _ hS' rfl) (by simp [hacc]) ?_ ?_⟩)
        (by rw [hsz, sizeLine_eq]; omega) (by rw [sizeLine_eq]; show (acc.push _).size ≤ _; rw [Array.size_push, hsz]; omega)
      · obtain ⟨T0, bb, hm, hz⟩ := hzz
        refine ⟨hoth _ _ (Ne.symm hS5) (hk' _ _ D.TIz D.TITO D.TIi1 D.TIi2 Z.ti), by rw [List.length_append]; exact q1.at fun o e => hoth _ o (Ne.symm hS3) e, by rw [List.length_append]; exact q2.at fun o e => hoth _ o (Ne.symm hS4) e,
          Z.li1.at fun o e => hoth _ o (Ne.symm hS6) (hk' _ _ D.l1z D.l1TO D.l1i1 D.l1i2 e), Z.li2.at fun o e => hoth _ o (Ne.symm hS7) (hk' _ _ D.l2z D.l2TO D.l2i1 D.l2i2 e), .inr ⟨T0, bb, hm, hoth _ _ (Ne.symm hS1) hz⟩, ?_, ?_, ?_⟩
        · intro j t e
          rcases Nat.lt_or_ge j ts.length with hj | hj
          · rw [List.getElem?_append_left hj] at e
            obtain ⟨x', y', h1, h2, h3⟩ := Z.prs j t e
            have hb := Z.far t (List.mem_of_getElem? e)
            exact ⟨x', y', h1, h2, hoth _ _ (nS t hb) (hk' _ _ (Nat.ne_of_gt (Nat.lt_of_lt_of_le bz hb)) (Nat.ne_of_gt (Nat.lt_of_lt_of_le bTO hb)) (Nat.ne_of_gt (Nat.lt_of_lt_of_le b1 hb)) (Nat.ne_of_gt (Nat.lt_of_lt_of_le b2 hb)) h3)⟩
          · rw [List.getElem?_append_right hj] at e
            have hj0 : j = ts.length := by
              rcases Nat.lt_or_ge j (ts.length + 1) with h | h
              · exact Nat.le_antisymm (Nat.le_of_lt_succ h) hj
              · rw [List.getElem?_eq_none (Nat.le_sub_of_add_le (by rw [Nat.add_comm]; exact h))] at e; cases e
            subst hj0
            rw [Nat.sub_self] at e
            have e : s.heap.objs.size = t := by simpa using e
            subst e
            exact ⟨x, y, hx, hy, hoth _ _ (nS _ Z.big) q3⟩
        · intro t ht
          rcases List.mem_append.mp ht with ht | ht
          · exact Z.far t ht
          · rw [List.mem_singleton.mp ht]; exact Z.big
        · show B ≤ (h'.update S _).objs.size
          rw [Heap.size_update, q4]; exact Nat.le_succ_of_le Z.big
      · intro a o c1 c2 c3 c4 c5 e
        exact hoth a o c5 (hk' a o c1 c2 c3 c4 (hkeep a o c1 c2 c3 c4 c5 e))
      · intro ts' h3 tk3 acc3 c3 r1 r2 r3 r4 r5 r6
        exact hR ts' h3 tk3 acc3 c3 r1 r2 r3 r4 r5 r6
    rcases Z.st with ⟨hts, hz, a, b, hTO⟩ | ⟨T0, bb, hm, hz⟩
    · exact wpAny_bind (wpAny_pyNext_zip_item D hz Z.ti hTO Z.it1 Z.it2 Z.li1 Z.li2 hx hy fun h' q0 _ q1 q2 q3 q4 hk' => next h' ⟨s.heap.objs.size, false, by simp, q0⟩ q1 q2 q3 q4 hk')
    · obtain ⟨j, hj⟩ := List.mem_iff_getElem?.mp hm
      obtain ⟨x', y', _, _, hp⟩ := Z.prs j T0 hj
      exact wpAny_bind (zipb_pyNext_item D hz hp Z.ti Z.it1 Z.it2 Z.li1 Z.li2 hx hy fun h' q0 q1 q2 q3 q4 hk' => next h' ⟨T0, true, List.mem_append_left _ hm, q0⟩ q1 q2 q3 q4 fun a o c1 _ c3 c4 e => hk' a o c1 c3 c4 e)
theorem zip_no_len : typeLookup (.type "zip") "__len__" = pure none := by rw [typeLookup_type, builtinLookup_eq_fast]; kernel_rfl
theorem zip_no_hint : typeLookup (.type "zip") "__length_hint__" = pure none := by rw [typeLookup_type, builtinLookup_eq_fast]; kernel_rfl
set_option maxHeartbeats 1000000 in
theorem list_zip_c {z TI TO i1 i2 l1 l2 : Addr} {xs ys : Array Value} {a b : Value} {Q : Value → Shared → Prop} (hh : A.handled = none) (D : ZipApart z TI TO i1 i2 l1 l2) (hxy : ys.size = xs.size) (hn : xs.size ≤ 1000)
    (hz : IsZip s.heap z TI TO .none) (hTI : IsPair s.heap TI (.ref i1) (.ref i2)) (hTO : IsPair s.heap TO a b) (h1 : s.heap.IsListIter i1 l1 0) (h2 : s.heap.IsListIter i2 l2 0) (hl1 : s.heap.IsList l1 xs) (hl2 : s.heap.IsList l2 ys)
    (hQ : ∀ (ts : List Addr) h' tk (acc : Array Value) c, ts.length = xs.size → (∀ (j : Nat) t, ts[j]? = some t → ∃ x y, xs[j]? = some x ∧ ys[j]? = some y ∧ IsPair h' t x y) → (∀ t ∈ ts, @LT.lt Nat _ s.heap.objs.size t) → h'.get? s.heap.objs.size = some { cls := .type "list", dict := none, data := .seq acc c, slots := #[] } → acc.toList = ts.map Value.ref →
      (∀ a o, a ≠ z → a ≠ TO → a ≠ i1 → a ≠ i2 → s.heap.get? a = some o → h'.get? a = some o) → Q (.ref s.heap.objs.size) { s with heap := h', toks := tk }) :
    wpAny (model prog w) A (call (.type "list") [.ref z]) Q E s := by
  have lz : @LT.lt Nat _ z s.heap.objs.size := Heap.lt_size hz
  have lTI : @LT.lt Nat _ TI s.heap.objs.size := Heap.lt_size hTI
  have lTO : @LT.lt Nat _ TO s.heap.objs.size := Heap.lt_size hTO
  have li1 : @LT.lt Nat _ i1 s.heap.objs.size := by obtain ⟨_, e, _⟩ := h1; exact Heap.lt_size e
  have li2 : @LT.lt Nat _ i2 s.heap.objs.size := by obtain ⟨_, e, _⟩ := h2; exact Heap.lt_size e
  have ll1 : @LT.lt Nat _ l1 s.heap.objs.size := by obtain ⟨_, e, _⟩ := hl1; exact Heap.lt_size e
  have ll2 : @LT.lt Nat _ l2 s.heap.objs.size := by obtain ⟨_, e, _⟩ := hl2; exact Heap.lt_size e
  refine callType_codes (Q₁ := fun obj s₁ => obj = .ref s.heap.objs.size ∧ s₁ = { s with heap := s.heap.push { cls := .type "list", data := .seq #[] } }) PySem.F.called_list (PySem.F.typeCall_list_1 _) PySem.F.entry_list_init
    (code_list_new _ ⟨rfl, rfl⟩) fun obj s₁ h₁ => ?_
  obtain ⟨rfl, rfl⟩ := h₁
  have hS : (s.heap.push { cls := .type "list", data := .seq #[] }).get? s.heap.objs.size = some { cls := .type "list", data := .seq #[] } := Heap.get?_push_size _ rfl
  refine ⟨⟨_, hS, rfl⟩, PySem.F.args_list_init_2 _ _, ?_⟩
  have kp0 : ∀ b o, s.heap.get? b = some o → (s.heap.push { cls := .type "list", data := .seq #[] }).get? b = some o := fun b o e => Heap.get?_push_of_some _ e
  show wpAny _ A.in1.in1 (do let old ← Builtin.List.listItems (.ref s.heap.objs.size); Builtin.List.listUpdate (.ref s.heap.objs.size) (fun _ => #[]); letGo old.toList.reverse; Builtin.List.listExtendWith (.ref s.heap.objs.size) (.ref z) .none) _ _ _
  refine wpAny_bind ?_
  unfold Builtin.List.listItems
  refine wpAny_bind (wpAny_seqItems hS rfl (wpAny_pure ?_))
  show wpAny _ A.in1.in1 (updateSeq s.heap.objs.size (fun _ => #[]) >>= fun _ => letGo (#[] : Array Value).toList.reverse >>= fun _ => Builtin.List.listExtendWith (.ref s.heap.objs.size) (.ref z) .none) _ _ _
  refine wpAny_bind (wpAny_updateSeq hS rfl ?_)
  have hS₂ := Heap.get?_update_self (Obj.mapSeq (fun _ => (#[] : Array Value))) hS rfl
  generalize hH2 : (s.heap.push { cls := .type "list", data := .seq #[] }).update s.heap.objs.size (Obj.mapSeq (fun _ => (#[] : Array Value))) = H2 at hS₂
  have kp2 : ∀ b o, s.heap.get? b = some o → H2.get? b = some o := fun b o e => by
    rw [← hH2]; exact (Heap.get?_update_other _ _ (Nat.ne_of_gt (Heap.lt_size e))).trans (kp0 b o e)
  have sz2 : H2.objs.size = s.heap.objs.size + 1 := by rw [← hH2, Heap.size_update, Heap.size_push]
  refine wpAny_bind (wpAny_letGo ?_)
  unfold Builtin.List.listExtendWith
  refine wpAny_bind (wpAny_typeOf (T := "zip") ⟨_, kp2 _ _ hz, rfl⟩ ?_)
  have h1' : Builtin.List.listSameRef (.ref s.heap.objs.size) (.ref z) = false := by simp [Builtin.List.listSameRef]; exact Nat.ne_of_gt lz
  have h2' : (Value.type "zip" == Value.type "list") = false := by decide
  have h3' : (Value.type "zip" == Value.type "tuple") = false := by decide
  simp only [h1', h2', h3', Bool.or_false, Bool.false_eq_true, if_false]
  refine wpAny_bind (wpAny_pyIter_zip (kp2 _ _ hz) ?_)
  refine wpAny_bind (wpAny_holding ?_)
  unfold Builtin.List.listLengthHint
  refine wpAny_bind (wpAny_specialOf (T := "zip") ⟨_, kp2 _ _ hz, rfl⟩ zip_no_len ?_)
  show wpAny _ A.in1.in1 (specialOf (Value.ref z) (Str.ofString "__length_hint__") >>= _) _ _ _
  refine wpAny_bind (wpAny_specialOf (T := "zip") ⟨_, kp2 _ _ hz, rfl⟩ zip_no_hint ?_)
  refine wpAny_pure ?_
  show wpAny _ A.in1.in1 (rule "list.extend.makes-room" >>= fun _ => Builtin.List.listTouch (.ref s.heap.objs.size) >>= fun _ =>
    again (.builtin "list.extend.loop" ⟨[.ref s.heap.objs.size, .ref z, .none], []⟩)) _ _ _
  refine wpAny_bind (wpAny_rule ?_)
  refine wpAny_bind ?_
  show wpAny _ A.in1.in1 (updateSeq s.heap.objs.size (·.push .none) >>= fun _ => updateSeq s.heap.objs.size (·.pop)) _ _ _
  refine wpAny_bind (wpAny_updateSeq hS₂ rfl ?_)
  have hS₃ := Heap.get?_update_self (Obj.mapSeq (·.push Value.none)) hS₂ rfl
  refine wpAny_updateSeq (hz := by seq_fits) hS₃ rfl ?_
  have hS₄ := Heap.get?_update_self (Obj.mapSeq (·.pop)) hS₃ rfl
  generalize hH4 : (H2.update s.heap.objs.size (Obj.mapSeq (·.push Value.none))).update s.heap.objs.size (Obj.mapSeq (·.pop)) = H4 at hS₄
  have kp4 : ∀ b o, s.heap.get? b = some o → H4.get? b = some o := fun b o e => by
    rw [← hH4]; exact (Heap.get?_update_other _ _ (Nat.ne_of_gt (Heap.lt_size e))).trans ((Heap.get?_update_other _ _ (Nat.ne_of_gt (Heap.lt_size e))).trans (kp2 b o e))
  have sz4 : H4.objs.size = s.heap.objs.size + 1 := by rw [← hH4, Heap.size_update, Heap.size_update, sz2]
  have hb : ∀ a : Nat, a < s.heap.objs.size → a < s.heap.objs.size + 1 := fun a h => Nat.lt_succ_of_lt h
  refine wpAny_pure ⟨plainId_quiet PySem.F.plain_extend_loop _, ?_⟩
  refine extend_zip (A := A.in1) (B := s.heap.objs.size + 1) (H := s.heap) hh D hxy hn (Nat.ne_of_gt lz) (Nat.ne_of_gt lTO) (Nat.ne_of_gt li1) (Nat.ne_of_gt li2) (Nat.ne_of_gt lTI) (Nat.ne_of_gt ll1) (Nat.ne_of_gt ll2) (hb _ lz) (hb _ lTI) (hb _ lTO) (hb _ li1) (hb _ li2) (Nat.lt_succ_self _)
    xs.size [] _ #[] _ rfl (Nat.zero_le _) ⟨kp4 _ _ hTI, h1.at fun o e => kp4 _ o e, h2.at fun o e => kp4 _ o e, hl1.at fun o e => kp4 _ o e, hl2.at fun o e => kp4 _ o e, .inl ⟨rfl, kp4 _ _ hz, a, b, kp4 _ _ hTO⟩, (fun j t e => by simp at e), (fun t ht => by cases ht), Nat.le_of_eq sz4.symm⟩ hS₄ rfl (fun a o _ _ _ _ _ e => kp4 a o e) ?_
  intro ts h' tk acc' c' r1 r2 r3 r4 r5 r6
  exact ⟨rfl, hQ ts h' tk acc' c' r1 r2 (fun t ht => r3 t ht) r4 r5 fun a o c1 c2 c3 c4 e => r6 a o c1 c2 c3 c4 (Nat.ne_of_lt (Heap.lt_size e)) e⟩
end
end
section
open PySem PySem.Spec PySem.Calls PySem.W PyProof.Rows PyProof.Rows.LCg
/-- a fresh zip of two lists -/
noncomputable def ZipR (h₀ : Heap) (L : Addr) (news : Led) (h : Heap) (z l1 l2 : Addr) (xs ys : Array Value) : Prop :=
  ∃ TI TO i1 i2 : Addr, ∃ a b : Value, ZipApart z TI TO i1 i2 l1 l2 ∧ IsZip h z TI TO .none ∧ IsPair h TI (.ref i1) (.ref i2) ∧ IsPair h TO a b ∧ h.IsListIter i1 l1 0 ∧ h.IsListIter i2 l2 0 ∧ h.IsList l1 xs ∧ h.IsList l2 ys ∧
    ∀ c, (c = z ∨ c = TO ∨ c = i1 ∨ c = i2) → h₀.get? c = none ∧ c ≠ L ∧ ∀ q ∈ news, q.1 ≠ c
section
variable {prog : Program} {w : World} {A : Around} {E : Value → Shared → Prop} {s : Shared} {h₀ : Heap} {L : Addr} {m : Str → Option Value} {news : Led}
theorem zip_K {l1 l2 : Addr} {xs ys : Array Value} {n1 n2 : Nat} {Q : Value → Shared → Prop} (F : Fr h₀ L s.heap m) (N : News h₀ L s.heap news) (ha : (l1, ({ cls := .type "list", data := .seq xs n1 } : Obj)) ∈ news) (hb : (l2, ({ cls := .type "list", data := .seq ys n2 } : Obj)) ∈ news)
    (hQ : ∀ z h', Fr h₀ L h' m → News h₀ L h' news → ZipR h₀ L news h' z l1 l2 xs ys → Q (.ref z) { s with heap := h' }) :
    wpAny (model prog w) A (call (.type "zip") [.ref l1, .ref l2]) Q E s := by
  have hl1 : s.heap.IsList l1 xs := ⟨_, (N _ ha).1, rfl, n1, rfl⟩
  have hl2 : s.heap.IsList l2 ys := ⟨_, (N _ hb).1, rfl, n2, rfl⟩
  have b1 : @LT.lt Nat _ l1 s.heap.objs.size := Heap.lt_size (N _ ha).1
  have b2 : @LT.lt Nat _ l2 s.heap.objs.size := Heap.lt_size (N _ hb).1
  have bL : @LT.lt Nat _ L s.heap.objs.size := F.ns.lt
  refine call_zip_2 hl1 hl2 fun h' hz hTI hTO hi1 hi2 hsz hk => ?_
  refine hQ _ h' (F.keeps hk) (N.grown hk) ⟨_, _, _, _, _, _, ktu_apart _ _ _ b1 b2, hz, hTI, hTO, hi1, hi2, hl1.at fun o e => hk _ o e, hl2.at fun o e => hk _ o e, ?_⟩
  have fr : ∀ c : Nat, s.heap.objs.size ≤ c → h₀.get? c = none := fun c hc => by
    cases e : h₀.get? c with
    | none => rfl
    | some o => exact absurd (Heap.lt_size (F.keep c o e)) (Nat.not_lt.mpr hc)
  have go : ∀ c : Nat, s.heap.objs.size ≤ c → h₀.get? c = none ∧ c ≠ L ∧ ∀ q ∈ news, q.1 ≠ c := fun c hc => ⟨fr c hc, Nat.ne_of_gt (Nat.lt_of_lt_of_le bL hc), fun q hq => Nat.ne_of_lt (Nat.lt_of_lt_of_le (Heap.lt_size (N q hq).1) hc)⟩
  rintro c (rfl | rfl | rfl | rfl)
  · exact go _ (Nat.le_add_right _ _)
  · exact go _ (Nat.le_add_right _ _)
  · exact go _ (Nat.le_refl _)
  · exact go _ (Nat.le_add_right _ _)
theorem listzip_K {z l1 l2 : Addr} {xs ys : Array Value} {Q : Value → Shared → Prop} (hh : A.handled = none) (F : Fr h₀ L s.heap m) (N : News h₀ L s.heap news) (Z : ZipR h₀ L news s.heap z l1 l2 xs ys) (hxy : ys.size = xs.size) (hn : xs.size ≤ 1000)
    (hQ : ∀ D (ts : List Addr) (TL : Led) h' tk (acc : Array Value) c, acc.toList = ts.map Value.ref → ts.length = xs.size →
      (∀ (j : Nat) t, ts[j]? = some t → ∃ x y, xs[j]? = some x ∧ ys[j]? = some y ∧ (t, ({ cls := .type "tuple", data := .seq #[x, y] } : Obj)) ∈ TL) →
      (∀ q ∈ news, q.1 < D) → (∀ q ∈ TL, D < q.1) → Fr h₀ L h' m → News h₀ L h' ((D, ({ cls := .type "list", data := .seq acc c } : Obj)) :: (TL ++ news)) → Q (.ref D) { s with heap := h', toks := tk }) :
    wpAny (model prog w) A (call (.type "list") [.ref z]) Q E s := by
  obtain ⟨TI, TO, i1, i2, a, b, D, hz, hTI, hTO, h1, h2, hl1, hl2, fresh⟩ := Z
  have bL : @LT.lt Nat _ L s.heap.objs.size := F.ns.lt
  refine list_zip_c hh D hxy hn hz hTI hTO h1 h2 hl1 hl2 fun ts h' tk acc c r1 r2 r3 r4 r5 r6 => ?_
  have fr : ∀ c : Nat, s.heap.objs.size ≤ c → h₀.get? c = none := fun c hc => by
    cases e : h₀.get? c with
    | none => rfl
    | some o => exact absurd (Heap.lt_size (F.keep c o e)) (Nat.not_lt.mpr hc)
  have F' : Fr h₀ L h' m := by
    refine ⟨F.ns.at' fun o e => r6 L o ?_ ?_ ?_ ?_ e, fun c o e => r6 c o ?_ ?_ ?_ ?_ (F.keep c o e), F.above⟩
    · exact Ne.symm (fresh z (.inl rfl)).2.1
    · exact Ne.symm (fresh TO (.inr (.inl rfl))).2.1
    · exact Ne.symm (fresh i1 (.inr (.inr (.inl rfl)))).2.1
    · exact Ne.symm (fresh i2 (.inr (.inr (.inr rfl)))).2.1
    · intro q; rw [q, (fresh z (.inl rfl)).1] at e; cases e
    · intro q; rw [q, (fresh TO (.inr (.inl rfl))).1] at e; cases e
    · intro q; rw [q, (fresh i1 (.inr (.inr (.inl rfl)))).1] at e; cases e
    · intro q; rw [q, (fresh i2 (.inr (.inr (.inr rfl)))).1] at e; cases e
  refine hQ s.heap.objs.size ts ((ts.zip (xs.toList.zip ys.toList)).map fun p => (p.1, ({ cls := .type "tuple", data := .seq #[p.2.1, p.2.2] } : Obj))) h' tk acc c r5 r1 (fun j t e => ?_) (fun q hq => Heap.lt_size (N q hq).1) (fun q hq => ?_) F' fun q hq => ?_
  · obtain ⟨x, y, e1, e2, _⟩ := r2 j t e
    refine ⟨x, y, e1, e2, List.mem_map.mpr ⟨(t, x, y), ?_, rfl⟩⟩
    refine List.mem_of_getElem? (i := j) ?_
    rw [List.getElem?_zip_eq_some]
    refine ⟨e, ?_⟩
    rw [List.getElem?_zip_eq_some]
    exact ⟨by rw [Array.getElem?_toList]; exact e1, by rw [Array.getElem?_toList]; exact e2⟩
  · obtain ⟨p, hp, rfl⟩ := List.mem_map.mp hq
    exact r3 _ (List.of_mem_zip hp).1
  · rcases List.mem_cons.mp hq with rfl | hq
    · exact ⟨r4, Nat.ne_of_gt bL, fr _ (Nat.le_refl _)⟩
    · rcases List.mem_append.mp hq with hq | hq
      · obtain ⟨p, hp, rfl⟩ := List.mem_map.mp hq
        obtain ⟨j, hj⟩ := List.mem_iff_getElem?.mp hp
        rw [List.getElem?_zip_eq_some] at hj
        obtain ⟨j1, j2⟩ := hj
        rw [List.getElem?_zip_eq_some] at j2
        obtain ⟨x, y, e1, e2, e3⟩ := r2 j p.1 j1
        rw [Array.getElem?_toList, e1] at j2
        rw [Array.getElem?_toList, e2] at j2
        obtain ⟨q1, q2⟩ := j2
        have q1 := Option.some.inj q1
        have q2 := Option.some.inj q2
        rw [q1, q2] at e3
        have hlt := r3 p.1 (List.of_mem_zip hp).1
        exact ⟨e3, Nat.ne_of_gt (Nat.lt_trans bL hlt), fr _ (Nat.le_of_lt hlt)⟩
      · exact ⟨r6 _ _ (fun e => (fresh z (.inl rfl)).2.2 q hq e) (fun e => (fresh TO (.inr (.inl rfl))).2.2 q hq e) (fun e => (fresh i1 (.inr (.inr (.inl rfl)))).2.2 q hq e) (fun e => (fresh i2 (.inr (.inr (.inr rfl)))).2.2 q hq e) (N q hq).1, (N q hq).2⟩
/-- two tuples of two ints -/
theorem eqAt_pairs {t u : Addr} {a b c d : Int} {x1 x2 x3 x4 : Tok} {n1 n2 : Nat} (ht : s.heap.get? t = some { cls := .type "tuple", data := .seq #[.int a x1, .int b x2] n1 }) (hu : s.heap.get? u = some { cls := .type "tuple", data := .seq #[.int c x3, .int d x4] n2 }) (hr : A.units + 2 < cLine) :
    SeqAt.EqAt A s (.ref t) (.ref u) (decide (a = c) && decide (b = d)) := by
  have h := SeqAt.eqAt_reads (.tuple [.int a, .int b]) (.tuple [.int c, .int d]) A s (.ref t) (.ref u) _ _ (Reads.tuple ht rfl rfl (.cons (.int _ _) (.cons (.int _ _) .nil))) (Reads.tuple hu rfl rfl (.cons (.int _ _) (.cons (.int _ _) .nil))) rfl rfl (by
    have : min (PyData.tuple [.int a, .int b]).depth (PyData.tuple [.int c, .int d]).depth ≤ 1 := by simp [PyData.depth, PyData.depthAll]
    omega)
  have e : PyData.eqv (.tuple [.int a, .int b]) (.tuple [.int c, .int d]) = (decide (a = c) && decide (b = d)) := by
    simp only [PyData.eqv, PyData.eqvAll, Bool.and_true]
    rfl
  rw [e] at h; exact h
end
end
section
open PySem PySem.Spec PySem.Calls PySem.W PyProof.Rows PyProof.Rows.LCg
theorem valueAt_stored {kvs : List (Str × Value)} {k n : Str} {v : Value} : valueAt (stored kvs k v) n = if n = k then some v else valueAt kvs n := by
  unfold stored valueAt
  by_cases ha : (kvs.any fun kv => decide (kv.1 = k)) = true
  · rw [if_pos ha]
    by_cases hn : n = k
    · subst hn
      rw [if_pos rfl]
      induction kvs with
      | nil => simp at ha
      | cons p r ih =>
        rw [List.map_cons, List.find?_cons]
        by_cases hp : p.1 = n
        · simp [hp]
        · simp only [if_neg hp]
          rw [show decide (p.1 = n) = false from decide_eq_false hp]
          exact ih (by simpa [hp] using ha)
    · rw [if_neg hn]
      clear ha
      induction kvs with
      | nil => rfl
      | cons p r ih =>
        rw [List.map_cons, List.find?_cons, List.find?_cons]
        by_cases hp : p.1 = k
        · have h1 : ¬ k = n := fun e => hn e.symm
          simp only [if_pos hp]
          rw [show decide (p.1 = n) = false from decide_eq_false (by rw [hp]; exact h1)]
          exact ih
        · simp only [if_neg hp]
          by_cases hq : p.1 = n
          · simp [hq]
          · rw [show decide (p.1 = n) = false from decide_eq_false hq]
            exact ih
  · rw [if_neg ha]
    have hno : ∀ p ∈ kvs, p.1 ≠ k := fun p hp e => ha (List.any_eq_true.mpr ⟨p, hp, by simp [e]⟩)
    by_cases hn : n = k
    · subst hn
      rw [if_pos rfl, List.find?_append]
      have : kvs.find? (fun kv => decide (kv.1 = n)) = none := List.find?_eq_none.mpr fun p hp => by simpa using hno p hp
      rw [this]
      simp
    · rw [if_neg hn, List.find?_append]
      have h1 : ¬ k = n := fun e => hn e.symm
      cases kvs.find? (fun kv => decide (kv.1 = n)) <;> simp [h1]
theorem stored_len {kvs : List (Str × Value)} {k : Str} {v : Value} : (stored kvs k v).length ≤ kvs.length + 1 := by
  unfold stored; split <;> simp
section
variable {prog : Program} {w : World} {A : Around} {E : Value → Shared → Prop} {s : Shared} {h₀ : Heap} {L : Addr} {m : Str → Option Value} {env : Env} {news : Led}
theorem src_dict {kvs : List (Str × Value)} {d : Addr} {o : Obj} {Q : Value → Shared → Prop} (hh : A.handled = none) (F : Fr h₀ L s.heap m) (N : News h₀ L s.heap news) (hm : (d, o) ∈ news) (hd : o.IsDictOf (PySem.strKind prog w) kvs) (lo : (d == sysModules) = false)
    (h : ∀ I h' St, ItM prog w A h₀ L [(d, o)] (kvs.map (·.1)) (fun (k : Str) v => ∃ t, v = .str k t) I St → St 0 h' → Fr h₀ L h' m → News h₀ L h' news → (∀ q ∈ news, q.1 ≠ I) → Q (.ref I) { s with heap := h' }) :
    wpAny (model prog w) A (pyIter (.ref d)) Q E s := by
  obtain ⟨ep, hat⟩ := (kda_dict N hm hd).dictAt
  have hne : d ≠ s.heap.objs.size := Nat.ne_of_lt hat.lt_size
  refine wpAny_pyIter_dict lo hat ?_
  have W := Walks.dictKeys (knd := PySem.strKind prog w) hh s.heap.objs.size d hne kvs ep
  have hlen : (kvs.map (·.1)).length = kvs.length := List.length_map ..
  have up : ∀ b o', s.heap.get? b = some o' → (s.heap.push { cls := .type "dict_keyiterator", data := .fields #[.ref d, .int 0 0, .int kvs.length 0, .int ep 0] }).get? b = some o' := fun b o' e => Heap.get?_push_of_some _ e
  refine h s.heap.objs.size _ (fun i h => h.IsKeyIter s.heap.objs.size d i kvs.length ep ∧ h.DictAt (PySem.strKind prog w) d kvs ep) (ItM.ofWalks (by rw [hlen]; exact W) (fun i a v ha hv => ?_) (fun i h st => by obtain ⟨o, e, _⟩ := st.1; exact ⟨o, e⟩) (fun b hb => ?_) (next_is_new F) (Nat.ne_of_gt F.ns.lt)) ⟨⟨_, Heap.get?_push_size _ rfl, rfl, rfl⟩, hat.push _⟩ (F.keeps up) (N.grown up)
    (fun q hq => Nat.ne_of_lt (Heap.lt_size (N q hq).1))
  · obtain ⟨k, x, hx, hk⟩ := hv
    rw [List.getElem?_map, hx] at ha
    have : k = a := by simpa using ha
    subst this
    obtain ⟨t, rfl⟩ := Value.isStrOf_shape hk
    exact ⟨t, rfl⟩
  · rcases List.mem_cons.mp hb with rfl | hb
    · exact .inl rfl
    · rw [List.mem_singleton.mp hb]; exact .inr (.inr ⟨o, List.mem_singleton.mpr rfl⟩)
/-- a for over a dict's keys -/
theorem for_dict {kvs : List (Str × Value)} {d : Addr} {o : Obj} {target : Expr} {body : List Stmt} {J : Nat → (Str → Option Value) → Led → Prop} {Q : Flow → Shared → Prop}
    (hh : A.handled = none) (F : Fr h₀ env.locals s.heap m) (N : News h₀ env.locals s.heap news) (hm : (d, o) ∈ news) (hd : o.IsDictOf (PySem.strKind prog w) kvs) (lo : (d == sysModules) = false) (hJ : J 0 m news)
    (hkeep : ∀ i m₁ news₁, J i m₁ news₁ → (d, o) ∈ news₁)
    (turn : ∀ (i : Nat) a t m₁ news₁ (I : Addr) (oI : Obj) h tk, (kvs.map (·.1))[i]? = some a → J i m₁ news₁ → Fr h₀ env.locals h m₁ → News h₀ env.locals h ((I, oI) :: news₁) → (∀ q ∈ news₁, q.1 ≠ I) →
      wpAny (model prog w) A (assign target env (.str a t)) (fun _ s₃ => wpAny (model prog w) A (execs body env) (fun f s₄ => match f with
        | .ret v => Q (.ret v) s₄
        | .brk => Q .next s₄
        | _ => TurnI h₀ env.locals s.gens s.drawn s.os I oI (J (i + 1)) s₄) (fun _ _ => False) s₃) (fun _ _ => False) { s with heap := h, toks := tk })
    (fin : ∀ h' tk m₁ news₁, J kvs.length m₁ news₁ → Fr h₀ env.locals h' m₁ → News h₀ env.locals h' news₁ → Q .next { s with heap := h', toks := tk }) :
    wpAny (model prog w) A (pyIter (.ref d)) (ForAt prog w A h₀ env target body (kvs.map (·.1)) (fun (k : Str) v => ∃ t, v = .str k t) J Q E) E s := by
  refine src_dict hh F N hm hd lo ?_
  intro I h' St W hst F' N' off
  refine ForAt.intro W hst F' N' off hJ (fun i m₁ news₁ hJ q hq => by rw [List.mem_singleton.mp hq]; exact hkeep i m₁ news₁ hJ) ?_ ?_
  · rintro i a v m₁ news₁ I oI h tk hi ⟨t, rfl⟩ hJ F N off
    exact turn i a t m₁ news₁ I oI h tk hi hJ F N off
  · intro h' tk m₁ news₁ hJ F N
    rw [List.length_map] at hJ
    exact fin h' tk m₁ news₁ hJ F N
end
end
section
open PySem PySem.Spec PySem.Calls PySem.W PyProof.Rows PyProof.Rows.LCg
/-- a list of six that _law_cells can part -/
noncomputable def Obs (H0 : Heap) (S0 : Led) (a : Addr) (c0 : Nat → Nat) : Prop := ∃ (its : Array Value) (n : Nat) (e : Value → Value → Bool), (a, ({ cls := .type "list", data := .seq its n } : Obj)) ∈ S0 ∧ its.size = 6 ∧
  (∀ (A' : Around) (s' : Shared) (y x : Value), A'.units + 2 < cLine → y ∈ its → x ∈ its → (∀ p ∈ S0, s'.heap.get? p.1 = some p.2) → (∀ b o, H0.get? b = some o → s'.heap.get? b = some o) → SeqAt.EqAt A' s' y x (e y x)) ∧ (∀ x, x ∈ its → e x x = true) ∧
  (its.toList.map fun x => ((its.toList.findIdx fun y => e y x : Nat) : Int)) = (List.range 6).map fun d => ((c0 d : Nat) : Int)
noncomputable def pairEq (ts : List Addr) (c : Nat → Nat) (g : Nat → Int) : Value → Value → Bool
  | .ref t, .ref u => finer c g (ts.idxOf t) (ts.idxOf u)
  | _, _ => false
theorem zip_obs {h₀ h : Heap} {L D : Addr} {TL news : Led} {ts : List Addr} {acc : Array Value} {cc : Nat} {xs ys : Array Value} {c : Nat → Nat} {g : Nat → Int} (N : News h₀ L h ((D, ({ cls := .type "list", data := .seq acc cc } : Obj)) :: (TL ++ news))) (hacc : acc.toList = ts.map Value.ref) (hlen : ts.length = 6)
    (hp : ∀ (j : Nat) t, ts[j]? = some t → ∃ x y, xs[j]? = some x ∧ ys[j]? = some y ∧ (t, ({ cls := .type "tuple", data := .seq #[x, y] } : Obj)) ∈ TL)
    (hx : ∀ j, j < 6 → ∃ t, xs[j]? = some (.int (c j : Nat) t)) (hy : ∀ j, j < 6 → ∃ t, ys[j]? = some (.int (g j) t)) :
    Obs h₀ ((D, ({ cls := .type "list", data := .seq acc cc } : Obj)) :: (TL ++ news)) D (canon (finer c g)) := by
  have tup : ∀ j t, ts[j]? = some t → ∃ u v, (t, ({ cls := .type "tuple", data := .seq #[.int (c j : Nat) u, .int (g j) v] } : Obj)) ∈ TL := by
    intro j t e
    have hj : j < 6 := by rw [← hlen]; exact (List.getElem?_eq_some_iff.mp e).1
    obtain ⟨x, y, e1, e2, e3⟩ := hp j t e
    obtain ⟨u, hu⟩ := hx j hj
    obtain ⟨v, hv⟩ := hy j hj
    rw [hu] at e1
    rw [hv] at e2
    cases e1
    cases e2
    exact ⟨u, v, e3⟩
  have idx : ∀ t, t ∈ ts → ts[ts.idxOf t]? = some t := fun t ht => by
    have h := List.idxOf_lt_length_iff.mpr ht
    rw [List.getElem?_eq_getElem h]
    exact congrArg some (List.getElem_idxOf h)
  have same : ∀ j t, ts[j]? = some t → c (ts.idxOf t) = c j ∧ g (ts.idxOf t) = g j := by
    intro j t e
    obtain ⟨u, v, h1⟩ := tup j t e
    obtain ⟨u', v', h2⟩ := tup _ t (idx t (List.mem_of_getElem? e))
    have g1 := (N _ (.tail _ (List.mem_append_left _ h1))).1
    have g2 := (N _ (.tail _ (List.mem_append_left _ h2))).1
    rw [g1] at g2
    simp only [Option.some.injEq, Obj.mk.injEq, Data.seq.injEq, Array.mk.injEq, List.cons.injEq, Value.int.injEq] at g2
    obtain ⟨-, -, ⟨⟨⟨q1, -⟩, ⟨q2, -⟩, -⟩, -⟩, -⟩ := g2
    exact ⟨by omega, q2.symm⟩
  have inTs : ∀ y, y ∈ acc → ∃ t, t ∈ ts ∧ y = .ref t := by
    intro y hy
    have : y ∈ acc.toList := by simpa using hy
    rw [hacc] at this
    obtain ⟨t, ht, rfl⟩ := List.mem_map.mp this
    exact ⟨t, ht, rfl⟩
  refine ⟨acc, cc, pairEq ts c g, .head _, ?_, ?_, ?_, ?_⟩
  · have := congrArg List.length hacc
    simpa [hlen] using this
  · intro A' s' y x hu hy hx hk _
    obtain ⟨t, ht, rfl⟩ := inTs y hy
    obtain ⟨u, hu', rfl⟩ := inTs x hx
    obtain ⟨p1, p2, h1⟩ := tup _ t (idx t ht)
    obtain ⟨p3, p4, h2⟩ := tup _ u (idx u hu')
    have := eqAt_pairs (A := A') (s := s') (hk _ (.tail _ (List.mem_append_left _ h1))) (hk _ (.tail _ (List.mem_append_left _ h2))) hu
    have e : (decide (((c (ts.idxOf t) : Nat) : Int) = ((c (ts.idxOf u) : Nat) : Int)) && decide (g (ts.idxOf t) = g (ts.idxOf u))) = pairEq ts c g (.ref t) (.ref u) := by
      unfold pairEq finer
      congr 1
      exact decide_eq_decide.mpr ⟨fun h => by omega, fun h => by omega⟩
    rw [e] at this
    exact this
  · intro x hx
    obtain ⟨t, ht, rfl⟩ := inTs x hx
    simp [pairEq, finer]
  · rw [hacc]
    apply List.ext_getElem?
    intro d
    rw [List.getElem?_map, List.getElem?_map, List.getElem?_map]
    rcases Nat.lt_or_ge d 6 with hd | hd
    · have hdl : d < ts.length := by omega
      rw [List.getElem?_range hd, List.getElem?_eq_getElem hdl]
      simp only [Option.map_some]
      congr 2
      rw [List.findIdx_map]
      have hts : ts = (List.range 6).map fun k => ts.getD k 0 := by
        apply List.ext_getElem?
        intro k
        rw [List.getElem?_map]
        rcases Nat.lt_or_ge k 6 with hk | hk
        · rw [List.getElem?_range hk, List.getElem?_eq_getElem (by omega)]
          simp [List.getD_eq_getElem?_getD, List.getElem?_eq_getElem (show k < ts.length by omega)]
        · rw [List.getElem?_eq_none (by omega), List.getElem?_eq_none (by simpa using hk)]; rfl
      have hfd : ∀ k, k < 6 → ts[k]? = some (ts.getD k 0) := fun k hk => by
        simp [List.getD_eq_getElem?_getD, List.getElem?_eq_getElem (show k < ts.length by omega)]
      unfold canon
      have ed : ts[d]? = some ts[d] := List.getElem?_eq_getElem hdl
      have key : ∀ l : List Nat, (∀ k ∈ l, k < 6) → (l.map fun k => ts.getD k 0).findIdx ((fun y => pairEq ts c g y (.ref ts[d])) ∘ Value.ref) = l.findIdx fun e => finer c g e d := by
        intro l
        induction l with
        | nil => intro _; rfl
        | cons a r ih =>
          intro hl
          rw [List.map_cons, List.findIdx_cons, List.findIdx_cons, ih fun k hk => hl k (.tail _ hk)]
          have h1 := same a _ (hfd a (hl a (.head _)))
          have h2 := same d _ ed
          have : ((fun y => pairEq ts c g y (.ref ts[d])) ∘ Value.ref) (ts.getD a 0) = finer c g a d := by
            show finer c g (ts.idxOf (ts.getD a 0)) (ts.idxOf ts[d]) = finer c g a d
            unfold finer
            rw [h1.1, h1.2, h2.1, h2.2]
          rw [this]
      have := key (List.range 6) fun k hk => List.mem_range.mp hk
      rw [← hts] at this
      exact this
    · rw [List.getElem?_eq_none (by omega), List.getElem?_eq_none (by simpa using hd)]; rfl
end
section
open PySem PySem.Spec PySem.Calls PySem.W PyProof.Rows PyProof.Rows.LCg
noncomputable def names3 : List Str := [Str.ofString "bright", Str.ofString "light", Str.ofString "title"]
theorem take_next {l : List Str} {i : Nat} {n : Str} (h : l[i]? = some n) : l.take (i + 1) = l.take i ++ [n] := by rw [List.take_add_one, h]; rfl
theorem names3_fresh {i : Nat} {n : Str} (h : names3[i]? = some n) : n ∉ names3.take i := by
  rcases i with _ | _ | _ | i
  · simp
  · cases Option.some.inj h; decide +kernel
  · cases Option.some.inj h; decide +kernel
  · simp [names3] at h
theorem stored_map {l : List Str} {n : Str} {ka : Str → Addr} {D : Addr} (h : n ∉ l) : stored (l.map fun x => (x, Value.ref (ka x))) n (.ref D) = (l ++ [n]).map fun x => (x, Value.ref (if x = n then D else ka x)) := by
  unfold stored
  have h1 : ¬ ((l.map fun x => (x, Value.ref (ka x))).any fun kv => decide (kv.1 = n)) = true := by
    intro e
    obtain ⟨p, hp, hq⟩ := List.any_eq_true.mp e
    obtain ⟨x, hx, rfl⟩ := List.mem_map.mp hp
    exact h ((of_decide_eq_true hq : x = n) ▸ hx)
  rw [if_neg h1, List.map_append]
  have h2 : (l.map fun x => (x, Value.ref (ka x))) = l.map fun x => (x, Value.ref (if x = n then D else ka x)) := List.map_congr_left fun x hx => by
    have : x ≠ n := fun e => h (e ▸ hx)
    rw [if_neg this]
  rw [h2]
  simp
theorem valueAt_map {l : List Str} {n : Str} {f : Str → Value} (h : n ∈ l) : valueAt (l.map fun n => (n, f n)) n = some (f n) := by
  unfold valueAt
  induction l with
  | nil => cases h
  | cons a r ih =>
    rw [List.map_cons, List.find?_cons]
    by_cases e : a = n
    · subst e; simp
    · rw [show decide (a = n) = false from decide_eq_false e]
      rcases List.mem_cons.mp h with rfl | h
      · exact absurd rfl e
      · exact ih h
theorem stored_map_in {l : List Str} {n : Str} {ka : Str → Addr} {D : Addr} (h : n ∈ l) : stored (l.map fun x => (x, Value.ref (ka x))) n (.ref D) = l.map fun x => (x, Value.ref (if x = n then D else ka x)) := by
  unfold stored
  have h1 : ((l.map fun x => (x, Value.ref (ka x))).any fun kv => decide (kv.1 = n)) = true :=
    List.any_eq_true.mpr ⟨(n, .ref (ka n)), List.mem_map.mpr ⟨n, h, rfl⟩, by simp⟩
  rw [if_pos h1, List.map_map]
  refine List.map_congr_left fun x _ => ?_
  by_cases e : x = n
  · subst e; simp
  · simp [e]
noncomputable def GoodW (SK : Led) (kvW : List (Str × Value)) (c : Str → Nat → Nat) (nx : Str → Str) (h : Nat → Int) (f : Nat → Bool) (n : Str) : Prop :=
  (∃ (a : Addr) (its : Array Value) (ep : Nat), valueAt kvW n = some (.ref a) ∧ (a, ({ cls := .type "list", data := .seq its ep } : Obj)) ∈ SK ∧ IntsAre its.toList ((List.range 6).map (shareOf (c n) h f))) ∧
    ∀ d e, d < 6 → e < 6 → c (nx n) d = c (nx n) e → shareOf (c n) h f d = shareOf (c n) h f e
noncomputable def AptT (SK t30 t37 : Led) (K Wd PB : Addr) : Prop := (∀ q ∈ SK, q.1 ≠ K ∧ q.1 ≠ Wd ∧ q.1 ≠ PB) ∧ (∀ q ∈ t30 ++ t37, q.1 ≠ K ∧ q.1 ≠ Wd ∧ q.1 ≠ PB) ∧ (∀ q ∈ SK, ∀ p ∈ t30 ++ t37, q.1 ≠ p.1) ∧ (∀ q ∈ t30, ∀ p ∈ t37, q.1 ≠ p.1)
inductive TalkJ (w : World) (S0 : Led) (K Wd PB hl fl I : Addr) (nx : Str → Str) (h : Nat → Int) (f : Nat → Bool) (k : Nat) (m₁ : Str → Option Value) (news₁ : Led) : Prop
  | mk : (m₁ "heavy" = some (.ref hl) ∧ m₁ "fits" = some (.ref fl) ∧ m₁ "line" = some (.ref I) ∧ m₁ "known" = some (.ref K) ∧ m₁ "whispered" = some (.ref Wd)) → ∀ (oK oW : Obj) (kvW : List (Str × Value)) (ka : Str → Addr) (SK t30 t37 : Led) (c : Str → Nat → Nat) (sp li ot : Str) (us ul uo uc : Tok) (np q : Nat), m₁ "calm" = some (.int (q : Nat) uc) → m₁ "speaker" = some (.str sp us) → news₁ = (K, oK) :: (Wd, oW) :: (PB, PySem.W.listOf ([.str li ul, .str ot uo] : List Value).toArray np) :: (SK ++ (t30 ++ t37)) → oK.IsDictOf (PySem.strKind PySem.Challenge.rw_sn0056_01.prog w) (names3.map fun n => (n, Value.ref (ka n))) → oW.IsDictOf (PySem.strKind PySem.Challenge.rw_sn0056_01.prog w) kvW → kvW.length + k ≤ 100 → TabOk 30 ⟨32, 4, 41, 28⟩ (Str.ofString "_int2digits.<locals>.inner") t30 → TabOk 37 ⟨47, 4, 52, 55⟩ (Str.ofString "_digits2int.<locals>.inner") t37 → AptT SK t30 t37 K Wd PB → (∀ q ∈ S0, q ∈ SK) → (∀ n ∈ names3, ∃ ys : List Value, (ka n, ({ cls := .type "list", data := .seq ys.toArray ys.length } : Obj)) ∈ SK ∧ IntsAre ys ((List.range 6).map fun d => ((c n d : Nat) : Int))) → (∀ n ∈ names3, Valid (c n)) → (sp ∈ names3 ∧ li ∈ names3 ∧ ot ∈ names3 ∧ nx sp = li ∧ nx li = ot ∧ nx ot = sp ∧ sp ≠ li ∧ sp ≠ ot ∧ li ≠ ot) → q ≤ 3 → k = 75 - 4 * (cnt (c sp) + cnt (c li) + cnt (c ot)) - q → (1 ≤ q → GoodW SK kvW c nx h f ot) → (2 ≤ q → GoodW SK kvW c nx h f li) → (3 ≤ q → GoodW SK kvW c nx h f sp) → TalkJ w S0 K Wd PB hl fl I nx h f k m₁ news₁
theorem GoodW.mono {SK SK' : Led} {kvW kvW' : List (Str × Value)} {c c' : Str → Nat → Nat} {nx : Str → Str} {h : Nat → Int} {f : Nat → Bool} {n : Str} (G : GoodW SK kvW c nx h f n) (hs : ∀ q ∈ SK, q ∈ SK') (hv : valueAt kvW' n = valueAt kvW n) (h1 : ∀ d, d < 6 → c' n d = c n d) (h2 : ∀ d, d < 6 → c' (nx n) d = c (nx n) d) : GoodW SK' kvW' c' nx h f n := by
  obtain ⟨⟨a, its, ep, g1, g2, g3⟩, g4⟩ := G
  have sh : ∀ d, d < 6 → shareOf (c' n) h f d = shareOf (c n) h f d := by
    intro d hd
    have := congrArg (fun l => l[d]?) (shareOf_congr (h := h) (f := f) h1)
    simpa [List.getElem?_range hd] using this
  refine ⟨⟨a, its, ep, hv.trans g1, hs _ g2, ?_⟩, fun d e hd he hc => ?_⟩
  · rw [shareOf_congr h1]; exact g3
  · rw [sh d hd, sh e he]
    rw [h2 d hd, h2 e he] at hc
    exact g4 d e hd he hc
theorem talk_turn {w : World} {S0 SK t30 t37 : Led} {K Wd PB hl fl I Dw Df : Addr} {nx : Str → Str} {h : Nat → Int} {f : Nat → Bool} {k q : Nat} {m₁ : Str → Option Value} {oK oW : Obj} {kvW : List (Str × Value)} {ka : Str → Addr} {c : Str → Nat → Nat} {sp li ot : Str} {us ul uo uc : Tok} {np ep q' : Nat} {its : Array Value} {ys : List Value}
    (m1 : m₁ "heavy" = some (.ref hl)) (m2 : m₁ "fits" = some (.ref fl)) (m3 : m₁ "line" = some (.ref I)) (m4 : m₁ "known" = some (.ref K)) (m5 : m₁ "whispered" = some (.ref Wd)) (m6 : m₁ "calm" = some (.int (q' : Nat) uc)) (m7 : m₁ "speaker" = some (.str li us))
    (dK : oK.IsDictOf (PySem.strKind PySem.Challenge.rw_sn0056_01.prog w) (stored (names3.map fun n => (n, Value.ref (ka n))) li (.ref Df))) (dW : oW.IsDictOf (PySem.strKind PySem.Challenge.rw_sn0056_01.prog w) (stored kvW sp (.ref Dw))) (hkv : kvW.length + k ≤ 100)
    (T30 : TabOk 30 ⟨32, 4, 41, 28⟩ (Str.ofString "_int2digits.<locals>.inner") t30) (T37 : TabOk 37 ⟨47, 4, 52, 55⟩ (Str.ofString "_digits2int.<locals>.inner") t37)
    (A1 : ∀ q ∈ SK, q.1 ≠ K ∧ q.1 ≠ Wd ∧ q.1 ≠ PB) (A2 : ∀ q ∈ t30 ++ t37, q.1 ≠ K ∧ q.1 ≠ Wd ∧ q.1 ≠ PB) (A3 : ∀ q ∈ SK, ∀ p ∈ t30 ++ t37, q.1 ≠ p.1) (A4 : ∀ q ∈ t30, ∀ p ∈ t37, q.1 ≠ p.1)
    (A5 : Dw ≠ K ∧ Dw ≠ Wd ∧ Dw ≠ PB) (A6 : ∀ p ∈ t30 ++ t37, Dw ≠ p.1) (A7 : Df ≠ K ∧ Df ≠ Wd ∧ Df ≠ PB) (A8 : ∀ p ∈ t30 ++ t37, Df ≠ p.1)
    (B0 : ∀ q ∈ S0, q ∈ SK) (C0 : ∀ n ∈ names3, ∃ ys : List Value, (ka n, ({ cls := .type "list", data := .seq ys.toArray ys.length } : Obj)) ∈ SK ∧ IntsAre ys ((List.range 6).map fun d => ((c n d : Nat) : Int))) (V0 : ∀ n ∈ names3, Valid (c n))
    (hn : sp ∈ names3 ∧ li ∈ names3 ∧ ot ∈ names3 ∧ nx sp = li ∧ nx li = ot ∧ nx ot = sp ∧ sp ≠ li ∧ sp ≠ ot ∧ li ≠ ot) (hq : q < 3) (hk : k = 75 - 4 * (cnt (c sp) + cnt (c li) + cnt (c ot)) - q)
    (G1 : 1 ≤ q → GoodW SK kvW c nx h f ot) (G2 : 2 ≤ q → GoodW SK kvW c nx h f li)
    (hits : IntsAre its.toList ((List.range 6).map (shareOf (c sp) h f))) (hys : IntsAre ys ((List.range 6).map fun d => ((canon (finer (c li) (shareOf (c sp) h f)) d : Nat) : Int)))
    (hq' : ((∀ d, d < 6 → canon (finer (c li) (shareOf (c sp) h f)) d = c li d) ∧ q' = q + 1) ∨ ((∃ d, d < 6 ∧ canon (finer (c li) (shareOf (c sp) h f)) d ≠ c li d) ∧ q' = 0)) :
    ∃ k', k' < k ∧ TalkJ w S0 K Wd PB hl fl I nx h f k' m₁ ((K, oK) :: (Wd, oW) :: (PB, PySem.W.listOf ([.str ot uo, .str sp ul] : List Value).toArray np) :: (((Df, lst ys) :: (Dw, ({ cls := .type "list", data := .seq its ep } : Obj)) :: SK) ++ (t30 ++ t37))) := by
  obtain ⟨y1, y2, y3, y4, y5, y6, y7, y8, y9⟩ := hn
  rw [stored_map_in y2] at dK
  have b1 := cnt_le (c sp)
  have b2 := cnt_le (c li)
  have b3 := cnt_le (c ot)
  have b4 := cnt_le (canon (finer (c li) (shareOf (c sp) h f)))
  have hsub : ∀ q ∈ SK, q ∈ (Df, lst ys) :: (Dw, ({ cls := .type "list", data := .seq its ep } : Obj)) :: SK := fun q hq => .tail _ (.tail _ hq)
  have e1 : (if sp = li then canon (finer (c li) (shareOf (c sp) h f)) else c sp) = c sp := if_neg y7
  have e2 : (if ot = li then canon (finer (c li) (shareOf (c sp) h f)) else c ot) = c ot := if_neg (Ne.symm y9)
  have e3 : (if li = li then canon (finer (c li) (shareOf (c sp) h f)) else c li) = canon (finer (c li) (shareOf (c sp) h f)) := if_pos rfl
  have hlen : (stored kvW sp (.ref Dw)).length ≤ kvW.length + 1 := stored_len
  have mk : ∀ k', k' < k → k' = 75 - 4 * (cnt (canon (finer (c li) (shareOf (c sp) h f))) + cnt (c ot) + cnt (c sp)) - q' → q' ≤ 3 →
      (1 ≤ q' → GoodW ((Df, lst ys) :: (Dw, ({ cls := .type "list", data := .seq its ep } : Obj)) :: SK) (stored kvW sp (.ref Dw)) (fun n => if n = li then canon (finer (c li) (shareOf (c sp) h f)) else c n) nx h f sp) →
      (2 ≤ q' → GoodW ((Df, lst ys) :: (Dw, ({ cls := .type "list", data := .seq its ep } : Obj)) :: SK) (stored kvW sp (.ref Dw)) (fun n => if n = li then canon (finer (c li) (shareOf (c sp) h f)) else c n) nx h f ot) →
      (3 ≤ q' → GoodW ((Df, lst ys) :: (Dw, ({ cls := .type "list", data := .seq its ep } : Obj)) :: SK) (stored kvW sp (.ref Dw)) (fun n => if n = li then canon (finer (c li) (shareOf (c sp) h f)) else c n) nx h f li) →
      TalkJ w S0 K Wd PB hl fl I nx h f k' m₁ ((K, oK) :: (Wd, oW) :: (PB, PySem.W.listOf ([.str ot uo, .str sp ul] : List Value).toArray np) :: (((Df, lst ys) :: (Dw, ({ cls := .type "list", data := .seq its ep } : Obj)) :: SK) ++ (t30 ++ t37))) := by
    intro k' hk' hk2 hq3 g1 g2 g3
    refine ⟨⟨m1, m2, m3, m4, m5⟩, oK, oW, _, _, (Df, lst ys) :: (Dw, ({ cls := .type "list", data := .seq its ep } : Obj)) :: SK, t30, t37, (fun n => if n = li then canon (finer (c li) (shareOf (c sp) h f)) else c n), li, ot, sp, us, uo, ul, uc, np, q', m6, m7, rfl, dK, dW, by omega, T30, T37, ⟨fun q hq => ?_, A2, fun q hq p hp => ?_, A4⟩, fun q hq => hsub q (B0 q hq), fun n hn => ?_, fun n hn => ?_, ⟨y2, y3, y1, y5, y6, y4, y9, Ne.symm y7, Ne.symm y8⟩, hq3, ?_, g1, g2, g3⟩
    · rcases List.mem_cons.mp hq with rfl | hq
      · exact A7
      rcases List.mem_cons.mp hq with rfl | hq
      · exact A5
      · exact A1 q hq
    · rcases List.mem_cons.mp hq with rfl | hq
      · exact A8 p hp
      rcases List.mem_cons.mp hq with rfl | hq
      · exact A6 p hp
      · exact A3 q hq p hp
    · by_cases e : n = li
      · subst e
        refine ⟨ys, by rw [if_pos rfl]; exact .head _, ?_⟩
        simp only [if_pos]
        exact hys
      · obtain ⟨zs, z1, z2⟩ := C0 n hn
        refine ⟨zs, by rw [if_neg e]; exact hsub _ z1, ?_⟩
        simp only [if_neg e]
        exact z2
    · by_cases e : n = li
      · subst e
        simp only [if_pos]
        exact finer_valid
      · simp only [if_neg e]
        exact V0 n hn
    · simp only [e1, e2, e3]
      exact hk2
  rcases hq' with ⟨hc, rfl⟩ | ⟨hc, rfl⟩
  · have ec : cnt (canon (finer (c li) (shareOf (c sp) h f))) = cnt (c li) := by
      unfold cnt
      congr 1
      exact List.filter_congr fun d hd => by rw [hc d (List.mem_range.mp hd)]
    have cc : ∀ n d, d < 6 → (if n = li then canon (finer (c li) (shareOf (c sp) h f)) else c n) d = c n d := by
      intro n d hd
      by_cases e : n = li
      · subst e; rw [if_pos rfl]; exact hc d hd
      · rw [if_neg e]
    refine ⟨75 - 4 * (cnt (canon (finer (c li) (shareOf (c sp) h f))) + cnt (c ot) + cnt (c sp)) - (q + 1), by rw [hk, ec]; exact tm2 hq b1 b2 b3, mk _ (by omega) rfl (by omega) (fun _ => ?_) (fun h2 => ?_) (fun h3 => ?_)⟩
    · refine ⟨⟨Dw, its, ep, by rw [valueAt_stored, if_pos rfl], .tail _ (.head _), ?_⟩, fun d e hd he hcd => ?_⟩
      · dsimp only; rw [e1]; exact hits
      · dsimp only at hcd ⊢
        rw [e1]
        rw [y4, e3, hc d hd, hc e he] at hcd
        exact finer_same hc hd he hcd
    · exact (G1 (by omega)).mono hsub (by rw [valueAt_stored, if_neg (Ne.symm y8)]) (cc _) (cc _)
    · exact (G2 (by omega)).mono hsub (by rw [valueAt_stored, if_neg (Ne.symm y7)]) (cc _) (cc _)
  · have := finer_cnt (V0 li y2) hc
    exact ⟨75 - 4 * (cnt (canon (finer (c li) (shareOf (c sp) h f))) + cnt (c ot) + cnt (c sp)) - 0, by rw [hk]; exact tm5 hq b1 b4 b3 this, mk _ (by omega) rfl (by omega) (fun h => absurd h (by decide)) (fun h => absurd h (by decide)) (fun h => absurd h (by decide))⟩
end
section
open PySem
set_option autoImplicit false

noncomputable def mergeB (bl : Nat → Nat) (one other : Nat) (d : Nat) : Nat := if bl d = other then one else bl d

noncomputable def Tight (c : Str → Nat → Nat) (bl : Nat → Nat) : Prop :=
  ∀ R : Nat → Nat → Prop, (∀ d, R d d) → (∀ d e, R d e → R e d) → (∀ d e g, R d e → R e g → R d g) →
    (∀ n ∈ names3, ∀ k, k < 6 → R k (c n k)) → ∀ d e, d < 6 → e < 6 → bl d = bl e → R d e

theorem Tight.id (c : Str → Nat → Nat) : Tight c (fun d => d) := by
  intro R hr hs ht hc d e hd he h
  have h' : d = e := h
  subst h'
  exact hr d

theorem Tight.merge {c : Str → Nat → Nat} {bl : Nat → Nat} (T : Tight c bl) {n : Str} (hn : n ∈ names3) {k : Nat}
    (hk : k < 6) (hc : c n k < 6) : Tight c (mergeB bl (bl k) (bl (c n k))) := by
  intro R hr hs ht hR d e hd he h
  have hT := T R hr hs ht hR
  have hkc : R k (c n k) := hR n hn k hk
  unfold mergeB at h
  by_cases h1 : bl d = bl (c n k)
  · by_cases h2 : bl e = bl (c n k)
    · exact hT d e hd he (h1.trans h2.symm)
    · rw [if_pos h1, if_neg h2] at h
      exact ht _ _ _ (hT d (c n k) hd hc h1) (ht _ _ _ (hs _ _ hkc) (hT k e hk he h))
  · by_cases h2 : bl e = bl (c n k)
    · rw [if_neg h1, if_pos h2] at h
      exact ht _ _ _ (hT d k hd hk h) (ht _ _ _ hkc (hT (c n k) e hc he h2.symm))
    · rw [if_neg h1, if_neg h2] at h
      exact hT d e hd he h

theorem mergeB_keep {bl : Nat → Nat} {a b x y : Nat} (h : bl x = bl y) : mergeB bl a b x = mergeB bl a b y := by
  unfold mergeB; rw [h]

theorem mergeB_join {bl : Nat → Nat} {k e : Nat} : mergeB bl (bl k) (bl e) k = mergeB bl (bl k) (bl e) e := by
  unfold mergeB
  rw [if_pos rfl]
  by_cases h : bl k = bl e
  · rw [if_pos h]
  · rw [if_neg h]
end
section
open PySem PySem.Spec PySem.Calls PySem.W PyProof.Rows
set_option autoImplicit false
/-- a block cut after its first statement -/
theorem cut {M : Model} {A : Around} {st : Stmt} {rest : List Stmt} {env : Env} {Q : Flow → Shared → Prop} {E : Value → Shared → Prop} {s : Shared} (Q1 : Shared → Prop)
    (h1 : wpAny M A (exec st env) (fun f s' => f = .next ∧ Q1 s') E s) (h2 : ∀ s', Q1 s' → wpAny M A (execs rest env) Q E s') : wpAny M A (execs (st :: rest) env) Q E s := by
  refine wpAny_execs_cons (wpAny_mono h1 (fun f s' hf => ?_) fun _ _ h => h)
  obtain ⟨rfl, hq⟩ := hf
  exact h2 s' hq
end
section
open PySem PySem.Spec PySem.Calls PySem.W PyProof.Rows PyProof.Rows.LCg
section
variable {prog : Program} {w : World} {A : Around} {E : Value → Shared → Prop} {s : Shared} {h₀ : Heap} {L : Addr} {m : Str → Option Value} {env : Env} {news : Led}

theorem letGo_li {elts : List Expr} {x1} {pos : Pos} {I a : Addr} {oI : Obj} {Q : Unit → Shared → Prop} (ho : s.heap.get? I = some oI) (hc : oI.cls = .type "list_iterator") (hQ : Q () s) :
    wpAny (model prog w) A (letOwnedTupleGo (.Tuple elts x1 pos) (.ref I) (.ref a)) Q E s := by
  unfold letOwnedTupleGo
  refine wpAny_bind (wpAny_load ho ?_)
  rw [hc]
  cases oI.data with
  | fields vs =>
    dsimp only
    rw [if_neg (by
      intro h
      rw [show (["enumerate", "zip", "dict_itemiterator", "dict_reverseitemiterator", "odict_iterator", "itertools.zip_longest", "itertools.pairwise"].contains "list_iterator") = false from by decide, Bool.false_and] at h
      cases h)]
    exact wpAny_pure hQ
  | _ => exact wpAny_pure hQ

theorem asg_nameX {scope : Scope} {cl : List (Str × Addr)} {C : Addr} {oC : Obj} {m₁ : Str → Option Value} {led : Led} {x : Str} {xp : Pos} {v : Value} {Q : Unit → Shared → Prop}
    (hC : NsObj oC m₁) (F : Fr h₀ L s.heap m) (N : News h₀ L s.heap ((C, oC) :: led)) (off : ∀ p ∈ led, p.1 ≠ C)
    (hx : scope.names.lookup x = some .local) (hkind : scope.kind = .function)
    (h : ∀ oC' h' tk, NsObj oC' (fun z => if z = x then some v else m₁ z) → Fr h₀ L h' m → News h₀ L h' ((C, oC') :: led) → Q () { s with heap := h', toks := tk }) :
    wpAny (model prog w) A (assign (.Name x xp) (compEnvC scope cl C env) v) Q E s := by
  have z := N _ (.head _)
  refine wpAny_assign_Name (wpAny_storeName_local (lookup_relabel_local hx) (hC.ns z.1) (fun h' hn hs => ?_) (by simp [compEnvC, relabel, hkind]))
  obtain ⟨oC', e', hC'⟩ := ns_obj hn
  have up : ∀ b o, b ≠ C → s.heap.get? b = some o → h'.get? b = some o := fun b o hb e => hs.extBut b o hb e
  exact h oC' h' _ hC' (Fr.but1 F up (Ne.symm z.2.1) z.2.2) (News.cons e' z.2.1 z.2.2 (News.but1 (fun p hp => N p (.tail _ hp)) up off))

/-- a comprehension over a list of tuples of four, whose items make nothing new -/
theorem comp_tup4 {α : Type} {as : List α} {D : α → Addr} {nn : α → Nat} {V1 V2 V3 V4 : α → Value} {l : Addr} {its : Array Value} {n : Nat} {x1 x2 x3 x4 : Str} {p1 p2 p3 p4 pos : Pos} {k} {elt : Expr} {ifs : List Expr} {scope : Scope} {cl : List (Str × Addr)} {p : α → Bool} {V : α → Value → Prop} {Fin : Addr → List Value → Led → Led → Shared → Prop}
    (hh : A.handled = none) (F : Fr h₀ L s.heap m) (N : News h₀ L s.heap news) (hm : (l, ({ cls := .type "list", data := .seq its n } : Obj)) ∈ news) (hV : AllV (fun a v => v = .ref (D a)) as its.toList) (hsz : as.length ≤ 1000)
    (hD : ∀ a ∈ as, (D a, ({ cls := .type "tuple", data := .seq #[V1 a, V2 a, V3 a, V4 a] (nn a) } : Obj)) ∈ news)
    (hx1 : scope.names.lookup x1 = some .local) (hx2 : scope.names.lookup x2 = some .local) (hx3 : scope.names.lookup x3 = some .local) (hx4 : scope.names.lookup x4 = some .local) (hkind : scope.kind = .function)
    (hne : x1 ≠ x2 ∧ x1 ≠ x3 ∧ x1 ≠ x4 ∧ x2 ≠ x3 ∧ x2 ≠ x4 ∧ x3 ≠ x4)
    (htest : ∀ a C oC m₁ own (s : Shared) (Q : Bool → Shared → Prop) (E' : Value → Shared → Prop), a ∈ as → m₁ x1 = some (V1 a) → m₁ x2 = some (V2 a) → m₁ x3 = some (V3 a) → m₁ x4 = some (V4 a) → NsObj oC m₁ → Fr h₀ L s.heap m → News h₀ L s.heap ((C, oC) :: (own ++ news)) →
      (∀ h' tk, Fr h₀ L h' m → News h₀ L h' ((C, oC) :: (own ++ news)) → Q (p a) { s with heap := h', toks := tk }) →
      wpAny (model prog w) A (forIn ifs true fun c r => if r = true then do let ok ← isTrue c (compEnvC scope cl C env) (eval c (compEnvC scope cl C env)); pure (ForInStep.yield ok) else pure (ForInStep.yield r)) Q E' s)
    (helt : ∀ a C oC m₁ own (s : Shared) (Q : Value → Shared → Prop) (E' : Value → Shared → Prop), a ∈ as → p a = true → m₁ x1 = some (V1 a) → m₁ x2 = some (V2 a) → m₁ x3 = some (V3 a) → m₁ x4 = some (V4 a) → NsObj oC m₁ → Fr h₀ L s.heap m → News h₀ L s.heap ((C, oC) :: (own ++ news)) →
      (∀ y h' tk, V a y → Fr h₀ L h' m → News h₀ L h' ((C, oC) :: (own ++ news)) → Q y { s with heap := h', toks := tk }) →
      wpAny (model prog w) A (eval elt (compEnvC scope cl C env)) Q E' s)
    (fin : ∀ R ys h tk, AllV V (as.filter p) ys → (∀ q ∈ news, q.1 < R) → Fr h₀ L h m → News h₀ L h ((R, lst ys) :: news) → Fin R ys [] news { s with heap := h, toks := tk }) :
    wpAny (model prog w) A (pyIter (.ref l)) (CompAt prog w A h₀ L m env scope cl (.Tuple [.Name x1 p1, .Name x2 p2, .Name x3 p3, .Name x4 p4] k pos) ifs elt as (fun a v => v = .ref (D a)) p (fun a y tl => tl = [] ∧ V a y)
      (fun a _ m₁ => m₁ x1 = some (V1 a) ∧ m₁ x2 = some (V2 a) ∧ m₁ x3 = some (V3 a) ∧ m₁ x4 = some (V4 a)) Fin) E s := by
  obtain ⟨n12, n13, n14, n23, n24, n34⟩ := hne
  have hlen : its.size = as.length := by have := hV.length; rw [Array.length_toList] at this; exact this
  refine src_list (o := { cls := .type "list", data := .seq its n }) (its := its) (as := as) (Is := fun a v => v = .ref (D a)) hh F N hm rfl ⟨n, rfl⟩ hlen ?_ ?_
  · intro i a v h1 h2
    obtain ⟨y, hy, hv⟩ := hV.get h1
    rw [Array.getElem?_toList, h2] at hy
    rw [Option.some.inj hy]; exact hv
  intro I h' St W hst F' N' off hLI
  refine ⟨I, St, _, news, rfl, W, by rw [sizeLine_eq]; omega, hst, F', N', fun q hq => by rw [List.mem_singleton.mp hq]; exact hm, off, ⟨?_, ?_, ?_, ?_⟩, ?_⟩
  · rintro i a v s Q E' ha rfl hSt hF hN hq
    obtain ⟨oI, ho, hc⟩ := hLI _ _ hSt
    exact letGo_li ho hc hq
  · rintro a v C oC m₁ own s Q E' ha rfl hC F N off h
    have hmem := hD a ha
    refine unpackN_ F N (News.isTup N (.tail _ (List.mem_append_right _ hmem))) hh rfl rfl fun h₁ F₁ N₁ => ?_
    refine assignInOrder_cons (asg_nameX hC F₁ N₁ off hx1 hkind fun o1 h1 t1 C1 F1 N1 => ?_)
    refine assignInOrder_cons (asg_nameX C1 F1 N1 off hx2 hkind fun o2 h2 t2 C2 F2 N2 => ?_)
    refine assignInOrder_cons (asg_nameX C2 F2 N2 off hx3 hkind fun o3 h3 t3 C3 F3 N3 => ?_)
    refine assignInOrder_cons (asg_nameX C3 F3 N3 off hx4 hkind fun o4 h4 t4 C4 F4 N4 => ?_)
    refine assignInOrder_nil ?_
    refine h o4 _ h4 t4 C4 ⟨?_, ?_, ?_, ?_⟩ F4 N4
    · simp [n12, n13, n14]
    · simp [n23, n24]
    · simp [n34]
    · simp
  · rintro a v C oC m₁ own s Q E' ha rfl ⟨b1, b2, b3, b4⟩ hC F N h
    exact htest a C oC m₁ own s Q E' ha b1 b2 b3 b4 hC F N h
  · rintro a v C oC m₁ own s₅ Q₅ E' ha rfl hp ⟨b1, b2, b3, b4⟩ hC F₅ N₅ hQ₅
    exact helt a C oC m₁ own s₅ Q₅ E' ha hp b1 b2 b3 b4 hC F₅ N₅ fun y h' tk hV F' N' => hQ₅ y [] h' tk ⟨rfl, hV⟩ F' N' fun _ h => nomatch h
  · intro R ys TL h₃ tk₃ G hTL hR F₃ N₃
    obtain ⟨rfl, hi⟩ := G.allV
    exact fin R ys h₃ tk₃ hi hR F₃ N₃

/-- a comprehension over a range, whose items may make new things -/
theorem comp_rangeR {n : Nat} {r : Addr} {t u v : Tok} {x : Str} {xp : Pos} {elt : Expr} {scope : Scope} {cl : List (Str × Addr)} {R : Nat → Value → Led → Prop} {Fin : Addr → List Value → Led → Led → Shared → Prop}
    (hh : A.handled = none) (F : Fr h₀ L s.heap m) (N : News h₀ L s.heap news) (hr : IsRange s.heap r 0 (n : Int) 1 t u v) (hn : n ≤ 1000) (hx : scope.names.lookup x = some .local) (hkind : scope.kind = .function)
    (helt : ∀ (a : Nat) v C oC m₁ own (s : Shared) (Q : Value → Shared → Prop) (E' : Value → Shared → Prop), a < n → (∃ t, v = .int (a : Int) t) → m₁ x = some v → NsObj oC m₁ → Fr h₀ L s.heap m → News h₀ L s.heap ((C, oC) :: (own ++ news)) →
      (∀ y tl h' tk, R a y tl → Fr h₀ L h' m → News h₀ L h' (tl ++ (C, oC) :: (own ++ news)) → (∀ q ∈ tl, ∀ p ∈ (C, oC) :: (own ++ news), p.1 < q.1) → Q y { s with heap := h', toks := tk }) →
      wpAny (model prog w) A (eval elt (compEnvC scope cl C env)) Q E' s)
    (fin : ∀ D ys TL h tk, Got R (List.range n) ys TL → (∀ q ∈ TL, D < q.1) → (∀ q ∈ news, q.1 < D) → Fr h₀ L h m → News h₀ L h ((D, lst ys) :: (TL ++ news)) → Fin D ys TL news { s with heap := h, toks := tk }) :
    wpAny (model prog w) A (pyIter (.ref r)) (CompAt prog w A h₀ L m env scope cl (.Name x xp) [] elt (List.range n) (fun (i : Nat) v => ∃ t, v = .int (i : Int) t) (fun _ => true) R (fun _ v m₁ => m₁ x = some v) Fin) E s := by
  refine src_range hh F N hr hn ?_
  intro I h' St W hst F' N' off
  refine ⟨I, St, _, news, rfl, W, by rw [List.length_range, sizeLine_eq]; omega, hst, F', N', (fun _ h => nomatch h), off, ⟨?_, ?_, ?_, ?_⟩, ?_⟩
  · intro i a v s Q E' _ _ _ _ _ hq
    exact wpAny_pure hq
  · intro a v C oC m₁ own s Q E' _ _ hC F N off h
    exact asg_name hC F N off hx hkind h
  · intro a v C oC m₁ own s Q E' ha hv hB hC F N h
    exact test_nil (h _ _ F N)
  · intro a v C oC m₁ own s₅ Q₅ E' ha hv hp hB hC F₅ N₅ hQ₅
    exact helt a v C oC m₁ own s₅ Q₅ E' (List.mem_range.mp ha) hv hB hC F₅ N₅ hQ₅
  · intro D ys TL h₃ tk₃ G hTL hD F₃ N₃
    have hf : (List.range n).filter (fun _ => true) = List.range n := List.filter_eq_self.mpr fun _ _ => rfl
    rw [hf] at G
    exact fin D ys TL h₃ tk₃ G hTL hD F₃ N₃
end
end
section
open PySem PySem.Spec PySem.Calls PySem.W PyProof.Rows PyProof.Rows.LCg
section
variable {prog : Program} {w : World} {A : Around} {E : Value → Shared → Prop} {s : Shared} {h₀ : Heap} {L : Addr} {m : Str → Option Value} {env : Env} {news : Led}
/-- a comprehension kept in a name that is a cell -/
theorem Assign_ListComp_C {α : Type} {elt target iter : Expr} {ifs : List Expr} {scope : Scope} {cl : List (Str × Addr)} {pos spos py : Pos} {y : Str} {Q : Flow → Shared → Prop}
    (F₀ : Fr h₀ L s.heap m) (as : List α) (Is : α → Value → Prop) (p : α → Bool) (R : α → Value → Led → Prop) (Bd : α → Value → (Str → Option Value) → Prop)
    (hsw : swapsWith (.ListComp elt [⟨target, iter, ifs, 0⟩] scope pos) (some (.Name y py)) spos.line env = pure false)
    (hclos : closureFor scope env = pure cl) (hcell : ∀ y ∈ scope.names, y.2 ≠ .cell) (hkind : scope.kind = .function) (hnames : ∀ y ∈ scope.names, y.2 = .local → scope.names.lookup y.1 = some .local)
    (h : wpAny (model prog w) A (eval iter env) (fun xv s₁ => wpAny (model prog w) A (pyIter xv) (CompAt prog w A h₀ L m env scope cl target ifs elt as Is p R Bd
      (fun D _ _ _ s' => wpAny (model prog w) A (bindName env y (.ref D)) (fun _ s'' => Q .next s'') E s')) E s₁) E s)
    (hs : ∀ x, foldedSetIterable iter env x = pure x) :
    wpAny (model prog w) A (exec (.Assign [.Name y py] (.ListComp elt [⟨target, iter, ifs, 0⟩] scope pos) spos) env) Q E s := by
  rw [exec_Assign_Name _ _ _ _ _ hsw]
  refine wpAny_bind (wpAny_standAt (wpAny_bind ?_))
  refine wpAny_mono (ListComp_M (Q := fun v s' => ∃ D, v = .ref D ∧ wpAny (model prog w) A (bindName env y (.ref D)) (fun _ s'' => Q .next s'') E s') F₀ as Is p R Bd hclos hcell hkind hnames (wpAny_mono h (fun xv s₁ h₁ => wpAny_mono h₁ (fun it s₂ h₂ => ?_) fun _ _ e => e) fun _ _ e => e) hs) (fun v s' hv => ?_) fun _ _ e => e
  · obtain ⟨I, St, src, news, rfl, W, hsz, hst, F, N, hsrc, off, ok, fin⟩ := h₂
    exact ⟨I, St, src, news, rfl, W, hsz, hst, F, N, hsrc, off, ok, fun D ys TL h tk G a b F' N' => ⟨D, rfl, fin D ys TL h tk G a b F' N'⟩⟩
  · obtain ⟨D, rfl, hv⟩ := hv
    exact wpAny_bind (wpAny_standAt (wpAny_bind (wpAny_mono hv (fun _ s'' h => wpAny_pure h) fun _ _ e => e)))
end
end
section
open PySem PySem.Spec PySem.Calls PySem.W PyProof.Rows PyProof.Rows.LCg
/-- the strongest and the weakest part of a day's colour -/
noncomputable def mxD (X : Nat → Int) (d : Nat) : Nat := max ((X d).fmod 3).toNat (max (((X d).fdiv 3).fmod 3).toNat (((X d).fdiv 9).fmod 3).toNat)
noncomputable def mnD (X : Nat → Int) (d : Nat) : Nat := min ((X d).fmod 3).toNat (min (((X d).fdiv 3).fmod 3).toNat (((X d).fdiv 9).fmod 3).toNat)
inductive PaintN (X : Nat → Int) (d : Nat) : Prop
  | mk : ∀ a0 a1 a2 : Nat, (X d).fmod 3 = (a0 : Int) → ((X d).fdiv 3).fmod 3 = (a1 : Int) → ((X d).fdiv 9).fmod 3 = (a2 : Int) → a0 < 3 → a1 < 3 → a2 < 3 → mxD X d = max a0 (max a1 a2) → mnD X d = min a0 (min a1 a2) → PaintN X d
theorem paint_nat (X : Nat → Int) (d : Nat) : PaintN X d :=
  have h0 := fmn (X d) 3 (by decide)
  have h1 := fmn ((X d).fdiv 3) 3 (by decide)
  have h2 := fmn ((X d).fdiv 9) 3 (by decide)
  ⟨_, _, _, h0.1, h1.1, h2.1, h0.2, h1.2, h2.2, rfl, rfl⟩
theorem mnx_lt (X : Nat → Int) (d : Nat) : mxD X d < 3 ∧ mnD X d < 3 ∧ mnD X d ≤ mxD X d := by
  obtain ⟨a0, a1, a2, _, _, _, l0, l1, l2, h1, h2⟩ := paint_nat X d
  rw [h1, h2]
  exact ⟨mx3_lt l0 l1 l2, mn3_lt _ _ l0, mn_mx _ _ _⟩
end
section
open PySem PySem.Spec PySem.Calls PySem.W PyProof.Rows PyProof.Rows.LCg
section
variable {prog : Program} {w : World} {A : Around} {E : Value → Shared → Prop} {s : Shared} {h₀ : Heap} {L : Addr} {m : Str → Option Value} {news : Led}
theorem max_P {l : Addr} {x y z M : Int} {t1 t2 t3 : Tok} {n : Nat} {Q : Value → Shared → Prop} (hh : A.handled = none) (F : Fr h₀ L s.heap m) (N : News h₀ L s.heap news) (hm : (l, ({ cls := .type "list", data := .seq #[.int x t1, .int y t2, .int z t3] n } : Obj)) ∈ news)
    (hM : M = max x (max y z)) (h : ∀ h' t tk, Fr h₀ L h' m → News h₀ L h' news → Q (.int M t) { s with heap := h', toks := tk }) : wpAny (model prog w) A (call (.builtin "max") [.ref l]) Q E s := by
  refine max_list_N (vs := [.int x t1, .int y t2, .int z t3]) (ns := [x, y, z]) hh F N (News.isList N hm) (.cons _ _ (.cons _ _ (.cons _ _ .nil))) (Nat.succ_pos _) ?_
  intro h' M' t tk F' N' hin hall
  have hx := hall x (by simp)
  have hy := hall y (by simp)
  have hz := hall z (by simp)
  have e : M' = M := (max3_eq hx hy hz (by simpa only [List.mem_cons, List.not_mem_nil, or_false] using hin)).trans hM.symm
  rw [e]
  exact h h' t tk F' N'
theorem min_P {l : Addr} {x y z M : Int} {t1 t2 t3 : Tok} {n : Nat} {Q : Value → Shared → Prop} (hh : A.handled = none) (F : Fr h₀ L s.heap m) (N : News h₀ L s.heap news) (hm : (l, ({ cls := .type "list", data := .seq #[.int x t1, .int y t2, .int z t3] n } : Obj)) ∈ news)
    (hM : M = min x (min y z)) (h : ∀ h' t tk, Fr h₀ L h' m → News h₀ L h' news → Q (.int M t) { s with heap := h', toks := tk }) : wpAny (model prog w) A (call (.builtin "min") [.ref l]) Q E s := by
  refine min_list_N (vs := [.int x t1, .int y t2, .int z t3]) (ns := [x, y, z]) hh F N (News.isList N hm) (.cons _ _ (.cons _ _ (.cons _ _ .nil))) (Nat.succ_pos _) ?_
  intro h' M' t tk F' N' hin hall
  have hx := hall x (by simp)
  have hy := hall y (by simp)
  have hz := hall z (by simp)
  have e : M' = M := (min3_eq hx hy hz (by simpa only [List.mem_cons, List.not_mem_nil, or_false] using hin)).trans hM.symm
  rw [e]
  exact h h' t tk F' N'
end
end
section
open PySem PySem.Spec PySem.Calls PySem.W PyProof.Rows PyProof.Rows.LCg
section
variable {prog : Program} {w : World} {A : Around} {E : Value → Shared → Prop} {s : Shared} {h₀ : Heap} {L : Addr} {m : Str → Option Value} {env : Env} {news : Led}
noncomputable def CompAtT {α : Type} (prog : Program) (w : World) (A : Around) (h₀ : Heap) (L : Addr) (m : Str → Option Value) (env : Env) (scope : Scope) (cl : List (Str × Addr)) (target : Expr) (ifs : List Expr) (elt : Expr)
    (as : List α) (Is : α → Value → Prop) (p : α → Bool) (R : α → Nat → Value → Led → Nat → Prop) (Iv : List Value → Nat → Prop) (Bd : α → Value → (Str → Option Value) → Prop) (Fin : Addr → List Value → Led → Led → Shared → Prop) (it : Value) (s₂ : Shared) : Prop :=
  ∃ (I : Addr) (St : Nat → Heap → Prop) (src news : Led), it = .ref I ∧ ItM prog w A h₀ L src as Is I St ∧ as.length ≤ sizeLine ∧ St 0 s₂.heap ∧ Fr h₀ L s₂.heap m ∧ News h₀ L s₂.heap news ∧ (∀ q ∈ src, q ∈ news) ∧ (∀ q ∈ news, q.1 ≠ I) ∧
    (∀ tk, Iv [] tk) ∧ (∀ ys a b, Iv ys a → a ≤ b → Iv ys b) ∧ (∀ ys x y tl a b, Iv ys a → R x a y tl b → Iv (ys ++ [y]) b) ∧
    CompOkT prog w A h₀ L m env scope cl target ifs elt as Is p R Bd news I St ∧
    ∀ D ys TL h tk, Got (fun a y tl => ∃ t1 t2, R a t1 y tl t2) (as.filter p) ys TL → (∃ tk', Iv ys tk') → (∀ q ∈ TL, D < q.1) → (∀ q ∈ news, q.1 < D) → Fr h₀ L h m → News h₀ L h ((D, lst ys) :: (TL ++ news)) → Fin D ys TL news { s₂ with heap := h, toks := tk }

theorem ListComp_MT {α : Type} {elt target iter : Expr} {ifs : List Expr} {scope : Scope} {cl : List (Str × Addr)} {pos : Pos} {Q : Value → Shared → Prop}
    (_F₀ : Fr h₀ L s.heap m) (as : List α) (Is : α → Value → Prop) (p : α → Bool) (R : α → Nat → Value → Led → Nat → Prop) (Iv : List Value → Nat → Prop) (Bd : α → Value → (Str → Option Value) → Prop)
    (hclos : closureFor scope env = pure cl) (hcell : ∀ y ∈ scope.names, y.2 ≠ .cell) (hkind : scope.kind = .function) (hnames : ∀ y ∈ scope.names, y.2 = .local → scope.names.lookup y.1 = some .local)
    (h : wpAny (model prog w) A (eval iter env) (fun xv s₁ => wpAny (model prog w) A (pyIter xv) (CompAtT prog w A h₀ L m env scope cl target ifs elt as Is p R Iv Bd (fun D _ _ _ s' => Q (.ref D) s')) E s₁) E s)
    (hs : ∀ x, foldedSetIterable iter env x = pure x) :
    wpAny (model prog w) A (eval (.ListComp elt [⟨target, iter, ifs, 0⟩] scope pos) env) Q E s := by
  rw [eval_ListComp]
  refine wpAny_comprehension_free (use := none) rfl hs hclos hkind hnames (wpAny_mono h (fun xv s₁ h₁ => wpAny_mono h₁ (fun it s₂ h₂ => ?_) fun _ _ e => e) fun _ _ e => e)
  obtain ⟨I, St, src, news, rfl, W, hsz, hst, F, N, hsrc, off, hI0, hIm, hIs, ok, fin⟩ := h₂
  refine comp_blockT (RR := fun acc C => compPost (model prog w) A E none Q acc C) W hsz hst F N hsrc off hcell hkind hI0 hIm hIs ok ?_
  intro D C ys TL h tk m' G hIv F' N' hTL hnD hn hC₀ hCL hCD offC
  refine ⟨m', hn, fun h'' hs'' => fin D ys TL h'' tk G hIv hTL hnD (Fr.but1 F' (fun b o hb e => hs''.extBut b o hb e) (Ne.symm hCL) hC₀) ?_⟩
  refine News.but1 N' (fun b o hb e => hs''.extBut b o hb e) fun q hq => ?_
  rcases List.mem_cons.mp hq with rfl | hq
  · exact Ne.symm hCD
  · exact offC q hq

noncomputable def tokV : Value → Tok
  | .float _ t => t
  | _ => 0
noncomputable def Rising (ys : List Value) (tk : Nat) : Prop := (∀ y ∈ ys, 0 < tokV y ∧ tokV y < tk) ∧ ys.Pairwise fun a b => tokV a < tokV b
theorem rising_inj {ys : List Value} (h : ys.Pairwise fun a b => tokV a < tokV b) {x y : Value} (hx : x ∈ ys) (hy : y ∈ ys) (e : tokV x = tokV y) : x = y := by
  induction h with
  | nil => cases hx
  | @cons a l h _ ih =>
    rcases List.mem_cons.mp hx with hx' | hx' <;> rcases List.mem_cons.mp hy with hy' | hy'
    · rw [hx', hy']
    · subst hx'; exact absurd (e ▸ h _ hy') (Nat.lt_irrefl _)
    · subst hy'; exact absurd (e.symm ▸ h _ hx') (Nat.lt_irrefl _)
    · exact ih hx' hy'

/-- a comprehension over a list of tuples of four, its items floats -/
theorem comp_tup4T {as : List Nat} {D : Nat → Addr} {nn : Nat → Nat} {V1 V2 V3 V4 : Nat → Value} {g : Nat → UInt64} {l : Addr} {its : Array Value} {n : Nat} {x1 x2 x3 x4 : Str} {p1 p2 p3 p4 pos : Pos} {k} {elt : Expr} {scope : Scope} {cl : List (Str × Addr)} {Fin : Addr → List Value → Led → Led → Shared → Prop}
    (hh : A.handled = none) (F : Fr h₀ L s.heap m) (N : News h₀ L s.heap news) (hm : (l, ({ cls := .type "list", data := .seq its n } : Obj)) ∈ news) (hV : AllV (fun a v => v = .ref (D a)) as its.toList) (hsz : as.length ≤ 1000)
    (hD : ∀ a ∈ as, (D a, ({ cls := .type "tuple", data := .seq #[V1 a, V2 a, V3 a, V4 a] (nn a) } : Obj)) ∈ news)
    (hx1 : scope.names.lookup x1 = some .local) (hx2 : scope.names.lookup x2 = some .local) (hx3 : scope.names.lookup x3 = some .local) (hx4 : scope.names.lookup x4 = some .local) (hkind : scope.kind = .function)
    (hne : x1 ≠ x2 ∧ x1 ≠ x3 ∧ x1 ≠ x4 ∧ x2 ≠ x3 ∧ x2 ≠ x4 ∧ x3 ≠ x4)
    (helt : ∀ a C oC m₁ own (s : Shared) (Q : Value → Shared → Prop) (E' : Value → Shared → Prop), a ∈ as → m₁ x1 = some (V1 a) → m₁ x2 = some (V2 a) → m₁ x3 = some (V3 a) → m₁ x4 = some (V4 a) → NsObj oC m₁ → Fr h₀ L s.heap m → News h₀ L s.heap ((C, oC) :: (own ++ news)) →
      (∀ t h' tk, s.toks ≤ t → 0 < t → t < tk → Fr h₀ L h' m → News h₀ L h' ((C, oC) :: (own ++ news)) → Q (.float (g a) t) { s with heap := h', toks := tk }) →
      wpAny (model prog w) A (eval elt (compEnvC scope cl C env)) Q E' s)
    (fin : ∀ R ys h tk tk', AllV (fun a v => ∃ t, v = .float (g a) t) as ys → Rising ys tk' → (∀ q ∈ news, q.1 < R) → Fr h₀ L h m → News h₀ L h ((R, lst ys) :: news) → Fin R ys [] news { s with heap := h, toks := tk }) :
    wpAny (model prog w) A (pyIter (.ref l)) (CompAtT prog w A h₀ L m env scope cl (.Tuple [.Name x1 p1, .Name x2 p2, .Name x3 p3, .Name x4 p4] k pos) [] elt as (fun a v => v = .ref (D a)) (fun _ => true) (fun a t1 y tl t2 => tl = [] ∧ ∃ t, t1 ≤ t ∧ 0 < t ∧ t < t2 ∧ y = .float (g a) t) Rising
      (fun a _ m₁ => m₁ x1 = some (V1 a) ∧ m₁ x2 = some (V2 a) ∧ m₁ x3 = some (V3 a) ∧ m₁ x4 = some (V4 a)) Fin) E s := by
  obtain ⟨n12, n13, n14, n23, n24, n34⟩ := hne
  have hlen : its.size = as.length := by have := hV.length; rw [Array.length_toList] at this; exact this
  refine src_list (o := { cls := .type "list", data := .seq its n }) (its := its) (as := as) (Is := fun a v => v = .ref (D a)) hh F N hm rfl ⟨n, rfl⟩ hlen ?_ ?_
  · intro i a v h1 h2
    obtain ⟨y, hy, hv⟩ := hV.get h1
    rw [Array.getElem?_toList, h2] at hy
    rw [Option.some.inj hy]; exact hv
  intro I h' St W hst F' N' off hLI
  refine ⟨I, St, _, news, rfl, W, by rw [sizeLine_eq]; omega, hst, F', N', fun q hq => by rw [List.mem_singleton.mp hq]; exact hm, off, ?_, ?_, ?_, ⟨?_, ?_, ?_, ?_⟩, ?_⟩
  · exact fun tk => ⟨(fun _ h => nomatch h), List.Pairwise.nil⟩
  · exact fun ys a b h hab => ⟨fun y hy => ⟨(h.1 y hy).1, Nat.lt_of_lt_of_le (h.1 y hy).2 hab⟩, h.2⟩
  · rintro ys x y tl a b h ⟨rfl, t, h1, h2, h3, rfl⟩
    refine ⟨fun y hy => ?_, List.pairwise_append.mpr ⟨h.2, List.pairwise_singleton _ _, fun y hy z hz => ?_⟩⟩
    · rcases List.mem_append.mp hy with hy | hy
      · exact ⟨(h.1 y hy).1, Nat.lt_trans (Nat.lt_of_lt_of_le (h.1 y hy).2 h1) h3⟩
      · rw [List.mem_singleton.mp hy]; exact ⟨h2, h3⟩
    · rw [List.mem_singleton.mp hz]; exact Nat.lt_of_lt_of_le (h.1 y hy).2 h1
  · rintro i a v s Q E' ha rfl hSt hF hN hq
    obtain ⟨oI, ho, hc⟩ := hLI _ _ hSt
    exact letGo_li ho hc hq
  · rintro a v C oC m₁ own s Q E' ha rfl hC F N off h
    have hmem := hD a ha
    refine unpackN_ F N (News.isTup N (.tail _ (List.mem_append_right _ hmem))) hh rfl rfl fun h₁ F₁ N₁ => ?_
    refine assignInOrder_cons (asg_nameX hC F₁ N₁ off hx1 hkind fun o1 h1 t1 C1 F1 N1 => ?_)
    refine assignInOrder_cons (asg_nameX C1 F1 N1 off hx2 hkind fun o2 h2 t2 C2 F2 N2 => ?_)
    refine assignInOrder_cons (asg_nameX C2 F2 N2 off hx3 hkind fun o3 h3 t3 C3 F3 N3 => ?_)
    refine assignInOrder_cons (asg_nameX C3 F3 N3 off hx4 hkind fun o4 h4 t4 C4 F4 N4 => ?_)
    refine assignInOrder_nil ?_
    refine h o4 _ h4 t4 C4 ⟨?_, ?_, ?_, ?_⟩ F4 N4
    · simp [n12, n13, n14]
    · simp [n23, n24]
    · simp [n34]
    · simp
  · rintro a v C oC m₁ own s Q E' ha rfl ⟨b1, b2, b3, b4⟩ hC F N h
    exact test_nil (h _ _ F N)
  · rintro a v C oC m₁ own s₅ Q₅ E' ha rfl hp ⟨b1, b2, b3, b4⟩ hC F₅ N₅ hQ₅
    exact helt a C oC m₁ own s₅ Q₅ E' ha b1 b2 b3 b4 hC F₅ N₅ fun t h' tk h1 h2 h3 F' N' => hQ₅ _ [] h' tk ⟨rfl, t, h1, h2, h3, rfl⟩ F' N' fun _ h => nomatch h
  · intro R ys TL h₃ tk₃ G hIv hTL hR F₃ N₃
    have hf : as.filter (fun _ => true) = as := List.filter_eq_self.mpr fun _ _ => rfl
    rw [hf] at G
    obtain ⟨tk', hIv⟩ := hIv
    have G' : Got (fun a y tl => tl = [] ∧ ∃ t, y = .float (g a) t) as ys TL := G.mono fun a y tl ⟨_, _, h1, t, _, _, _, h2⟩ => ⟨h1, t, h2⟩
    obtain ⟨rfl, hi⟩ := G'.allV
    exact fin R ys h₃ tk₃ tk' hi hIv hR F₃ N₃
end
end
section
open PySem PySem.Spec PySem.Calls PySem.W PyProof.Rows PyProof.Rows.LCg
open PySem.Flt
/-- a half, as a float's bits -/
noncomputable def hf (n : Nat) : UInt64 := if n = 0 then 0 else if n = 1 then 0x3FE0000000000000 else 0x3FF0000000000000
/-- a whole, as a float's bits -/
noncomputable def fl (n : Nat) : UInt64 := if n = 0 then 0 else if n = 1 then 0x3FF0000000000000 else if n = 2 then 0x4000000000000000 else if n = 3 then 0x4008000000000000 else 0x4010000000000000
theorem hf_frac : ∀ a : Nat, a < 3 → Float64.ofFrac (decide ((a : Int) < 0) != decide ((2 : Int) < 0)) (a : Int).natAbs (2 : Int).natAbs = hf a := by decide +kernel
theorem hf_cmp : ∀ a : Nat, a < 3 → ∀ b : Nat, b < 3 → (Float64.cmp (hf a) (hf b) == some .lt) = decide (a < b) := by decide +kernel
theorem hf_hsv : ∀ a : Nat, a < 3 → ∀ b : Nat, b < 3 → b ≤ a → Float64.cmp (hf b) (hf a) ≠ some .eq → Float64.isZero (hf a) = false ∧ Float64.isZero (Float64.sub (hf a) (hf b)) = false := by decide +kernel
theorem hf_hls1 : ∀ a : Nat, a < 3 → ∀ b : Nat, b < 3 → b ≤ a → Float64.cmp (hf b) (hf a) ≠ some .eq → Float64.isZero (Float64.add (hf a) (hf b)) = false := by decide +kernel
theorem hf_hls2 : ∀ a : Nat, a < 3 → ∀ b : Nat, b < 3 → b ≤ a → Float64.cmp (hf b) (hf a) ≠ some .eq → Float64.isZero (Float64.sub (Float64.sub 0x4000000000000000 (hf a)) (hf b)) = false := by decide +kernel
theorem hf_two : ∀ a : Nat, a < 3 → Float64.mul (Float64.ofInt 2) (hf a) = fl a := by decide +kernel
theorem hf_four : ∀ a : Nat, a < 3 → ∀ b : Nat, b < 3 → Float64.mul (Float64.ofInt 4) (Float64.div (Float64.add (hf a) (hf b)) 0x4000000000000000) = fl (a + b) := by decide +kernel
theorem fl_int : ∀ a : Nat, a < 5 → (Float64.cmpInt (fl a) (a : Int) == some .eq) = true := by decide +kernel
theorem fl_cmp : ∀ a : Nat, a < 5 → ∀ b : Nat, b < 5 → (Float64.cmp (fl a) (fl b) == some .eq) = decide (a = b) := by decide +kernel
theorem mx3_hf {a b c : Nat} (ha : a < 3) (hb : b < 3) (hc : c < 3) (t1 t2 t3 : Tok) : ∃ tM, mx3 (.float (hf a) t1) (.float (hf b) t2) (.float (hf c) t3) = .float (hf (max a (max b c))) tM := by
  unfold mx3
  simp only [ltV, hf_cmp a ha b hb, hf_cmp b hb c hc, hf_cmp a ha c hc, decide_eq_true_eq]
  split
  · rename_i h1
    split
    · rename_i h2; exact ⟨_, by rw [mxc (Nat.le_of_lt (Nat.lt_trans h1 h2)) (Nat.le_of_lt h2)]⟩
    · rename_i h2; exact ⟨_, by rw [mxb (Nat.le_of_lt h1) (Nat.le_of_not_lt h2)]⟩
  · rename_i h1
    split
    · rename_i h2; exact ⟨_, by rw [mxc (Nat.le_of_lt h2) (Nat.le_trans (Nat.le_of_not_lt h1) (Nat.le_of_lt h2))]⟩
    · rename_i h2; exact ⟨_, by rw [mxa (Nat.le_of_not_lt h1) (Nat.le_of_not_lt h2)]⟩
theorem mn3_hf {a b c : Nat} (ha : a < 3) (hb : b < 3) (hc : c < 3) (t1 t2 t3 : Tok) : ∃ tM, mn3 (.float (hf a) t1) (.float (hf b) t2) (.float (hf c) t3) = .float (hf (min a (min b c))) tM := by
  unfold mn3
  simp only [ltV, hf_cmp b hb a ha, hf_cmp c hc b hb, hf_cmp c hc a ha, decide_eq_true_eq]
  split
  · rename_i h1
    split
    · rename_i h2; exact ⟨_, by rw [mnc (Nat.le_of_lt (Nat.lt_trans h2 h1)) (Nat.le_of_lt h2)]⟩
    · rename_i h2; exact ⟨_, by rw [mnb (Nat.le_of_lt h1) (Nat.le_of_not_lt h2)]⟩
  · rename_i h1
    split
    · rename_i h2; exact ⟨_, by rw [mnc (Nat.le_of_lt h2) (Nat.le_trans (Nat.le_of_lt h2) (Nat.le_of_not_lt h1))]⟩
    · rename_i h2; exact ⟨_, by rw [mna (Nat.le_of_not_lt h1) (Nat.le_of_not_lt h2)]⟩
section
variable {prog : Program} {w : World} {A : Around} {E : Value → Shared → Prop} {s : Shared}
theorem div_half {a : Nat} {x : Int} {t u : Tok} {Q : Value → Shared → Prop} (hA : A.handled = none) (hx : x = (a : Int)) (ha : a < 3) (h : Q (.float (hf a) s.toks) { s with toks := s.toks + 1 }) :
    wpAny (model prog w) A (binaryOp .Div (.int x t) (.int 2 u)) Q E s := by
  subst hx
  refine div_ii_fits hA ?_ (fun h => absurd h (by decide)) fun _ _ => ?_
  · rw [Int.natAbs_natCast]; exact Nat.lt_of_lt_of_le ha (by decide +kernel)
  · rw [hf_frac a ha]; exact h
theorem eqAt_fi {x : UInt64} {n : Int} {t u : Tok} : SeqAt.EqAt A s (.float x t) (.int n u) (Float64.cmpInt x n == some Ordering.eq) := fun prog w E Q h => by
  unfold eqBool
  refine wpAny_holding ?_
  refine wpAny_ite_split (fun hab => absurd (eq_of_beq hab) (fun h => nomatch h)) (fun _ => ?_)
  exact wpAny_bind (show wpAny _ A (compareOp .Eq _ _) _ _ _ from eq_fi (wpAny_truthy_bool h))
theorem isSame_float {x y : UInt64} {t u : Tok} {Q : Bool → Shared → Prop} (hb : NoneBooked s.heap) (ht : 0 < t) (hu : 0 < u) (htu : t = u → x = y) (h : ∀ b : Bool, (b = true → x = y) → Q b s) : wpAny (model prog w) A (isSame (.float x t) (.float y u)) Q E s := by
  show wpAny _ A (isSame.created (x == y && !Float64.isNaN x) t u) Q E s
  unfold isSame.created
  have h0 : (t == 0 || u == 0) = false := by
    rw [Bool.or_eq_false_iff]
    exact ⟨by simpa using Nat.ne_of_gt ht, by simpa using Nat.ne_of_gt hu⟩
  refine wpAny_ite ?_
  split
  · rename_i h; rw [h0] at h; exact absurd h Bool.false_ne_true
  refine wpAny_ite ?_
  split
  · rename_i h1
    exact wpAny_pure (h _ fun _ => htu (by simpa using h1))
  refine wpAny_ite ?_
  split
  · exact wpAny_pure (h _ fun h => nomatch h)
  rename_i h2
  have hxy : x = y := by
    simp only [Bool.not_eq_true', Bool.not_eq_false, Bool.and_eq_true] at h2
    exact eq_of_beq h2.1
  refine wpAny_bind (wpAny_sharingNotTold_none hb ?_)
  first | rw [if_neg Bool.false_ne_true] | simp only [Bool.false_eq_true, if_false]
  refine wpAny_bind (wpAny_sharingNotTold_none hb ?_)
  first | rw [if_neg Bool.false_ne_true] | simp only [Bool.false_eq_true, if_false]
  exact wpAny_bind (wpAny_rule (wpAny_bind (wpAny_askSetting (wpAny_pure (h _ fun _ => hxy)))))
theorem eqAt_ff {x y : UInt64} {t u : Tok} (hb : NoneBooked s.heap) (ht : 0 < t) (hu : 0 < u) (htu : t = u → x = y) (hs : x = y → (Float64.cmp x y == some Ordering.eq) = true) : SeqAt.EqAt A s (.float x t) (.float y u) (Float64.cmp x y == some Ordering.eq) := fun prog w E Q h => by
  unfold eqBool
  refine wpAny_holding ?_
  refine wpAny_ite_split (fun hab => ?_) (fun _ => ?_)
  · have e := eq_of_beq hab
    injection e with e1 e2
    rw [hs e1] at h
    exact wpAny_bind (wpAny_rule (wpAny_pure h))
  · refine wpAny_bind (isSame_float hb ht hu htu fun b hbxy => ?_)
    cases b with
    | true =>
      rw [hs (hbxy rfl)] at h
      rw [if_pos rfl]
      exact wpAny_pure h
    | false =>
      rw [if_neg Bool.false_ne_true]
      exact wpAny_bind (show wpAny _ A (compareOp .Eq _ _) _ _ _ from AutoFloatOps.eq_0 (wpAny_truthy_bool h))
end
theorem canon_eq {β : Type} [DecidableEq β] {g : Nat → β} {d : Nat} (hd : d < 6) : canon (fun e d => decide (g e = g d)) d ≤ d ∧ g (canon (fun e d => decide (g e = g d)) d) = g d ∧ ∀ e, e < canon (fun e d => decide (g e = g d)) d → g e ≠ g d := by
  obtain ⟨h1, h2, h3⟩ := canon_spec (R := fun e d => decide (g e = g d)) hd (by simp)
  exact ⟨h1, by simpa using h2, fun e he => by simpa using h3 e he⟩
theorem canon_eq_valid {β : Type} [DecidableEq β] (g : Nat → β) : Valid (canon (fun e d => decide (g e = g d))) := by
  intro k hk
  obtain ⟨h1, h2, h3⟩ := canon_eq (g := g) hk
  obtain ⟨g1, g2, g3⟩ := canon_eq (g := g) (show canon (fun e d => decide (g e = g d)) k < 6 by omega)
  refine ⟨h1, ?_⟩
  rcases Nat.lt_or_ge (canon (fun e d => decide (g e = g d)) (canon (fun e d => decide (g e = g d)) k)) (canon (fun e d => decide (g e = g d)) k) with h | h
  · exact absurd (g2.trans h2) (h3 _ h)
  · omega
theorem obs_of {β : Type} [DecidableEq β] {H0 : Heap} {S0 : Led} {a : Addr} {its : Array Value} {n : Nat} (enc : β → Tok → Value) (e : Value → Value → Bool) (g : Nat → β)
    (hE : ∀ (A : Around) (s : Shared) (y x : Value), y ∈ its → x ∈ its → (∀ b o, H0.get? b = some o → s.heap.get? b = some o) → SeqAt.EqAt A s y x (e y x))
    (he : ∀ (d d' : Nat) (t u : Tok), d < 6 → d' < 6 → e (enc (g d) t) (enc (g d') u) = decide (g d = g d'))
    (hV : AllV (fun (d : Nat) v => ∃ t, v = enc (g d) t) (List.range 6) its.toList) (hm : (a, ({ cls := .type "list", data := .seq its n } : Obj)) ∈ S0) : Obs H0 S0 a (canon (fun e d => decide (g e = g d))) := by
  have hlen : its.size = 6 := by have := hV.length; simpa using this
  have hin : ∀ y, y ∈ its → ∃ d t, d < 6 ∧ y = enc (g d) t := by
    intro y hy
    obtain ⟨i, hi⟩ := List.mem_iff_getElem?.mp (show y ∈ its.toList by simpa using hy)
    have h6 : i < 6 := by have := (List.getElem?_eq_some_iff.mp hi).1; simpa [hlen] using this
    obtain ⟨z, hz, t, rfl⟩ := hV.get (List.getElem?_range h6)
    rw [hi] at hz
    exact ⟨i, t, h6, Option.some.inj hz⟩
  refine ⟨its, n, e, hm, hlen, ?_, ?_, ?_⟩
  · exact fun A' s' y x hu hy hx _ hb => hE A' s' y x hy hx hb
  · intro x hx
    obtain ⟨d, t, hd, rfl⟩ := hin x hx
    rw [he d d t t hd hd]; simp
  · apply List.ext_getElem?
    intro d
    rw [List.getElem?_map, List.getElem?_map]
    rcases Nat.lt_or_ge d 6 with hd | hd
    · obtain ⟨z, hz, t, rfl⟩ := hV.get (List.getElem?_range hd)
      rw [hz, List.getElem?_range hd]
      simp only [Option.map_some, Option.some.injEq]
      congr 1
      unfold canon
      have key : ∀ (l : List Nat) (ys : List Value), (∀ x ∈ l, x < 6) → AllV (fun (d : Nat) v => ∃ t, v = enc (g d) t) l ys → ys.findIdx (fun y => e y (enc (g d) t)) = l.findIdx fun x => decide (g x = g d) := by
        intro l ys hl h
        induction h with
        | nil => rfl
        | @cons x y l ys hxy _ ih =>
          obtain ⟨tx, rfl⟩ := hxy
          rw [List.findIdx_cons, List.findIdx_cons, he x d tx t (hl x (.head _)) hd, ih fun z hz => hl z (.tail _ hz)]
      exact key _ _ (fun x hx => List.mem_range.mp hx) hV
    · rw [List.getElem?_eq_none (by simp; omega), List.getElem?_eq_none (by simp; omega)]; rfl
/-- floats that are told apart -/
theorem obs_fl {H0 : Heap} {S0 : Led} {a : Addr} {ys : List Value} {g : Nat → Nat} {tk : Nat} (hb : NoneBooked H0) (hg : ∀ d, d < 6 → g d < 5) (hV : AllV (fun (d : Nat) v => ∃ t, v = .float (fl (g d)) t) (List.range 6) ys) (hr : Rising ys tk) (hm : (a, lst ys) ∈ S0) : Obs H0 S0 a (canon (fun e d => decide (g e = g d))) := by
  refine obs_of (its := ys.toArray) (n := ys.length) (fun n t => .float (fl n) t) (fun y x => match y, x with | .float a _, .float b _ => Float64.cmp a b == some .eq | _, _ => false) g ?_ (fun d d' t u hd hd' => fl_cmp _ (hg d hd) _ (hg d' hd')) hV hm
  intro A s y x hy hx hk
  have hin : ∀ y, y ∈ ys → ∃ d t, d < 6 ∧ y = .float (fl (g d)) t := by
    intro y hy
    obtain ⟨i, hi⟩ := List.mem_iff_getElem?.mp hy
    have hl : ys.length = 6 := by have := hV.length; simpa using this
    have h6 : i < 6 := by have := (List.getElem?_eq_some_iff.mp hi).1; omega
    obtain ⟨z, hz, t, rfl⟩ := hV.get (List.getElem?_range h6)
    rw [hi] at hz
    exact ⟨i, t, h6, Option.some.inj hz⟩
  have hy' : y ∈ ys := by simpa using hy
  have hx' : x ∈ ys := by simpa using hx
  obtain ⟨d, t, hd, rfl⟩ := hin y hy'
  obtain ⟨d', t', hd', rfl⟩ := hin x hx'
  have hbk : NoneBooked s.heap := by
    obtain ⟨mc, ⟨o, es, ep, h1, h2⟩, h3⟩ := hb
    exact ⟨mc, ⟨o, es, ep, hk _ _ h1, h2⟩, h3⟩
  refine eqAt_ff hbk (hr.1 _ hy').1 (hr.1 _ hx').1 (fun htu => ?_) (fun hxy => ?_)
  · have := rising_inj hr.2 hy' hx' htu
    injection this
  · rw [fl_cmp _ (hg d hd) _ (hg d' hd')]
    have h1 := fl_cmp _ (hg d hd) _ (hg d hd)
    rw [decide_eq_true rfl] at h1
    have h2 := fl_cmp _ (hg d hd) _ (hg d' hd')
    rw [← hxy, h1] at h2
    exact h2.symm
/-- texts that are told apart -/
theorem obs_str {H0 : Heap} {S0 : Led} {a : Addr} {ys : List Value} {g : Nat → Str} (hV : AllV (fun (d : Nat) v => ∃ t, v = .str (g d) t) (List.range 6) ys) (hm : (a, lst ys) ∈ S0) : Obs H0 S0 a (canon (fun e d => decide (g e = g d))) := by
  refine obs_of (its := ys.toArray) (n := ys.length) (fun n t => .str n t) (fun y x => match y, x with | .str a _, .str b _ => a == b | _, _ => false) g ?_ (fun d d' t u hd hd' => by
    show (g d == g d') = decide (g d = g d')
    rw [Bool.eq_iff_iff]; simp) hV hm
  intro A s y x hy hx hk
  have hin : ∀ y, y ∈ ys → ∃ d t, d < 6 ∧ y = .str (g d) t := by
    intro y hy
    obtain ⟨i, hi⟩ := List.mem_iff_getElem?.mp hy
    have hl : ys.length = 6 := by have := hV.length; simpa using this
    have h6 : i < 6 := by have := (List.getElem?_eq_some_iff.mp hi).1; omega
    obtain ⟨z, hz, t, rfl⟩ := hV.get (List.getElem?_range h6)
    rw [hi] at hz
    exact ⟨i, t, h6, Option.some.inj hz⟩
  obtain ⟨d, t, hd, rfl⟩ := hin y (by simpa using hy)
  obtain ⟨d', t', hd', rfl⟩ := hin x (by simpa using hx)
  exact SeqAt.EqAt.str_str _ _ _ _
end
section
open PySem PySem.Spec PySem.Calls PySem.W PyProof.Rows PyProof.Rows.LCg
section
variable {prog : Program} {w : World} {A : Around} {s : Shared}
theorem eqAt_lists {a b : Addr} {V V' : Nat → Value → Prop} {ys us : List Value} (hl : s.heap.IsList a ys.toArray) (hb : s.heap.IsList b us.toArray) (hne : a ≠ b) (h1 : AllV V (List.range 6) ys) (h2 : AllV V' (List.range 6) us) (hu : A.units < cLine)
    (he : ∀ d y u, d < 6 → V d y → V' d u → SeqAt.EqAt A.in1 s y u true) : SeqAt.EqAt A s (.ref a) (.ref b) true := by
  have l1 : ys.length = 6 := by have := h1.length; simpa using this
  have l2 : us.length = 6 := by have := h2.length; simpa using this
  have h := SeqAt.RcAt.lists (e := fun _ => true) hl hb (by simp [l1, l2]) hu (fun j h3 h4 => ?_)
  · have e : (List.range ys.toArray.size).all (fun _ => true) = true := by simp
    rw [e] at h
    exact SeqAt.EqAt.of_refs hne h
  · have hj : j < 6 := by simpa [l1] using h3
    obtain ⟨y, hy, hV⟩ := h1.get (List.getElem?_range hj)
    obtain ⟨u, hu', hV'⟩ := h2.get (List.getElem?_range hj)
    have e1 : ys.toArray[j] = y := by
      have : ys.toArray[j]? = some y := by simpa using hy
      rw [Array.getElem?_eq_getElem h3] at this
      exact Option.some.inj this
    have e2 : us.toArray[j] = u := by
      have : us.toArray[j]? = some u := by simpa using hu'
      rw [Array.getElem?_eq_getElem h4] at this
      exact Option.some.inj this
    rw [e1, e2]
    exact he j y u hj hV hV'
end
end
section
set_option autoImplicit false
noncomputable def sm (F : Nat → Int) : Int := F 0 + (F 1 + (F 2 + (F 3 + (F 4 + (F 5 + 0)))))
theorem sm_range (F : Nat → Int) : ((List.range 6).map F).sum = sm F := rfl
theorem sm_congr {F G : Nat → Int} (h : ∀ d, d < 6 → F d = G d) : sm F = sm G := by
  unfold sm
  rw [h 0 (by decide), h 1 (by decide), h 2 (by decide), h 3 (by decide), h 4 (by decide), h 5 (by decide)]
theorem tot_filter (h : Nat → Int) (p : Nat → Bool) : ∀ l : List Nat, tot h (l.filter p) = (l.map fun d => if p d then h d else 0).sum
  | [] => rfl
  | d :: l => by
    have ih := tot_filter h p l
    unfold tot at ih ⊢
    rw [List.filter_cons, List.map_cons, List.sum_cons]
    cases hp : p d <;> simp [ih]
theorem tot_sm (h : Nat → Int) (p : Nat → Bool) : tot h ((List.range 6).filter p) = sm fun d => if p d then h d else 0 := tot_filter h p _
theorem tot_sm2 (h : Nat → Int) (p f : Nat → Bool) : tot h (((List.range 6).filter p).filter f) = sm fun d => if p d && f d then h d else 0 := by
  rw [List.filter_filter, tot_sm]
  refine sm_congr fun d _ => ?_
  cases p d <;> cases f d <;> rfl
theorem sm_add (F G : Nat → Int) : (sm fun k => F k + G k) = sm F + sm G := by
  unfold sm
  rw [Int.add_zero, Int.add_zero, Int.add_zero, i4 (F 4), i4 (F 3), i4 (F 2), i4 (F 1), i4 (F 0)]
theorem sm_swap (a : Nat → Nat → Int) : (sm fun k => sm fun d => a k d) = sm fun d => sm fun k => a k d := by
  show (sm fun k => a k 0 + (a k 1 + (a k 2 + (a k 3 + (a k 4 + (a k 5 + 0)))))) = _
  rw [sm_add, sm_add, sm_add, sm_add, sm_add, sm_add]; rfl
theorem le_r {a b c : Int} (h : a ≤ b) (k : 0 ≤ c) : a ≤ b + c := Int.le_trans h (Int.le_add_of_nonneg_right k)
theorem le_l {a b c : Int} (h : 0 ≤ b) (k : a ≤ c) : a ≤ b + c := Int.le_trans k (Int.le_add_of_nonneg_left h)
theorem sm_ge {g : Nat → Int} (h : ∀ e, e < 6 → 0 ≤ g e) : ∀ {d : Nat}, d < 6 → g d ≤ sm g
  | 0, _ => le_r (Int.le_refl _) (Int.add_nonneg (h 1 (by decide)) (Int.add_nonneg (h 2 (by decide)) (Int.add_nonneg (h 3 (by decide)) (Int.add_nonneg (h 4 (by decide)) (Int.add_nonneg (h 5 (by decide)) (Int.le_refl _))))))
  | 1, _ => le_l (h 0 (by decide)) (le_r (Int.le_refl _) (Int.add_nonneg (h 2 (by decide)) (Int.add_nonneg (h 3 (by decide)) (Int.add_nonneg (h 4 (by decide)) (Int.add_nonneg (h 5 (by decide)) (Int.le_refl _))))))
  | 2, _ => le_l (h 0 (by decide)) (le_l (h 1 (by decide)) (le_r (Int.le_refl _) (Int.add_nonneg (h 3 (by decide)) (Int.add_nonneg (h 4 (by decide)) (Int.add_nonneg (h 5 (by decide)) (Int.le_refl _))))))
  | 3, _ => le_l (h 0 (by decide)) (le_l (h 1 (by decide)) (le_l (h 2 (by decide)) (le_r (Int.le_refl _) (Int.add_nonneg (h 4 (by decide)) (Int.add_nonneg (h 5 (by decide)) (Int.le_refl _))))))
  | 4, _ => le_l (h 0 (by decide)) (le_l (h 1 (by decide)) (le_l (h 2 (by decide)) (le_l (h 3 (by decide)) (le_r (Int.le_refl _) (Int.add_nonneg (h 5 (by decide)) (Int.le_refl _))))))
  | 5, _ => le_l (h 0 (by decide)) (le_l (h 1 (by decide)) (le_l (h 2 (by decide)) (le_l (h 3 (by decide)) (le_l (h 4 (by decide)) (le_r (Int.le_refl _) (Int.le_refl _))))))
theorem sm_le {g : Nat → Int} {b : Int} (h : ∀ e, g e ≤ b) : sm g ≤ b + (b + (b + (b + (b + (b + 0))))) := Int.add_le_add (h 0) (Int.add_le_add (h 1) (Int.add_le_add (h 2) (Int.add_le_add (h 3) (Int.add_le_add (h 4) (Int.add_le_add (h 5) (Int.le_refl 0))))))
theorem sm_pick : ∀ {j : Nat}, j < 6 → ∀ x : Int, (sm fun k => if j = k then x else 0) = x
  | 0, _, x => by show x + (0 + (0 + (0 + (0 + (0 + 0))))) = x; simp only [Int.add_zero, Int.zero_add]
  | 1, _, x => by show 0 + (x + (0 + (0 + (0 + (0 + 0))))) = x; simp only [Int.add_zero, Int.zero_add]
  | 2, _, x => by show 0 + (0 + (x + (0 + (0 + (0 + 0))))) = x; simp only [Int.add_zero, Int.zero_add]
  | 3, _, x => by show 0 + (0 + (0 + (x + (0 + (0 + 0))))) = x; simp only [Int.add_zero, Int.zero_add]
  | 4, _, x => by show 0 + (0 + (0 + (0 + (x + (0 + 0))))) = x; simp only [Int.add_zero, Int.zero_add]
  | 5, _, x => by show 0 + (0 + (0 + (0 + (0 + (x + 0))))) = x; simp only [Int.add_zero, Int.zero_add]
theorem sm_part {c : Nat → Nat} (hc : ∀ d, d < 6 → c d < 6) (F : Nat → Int) : sm F = sm fun k => sm fun d => if c d = k then F d else 0 := by
  rw [sm_swap]
  refine sm_congr fun d hd => ?_
  rw [sm_pick (hc d hd)]
theorem sm_mul (x : Int) (F : Nat → Int) : (sm fun d => x * F d) = x * sm F := by
  simp only [sm, Int.mul_add, Int.mul_zero]
theorem sm_zero {F : Nat → Int} (h : ∀ d, d < 6 → F d = 0) : sm F = 0 := by
  rw [sm_congr h]; rfl
theorem sm_pos {F : Nat → Int} (h0 : ∀ d, d < 6 → 0 ≤ F d) (hs : sm F = 0) : ∀ d, d < 6 → F d = 0 := fun d hd => Int.le_antisymm (hs ▸ sm_ge h0 hd) (h0 d hd)
/-- divisible by all that a cell may weigh -/
noncomputable def MM : Int := 219060189739591200
theorem MM_dvd : ∀ k : Nat, k < 43 → 0 < k → MM % (k : Int) = 0 := by decide +kernel
section
variable (c : Nat → Nat) (h : Nat → Int) (f : Nat → Bool)
noncomputable def HH (d : Nat) : Int := sm fun e => if c e == c d then h e else 0
noncomputable def GG (d : Nat) : Int := sm fun e => if (c e == c d) && f e then h e else 0
noncomputable def XX (d : Nat) : Int := GG c h f d * (MM / HH c h d)
end
section
variable {c : Nat → Nat} {h : Nat → Int} {f : Nat → Bool}
theorem HH_bd (hh : ∀ d, 5 ≤ h d ∧ h d ≤ 7) {d : Nat} (hd : d < 6) : 5 ≤ HH c h d ∧ HH c h d ≤ 42 := by
  have b : ∀ e, 0 ≤ (if c e == c d then h e else 0) ∧ (if c e == c d then h e else 0) ≤ 7 := fun e => by
    cases c e == c d with
    | true => exact ⟨Int.le_trans (by decide) (hh e).1, (hh e).2⟩
    | false => exact ⟨Int.le_refl _, (by decide : (0 : Int) ≤ 7)⟩
  refine ⟨Int.le_trans ?_ (sm_ge (g := fun e => if c e == c d then h e else 0) (fun e _ => (b e).1) hd), Int.le_trans (sm_le fun e => (b e).2) (by decide)⟩
  show 5 ≤ (if c d == c d then h d else 0)
  rw [if_pos (beq_self_eq_true _)]
  exact (hh d).1
theorem XX_mul (hh : ∀ d, 5 ≤ h d ∧ h d ≤ 7) {d : Nat} (hd : d < 6) : XX c h f d * HH c h d = MM * GG c h f d := by
  have hb := HH_bd (c := c) hh hd
  obtain ⟨k, hk⟩ : ∃ k : Nat, HH c h d = (k : Int) := ⟨(HH c h d).toNat, by omega⟩
  have hm := MM_dvd k (by omega) (by omega)
  have e : MM / HH c h d * HH c h d = MM := by
    rw [hk]
    exact Int.ediv_mul_cancel (Int.dvd_of_emod_eq_zero hm)
  unfold XX
  rw [Int.mul_assoc, e, Int.mul_comm]
theorem shareOf_eq (d : Nat) : shareOf c h f d = (2048 * GG c h f d).fdiv (HH c h d) := by
  unfold shareOf cellOf HH GG
  rw [tot_sm2, tot_sm]
theorem HH_cell {d e : Nat} (hc : c d = c e) : HH c h d = HH c h e ∧ GG c h f d = GG c h f e ∧ XX c h f d = XX c h f e := by
  have h1 : HH c h d = HH c h e := by unfold HH; rw [hc]
  have h2 : GG c h f d = GG c h f e := by unfold GG; rw [hc]
  refine ⟨h1, h2, ?_⟩
  unfold XX; rw [h1, h2]
/-- marks tell shares apart -/
theorem mark_cross {G H G' H' : Int} (hH : 5 ≤ H ∧ H ≤ 42) (hH' : 5 ≤ H' ∧ H' ≤ 42) (e : (2048 * G).fdiv H = (2048 * G').fdiv H') : G * H' = G' * H := by
  have key : ∀ {G H G' H' : Int}, (5 ≤ H ∧ H ≤ 42) → (5 ≤ H' ∧ H' ≤ 42) → (2048 * G).fdiv H = (2048 * G').fdiv H' → G * H' ≤ G' * H := by
    intro G H G' H' hH hH' e
    have a1 := Int.emod_nonneg (2048 * G') (show H' ≠ 0 by omega)
    have a2 := Int.emod_lt_of_pos (2048 * G) (show 0 < H by omega)
    have a3 := Int.mul_ediv_add_emod (2048 * G) H
    have a4 := Int.mul_ediv_add_emod (2048 * G') H'
    rw [Int.fdiv_eq_ediv_of_nonneg _ (by omega), Int.fdiv_eq_ediv_of_nonneg _ (by omega)] at e
    rw [← e] at a4
    generalize (2048 * G) / H = q at *
    generalize (2048 * G) % H = r at *
    generalize (2048 * G') % H' = r' at *
    have b1 : 2048 * (G * H') = q * (H * H') + r * H' := by rw [← Int.mul_assoc, ← a3, Int.add_mul, Int.mul_comm H q, Int.mul_assoc]
    have b2 : 2048 * (G' * H) = q * (H * H') + r' * H := by rw [← Int.mul_assoc, ← a4, Int.add_mul, Int.mul_comm H' q, Int.mul_assoc, Int.mul_comm H' H]
    have b3 : r * H' ≤ 42 * H' := Int.mul_le_mul_of_nonneg_right (by omega) (by omega)
    have b4 : 0 ≤ r' * H := Int.mul_nonneg a1 (by omega)
    omega
  exact Int.le_antisymm (key hH hH' e) (key hH' hH e.symm)
theorem cross_X (hh : ∀ d, 5 ≤ h d ∧ h d ≤ 7) {d e : Nat} (hd : d < 6) (he : e < 6) (hx : GG c h f d * HH c h e = GG c h f e * HH c h d) : XX c h f d = XX c h f e := by
  have h1 := XX_mul (c := c) (f := f) hh hd
  have h2 := XX_mul (c := c) (f := f) hh he
  have b1 := HH_bd (c := c) hh hd
  have b2 := HH_bd (c := c) hh he
  have h3 : XX c h f d * (HH c h d * HH c h e) = XX c h f e * (HH c h d * HH c h e) := by
    rw [← Int.mul_assoc, h1, Int.mul_comm (HH c h d) (HH c h e), ← Int.mul_assoc, h2, Int.mul_assoc, hx, Int.mul_assoc]
  exact Int.eq_of_mul_eq_mul_right (Int.ne_of_gt (Int.mul_pos (by omega) (by omega))) h3
/-- the sum over a partition -/
theorem grouped (hh : ∀ d, 5 ≤ h d ∧ h d ≤ 7) (hc : ∀ d, d < 6 → c d < 6) {Y : Nat → Int} (hY : ∀ d e, d < 6 → e < 6 → c d = c e → Y d = Y e) :
    (sm fun d => h d * XX c h f d * Y d) = MM * sm fun d => if f d then h d * Y d else 0 := by
  rw [sm_part hc, sm_part hc (fun d => if f d then h d * Y d else 0), ← sm_mul]
  refine sm_congr fun k _ => ?_
  by_cases hex : ∃ d0, d0 < 6 ∧ c d0 = k
  · obtain ⟨d0, hd0, rfl⟩ := hex
    have e1 : (sm fun d => if c d = c d0 then h d * XX c h f d * Y d else 0) = XX c h f d0 * Y d0 * HH c h d0 := by
      unfold HH
      rw [← sm_mul]
      refine sm_congr fun d hd => ?_
      by_cases hcd : c d = c d0
      · rw [if_pos hcd, if_pos (by simpa using hcd), (HH_cell (h := h) (f := f) hcd).2.2, hY d d0 hd hd0 hcd]
        grind
      · rw [if_neg hcd, if_neg (by simpa using hcd)]; simp
    have e2 : (sm fun d => if c d = c d0 then (if f d then h d * Y d else 0) else 0) = Y d0 * GG c h f d0 := by
      unfold GG
      rw [← sm_mul]
      refine sm_congr fun d hd => ?_
      by_cases hcd : c d = c d0
      · rw [if_pos hcd, hY d d0 hd hd0 hcd]
        cases hf : f d
        · simp
        · simp [hcd]; grind
      · rw [if_neg hcd, if_neg (by simp [hcd])]; simp
    rw [e1, e2]
    have h1 := XX_mul (c := c) (f := f) hh hd0
    grind
  · have h1 : (sm fun d => if c d = k then h d * XX c h f d * Y d else 0) = 0 := sm_zero fun d hd => if_neg fun e => hex ⟨d, hd, e⟩
    have h2 : (sm fun d => if c d = k then (if f d then h d * Y d else 0) else 0) = 0 := sm_zero fun d hd => if_neg fun e => hex ⟨d, hd, e⟩
    rw [h1, h2]; simp
end
/-- three that tell one another in a round agree -/
theorem three_agree {a b c : Nat → Nat} {h : Nat → Int} {f : Nat → Bool} (hh : ∀ d, 5 ≤ h d ∧ h d ≤ 7) (ha : ∀ d, d < 6 → a d < 6) (hb : ∀ d, d < 6 → b d < 6) (hc : ∀ d, d < 6 → c d < 6)
    (hab : ∀ d e, d < 6 → e < 6 → b d = b e → XX a h f d = XX a h f e) (hbc : ∀ d e, d < 6 → e < 6 → c d = c e → XX b h f d = XX b h f e) (hca : ∀ d e, d < 6 → e < 6 → a d = a e → XX c h f d = XX c h f e) :
    ∀ d, d < 6 → XX a h f d = XX b h f d ∧ XX b h f d = XX c h f d := by
  have aa := grouped (f := f) hh ha (Y := XX a h f) fun d e _ _ he => (HH_cell (h := h) (f := f) he).2.2
  have bb := grouped (f := f) hh hb (Y := XX b h f) fun d e _ _ he => (HH_cell (h := h) (f := f) he).2.2
  have cc := grouped (f := f) hh hc (Y := XX c h f) fun d e _ _ he => (HH_cell (h := h) (f := f) he).2.2
  have ba := grouped (f := f) hh hb (Y := XX a h f) hab
  have cb := grouped (f := f) hh hc (Y := XX b h f) hbc
  have ac := grouped (f := f) hh ha (Y := XX c h f) hca
  have hs : (sm fun d => h d * ((XX a h f d - XX b h f d) * (XX a h f d - XX b h f d) + (XX b h f d - XX c h f d) * (XX b h f d - XX c h f d) + (XX c h f d - XX a h f d) * (XX c h f d - XX a h f d))) = 0 := by
    rw [← aa] at ba
    rw [← bb] at cb
    rw [← cc] at ac
    simp only [sm] at ba cb ac ⊢
    generalize XX a h f = A at *
    generalize XX b h f = B at *
    generalize XX c h f = C at *
    grind
  intro d hd
  have sq : ∀ x : Int, 0 ≤ x * x := fun x => by
    rcases Int.le_total 0 x with hx | hx
    · exact Int.mul_nonneg hx hx
    · exact Int.mul_nonneg_of_nonpos_of_nonpos hx hx
  have hz := sm_pos (fun d _ => Int.mul_nonneg (by have := hh d; omega) (by
    have s1 := sq (XX a h f d - XX b h f d)
    have s2 := sq (XX b h f d - XX c h f d)
    have s3 := sq (XX c h f d - XX a h f d)
    omega)) hs d hd
  have s1 := sq (XX a h f d - XX b h f d)
  have s2 := sq (XX b h f d - XX c h f d)
  have s3 := sq (XX c h f d - XX a h f d)
  have hz' := (Int.mul_eq_zero.mp hz).resolve_left (by have := hh d; omega)
  have z1 : (XX a h f d - XX b h f d) * (XX a h f d - XX b h f d) = 0 := by omega
  have z2 : (XX b h f d - XX c h f d) * (XX b h f d - XX c h f d) = 0 := by omega
  have y1 := (Int.mul_eq_zero.mp z1).elim id id
  have y2 := (Int.mul_eq_zero.mp z2).elim id id
  omega
/-- the block's share is the mark -/
theorem block_share {c : Nat → Nat} {h : Nat → Int} {f : Nat → Bool} {bl : Nat → Nat} (hh : ∀ d, 5 ≤ h d ∧ h d ≤ 7) (hc : ∀ d, d < 6 → c d < 6) (hb : ∀ d, d < 6 → bl d = bl (c d)) (hX : ∀ d e, d < 6 → e < 6 → bl d = bl e → XX c h f d = XX c h f e) {k : Nat} (hk : k < 6) :
    shareOf c h f k = (2048 * tot h (((List.range 6).filter fun d => bl d == bl k).filter f)).fdiv (tot h ((List.range 6).filter fun d => bl d == bl k)) := by
  have g := grouped (f := f) hh hc (Y := fun d => if bl d = bl k then 1 else 0) fun d e hd he hce => by
    have : bl d = bl e := by rw [hb d hd, hb e he, hce]
    show (if bl d = bl k then (1 : Int) else 0) = if bl e = bl k then 1 else 0
    rw [this]
  rw [shareOf_eq, tot_sm2, tot_sm]
  have e1 : (sm fun d => h d * XX c h f d * (if bl d = bl k then 1 else 0)) = XX c h f k * sm fun d => if bl d == bl k then h d else 0 := by
    rw [← sm_mul]
    refine sm_congr fun d hd => ?_
    by_cases hd2 : bl d = bl k
    · rw [if_pos hd2, if_pos (by simpa using hd2), hX d k hd hk hd2]; grind
    · rw [if_neg hd2, if_neg (by simpa using hd2)]; simp
  have e2 : (sm fun d => if f d then h d * (if bl d = bl k then 1 else 0) else 0) = sm fun d => if (bl d == bl k) && f d then h d else 0 := by
    refine sm_congr fun d hd => ?_
    by_cases hd2 : bl d = bl k <;> cases f d <;> simp [hd2]
  rw [e1, e2] at g
  have hm := XX_mul (c := c) (f := f) hh hk
  have b1 := HH_bd (c := c) hh hk
  have b2 : 5 ≤ sm fun d => if bl d == bl k then h d else 0 := (HH_bd (c := bl) hh hk).1
  generalize (sm fun d => if bl d == bl k then h d else 0) = Hb at *
  generalize (sm fun d => if (bl d == bl k) && f d then h d else 0) = Gb at *
  generalize HH c h k = H at *
  generalize GG c h f k = G at *
  generalize XX c h f k = X at *
  have hMM : MM ≠ 0 := by decide
  have cross : G * Hb = Gb * H := by
    have h1 : MM * (G * Hb) = MM * (Gb * H) := by
      rw [← Int.mul_assoc, ← hm, ← Int.mul_assoc, ← g]; grind
    exact Int.eq_of_mul_eq_mul_left hMM h1
  rw [Int.fdiv_eq_ediv_of_nonneg _ (by omega), Int.fdiv_eq_ediv_of_nonneg _ (by omega)]
  rw [← Int.mul_ediv_mul_of_pos_left (2048 * G) H (show 0 < Hb by omega), ← Int.mul_ediv_mul_of_pos_left (2048 * Gb) Hb (show 0 < H by omega)]
  rw [Int.mul_assoc, cross, Int.mul_assoc, Int.mul_comm H Hb]
end
section
open PySem PySem.Spec PySem.Calls PySem.W PyProof.Rows
/-- picks of a ledger, by their places; the tail stays -/
noncomputable def Led.sel (l : Led) : List Nat → Led → Led
  | [], T => T
  | i :: is, T => match l.drop i with
    | p :: _ => p :: Led.sel l is T
    | [] => Led.sel l is T
theorem Led.sel_mem {l T : Led} (hT : ∀ q ∈ T, q ∈ l) : ∀ {is : List Nat} {q : Addr × Obj}, q ∈ Led.sel l is T → q ∈ l
  | [], q, h => hT q h
  | i :: is, q, h => by
    unfold Led.sel at h
    split at h
    · rename_i p r e
      rcases (List.mem_cons.mp h) with rfl | h
      · have : q ∈ l.drop i := by rw [e]; exact .head _
        exact List.mem_of_mem_drop this
      · exact Led.sel_mem hT h
    · exact Led.sel_mem hT h
theorem mem_drop {l : Led} (k : Nat) : ∀ q ∈ l.drop k, q ∈ l := fun _ h => List.mem_of_mem_drop h
/-- a ledger laid anew: the picked entries, then the tail from k on -/
theorem News.sel {h₀ h : Heap} {L : Addr} {l : Led} (N : News h₀ L h l) (is : List Nat) (k : Nat) : News h₀ L h (Led.sel l is (l.drop k)) := fun p hp => N p (Led.sel_mem (mem_drop k) hp)
theorem News.pick {h₀ h : Heap} {L : Addr} {l : Led} (N : News h₀ L h l) (is : List Nat) : News h₀ L h (Led.sel l is []) := fun p hp => N p (Led.sel_mem (T := []) (fun _ h => by cases h) hp)
end
open Lean in
local macro_rules | `(tactic| walk_at $s:str) => match s.getString.splitOn "!" with | [_, q] => do `(tactic| repeat' ($(← nt [q]); walk_at "s2")) | _ => match tb.lookup s.getString with | some l => gs l | none => Macro.throwUnsupported
local macro_rules | `(tactic| walk_at "my enterC") => do `(tactic| (refine wpAny_call ?_; $(← gs [("code_defC", "aaaaarrqsstBrd?rrr")]); intro _ _ _ _ _ _ _ N' Y' B' _ _ l1; (try k_lt l1); k_cells Y'; (try simp only [List.cons_append, List.nil_append] at N'); (try dsimp only); (try k_lift B'); (try k_fold)))
local macro_rules | `(tactic| walk_at "my enter") => `(tactic| (refine wpAny_call ?_; k_dflt cell_enter))
local macro_rules | `(tactic| walk_at "st") => `(tactic| first | (k_unfold; (try dsimp only)) | walk1 | (dsimp only; walk1))
local macro_rules | `(tactic| walk_at "eval Name") => do `(tactic| (with_reducible show wpAny _ _ (eval (Expr.Name _ _) (compEnvC _ _ _ _)) _ _ _; k_here; $(← gs [("LCgL.ld_own", "amww?"), ("ldC_cell", "arma?rrD")])))
local macro_rules | `(tactic| k_mem) => `(tactic| first | with_reducible assumption | exact List.mem_cons_self | (refine List.mem_cons_of_mem _ ?_; k_mem) | (refine List.mem_append_left _ ?_; k_mem) | (refine List.mem_append_right _ ?_; k_mem))
local macro_rules | `(tactic| walk_at "binaryOp Mult ref int") => do `(tactic| (k_here; $(← gs [("Mine.rep_K", "aamoo?")]); intro _ _ l1 _ _; (try dsimp only); (try k_lt l1)))
local macro_rules | `(tactic| k_all) => `(tactic| first | with_reducible assumption | (refine ne_all1 (by with_reducible assumption) ?_; (try dsimp only); omega) | (refine ne_app ?_ ?_ <;> k_all))
local macro_rules | `(tactic| k_room) => `(tactic| ktr_room)
local macro_rules | `(tactic| walk_at "my enterN") => do `(tactic| (refine wpAny_call ?_; $(← gs [("code_nest", "aaaaarrqmCtBL?rrrD")]); intro _ _ _ _ _ _ B' _ _; (try dsimp only); (try k_lift B'); (try k_fold)))
local macro_rules | `(tactic| walk_at "s1") => do `(tactic| first | (k_unfold; (try dsimp only)) | ($(← nt ["wpAny:6 _ _ PySem.call:2 Value.ref:1 _ _ _ _ _", "wpAny:6 _ _ eval:2 Expr.ListComp:4 _ _ _ _ _ _ _ _", "wpAny:6 _ _ exec:2 Stmt.For:5 _ _ _ _ _ _ _ _ _", "wpAny:6 _ _ exec:2 Stmt.While:4 _ _ _ _ _ _ _ _", "wpAny:6 _ _ exec:2 Stmt.Assign:3 _ Expr.ListComp:4 _ _ _ _ _ _ _ _ _", "wpAny:6 _ _ pyIter:1 Value.ref:1 _ _ _ _", "wpAny:6 _ _ compareOp:3 CmpOp.NotEq:0 Value.ref:1 _ Value.ref:1 _ _ _ _"]); first | (k_end; wrow_close) | walk1 | (dsimp only; walk1) | (leave1; try dsimp only)))
local macro_rules | `(tactic| walk_at "ss") => `(tactic| repeat' (walk_at "s1"))
local macro_rules | `(tactic| walk_at "s2") => do `(tactic| ($(← nt ["Exists:1 _", "TurnI:9 _ _ _ _ _ _ _ _ _", "TurnW:8 _ _ _ _ _ _ _ _", "StartG:9 _ _ _ _ _ _ _ _ _", "Cps:1 _"]); walk_at "s1"))
local macro_rules | `(tactic| walk_at "sx") => `(tactic| repeat' (walk_at "s2"))
local macro_rules | `(tactic| walk_at "call builtin:sum") => do `(tactic| ($(← gs [("Mine.sum_M", "raama?")]); intro _ _ _ _ _))
local macro_rules | `(tactic| walk_at "call builtin:list.append") => do `(tactic| ($(← gs [("append_K", "aau?z")]); intro _ _ N'; (try dsimp only [List.nil_append, List.cons_append] at N')))
local macro_rules | `(tactic| walk_at "call builtin:iter") => do `(tactic| ($(← gs [("Mine.ci_make", "aam?")]); intro _ _ _ _ _))
local macro_rules | `(tactic| walk_at "my enterCls") => do `(tactic| ($(← gs [("code_def", "aaaaarrqsstBL?rrrD")]); intro _ _ _ _ _ _ B' _ _; (try dsimp only); (try k_lift B'); (try k_fold)))
local macro_rules | `(tactic| walk_at "y1") => do `(tactic| ($(← nt ["KdnMade:7 _ _ _ _ _ _ _", "wpAny:6 _ _ subscriptTail:4 _ _ Value.ref:1 _ Value.str:2 _ _ _ _ _", "wpAny:6 _ _ setItem:3 Value.ref:1 _ Value.str:2 _ _ _ _ _ _", "wpAny:6 _ _ compareOp:3 CmpOp.Eq:0 Value.ref:1 _ Value.ref:1 _ _ _ _", "wpAny:6 _ _ PySem.call:2 Value.type:1 _ _ _ _ _"]); walk_at "s2"))
local macro_rules | `(tactic| walk_at "sy") => `(tactic| repeat' (walk_at "y1"))
section
local macro_rules | `(tactic| walk_at "storeName") => do `(tactic| (k_here; $(← gs [("Mine.stl", "aa?f")]); intro _ _ _ _; (try k_sweep)))
section
open PySem PySem.Spec PySem.Calls PySem.W PyProof.Rows PyProof.Rows.LCg
theorem strip_c (w : World) (mean : ExcName → Option Value) (mg mb : Str → Option Value) {p : Program} {loose : List Str}
    {dp un : Nat} {gd : Option (List Code)} {cn : Str} {cs : Scope} {a : Addr} {ccd : Value} {cl : List (Str × Addr)} {outer : List Env} {A₀ : Around} {base h₀ : Heap} {L : Addr} {m : Str → Option Value} {news : Led} {s : Shared} {Q E : Value → Shared → Prop}
    (B : Below A₀ base outer h₀) (F : Fr h₀ L s.heap m) (X : (Mine.hd.heap_39 w.params).In h₀) (N : News h₀ L s.heap news) (T : Top p loose mean mg mb h₀) (hk : cs.kind = .function)
    (hd : dp + 2 < recursionLimit) (hu : un + 30 < cLine)
    (x : Str) (t1 : Tok) (hlen : x.length ≤ 40) (hN : Txt.find x (Str.ofString "\n") = -1) (e r : Int) (hC : find4 x (Str.ofString ":") 0 x.length = e) (he : 0 ≤ e) (hR : rfind4 x (Str.ofString ".") 0 e = r) (y : Str) (hy1 : 0 ≤ r → Txt.slice x (some (r + 1)) (some e) = y) (hy2 : ¬ 0 ≤ r → Txt.slice x (some 0) (some e) = y)
    (hret : ∀ h' tk' t', Fr h₀ L h' m → News h₀ L h' news → Q (.str y t') { s with heap := h', toks := tk' }) :
    wpAny (model PySem.Challenge.rw_sn0056_01.prog w) (ktrTop dp un gd cn cs L a ccd cl outer) (call (.ref 84) [.str x t1]) Q E s := by
  revert X; k_fill; intro X
  walk_at "my enter"
  walk_at "ss"
  (with_reducible rename _ ∨ _ => hj)
  rcases hj with ⟨h1, h2⟩ | ⟨h1, h2⟩
  · omega
  subst h2
  refine find4_M ?_
  rw [hC]
  walk_at "ss"
  · refine rfind4_M ?_
    rw [hR]
    walk_at "ss"
    · (with_reducible rename News h₀ _ _ _ => kN9)
      rw [hy1 (by assumption)]
      exact hret _ _ _ (by k_asm) (News.sub kN9 fun p hp => .tail _ hp)
    · (with_reducible rename News h₀ _ _ _ => kN9)
      rw [hy2 (by assumption)]
      exact hret _ _ _ (by k_asm) (News.sub kN9 fun p hp => .tail _ hp)
end
section
open PySem PySem.Spec PySem.Calls PySem.W PyProof.Rows PyProof.Rows.LCg
set_option maxHeartbeats 4000000 in
theorem hsv_c (w : World) (mean : ExcName → Option Value) (mg mb : Str → Option Value) {p : Program} {loose : List Str}
    {dp un : Nat} {gd : Option (List Code)} {cn : Str} {cs : Scope} {a : Addr} {ccd : Value} {cl : List (Str × Addr)} {outer : List Env} {A₀ : Around} {base h₀ : Heap} {L : Addr} {m : Str → Option Value} {news : Led} {s : Shared} {Q E : Value → Shared → Prop}
    (B : Below A₀ base outer h₀) (F : Fr h₀ L s.heap m) (X : (Mine.hd.heap_39 w.params).In h₀) (N : News h₀ L s.heap news) (T : Top p loose mean mg mb h₀) (hk : cs.kind = .function)
    (hd : dp + 2 < recursionLimit) (hu : un + 30 < cLine)
    (x y z M n : UInt64) (t1 t2 t3 tM tn : Tok) (hM : mx3 (.float x t1) (.float y t2) (.float z t3) = .float M tM) (hn : mn3 (.float x t1) (.float y t2) (.float z t3) = .float n tn)
    (hz : Float64.cmp n M ≠ some .eq → Float64.isZero M = false ∧ Float64.isZero (Float64.sub M n) = false)
    (hret : ∀ h' tk' t' r x y, Fr h₀ L h' m → News h₀ L h' ((r, { cls := .type "tuple", data := .seq #[x, y, .float M t'] }) :: news) → Q (.ref r) { s with heap := h', toks := tk' }) :
    wpAny (model PySem.Challenge.rw_sn0056_01.prog w) (ktrTop dp un gd cn cs L a ccd cl outer) (call (.ref 70) [.float x t1, .float y t2, .float z t3]) Q E s := by
  revert X; k_fill; intro X
  walk_at "my enter"
  walk_at "ss"
  (with_reducible rename Fr _ _ _ _ => kF)
  (with_reducible rename News _ _ _ _ => kN)
  refine max3_M rfl (.float _ _) (.float _ _) (.float _ _) hM kF kN ?_
  intro h1 tk1 kF1 kN1
  walk_at "ss"
  (with_reducible rename Fr _ _ _ _ => kF2)
  (with_reducible rename News _ _ _ _ => kN2)
  refine min3_M rfl (.float _ _) (.float _ _) (.float _ _) hn kF2 kN2 ?_
  intro h2 tk2 kF3 kN3
  walk_at "ss"
  all_goals ((with_reducible rename News h₀ _ _ _ => kN9); exact hret _ _ _ _ _ _ (by k_asm) kN9)
end
section
open PySem PySem.Spec PySem.Calls PySem.W PyProof.Rows PyProof.Rows.LCg
set_option maxHeartbeats 4000000 in
theorem hls_c (w : World) (mean : ExcName → Option Value) (mg mb : Str → Option Value) {p : Program} {loose : List Str}
    {dp un : Nat} {gd : Option (List Code)} {cn : Str} {cs : Scope} {a : Addr} {ccd : Value} {cl : List (Str × Addr)} {outer : List Env} {A₀ : Around} {base h₀ : Heap} {L : Addr} {m : Str → Option Value} {news : Led} {s : Shared} {Q E : Value → Shared → Prop}
    (B : Below A₀ base outer h₀) (F : Fr h₀ L s.heap m) (X : (Mine.hd.heap_39 w.params).In h₀) (N : News h₀ L s.heap news) (T : Top p loose mean mg mb h₀) (hk : cs.kind = .function)
    (hd : dp + 2 < recursionLimit) (hu : un + 30 < cLine)
    (x y z M n : UInt64) (t1 t2 t3 tM tn : Tok) (hM : mx3 (.float x t1) (.float y t2) (.float z t3) = .float M tM) (hn : mn3 (.float x t1) (.float y t2) (.float z t3) = .float n tn)
    (hz : Float64.cmp n M ≠ some .eq → Float64.isZero (Float64.add M n) = false ∧ Float64.isZero (Float64.sub M n) = false ∧ Float64.isZero (Float64.sub (Float64.sub 0x4000000000000000 M) n) = false)
    (hret : ∀ h' tk' t' r x y, Fr h₀ L h' m → News h₀ L h' ((r, { cls := .type "tuple", data := .seq #[x, .float (Float64.div (Float64.add M n) 0x4000000000000000) t', y] }) :: news) → Q (.ref r) { s with heap := h', toks := tk' }) :
    wpAny (model PySem.Challenge.rw_sn0056_01.prog w) (ktrTop dp un gd cn cs L a ccd cl outer) (call (.ref 63) [.float x t1, .float y t2, .float z t3]) Q E s := by
  revert X; k_fill; intro X
  walk_at "my enter"
  walk_at "ss"
  (with_reducible rename Fr _ _ _ _ => kF)
  (with_reducible rename News _ _ _ _ => kN)
  refine max3_M rfl (.float _ _) (.float _ _) (.float _ _) hM kF kN ?_
  intro h1 tk1 kF1 kN1
  walk_at "ss"
  (with_reducible rename Fr _ _ _ _ => kF2)
  (with_reducible rename News _ _ _ _ => kN2)
  refine min3_M rfl (.float _ _) (.float _ _) (.float _ _) hn kF2 kN2 ?_
  intro h2 tk2 kF3 kN3
  walk_at "ss"
  all_goals ((with_reducible rename News h₀ _ _ _ => kN9); exact hret _ _ _ _ _ _ (by k_asm) kN9)
end
section
open PySem PySem.Spec PySem.Calls PySem.W PyProof.Rows PyProof.Rows.LCg
noncomputable def chOf (b : Nat) : Str := if b = 0 then Str.ofString "a" else Str.ofString "b"
noncomputable def leadOf (j : Nat) : Str := if j = 0 then Str.ofString "" else if j = 1 then Str.ofString "sky." else Str.ofString "far.sky."
theorem chOf_len (b : Nat) : (chOf b).length = 1 := by unfold chOf; split <;> decide +kernel
noncomputable def lettersOf (a b c : Nat) : Str := Txt.join (Str.ofString "") [chOf a, chOf b, chOf c]
theorem lettersOf_len (a b c : Nat) : (lettersOf a b c).length = 3 := by unfold lettersOf chOf; split <;> split <;> split <;> decide +kernel
theorem item_ab (y : Int) : Txt.item (Str.ofString "ab") (y.fmod 2) = chOf (y.fmod 2).toNat := by
  rcases fm2 y with h | h <;> rw [h] <;> decide +kernel
noncomputable def bareOf (b : Nat) : Str := if b = 0 then Str.ofString "Mist" else Str.ofString "Rain"
set_option maxRecDepth 100000 in
set_option maxHeartbeats 8000000 in
theorem day_c (w : World) (mean : ExcName → Option Value) (mg mb : Str → Option Value) {p : Program} {loose : List Str}
    {dp un : Nat} {gd : Option (List Code)} {cn : Str} {cs : Scope} {a : Addr} {ccd : Value} {cl : List (Str × Addr)} {outer : List Env} {A₀ : Around} {base h₀ : Heap} {L : Addr} {m : Str → Option Value} {news : Led} {s : Shared} {Q E : Value → Shared → Prop}
    (B : Below A₀ base outer h₀) (F : Fr h₀ L s.heap m) (X : (Mine.hd.heap_39 w.params).In h₀) (N : News h₀ L s.heap news) (T : Top p loose mean mg mb h₀) (hk : cs.kind = .function)
    (hd : dp + 10 < recursionLimit) (hu : un + 100 < cLine)
    (x k : Int) (t1 t2 : Tok) (hx0 : 0 ≤ x) (hx1 : x < 2 ^ 40) (hk0 : 0 ≤ k) (hk1 : k < 6)
    (hret : ∀ D P b j lt u1 u2 u3 u4 u5 u6 h' tk', (x.fdiv 27).fmod 2 = ((b : Nat) : Int) → b < 2 → k.fmod 3 = ((j : Nat) : Int) → j < 3 → lettersOf (((x.fdiv 54).fdiv ((1 : Nat) : Int)).fmod 2).toNat (((x.fdiv 54).fdiv ((2 : Nat) : Int)).fmod 2).toNat (((x.fdiv 54).fdiv ((4 : Nat) : Int)).fmod 2).toNat = lt →
      (∀ p ∈ news, p.1 < P ∧ p.1 < D) → P ≠ D → Fr h₀ L h' m → News h₀ L h' ((D, ({ cls := .type "tuple", data := .seq #[.ref P, .str (bareOf b) u1, .str lt u2, .str (leadOf j ++ bareOf b ++ Str.ofString ": " ++ lt) u3] } : Obj)) :: (P, PySem.W.listOf #[.int (x.fmod 3) u4, .int ((x.fdiv 3).fmod 3) u5, .int ((x.fdiv 9).fmod 3) u6] 0) :: news) → Q (.ref D) { s with heap := h', toks := tk' }) :
    wpAny (model PySem.Challenge.rw_sn0056_01.prog w) (ktrTop dp un gd cn cs L a ccd cl outer) (call (.ref 138) [.int x t1, .int k t2]) Q E s := by
  revert X; k_fill; intro X
  walk_at "my enterC"
  walk_at "!wpAny:6 _ _ subscriptTail:4 _ _ Value.ref:1 _ Value.int:2 _ _ _ _ _"
  (with_reducible rename _ ∧ AllLt _ news => hPl)
  refine (no_index (?_ : ∀ b : Nat, ((x.fdiv 27).fmod 2 = b) → (b < 2) → _)) (((x.fdiv 27).fmod 2).toNat) (fmn (x.fdiv 27) 2 (by decide)).1 (fmn (x.fdiv 27) 2 (by decide)).2
  intro b hb hb2
  rw [hb]
  have hx2 : ∀ (u v : Tok), ([Value.str (Str.ofString "Mist") u, .str (Str.ofString "Rain") v])[b]? = some (.str (bareOf b) (if b = 0 then u else v)) := fun u v => by
    rcases b with _ | _ | b
    · rfl
    · rfl
    · omega
  (with_reducible rename News _ _ _ _ => kN)
  refine titem_M kN (.head _) (by omega) (by omega) (seqIdx 2 b hb2) (hx2 _ _) ?_ (by with_unfolding_all rfl)
  walk_at "sx"
  (with_reducible rename Fr _ _ _ _ => kF)
  refine ListComp_M kF [1, 2, 4] (fun (a : Nat) v => ∃ t, v = .int (a : Int) t) (fun _ => true) (fun a y tl => tl = [] ∧ ∃ t, y = .str (chOf (((x.fdiv 54).fdiv (a : Int)).fmod 2).toNat) t) (fun _ v m₁ => m₁ "two" = some v) (by with_unfolding_all rfl) (by decide) rfl (by decide) ?_ (fun _ => rfl)
  walk_at "sx"
  (with_reducible rename Fr _ _ _ _ => kF2)
  (with_reducible rename News _ _ _ _ => kN2)
  refine comp_tuple rfl kF2 kN2 (.head _) (.cons ⟨_, rfl⟩ (.cons ⟨_, rfl⟩ (.cons ⟨_, rfl⟩ .nil))) (by decide) rfl rfl ?_ ?_ ?_
  · intro a v C oC m₁ own s₁ Q₁ E₁ ha hv hm hC F₁ N₁ h
    refine test_nil ?_
    exact h _ _ F₁ N₁
  · intro a v C oC m₁ own s₁ Q₁ E₁ ha hP9_21 v9_22 hm hC F₁ N₁ h
    obtain ⟨t, rfl⟩ := hP9_21
    simp only [List.mem_cons, List.not_mem_nil, or_false] at ha
    rcases ha with rfl | rfl | rfl
    all_goals (walk_at "sx")
    all_goals (rw [item_ab]; refine h _ _ _ ⟨_, rfl⟩ ?_ ?_ <;> assumption)
  · intro D ys h3 tk3 hV hD F3 N3
    obtain _ | ⟨⟨u1, rfl⟩, _ | ⟨⟨u2, rfl⟩, _ | ⟨⟨u3, rfl⟩, _ | _⟩⟩⟩ := hV
    walk_at "sx"
    (with_reducible rename Fr _ _ _ _ => kF3)
    (with_reducible rename News _ _ _ _ => kN3)
    refine join_listW (News.isList kN3 (.head _)) (.cons _ _ (.cons _ _ (.cons _ _ .nil))) (by decide) (by simp [chOf_len]) ?_
    intro t4 k4
    refine (no_index (?_ : ∀ lt, (lettersOf (((x.fdiv 54).fdiv ((1 : Nat) : Int)).fmod 2).toNat (((x.fdiv 54).fdiv ((2 : Nat) : Int)).fmod 2).toNat (((x.fdiv 54).fdiv ((4 : Nat) : Int)).fmod 2).toNat = lt) → (lt.length = 3) → _)) _ rfl (lettersOf_len _ _ _)
    intro lt hlt hltl
    rw [show Txt.join (Str.ofString "") [chOf (((x.fdiv 54).fdiv ((1 : Nat) : Int)).fmod 2).toNat, chOf (((x.fdiv 54).fdiv ((2 : Nat) : Int)).fmod 2).toNat, chOf (((x.fdiv 54).fdiv ((4 : Nat) : Int)).fmod 2).toNat] = lt from hlt]
    walk_at "!wpAny:6 _ _ subscriptTail:4 _ _ Value.ref:1 _ Value.int:2 _ _ _ _ _"
    refine (no_index (?_ : ∀ j : Nat, (k.fmod 3 = j) → (j < 3) → _)) ((k.fmod 3).toNat) (fmn k 3 (by decide)).1 (fmn k 3 (by decide)).2
    intro j hj hj2
    have hx3 : ∀ (u v w : Tok), ([Value.str (Str.ofString "") u, .str (Str.ofString "sky.") v, .str (Str.ofString "far.sky.") w])[j]? = some (.str (leadOf j) (if j = 0 then u else if j = 1 then v else w)) := fun u v w => by
      rcases j with _ | _ | _ | j
      · rfl
      · rfl
      · rfl
      · omega
    (with_reducible rename News _ _ _ _ => kN8)
    rw [hj]
    refine titem_M kN8 (.head _) (by omega) (by omega) (seqIdx 3 j hj2) (hx3 _ _ _) ?_ (by with_unfolding_all rfl)
    have hlb : (bareOf b).length = 4 := by unfold bareOf; split <;> decide +kernel
    have hlj : (leadOf j).length ≤ 8 := by unfold leadOf; split; decide +kernel; split <;> decide +kernel
    have hc2 : (Str.ofString ": ").length ≤ 2 := by decide +kernel
    have b0 := sb hlj (Nat.le_of_eq hlb) rfl
    have b1 := sb (sl hlj (Nat.le_of_eq hlb)) hc2 rfl
    have b2 := sb (sl (sl hlj (Nat.le_of_eq hlb)) hc2) (Nat.le_of_eq hltl) rfl
    walk_at "sx"
    (with_reducible rename News h₀ _ _ _ => kN9)
    refine hret _ _ _ _ _ _ _ _ _ _ _ _ _ hb hb2 hj hj2 hlt ?_ ?_ (by k_asm) (News.pick2 kN9 (.head _) (by k_mem) (fun r hr => by k_mem))
    · intro p hp
      (with_reducible rename _ ∧ _ ∧ _ ∧ _ ∧ _ ∧ _ ∧ AllLt _ news => hDl)
      exact ⟨ktn_ltOf hPl.2 p hp, ktn_ltOf hDl.2.2.2.2.2.2 p hp⟩
    · (with_reducible rename _ ∧ _ ∧ _ ∧ _ ∧ _ ∧ _ ∧ AllLt _ news => hDl)
      exact Nat.ne_of_lt hDl.2.2.2.2.1
end
end
section
open PySem PySem.Spec PySem.Calls PySem.W PyProof.Rows PyProof.Rows.LCg
theorem cells_c (w : World) (mean : ExcName → Option Value) (mg mb : Str → Option Value) {p : Program} {loose : List Str}
    {dp un : Nat} {gd : Option (List Code)} {cn : Str} {cs : Scope} {a : Addr} {ccd : Value} {cl : List (Str × Addr)} {outer : List Env} {A₀ : Around} {base h₀ : Heap} {L : Addr} {m : Str → Option Value} {news : Led} {s : Shared} {Q E : Value → Shared → Prop}
    (B : Below A₀ base outer h₀) (F : Fr h₀ L s.heap m) (X : (Mine.hd.heap_39 w.params).In h₀) (N : News h₀ L s.heap news) (T : Top p loose mean mg mb h₀) (hk : cs.kind = .function)
    (hd : dp + 2 < recursionLimit) (hu : un + 60 < cLine)
    (l : Addr) (its : Array Value) (n : Nat) (e : Value → Value → Bool)
    (hl : (l, ({ cls := .type "list", data := .seq its n } : Obj)) ∈ news) (hsz : its.size ≤ 1000)
    (he : ∀ (A' : Around) (s' : Shared) (y x : Value), A'.units + 2 < cLine → y ∈ its → x ∈ its → (∀ p ∈ news, s'.heap.get? p.1 = some p.2) → (∀ b o, h₀.get? b = some o → s'.heap.get? b = some o) → SeqAt.EqAt A' s' y x (e y x))
    (href : ∀ x, x ∈ its → e x x = true)
    (hret : ∀ D ys h' tk', IntsAre ys (its.toList.map fun x => (its.toList.findIdx fun y => e y x : Nat)) → (∀ p ∈ news, p.1 < D) → Fr h₀ L h' m → News h₀ L h' ((D, lst ys) :: news) → Q (.ref D) { s with heap := h', toks := tk' }) :
    wpAny (model PySem.Challenge.rw_sn0056_01.prog w) (ktrTop dp un gd cn cs L a ccd cl outer) (call (.ref 164) [.ref l]) Q E s := by
  revert X; k_fill; intro X
  walk_at "my enterC"
  (with_reducible rename Fr h₀ L _ m => kFG)
  walk_at "st"
  walk_at "st"
  (with_reducible rename Fr _ _ _ _ => kF)
  refine ListComp_M kF its.toList (fun a v => v = a) (fun _ => true) (fun x y tl => tl = [] ∧ ∃ t, y = .int ((its.toList.findIdx fun y => e y x : Nat) : Int) t) (fun _ v m₁ => m₁ "one" = some v) (by with_unfolding_all rfl) (by decide) rfl (by decide) ?_ (fun _ => rfl)
  walk_at "st"
  try k_unfold
  try dsimp only
  refine src_list (o := { cls := .type "list", data := .seq its n }) (its := its) (as := its.toList) (Is := fun a v => v = a) rfl kF (by k_asm) (by k_mem) rfl ⟨n, rfl⟩ Array.length_toList.symm ?_ ?_
  · intro i a v h1 h2
    rw [Array.getElem?_toList] at h1
    rw [h1] at h2
    exact (Option.some.inj h2).symm
  intro I h₂ St W hst F₂ N₂ off _
  refine ⟨I, St, _, _, rfl, W, ?_, hst, F₂, N₂, fun q hq => ?_, off, ⟨?_, ?_, ?_, ?_⟩, ?_⟩
  · rw [sizeLine_eq]; simp; omega
  · rw [List.mem_singleton.mp hq]; k_mem
  · intro i a v s Q E' _ _ _ _ _ hq
    exact wpAny_pure hq
  · intro a v C oC m₁ own s Q E' _ _ hC F N off h
    exact asg_name hC F N off rfl rfl h
  · intro a v C oC m₁ own s Q E' _ _ _ _ F N h
    refine test_nil ?_
    exact h _ _ F N
  · intro a v C oC m₁ own s₅ Q₅ E' ha hv _ hB hC F₅ N₅ hQ₅
    subst hv
    k_steps
    refine index_K (D := l) (its := its) (n := n) (fun y => e y v) N₅ (by k_mem) ?_ ⟨v, by simpa using ha, href v (by simpa using ha)⟩ hsz ?_
    · intro y hy
      exact he _ s₅ y v (by first | units_room | (dsimp only [Around.deeper]; omega)) hy (by simpa using ha) (fun p hp => (N₅ p (by k_mem)).1) fun b o hb => F₅.keep b o (kFG.keep b o hb)
    · exact hQ₅ _ [] _ _ ⟨rfl, _, rfl⟩ F₅ N₅ (fun _ h => nomatch h)
  · intro D ys TL h₃ tk₃ G hTL hD F₃ N₃
    rw [List.filter_eq_self.mpr (fun _ _ => rfl)] at G
    obtain ⟨rfl, hi⟩ := G.ints
    walk_at "st"
    (with_reducible rename News h₀ L _ _ => kN2)
    exact hret D ys h₃ tk₃ hi (fun p hp => hD p (by k_mem)) (by k_asm) (News.sub kN2 fun p hp => by
      rcases List.mem_cons.mp hp with rfl | hp
      · exact .head _
      · exact .tail _ (.tail _ hp))
end
section
open PySem PySem.Spec PySem.Calls PySem.W PyProof.Rows PyProof.Rows.LCg
theorem div2n1n_c (w : World) (mean : ExcName → Option Value) (mg mb : Str → Option Value) {p : Program} {loose : List Str}
    {dp un : Nat} {gd : Option (List Code)} {cn : Str} {cs : Scope} {a : Addr} {ccd : Value} {cl : List (Str × Addr)} {outer : List Env} {A₀ : Around} {base h₀ : Heap} {L : Addr} {m : Str → Option Value} {news : Led} {s : Shared} {Q E : Value → Shared → Prop}
    (B : Below A₀ base outer h₀) (F : Fr h₀ L s.heap m) (X : (Mine.hd.heap_39 w.params).In h₀) (N : News h₀ L s.heap news) (T : Top p loose mean mg mb h₀) (hk : cs.kind = .function)
    (hd : dp + 2 < recursionLimit) (hu : un + 16 < cLine)
    (x y n : Int) (t1 t2 t3 : Tok) (hx0 : 0 ≤ x) (hx1 : x < 2 ^ 40) (hy0 : 0 < y) (hy1 : y < 1000) (hn0 : 0 < n) (hn1 : n < 100)
    (hret : ∀ D tq tr h' tk', (∀ p ∈ news, p.1 < D) → Fr h₀ L h' m → News h₀ L h' ((D, ({ cls := .type "tuple", data := .seq #[.int (x.fdiv y) tq, .int (x.fmod y) tr] } : Obj)) :: news) → Q (.ref D) { s with heap := h', toks := tk' }) :
    wpAny (model PySem.Challenge.rw_sn0056_01.prog w) (ktrTop dp un gd cn cs L a ccd cl outer) (call (.ref 21) [.int x t1, .int y t2, .int n t3]) Q E s := by
  revert X; k_fill; intro X
  have hb : Builtin.Int.intBits x ≤ 40 := intBits_le_iff.mpr (by omega)
  walk_at "my enter"
  k_steps
  all_goals exact hret _ _ _ _ _ (News.lt (by k_asm)) (by k_asm) (by k_asm)
end
section
open PySem PySem.Spec PySem.Calls PySem.W PyProof.Rows PyProof.Rows.LCg
set_option maxRecDepth 100000 in
set_option maxHeartbeats 8000000 in
theorem int2digits_c (w : World) (mean : ExcName → Option Value) (mg mb : Str → Option Value) {p : Program} {loose : List Str}
    {dp un : Nat} {gd : Option (List Code)} {cn : Str} {cs : Scope} {a : Addr} {ccd : Value} {cl : List (Str × Addr)} {outer : List Env} {A₀ : Around} {base h₀ : Heap} {L : Addr} {m : Str → Option Value} {news tl : Led} {s : Shared} {Q E : Value → Shared → Prop}
    (B : Below A₀ base outer h₀) (F : Fr h₀ L s.heap m) (X : (Mine.hd.heap_39 w.params).In h₀) (N : News h₀ L s.heap (news ++ tl)) (T : Top p loose mean mg mb h₀) (hk : cs.kind = .function)
    (hd : dp + 100 < recursionLimit) (hu : un + 500 < cLine) (C30 : CodeHd base 34 30) (ht30 : TabOk 30 ⟨32, 4, 41, 28⟩ (Str.ofString "_int2digits.<locals>.inner") tl) (ap : ∀ q ∈ news, ∀ p ∈ tl, q.1 ≠ p.1)
    (x n : Int) (t1 t2 : Tok) (hx0 : 0 ≤ x) (hx1 : x < 2 ^ 30) (hn0 : 0 < n) (hn1 : n < 100)
    (hret : ∀ l its ep ns h' tk' tl', IntsAre its.toList ns → segv (2 ^ n.toNat) ns = x → (∀ y ∈ ns, 0 ≤ y ∧ y < 2 ^ 30) → ns.length ≤ 200 → TabOk 30 ⟨32, 4, 41, 28⟩ (Str.ofString "_int2digits.<locals>.inner") tl' →
      (∀ p ∈ news, p.1 < l) → (∀ q ∈ news, ∀ p ∈ tl', q.1 ≠ p.1) → (∀ p ∈ tl', l ≠ p.1) → Fr h₀ L h' m → News h₀ L h' ((l, ({ cls := .type "list", data := .seq its ep } : Obj)) :: (news ++ tl')) → Q (.ref l) { s with heap := h', toks := tk' }) :
    wpAny (model PySem.Challenge.rw_sn0056_01.prog w) (ktrTop dp un gd cn cs L a ccd cl outer) (call (.ref 35) [.int x t1, .int n t2]) Q E s := by
  revert X; k_fill; intro X
  have hb : Builtin.Int.intBits x ≤ 30 := intBits_le_iff.mpr (by omega)
  have hD1 : ((Builtin.Int.intBits x : Int) + n - 1).fdiv n < 31 := by
    rw [Int.fdiv_eq_ediv_of_nonneg _ (by omega)]
    exact Int.ediv_lt_of_lt_mul hn0 (by omega)
  have hD0 : 0 ≤ ((Builtin.Int.intBits x : Int) + n - 1).fdiv n := by
    rw [Int.fdiv_eq_ediv_of_nonneg _ (by omega)]
    exact Int.ediv_nonneg (by omega) (by omega)
  walk_at "my enterC"
  rename_i g1 L1 h1 tk1 FG1 F1 B1 X1 T1 lt1 o1 o2 o3 d1 d2 d3 N1
  replace d1 : o1.data = .cell none := d1
  replace d2 : o2.data = .cell none := d2
  replace d3 : o3.data = .cell (some (.int n t2)) := d3
  generalize hm1 : bindL _ _ _ = m1 at F1
  have ma : m1 "a" = some (.int x t1) := by rw [← hm1]; rfl
  clear hm1
  iterate 26 walk_at "st"
  rename_i l2 h2 lt2 l3 h3 lt3 h4 o4 F4 N4 d4
  have hI0 : IntsAre (List.replicate ((↑(Builtin.Int.intBits x) + n - 1).fdiv n).toNat (Value.int 0 tk1)).toArray.toList (List.replicate ((↑(Builtin.Int.intBits x) + n - 1).fdiv n).toNat 0) := ints_replicate _ _
  have hz0 : (List.replicate ((↑(Builtin.Int.intBits x) + n - 1).fdiv n).toNat (Value.int 0 tk1)).toArray.size = ((↑(Builtin.Int.intBits x) + n - 1).fdiv n).toNat := by simp
  generalize (List.replicate ((↑(Builtin.Int.intBits x) + n - 1).fdiv n).toNat (Value.int 0 tk1)).toArray = its0 at N4 hI0 hz0
  k_dflt refine' nest_any (P := 30) (c := 34) (qual := Str.ofString "_int2digits.<locals>.inner") (tl := tl) (rest := (l3, { cls := Value.type "list", data := Data.seq its0 }) :: (l2, W.listOf #[Value.int 0 tk1] 0) :: (L1 + 1 + 1 + 1, o1) :: (L1 + 1 + 1, o4) :: (L1 + 1, o3) :: news) F4 N4 T1 ?C rfl ht30 ?off ?hq ?cl rfl rfl rfl ?_
  case hq => kernel_rfl
  case C => kn_code
  case cl => exact rfl
  case off =>
    intro q hq p hp
    have l2a := ltN lt2.1
    have l3a := ltN lt3.1
    have b1 := fun p hp => ltN (lt1 p (List.mem_append_right news hp))
    have b2 := ltN (b1 p hp)
    rcases List.mem_cons.mp hq with rfl | hq
    · exact Nat.ne_of_gt (Nat.lt_trans b2 (by dsimp only; omega))
    rcases List.mem_cons.mp hq with rfl | hq
    · exact Nat.ne_of_gt (Nat.lt_trans b2 (by dsimp only; omega))
    rcases List.mem_cons.mp hq with rfl | hq
    · exact Nat.ne_of_gt (Nat.lt_trans b2 (by dsimp only; omega))
    rcases List.mem_cons.mp hq with rfl | hq
    · exact Nat.ne_of_gt (Nat.lt_trans b2 (by dsimp only; omega))
    rcases List.mem_cons.mp hq with rfl | hq
    · exact Nat.ne_of_gt (Nat.lt_trans b2 (by dsimp only; omega))
    exact ap q hq p hp
  intro f c1 oc vs tq ctv doc h5 tk5 tl5 ht5 hc5 hoc hvs ap5 ltf F5 N5
  have lf : ∀ q ∈ tl5, q.1 < f := fun q hq => ltf q (by k_mem)
  have apc : ∀ q ∈ tl5, q.1 ≠ L1 + 1 + 1 + 1 := fun q hq e => ap5 (L1 + 1 + 1 + 1, o1) (by k_mem) q hq e.symm
  have ltn : ∀ q ∈ news, q.1 < L1 := fun q hq => lt1 q (by k_mem)
  have ltf1 := ltN (ltf (L1 + 1 + 1 + 1, o1) (by k_mem))
  have ltf2 := ltN (ltf (l3, _) (.head _))
  dsimp only at ltf1 ltf2
  generalize hfo : fnMade _ _ _ _ _ _ _ _ _ _ = fo at N5
  simp only [List.cons_append] at N5
  walk_at "st"
  rename_i h6 o6 F6 N6 d6
  have key : ∀ k, Inner1 w p loose mean mg mb base fo f c1 oc (L1 + 1 + 1) (L1 + 1) (L1 + 1 + 1 + 1) l3 o4 o3 o6 n k := by
    intro k
    clear N6 F6 FG1 B1 X1 T1 N F B X T ap5 ltf lt3 lt2 lt1 lf apc ltn ltf1 ltf2
    induction k with
    | zero =>
      unfold Inner1
      intro dp un gd cn' cs a ccd cl outer A₀ h₀ L m rest s Q E x lo hi tx t1 t2 its ep ns hk1 hlt hhi
      omega
    | succ k IH =>
      unfold Inner1
      intro dp un gd cn' cs a ccd cl outer A₀ h₀ L m rest s Q E x lo hi tx t1 t2 its ep ns hk1 hlt hhi hlen hx0 hx1 B F X T hk hd hu N off m1 m2 m3 m4 m5 hI hret
      have m1o := m1
      rw [← hfo] at m1
      walk_at "my enterN"
      iterate 24 walk_at "s1"
      · obtain ⟨M, hM, hlM, hMh, hS0, hS1, z1, z2, z3, z4, z5, z6, z7, z8, z9, z10, z11⟩ := mid_all hlt (by assumption) hk1 hhi hlen (by assumption) (by assumption)
        have hU0 := fdiv_lo ((((lo : Int) + hi).fdiv (2 ^ Int.toNat 1) - lo) * n).toNat hx0
        have hU1 := fdiv_le ((((lo : Int) + hi).fdiv (2 ^ Int.toNat 1) - lo) * n).toNat hx0
        walk_at "ss"
        have hXr := xor_hi ((((lo : Int) + hi).fdiv (2 ^ Int.toNat 1) - lo) * n).toNat hx0
        have hL0 := fmod_lo (x := x) ((((lo : Int) + hi).fdiv (2 ^ Int.toNat 1) - lo) * n).toNat
        have hL1 := fmod_le ((((lo : Int) + hi).fdiv (2 ^ Int.toNat 1) - lo) * n).toNat hx0
        have hsum := fmod_fdiv x ((((lo : Int) + hi).fdiv (2 ^ Int.toNat 1) - lo) * n).toNat
        rw [hXr, hM]
        rw [hM] at hL0 hL1 hU0 hU1 hsum
        (with_reducible rename Fr _ _ _ _ => kF1)
        (with_reducible rename News _ _ _ _ => kN1)
        (with_reducible rename Below _ _ _ _ => kB1)
        (with_reducible rename Top _ _ _ _ _ _ => kT1)
        refine IH _ lo M _ _ _ its ep ns z1 hlM z3 hlen hL0 (Int.lt_of_le_of_lt hL1 hx1) kB1 kF1 (by k_asm) kT1 rfl (by k_room) (by k_room) kN1 off m1o m2 m3 m4 m5 hI ?_
        intro its2 ep2 ns2 h2 tk2 hI2 hl2 ho2 hs2 hb2 F2 N2
        walk_at "ss"
        rw [hM]
        (with_reducible rename Fr _ _ _ _ => kF2)
        (with_reducible rename News _ _ _ _ => kN2)
        refine IH _ M hi _ _ _ its2 ep2 ns2 z2 hMh (hl2 ▸ hhi) (hl2 ▸ hlen) hU0 (Int.lt_of_le_of_lt hU1 hx1) kB1 kF2 (by k_asm) kT1 rfl (by k_room) (by k_room) kN2 off m1o m2 m3 m4 m5 hI2 ?_
        intro its3 ep3 ns3 h3 tk3 hI3 hl3 ho3 hs3 hb3 F3 N3
        walk_at "ss"
        have hj := seg_join hlM hMh ho3
        refine hret its3 ep3 ns3 _ _ hI3 (hl3.trans hl2) ?_ ?_ ?_ (by k_asm) (by k_asm)
        · intro i hi
          rw [ho3 i (hi.imp (fun h => Nat.lt_trans h hlM) id), ho2 i (hi.imp id (fun h => Nat.le_trans z10 h))]
        · rw [hj, segv_append, hs2, hs3, List.length_take, List.length_drop, Nat.min_eq_left (by rw [hl2]; exact z4), pow_seg n (Int.le_of_lt hn0), Int.natCast_sub z9]
          exact hsum
        · intro y hy
          rw [hj] at hy
          rcases List.mem_append.mp hy with h | h
          · exact hb2 y h
          · exact hb3 y h
      · walk_at "ss"
        have e1 : hi - lo = 1 := by omega
        have e2 : ((ns.set (lo : Int).toNat x).drop lo).take (hi - lo) = [x] := by
          rw [e1, Int.toNat_natCast]
          apply List.ext_getElem?
          intro i
          rw [List.getElem?_take, List.getElem?_drop]
          rcases i with _ | i
          · rw [if_pos (by omega), Nat.add_zero, List.getElem?_set_self (by omega)]; rfl
          · rw [if_neg (by omega)]; rfl
        refine hret _ _ (ns.set (lo : Int).toNat x) _ _ (by assumption) (by assumption) ?_ ?_ ?_ (by k_asm) (by k_asm)
        · intro i hi
          rw [Int.toNat_natCast, List.getElem?_set_ne]
          omega
        · rw [e2]; simp [segv]
        · rw [e2]; simp; omega
  rw [← hfo] at N6
  have l3a := ltN lt3.1
  have l3b := ltN lt3.2.1
  have l3c := ltN lt3.2.2.1
  have l3d := ltN lt3.2.2.2.1
  have hnl : ∀ p ∈ news, p.1 < l3 := fun p hp => Nat.lt_trans (ltN (ltn p hp)) (by omega)
  have htl : ∀ p ∈ tl5, l3 ≠ p.1 := fun p hp => ap5 _ (.head _) p hp
  have hnt : ∀ q ∈ news, ∀ p ∈ tl5, q.1 ≠ p.1 := fun q hq => ap5 q (by k_mem)
  have hoff : ∀ q ∈ (f, fo) :: (l2, W.listOf #[Value.int 0 tk1] 0) :: (L1 + 1 + 1 + 1, o6) :: (L1 + 1 + 1, o4) :: (L1 + 1, o3) :: (news ++ tl5), q.1 ≠ l3 := by
    intro q hq
    rcases List.mem_cons.mp hq with rfl | hq
    · exact Nat.ne_of_gt ltf2
    rcases List.mem_cons.mp hq with rfl | hq
    · exact Nat.ne_of_lt l3a
    rcases List.mem_cons.mp hq with rfl | hq
    · exact Nat.ne_of_lt l3b
    rcases List.mem_cons.mp hq with rfl | hq
    · exact Nat.ne_of_lt l3c
    rcases List.mem_cons.mp hq with rfl | hq
    · exact Nat.ne_of_lt l3d
    rcases List.mem_append.mp hq with hq | hq
    · exact Nat.ne_of_lt (hnl q hq)
    · exact (htl q hq).symm
  walk_at "ss"
  · (with_reducible rename Fr _ _ _ _ => kF1)
    (with_reducible rename News _ _ _ _ => kN1)
    (with_reducible rename Below _ _ _ _ => kB1)
    (with_reducible rename Top _ _ _ _ _ _ => kT1)
    rw [hfo] at kN1
    have hx : 0 < Builtin.Int.intBits x := Nat.lt_of_not_le fun h => by
      have := intBits_le_iff.mp h
      omega
    have hD2 : 1 ≤ ((Builtin.Int.intBits x : Int) + n - 1).fdiv n := by
      rw [Int.fdiv_eq_ediv_of_nonneg _ (by omega)]
      exact (Int.le_ediv_iff_mul_le hn0).mpr (by omega)
    refine key its0.size x 0 its0.size _ _ _ its0 0 (List.replicate ((↑(Builtin.Int.intBits x) + n - 1).fdiv n).toNat 0) (by omega) (by omega) (by rw [List.length_replicate]; omega) (by rw [List.length_replicate]; omega) hx0 hx1 kB1 kF1 (by k_asm) kT1 rfl (by k_room) (by k_room)
      (rest := (f, fo) :: (l2, W.listOf #[Value.int 0 tk1] 0) :: (L1 + 1 + 1 + 1, o6) :: (L1 + 1 + 1, o4) :: (L1 + 1, o3) :: (news ++ tl5)) (News.sub kN1 ?_) ?_ (by k_mem) (by k_mem) (by k_mem) (by k_mem) (by k_mem) hI0 ?_
    · intro p hp
      rcases List.mem_cons.mp hp with rfl | hp
      · exact .tail _ (.head _)
      · rcases List.mem_cons.mp hp with rfl | hp
        · exact .head _
        · exact .tail _ (.tail _ hp)
    · exact hoff
    intro its2 ep2 ns2 h2 tk2 hI2 hl2 ho2 hs2 hb2 F2 N2
    walk_at "ss"
    rw [List.length_replicate] at hl2
    have e2 : (ns2.drop 0).take (its0.size - 0) = ns2 := by rw [List.drop_zero, List.take_of_length_le (by omega)]
    rw [e2] at hs2 hb2
    (with_reducible rename News h₀ _ _ _ => kN2)
    refine hret l3 its2 ep2 ns2 _ _ tl5 hI2 hs2 hb2 (by omega) ht5 ?_ ?_ ?_ (by k_asm) (News.sub kN2 ?_)
    · exact hnl
    · exact hnt
    · exact htl
    · intro p hp
      rcases List.mem_cons.mp hp with rfl | hp
      · exact .head _
      · exact .tail _ (.tail _ (.tail _ (.tail _ (.tail _ (.tail _ hp)))))
  · have hx : x = 0 := by assumption
    (with_reducible rename News h₀ _ _ _ => kN2)
    subst hx
    have e0 : ((Builtin.Int.intBits 0 : Int) + n - 1).fdiv n = 0 := by
      rw [Int.fdiv_eq_ediv_of_nonneg _ (by omega)]
      exact Int.ediv_eq_zero_of_lt (by have : Builtin.Int.intBits 0 = 0 := rfl; omega) (by have : Builtin.Int.intBits 0 = 0 := rfl; omega)
    rw [e0] at hI0
    refine hret l3 its0 0 [] _ _ tl5 hI0 rfl (fun _ h => nomatch h) (by decide) ht5 ?_ ?_ ?_ (by k_asm) (News.sub kN2 ?_)
    · exact hnl
    · exact hnt
    · exact htl
    · intro p hp
      rcases List.mem_cons.mp hp with rfl | hp
      · exact .tail _ (.head _)
      · exact .tail _ (.tail _ (.tail _ (.tail _ (.tail _ (.tail _ hp)))))
end
section
open PySem PySem.Spec PySem.Calls PySem.W PyProof.Rows PyProof.Rows.LCg
noncomputable def Inner2 (w : World) (p : Program) (loose : List Str) (mean : ExcName → Option Value) (mg mb : Str → Option Value) (base : Heap) (fo : Obj) (f c1 : Addr) (oc : Obj) (ca cn ci d : Addr) (o1 o2 o3 : Obj) (n : Int) (its : Array Value) (ep : Nat) (ns : List Int) (k : Nat) : Prop :=
  ∀ {dp un : Nat} {gd : Option (List Code)} {cn' : Str} {cs : Scope} {a : Addr} {ccd : Value} {cl : List (Str × Addr)} {outer : List Env} {A₀ : Around} {h₀ : Heap} {L : Addr} {m : Str → Option Value} {rest : Led} {s : Shared} {Q E : Value → Shared → Prop}
    (lo hi : Nat) (t1 t2 : Tok),
    hi - lo ≤ k → lo < hi → hi ≤ ns.length → segv (2 ^ n.toNat) ((ns.drop lo).take (hi - lo)) < 2 ^ 30 →
    Below A₀ base outer h₀ → Fr h₀ L s.heap m → (Mine.hd.heap_39 w.params).In h₀ → Top p loose mean mg mb h₀ → cs.kind = .function → dp + k + 1 < recursionLimit → un + 8 * k + 8 < cLine →
    News h₀ L s.heap rest → (d, ({ cls := .type "list", data := .seq its ep } : Obj)) ∈ rest → (f, fo) ∈ rest → (c1, oc) ∈ rest → (ca, o1) ∈ rest → (cn, o2) ∈ rest → (ci, o3) ∈ rest →
    (∀ h' tk' tv, Fr h₀ L h' m → News h₀ L h' rest → Q (.int (segv (2 ^ n.toNat) ((ns.drop lo).take (hi - lo))) tv) { s with heap := h', toks := tk' }) →
    wpAny (model PySem.Challenge.rw_sn0056_01.prog w) (ktrTop dp un gd cn' cs L a ccd cl outer) (call (.ref f) [.int lo t1, .int hi t2]) Q E s

set_option maxRecDepth 100000 in
set_option maxHeartbeats 8000000 in
theorem digits2int_c (w : World) (mean : ExcName → Option Value) (mg mb : Str → Option Value) {p : Program} {loose : List Str}
    {dp un : Nat} {gd : Option (List Code)} {cn : Str} {cs : Scope} {a : Addr} {ccd : Value} {cl : List (Str × Addr)} {outer : List Env} {A₀ : Around} {base h₀ : Heap} {L : Addr} {m : Str → Option Value} {news tl : Led} {s : Shared} {Q E : Value → Shared → Prop}
    (B : Below A₀ base outer h₀) (F : Fr h₀ L s.heap m) (X : (Mine.hd.heap_39 w.params).In h₀) (N : News h₀ L s.heap (news ++ tl)) (T : Top p loose mean mg mb h₀) (hk : cs.kind = .function)
    (hd : dp + 300 < recursionLimit) (hu : un + 2000 < cLine) (C37 : CodeHd base 41 37) (ht37 : TabOk 37 ⟨47, 4, 52, 55⟩ (Str.ofString "_digits2int.<locals>.inner") tl) (ap : ∀ q ∈ news, ∀ p ∈ tl, q.1 ≠ p.1)
    (l : Addr) (its : Array Value) (ep : Nat) (ns : List Int) (n : Int) (t2 : Tok) (hl : (l, ({ cls := .type "list", data := .seq its ep } : Obj)) ∈ news) (hI : IntsAre its.toList ns) (hz : its.size ≤ 200) (hn0 : 0 < n) (hn1 : n < 100) (hpos : ∀ y ∈ ns, 0 ≤ y) (hv : segv (2 ^ n.toNat) ns < 2 ^ 30)
    (hret : ∀ h' tk' tv tl', TabOk 37 ⟨47, 4, 52, 55⟩ (Str.ofString "_digits2int.<locals>.inner") tl' →
      (∀ q ∈ news, ∀ p ∈ tl', q.1 ≠ p.1) → Fr h₀ L h' m → News h₀ L h' (news ++ tl') → Q (.int (segv (2 ^ n.toNat) ns) tv) { s with heap := h', toks := tk' }) :
    wpAny (model PySem.Challenge.rw_sn0056_01.prog w) (ktrTop dp un gd cn cs L a ccd cl outer) (call (.ref 42) [.ref l, .int n t2]) Q E s := by
  revert X; k_fill; intro X
  walk_at "my enterC"
  rename_i g1 L1 h1 tk1 FG1 F1 B1 X1 T1 lt1 o1 o2 o3 d1 d2 d3 N1
  replace d1 : o1.data = .cell none := d1
  replace d2 : o2.data = .cell (some (.int n t2)) := d2
  replace d3 : o3.data = .cell (some (.ref l)) := d3
  generalize hm1 : bindL _ _ _ = m1 at F1
  clear hm1
  walk_at "st"
  k_dflt refine' nest_any (P := 37) (c := 41) (qual := Str.ofString "_digits2int.<locals>.inner") (tl := tl) (rest := (L1 + 1 + 1 + 1, o1) :: (L1 + 1 + 1, o2) :: (L1 + 1, o3) :: news) F1 N1 T1 ?C rfl ht37 ?off ?hq ?cl rfl rfl rfl ?_
  case hq => kernel_rfl
  case C => kn_code
  case cl => exact rfl
  case off =>
    intro q hq p hp
    have b1 := fun p hp => ltN (lt1 p (List.mem_append_right news hp))
    have b2 := ltN (b1 p hp)
    rcases List.mem_cons.mp hq with rfl | hq
    · exact Nat.ne_of_gt (Nat.lt_trans b2 (by dsimp only; omega))
    rcases List.mem_cons.mp hq with rfl | hq
    · exact Nat.ne_of_gt (Nat.lt_trans b2 (by dsimp only; omega))
    rcases List.mem_cons.mp hq with rfl | hq
    · exact Nat.ne_of_gt (Nat.lt_trans b2 (by dsimp only; omega))
    exact ap q hq p hp
  intro f c1 oc vs tq ctv doc h5 tk5 tl5 ht5 hc5 hoc hvs ap5 ltf F5 N5
  have lf : ∀ q ∈ tl5, q.1 < f := fun q hq => ltf q (by k_mem)
  have apc : ∀ q ∈ tl5, q.1 ≠ L1 + 1 + 1 + 1 := fun q hq e => ap5 (L1 + 1 + 1 + 1, o1) (by k_mem) q hq e.symm
  have ltn : ∀ q ∈ news, q.1 < L1 := fun q hq => lt1 q (by k_mem)
  have ltf1 := ltN (ltf (L1 + 1 + 1 + 1, o1) (by k_mem))
  dsimp only at ltf1
  generalize hfo : fnMade _ _ _ _ _ _ _ _ _ _ = fo at N5
  simp only [List.cons_append] at N5
  walk_at "st"
  rename_i h6 o6 F6 N6 d6
  have hnl : ns.length ≤ 200 := by have := hI.length; rw [Array.length_toList] at this; omega
  have key : ∀ k, Inner2 w p loose mean mg mb base fo f c1 oc (L1 + 1) (L1 + 1 + 1) (L1 + 1 + 1 + 1) l o3 o2 o6 n its ep ns k := by
    intro k
    clear N6 F6 FG1 B1 X1 T1 N F B X T ap5 ltf lt1 lf apc ltn ltf1 hret hv
    induction k with
    | zero =>
      unfold Inner2
      intro dp un gd cn' cs a ccd cl outer A₀ h₀ L m rest s Q E lo hi t1 t2 hk1 hlt hhi
      omega
    | succ k IH =>
      unfold Inner2
      intro dp un gd cn' cs a ccd cl outer A₀ h₀ L m rest s Q E lo hi t1 t2 hk1 hlt hhi hv B F X T hk hd hu N m0 m1 m2 m3 m4 m5 hret
      have m1o := m1
      rw [← hfo] at m1
      walk_at "my enterN"
      refine (no_index (?_ : ∀ d, (ns[lo]? = some d) → _)) (ns[lo]) (List.getElem?_eq_getElem (by omega))
      intro d hd0
      obtain ⟨td, hx0⟩ := ints_get hI hd0
      have hx : its[((lo : Nat) : Int).toNat]? = some (.int d td) := by rw [Int.toNat_natCast, ← Array.getElem?_toList]; exact hx0
      iterate 12 walk_at "s1"
      · walk_at "ss"
        have e1 : hi - lo = 1 := by omega
        have e2 : (ns.drop lo).take (hi - lo) = [d] := by
          rw [e1]
          apply List.ext_getElem?
          intro i
          rw [List.getElem?_take, List.getElem?_drop]
          rcases i with _ | i
          · rw [if_pos (by omega), Nat.add_zero, hd0]; rfl
          · rw [if_neg (by omega)]; rfl
        rw [e2] at hret
        have e3 : segv (2 ^ n.toNat) [d] = d := by simp [segv]
        rw [e3] at hret
        exact hret _ _ _ (by k_asm) (by k_asm)
      · obtain ⟨M, hM, hlM, hMh, hS0, hS1, z1, z2, z3, z4, z5, z6, z7, z8, z9, z10, z11⟩ := mid_all hlt (by assumption) hk1 hhi hnl (by assumption) (by assumption)
        have hj : (ns.drop lo).take (hi - lo) = (ns.drop lo).take (M - lo) ++ (ns.drop M).take (hi - M) := seg_join hlM hMh fun _ _ => rfl
        have hp1 := segv_pos (B := 2 ^ n.toNat) (Int.le_of_lt (pow2_pos _)) (xs := (ns.drop lo).take (M - lo)) fun y hy => hpos y (List.mem_of_mem_drop (List.mem_of_mem_take hy))
        have hp2 := segv_pos (B := 2 ^ n.toNat) (Int.le_of_lt (pow2_pos _)) (xs := (ns.drop M).take (hi - M)) fun y hy => hpos y (List.mem_of_mem_drop (List.mem_of_mem_take hy))
        have hsum : segv (2 ^ n.toNat) ((ns.drop lo).take (hi - lo)) = segv (2 ^ n.toNat) ((ns.drop lo).take (M - lo)) + 2 ^ ((((lo : Int) + hi).fdiv (2 ^ Int.toNat 1) - lo) * n).toNat * segv (2 ^ n.toNat) ((ns.drop M).take (hi - M)) := by
          rw [hj, segv_append, List.length_take, List.length_drop, Nat.min_eq_left z4, pow_seg n (by omega), Int.natCast_sub z9, hM]
        have hq1 : segv (2 ^ n.toNat) ((ns.drop lo).take (M - lo)) < 2 ^ 30 := by
          have := Int.mul_nonneg (Int.le_of_lt (pow2_pos ((((lo : Int) + hi).fdiv (2 ^ Int.toNat 1) - lo) * n).toNat)) hp2
          omega
        have hq2 : segv (2 ^ n.toNat) ((ns.drop M).take (hi - M)) < 2 ^ 30 := by
          have := Int.mul_le_mul_of_nonneg_right (show 1 ≤ (2 : Int) ^ ((((lo : Int) + hi).fdiv (2 ^ Int.toNat 1) - lo) * n).toNat by have := pow2_pos ((((lo : Int) + hi).fdiv (2 ^ Int.toNat 1) - lo) * n).toNat; omega) hp2
          omega
        walk_at "ss"
        rw [hM]
        (with_reducible rename Fr _ _ _ _ => kF1)
        (with_reducible rename News _ _ _ _ => kN1)
        (with_reducible rename Below _ _ _ _ => kB1)
        (with_reducible rename Top _ _ _ _ _ _ => kT1)
        refine IH M hi _ _ z2 hMh hhi hq2 kB1 kF1 (by k_asm) kT1 rfl (by k_room) (by k_room) kN1 m0 m1o m2 m3 m4 m5 ?_
        intro h2 tk2 tv2 F2 N2
        walk_at "ss"
        rw [hM]
        (with_reducible rename Fr _ _ _ _ => kF2)
        (with_reducible rename News _ _ _ _ => kN2)
        refine IH lo M _ _ z1 hlM z3 hq1 kB1 kF2 (by k_asm) kT1 rfl (by k_room) (by k_room) kN2 m0 m1o m2 m3 m4 m5 ?_
        intro h3 tk3 tv3 F3 N3
        walk_at "ss"
        rw [hsum] at hret
        have e4 : segv (2 ^ n.toNat) ((ns.drop M).take (hi - M)) * 2 ^ ((((lo : Int) + hi).fdiv (2 ^ Int.toNat 1) - lo) * n).toNat + segv (2 ^ n.toNat) ((ns.drop lo).take (M - lo)) = segv (2 ^ n.toNat) ((ns.drop lo).take (M - lo)) + 2 ^ ((((lo : Int) + hi).fdiv (2 ^ Int.toNat 1) - lo) * n).toNat * segv (2 ^ n.toNat) ((ns.drop M).take (hi - M)) := by
          rw [Int.add_comm, Int.mul_comm]
        rw [hM] at e4 hret
        rw [e4]
        exact hret _ _ _ (by k_asm) (by k_asm)
  rw [← hfo] at N6
  walk_at "ss"
  · have hi0 : its.size = 0 := by assumption
    have hn0 : ns = [] := List.eq_nil_of_length_eq_zero (by have := hI.length; rw [Array.length_toList] at this; omega)
    subst hn0
    (with_reducible rename News h₀ _ _ _ => kN2)
    refine hret _ _ _ tl5 ht5 (fun q hq => ap5 q (by k_mem)) (by k_asm) (News.sub kN2 fun p hp => ?_)
    exact .tail _ (.tail _ (.tail _ (.tail _ hp)))
  · have hi0 : its.size ≠ 0 := by assumption
    have hln : its.size = ns.length := by have := hI.length; rw [Array.length_toList] at this; exact this
    (with_reducible rename Fr _ _ _ _ => kF1)
    (with_reducible rename News _ _ _ _ => kN1)
    (with_reducible rename Below _ _ _ _ => kB1)
    (with_reducible rename Top _ _ _ _ _ _ => kT1)
    rw [hfo] at kN1
    have e2 : (ns.drop 0).take (its.size - 0) = ns := by rw [List.drop_zero, List.take_of_length_le (by omega)]
    refine key its.size 0 its.size _ _ (by omega) (by omega) (by omega) (by rw [e2]; exact hv) kB1 kF1 (by k_asm) kT1 rfl (by k_room) (by k_room) kN1 (by k_mem) (by k_mem) (by k_mem) (by k_mem) (by k_mem) (by k_mem) ?_
    rw [e2]
    intro h2 tk2 tv2 F2 N2
    walk_at "ss"
    (with_reducible rename News h₀ _ _ _ => kN2)
    refine hret _ _ _ tl5 ht5 (fun q hq => ap5 q (by k_mem)) (by k_asm) (News.sub kN2 fun p hp => ?_)
    exact .tail _ (.tail _ (.tail _ (.tail _ hp)))
end
section
open PySem PySem.Spec PySem.Calls PySem.W PyProof.Rows PyProof.Rows.LCg
inductive J5 (y : Int) (t2 : Tok) (q l : Addr) (its : Array Value) (ep : Nat) (ns : List Int) (news t37 t30' : Led) (i : Nat) (m₁ : Str → Option Value) (news₁ : Led) : Prop
  | mk : m₁ "b" = some (.int y t2) → (∃ tn, m₁ "n" = some (.int (Builtin.Int.intBits y : Nat) tn)) → m₁ "q_digits" = some (.ref q) → ∀ (r : Int) (tr : Tok) (qits : Array Value) (ep' : Nat) (qd : List Int), m₁ "r" = some (.int r tr) → news₁ = (q, W.listOf qits ep') :: (l, ({ cls := .type "list", data := .seq its ep } : Obj)) :: (news ++ t37 ++ t30') → IntsAre qits.toList qd → qd.length = i → (∀ d ∈ qd, 0 ≤ d) → 0 ≤ r → r < y → segv (2 ^ ((Builtin.Int.intBits y : Nat) : Int).toNat) ((ns.reverse.take i).reverse) = segv (2 ^ ((Builtin.Int.intBits y : Nat) : Int).toNat) qd.reverse * y + r → J5 y t2 q l its ep ns news t37 t30' i m₁ news₁
set_option maxRecDepth 100000 in
set_option maxHeartbeats 8000000 in
theorem divmod_pos_c (w : World) (mean : ExcName → Option Value) (mg mb : Str → Option Value) {p : Program} {loose : List Str}
    {dp un : Nat} {gd : Option (List Code)} {cn : Str} {cs : Scope} {a : Addr} {ccd : Value} {cl : List (Str × Addr)} {outer : List Env} {A₀ : Around} {base h₀ : Heap} {L : Addr} {m : Str → Option Value} {news t30 t37 : Led} {s : Shared} {Q E : Value → Shared → Prop}
    (B : Below A₀ base outer h₀) (F : Fr h₀ L s.heap m) (X : (Mine.hd.heap_39 w.params).In h₀) (N : News h₀ L s.heap (news ++ (t30 ++ t37))) (T : Top p loose mean mg mb h₀) (hk : cs.kind = .function)
    (hd : dp + 310 < recursionLimit) (hu : un + 2100 < cLine) (C30 : CodeHd base 34 30) (C37 : CodeHd base 41 37)
    (ht30 : TabOk 30 ⟨32, 4, 41, 28⟩ (Str.ofString "_int2digits.<locals>.inner") t30) (ht37 : TabOk 37 ⟨47, 4, 52, 55⟩ (Str.ofString "_digits2int.<locals>.inner") t37)
    (ap : ∀ q ∈ news, ∀ p ∈ t30 ++ t37, q.1 ≠ p.1) (ap2 : ∀ q ∈ t30, ∀ p ∈ t37, q.1 ≠ p.1)
    (x y : Int) (t1 t2 : Tok) (hx0 : 0 ≤ x) (hx1 : x < 2 ^ 30) (hy0 : 0 < y) (hy1 : y < 1000)
    (hret : ∀ D tq tr h' tk' t30' t37', TabOk 30 ⟨32, 4, 41, 28⟩ (Str.ofString "_int2digits.<locals>.inner") t30' → TabOk 37 ⟨47, 4, 52, 55⟩ (Str.ofString "_digits2int.<locals>.inner") t37' →
      (∀ q ∈ news, ∀ p ∈ t30' ++ t37', q.1 ≠ p.1) → (∀ q ∈ t30', ∀ p ∈ t37', q.1 ≠ p.1) → (∀ p ∈ news ++ (t30' ++ t37'), p.1 < D) →
      Fr h₀ L h' m → News h₀ L h' ((D, ({ cls := .type "tuple", data := .seq #[.int (x.fdiv y) tq, .int (x.fmod y) tr] } : Obj)) :: (news ++ (t30' ++ t37'))) → Q (.ref D) { s with heap := h', toks := tk' }) :
    wpAny (model PySem.Challenge.rw_sn0056_01.prog w) (ktrTop dp un gd cn cs L a ccd cl outer) (call (.ref 49) [.int x t1, .int y t2]) Q E s := by
  revert X; k_fill; intro X
  have hb1 : Builtin.Int.intBits y ≤ 10 := intBits_le_iff.mpr (by omega)
  have hb0 : 0 < Builtin.Int.intBits y := Nat.lt_of_not_le fun h => by
    have := intBits_le_iff.mp h
    omega
  walk_at "my enter"
  walk_at "ss"
  (with_reducible rename Fr _ _ _ _ => kF1)
  (with_reducible rename News _ _ _ _ => kN1)
  (with_reducible rename Below _ _ _ _ => kB1)
  (with_reducible rename Top _ _ _ _ _ _ => kT1)
  have sb : ∀ (t30' t37' : Led), ∀ q, q ∈ news ++ t37' ++ t30' → q ∈ news ++ (t30' ++ t37') := by
    intro t30' t37' q hq
    simp only [List.mem_append] at hq ⊢
    rcases hq with (h | h) | h
    · exact .inl h
    · exact .inr (.inr h)
    · exact .inr (.inl h)
  refine int2digits_c w mean mg mb (news := news ++ t37) (tl := t30) kB1 kF1 (by k_asm) (News.sub kN1 (sb _ _)) kT1 rfl (by k_room) (by k_room) C30 ht30 ?_ x _ _ _ hx0 hx1 (by omega) (by omega) ?_
  · intro q hq p hp
    rcases List.mem_append.mp hq with hq | hq
    · exact ap q hq p (List.mem_append_left _ hp)
    · exact (ap2 p hp q hq).symm
  intro l its ep ns h2 tk2 t30' hI hs hb hlen ht30' hll hap hlt F2 N2
  iterate 14 walk_at "s1"
  rename_i q _ lq _ _ _
  (with_reducible rename Fr _ _ _ _ => kF3)
  (with_reducible rename News _ _ _ _ => kN3)
  refine For_F kF3 ns.reverse (fun (d : Int) v => ∃ t, v = .int d t) (J5 y t2 q l its ep ns news t37 t30') (fun _ => rfl) ?_
  iterate 7 walk_at "s1"
  rename_i I _ _ _ l1
  (with_reducible rename Fr _ _ _ _ => kF4)
  (with_reducible rename News _ _ _ _ => kN4)
  have hlen2 : its.size = ns.length := by have := hI.length; rw [Array.length_toList] at this; exact this
  refine src_rev (l := l) (o := { cls := .type "list", data := .seq its ep }) (its := its) (as := ns.reverse) (Is := fun (d : Int) v => ∃ t, v = .int d t) rfl kF4 kN4 (by k_mem) rfl ⟨ep, rfl⟩ (by rw [List.length_reverse]; exact hlen2) ?_ ?_ (kN4 _ (.head _)).2.2 (kN4 _ (.head _)).2.1 ?_ ?_
  · intro i a v h1 h2
    rw [List.getElem?_reverse (by have := (List.getElem?_eq_some_iff.mp h1).1; rwa [List.length_reverse] at this)] at h1
    obtain ⟨t, ht⟩ := ints_get hI h1
    rw [hlen2, ← Array.getElem?_toList] at h2
    rw [ht] at h2
    exact ⟨t, (Option.some.inj h2).symm⟩
  · exact ⟨_, (kN4 _ (.head _)).1, rfl, by rw [Array.length_toList]; rfl⟩
  · exact Nat.ne_of_lt (ltN l1.2.1)
  intro St W hst
  refine ForAt.intro W hst kF4 (News.sub kN4 fun p hp => .tail _ hp) ?_ ⟨rfl, ⟨_, rfl⟩, rfl, 0, _, #[], 0, [], rfl, rfl, .nil, rfl, (fun _ h => nomatch h), by omega, hy0, by simp [segv]⟩ ?_ ?_ ?_
  · intro p hp
    rcases List.mem_cons.mp hp with rfl | hp
    · exact Nat.ne_of_lt (ltN l1.1)
    rcases List.mem_cons.mp hp with rfl | hp
    · exact Nat.ne_of_lt (ltN l1.2.1)
    · exact Nat.ne_of_lt (ktn_ltOf l1.2.2 p hp)
  · intro i m₁ news₁ hP9_1 q hq
    obtain ⟨_, _, _, r, tr, qits, ep', qd, _, rfl, _⟩ := hP9_1
    rw [List.mem_singleton.mp hq]
    k_mem
  · intro i d v m₁ news₁ I' oI h tk hd hP9_2 hP9_3 F5 N5 off
    obtain ⟨td, rfl⟩ := hP9_2
    obtain ⟨mb1, ⟨tn, mn1⟩, mq1, r, tr, qits, ep', qd, mr1, rfl, hqi, hql, hqp, hr0, hr1, hv⟩ := hP9_3
    have hdm : d ∈ ns := by
      have := List.mem_of_getElem? hd
      rwa [List.mem_reverse] at this
    have hd2 := hb d hdm
    have hP : (2 : Int) ^ ((Builtin.Int.intBits y : Nat) : Int).toNat ≤ 1024 := by
      have : ((2 ^ ((Builtin.Int.intBits y : Nat) : Int).toNat : Nat) : Int) ≤ ((2 ^ 10 : Nat) : Int) := Int.ofNat_le.mpr (Nat.pow_le_pow_right (by decide) (by omega))
      simpa using this
    have hP0 := pow2_pos ((Builtin.Int.intBits y : Nat) : Int).toNat
    have hm0 : 0 ≤ r * 2 ^ ((Builtin.Int.intBits y : Nat) : Int).toNat := Int.mul_nonneg hr0 (Int.le_of_lt hP0)
    have hm1 : r * 2 ^ ((Builtin.Int.intBits y : Nat) : Int).toNat ≤ 1000 * 1024 := Int.mul_le_mul (by omega) hP (Int.le_of_lt hP0) (by decide)
    walk_at "ss"
    (with_reducible rename Fr _ _ _ _ => kF6)
    (with_reducible rename News _ _ _ _ => kN6)
    refine div2n1n_c w mean mg mb kB1 kF6 (by k_asm) kN6 kT1 rfl (by k_room) (by k_room) _ y _ _ _ _ (by omega) (by omega) hy0 hy1 (by omega) (by omega) ?_
    intro D tq tr2 h7 tk7 hD F7 N7
    walk_at "!wpAny:6 _ _ PySem.call:2 Value.builtin:1 _ List.cons:2 Value.ref:1 _ List.cons:2 Value.int:2 _ _ List.nil:0 _ _ _"
    (with_reducible rename Fr _ _ _ _ => kF8)
    (with_reducible rename News _ _ _ _ => kN8)
    have hq : ∀ p ∈ (I', oI) :: (l, ({ cls := .type "list", data := .seq its ep } : Obj)) :: (news ++ t37 ++ t30'), p.1 ≠ q := by
      intro p hp
      rcases List.mem_cons.mp hp with rfl | hp
      · exact (off (q, _) (.head _)).symm
      rcases List.mem_cons.mp hp with rfl | hp
      · exact Nat.ne_of_lt (ltN lq.1)
      · exact Nat.ne_of_lt (ktn_ltOf lq.2 p hp)
    have N8 := News.sub (nw' := (q, PySem.W.listOf qits ep') :: (I', oI) :: (l, ({ cls := .type "list", data := .seq its ep } : Obj)) :: (news ++ t37 ++ t30')) kN8 (by
      intro p hp
      simp only [List.mem_cons, List.mem_append] at hp ⊢
      grind)
    have hqs : qits.size = qd.length := by have := hqi.length; rw [Array.length_toList] at this; exact this
    have hin : i < ns.length := by have := (List.getElem?_eq_some_iff.mp hd).1; rwa [List.length_reverse] at this
    refine append_K kF8 N8 (.head hq) ?_ (by rw [sizeLine_eq]; omega)
    intro h9 F9 N9
    iterate 2 walk_at "st"
    have e9 := fdm (r * 2 ^ ((Builtin.Int.intBits y : Nat) : Int).toNat + d) hy0
    refine ⟨_, _, _, (q, PySem.W.listOf (qits.push (Value.int ((r * 2 ^ ((Builtin.Int.intBits y : Nat) : Int).toNat + d).fdiv y) tq)) (ep' + 1)) :: (l, ({ cls := .type "list", data := .seq its ep } : Obj)) :: (news ++ t37 ++ t30'), rfl, F9, News.sub N9 ?_, ?_, mb1, ⟨tn, mn1⟩, mq1, (r * 2 ^ ((Builtin.Int.intBits y : Nat) : Int).toNat + d).fmod y, tr2, qits.push (Value.int ((r * 2 ^ ((Builtin.Int.intBits y : Nat) : Int).toNat + d).fdiv y) tq), ep' + 1, qd ++ [(r * 2 ^ ((Builtin.Int.intBits y : Nat) : Int).toNat + d).fdiv y], rfl, rfl, ?_, ?_, ?_, e9.2.1, e9.2.2, ?_⟩
    · intro p hp
      simp only [List.mem_cons, List.mem_append] at hp ⊢
      grind
    · intro p hp
      rcases List.mem_cons.mp hp with rfl | hp
      · exact off (q, PySem.W.listOf qits ep') (.head _)
      · exact off p (.tail _ hp)
    · rw [Array.toList_push]
      exact ints_snoc hqi _ _
    · rw [List.length_append, hql]; rfl
    · intro z hz
      rcases List.mem_append.mp hz with hz | hz
      · exact hqp z hz
      · rw [List.mem_singleton.mp hz]
        exact fd_lo (by omega) hy0
    · rw [List.take_add_one, hd, Option.toList_some, List.reverse_append, List.reverse_append]
      simp only [List.reverse_singleton, List.singleton_append, segv]
      rw [hv]
      have e9 := e9.1
      generalize (r * 2 ^ ((Builtin.Int.intBits y : Nat) : Int).toNat + d).fdiv y = qq at *
      generalize (r * 2 ^ ((Builtin.Int.intBits y : Nat) : Int).toNat + d).fmod y = rr at *
      generalize (2 : Int) ^ ((Builtin.Int.intBits y : Nat) : Int).toNat = P at *
      generalize segv P qd.reverse = S at *
      grind
  · intro h' tk m₁ news₁ hP9_4 F5 N5
    obtain ⟨mb1, ⟨tn, mn1⟩, mq1, r, tr, qits, ep', qd, mr1, rfl, hqi, hql, hqp, hr0, hr1, hv⟩ := hP9_4
    have hqs : qits.size = qd.length := by have := hqi.length; rw [Array.length_toList] at this; exact this
    rw [List.length_reverse] at hql
    have hlq : l ≠ q := Nat.ne_of_lt (ltN lq.1)
    have hnq : ∀ p ∈ news ++ t37 ++ t30', p.1 ≠ q := fun p hp => Nat.ne_of_lt (ktn_ltOf lq.2 p hp)
    walk_at "ss"
    refine kl_reverse F5 N5 rfl (.head ?_) (by rw [Array.length_toList, sizeLine_eq]; omega) ?_
    · intro p hp
      rcases List.mem_cons.mp hp with rfl | hp
      · exact hlq
      · exact hnq p hp
    intro h6 F6 N6
    walk_at "ss"
    (with_reducible rename Fr _ _ _ _ => kF8)
    (with_reducible rename News _ _ _ _ => kN8)
    have hqp2 : ∀ z ∈ qd.reverse, 0 ≤ z := fun z hz => hqp z (List.mem_reverse.mp hz)
    have hQ0 := segv_pos (B := 2 ^ ((Builtin.Int.intBits y : Nat) : Int).toNat) (Int.le_of_lt (pow2_pos _)) hqp2
    rw [List.take_length, List.reverse_reverse, hs] at hv
    have hQ : segv (2 ^ ((Builtin.Int.intBits y : Nat) : Int).toNat) qd.reverse = x.fdiv y ∧ r = x.fmod y := by
      generalize segv (2 ^ ((Builtin.Int.intBits y : Nat) : Int).toNat) qd.reverse = S at *
      rw [Int.fdiv_eq_ediv_of_nonneg _ (Int.le_of_lt hy0), Int.fmod_eq_emod_of_nonneg _ (Int.le_of_lt hy0), hv]
      rw [Int.add_comm, Int.add_mul_ediv_right _ _ (Int.ne_of_gt hy0), Int.ediv_eq_zero_of_lt hr0 hr1, Int.add_mul_emod_self_right, Int.emod_eq_of_lt hr0 hr1]
      exact ⟨(Int.zero_add _).symm, rfl⟩
    refine digits2int_c w mean mg mb (news := (q, PySem.W.listOf qits.toList.reverse.toArray ep') :: (l, ({ cls := .type "list", data := .seq its ep } : Obj)) :: (news ++ t30')) (tl := t37) kB1 kF8 (by k_asm) (News.sub kN8 ?_) kT1 rfl (by k_room) (by k_room) C37 ht37 ?_
      q _ _ qd.reverse _ _ (.head _) ?_ ?_ ?_ ?_ hqp2 ?_ ?_
    · intro p hp
      simp only [List.mem_cons, List.mem_append, List.cons_append] at hp ⊢
      grind
    · intro p hp p' hp'
      rcases List.mem_cons.mp hp with rfl | hp
      · exact (hnq p' (by simp only [List.mem_append]; grind)).symm
      rcases List.mem_cons.mp hp with rfl | hp
      · exact Nat.ne_of_gt (hll p' (List.mem_append_right _ hp'))
      rcases List.mem_append.mp hp with hp | hp
      · exact ap p hp p' (List.mem_append_right _ hp')
      · exact (hap p' (List.mem_append_right _ hp') p hp).symm
    · exact ints_rev hqi
    · simp; omega
    · omega
    · omega
    · rw [hQ.1, Int.fdiv_eq_ediv_of_nonneg _ (Int.le_of_lt hy0)]
      exact Int.lt_of_le_of_lt (Int.ediv_le_self _ hx0) hx1
    intro h9 tk9 tv9 t37' ht37' hap37 F9 N9
    walk_at "ss"
    (with_reducible rename News h₀ _ _ _ => kN9)
    rw [hQ.1, hQ.2] at kN9
    have hsub : ∀ p ∈ news ++ (t30' ++ t37'), p ∈ (q, PySem.W.listOf qits.toList.reverse.toArray ep') :: (l, ({ cls := .type "list", data := .seq its ep } : Obj)) :: (news ++ t30') ++ t37' := by
      intro p hp
      simp only [List.mem_cons, List.mem_append, List.cons_append] at hp ⊢
      grind
    refine hret _ tv9 tr _ _ t30' t37' ht30' ht37' ?_ ?_ (fun p hp => (by assumption : ∀ p ∈ (q, PySem.W.listOf qits.toList.reverse.toArray ep') :: (l, ({ cls := .type "list", data := .seq its ep } : Obj)) :: (news ++ t30') ++ t37', p.1 < _) p (hsub p hp)) (by k_asm) (News.sub kN9 ?_)
    · intro p hp p' hp'
      rcases List.mem_append.mp hp' with h | h
      · exact hap p (List.mem_append_left _ hp) p' h
      · exact hap37 p (.tail _ (.tail _ (List.mem_append_left _ hp))) p' h
    · intro p hp p' hp'
      exact hap37 p (.tail _ (.tail _ (List.mem_append_right _ hp))) p' hp'
    · intro p hp
      rcases List.mem_cons.mp hp with rfl | hp
      · exact .head _
      · exact .tail _ (hsub p hp)
end
section
open PySem PySem.Spec PySem.Calls PySem.W PyProof.Rows PyProof.Rows.LCg
set_option maxRecDepth 100000 in
set_option maxHeartbeats 8000000 in
theorem int_divmod_c (w : World) (mean : ExcName → Option Value) (mg mb : Str → Option Value) {p : Program} {loose : List Str}
    {dp un : Nat} {gd : Option (List Code)} {cn : Str} {cs : Scope} {a : Addr} {ccd : Value} {cl : List (Str × Addr)} {outer : List Env} {A₀ : Around} {base h₀ : Heap} {L : Addr} {m : Str → Option Value} {news t30 t37 : Led} {s : Shared} {Q E : Value → Shared → Prop}
    (B : Below A₀ base outer h₀) (F : Fr h₀ L s.heap m) (X : (Mine.hd.heap_39 w.params).In h₀) (N : News h₀ L s.heap (news ++ (t30 ++ t37))) (T : Top p loose mean mg mb h₀) (hk : cs.kind = .function)
    (hd : dp + 320 < recursionLimit) (hu : un + 2110 < cLine) (C30 : CodeHd base 34 30) (C37 : CodeHd base 41 37)
    (ht30 : TabOk 30 ⟨32, 4, 41, 28⟩ (Str.ofString "_int2digits.<locals>.inner") t30) (ht37 : TabOk 37 ⟨47, 4, 52, 55⟩ (Str.ofString "_digits2int.<locals>.inner") t37)
    (ap : ∀ q ∈ news, ∀ p ∈ t30 ++ t37, q.1 ≠ p.1) (ap2 : ∀ q ∈ t30, ∀ p ∈ t37, q.1 ≠ p.1)
    (x y : Int) (t1 t2 : Tok) (hx0 : 0 ≤ x) (hx1 : x < 2 ^ 30) (hy0 : 0 < y) (hy1 : y < 1000)
    (hret : ∀ D tq tr h' tk' t30' t37', TabOk 30 ⟨32, 4, 41, 28⟩ (Str.ofString "_int2digits.<locals>.inner") t30' → TabOk 37 ⟨47, 4, 52, 55⟩ (Str.ofString "_digits2int.<locals>.inner") t37' →
      (∀ q ∈ news, ∀ p ∈ t30' ++ t37', q.1 ≠ p.1) → (∀ q ∈ t30', ∀ p ∈ t37', q.1 ≠ p.1) → (∀ p ∈ news ++ (t30' ++ t37'), p.1 < D) →
      Fr h₀ L h' m → News h₀ L h' ((D, ({ cls := .type "tuple", data := .seq #[.int (x.fdiv y) tq, .int (x.fmod y) tr] } : Obj)) :: (news ++ (t30' ++ t37'))) → Q (.ref D) { s with heap := h', toks := tk' }) :
    wpAny (model PySem.Challenge.rw_sn0056_01.prog w) (ktrTop dp un gd cn cs L a ccd cl outer) (call (.ref 56) [.int x t1, .int y t2]) Q E s := by
  revert X; k_fill; intro X
  walk_at "my enter"
  walk_at "ss"
  · exact absurd (by assumption : y = 0) (by omega)
  (with_reducible rename Fr _ _ _ _ => kF1)
  (with_reducible rename News _ _ _ _ => kN1)
  (with_reducible rename Below _ _ _ _ => kB1)
  (with_reducible rename Top _ _ _ _ _ _ => kT1)
  refine divmod_pos_c w mean mg mb (news := news) (t30 := t30) (t37 := t37) kB1 kF1 (by k_asm) kN1 kT1 rfl (by k_room) (by k_room) C30 C37 ht30 ht37 ap ap2 x y _ _ hx0 hx1 hy0 hy1 ?_
  intro D tq tr h2 tk2 t30' t37' ht30' ht37' ap' ap2' hlt F2 N2
  walk_at "ss"
  (with_reducible rename News h₀ _ _ _ => kN9)
  exact hret D tq tr _ _ t30' t37' ht30' ht37' ap' ap2' hlt (by k_asm) kN9
end
section
open PySem PySem.Spec PySem.Calls PySem.W PyProof.Rows PyProof.Rows.LCg
inductive J7 (S L1 : Addr) (o2 o3 o4 : Obj) (c : Nat → Nat) (h : Nat → Int) (f : Nat → Bool) (news : Led) (i : Nat) (m₁ : Str → Option Value) (news₁ : Led) : Prop
  | mk : m₁ "shares" = some (.ref S) → ∀ (sits : Array Value) (ep : Nat) (ok : Obj) (oks : Option Value) (t30' t37' : Led), news₁ = (S, W.listOf sits ep) :: (L1 + 1 + 1 + 1 + 1, ok) :: (L1 + 1 + 1 + 1, o2) :: (L1 + 1 + 1, o3) :: (L1 + 1, o4) :: (news ++ (t30' ++ t37')) → ok.data = .cell oks → IntsAre sits.toList ((List.range i).map (shareOf c h f)) → TabOk 30 ⟨32, 4, 41, 28⟩ (Str.ofString "_int2digits.<locals>.inner") t30' → TabOk 37 ⟨47, 4, 52, 55⟩ (Str.ofString "_digits2int.<locals>.inner") t37' → (∀ b ∈ S :: (L1 + 1 + 1 + 1 + 1) :: (L1 + 1 + 1 + 1) :: (L1 + 1 + 1) :: (L1 + 1) :: news.map (·.1), ∀ p ∈ t30' ++ t37', b ≠ p.1) → (∀ q ∈ t30', ∀ p ∈ t37', q.1 ≠ p.1) → J7 S L1 o2 o3 o4 c h f news i m₁ news₁
set_option maxRecDepth 100000 in
set_option maxHeartbeats 8000000 in
theorem shares_c (w : World) (mean : ExcName → Option Value) (mg mb : Str → Option Value) {p : Program} {loose : List Str}
    {dp un : Nat} {gd : Option (List Code)} {cn : Str} {cs : Scope} {a : Addr} {ccd : Value} {cl : List (Str × Addr)} {outer : List Env} {A₀ : Around} {base h₀ : Heap} {L : Addr} {m : Str → Option Value} {news t30 t37 : Led} {s : Shared} {Q E : Value → Shared → Prop}
    (B : Below A₀ base outer h₀) (F : Fr h₀ L s.heap m) (X : (Mine.hd.heap_39 w.params).In h₀) (N : News h₀ L s.heap (news ++ (t30 ++ t37))) (T : Top p loose mean mg mb h₀) (hk : cs.kind = .function)
    (hd : dp + 330 < recursionLimit) (hu : un + 2200 < cLine) (C30 : CodeHd base 34 30) (C37 : CodeHd base 41 37)
    (ht30 : TabOk 30 ⟨32, 4, 41, 28⟩ (Str.ofString "_int2digits.<locals>.inner") t30) (ht37 : TabOk 37 ⟨47, 4, 52, 55⟩ (Str.ofString "_digits2int.<locals>.inner") t37)
    (ap : ∀ q ∈ news, ∀ p ∈ t30 ++ t37, q.1 ≠ p.1) (ap2 : ∀ q ∈ t30, ∀ p ∈ t37, q.1 ≠ p.1)
    (lc lh lf : Addr) (cits hits fits : Array Value) (nc nh nf : Nat) (c : Nat → Nat) (h : Nat → Int) (f : Nat → Bool)
    (hlc : (lc, ({ cls := .type "list", data := .seq cits nc } : Obj)) ∈ news) (hlh : (lh, ({ cls := .type "list", data := .seq hits nh } : Obj)) ∈ news) (hlf : (lf, ({ cls := .type "list", data := .seq fits nf } : Obj)) ∈ news)
    (hc : ∀ d, d < 6 → ∃ t, cits[d]? = some (.int (c d : Nat) t)) (hh : ∀ d, d < 6 → ∃ t, hits[d]? = some (.int (h d) t)) (hf : ∀ d, d < 6 → fits[d]? = some (.bool (f d)))
    (hck : ∀ k, k < 6 → c k ≤ k ∧ c (c k) = c k) (hh5 : ∀ d, 5 ≤ h d ∧ h d ≤ 7)
    (hret : ∀ D its ep h' tk' t30' t37', IntsAre its.toList ((List.range 6).map (shareOf c h f)) → TabOk 30 ⟨32, 4, 41, 28⟩ (Str.ofString "_int2digits.<locals>.inner") t30' → TabOk 37 ⟨47, 4, 52, 55⟩ (Str.ofString "_digits2int.<locals>.inner") t37' →
      (∀ q ∈ news, ∀ p ∈ t30' ++ t37', q.1 ≠ p.1) → (∀ q ∈ t30', ∀ p ∈ t37', q.1 ≠ p.1) → (∀ p ∈ news, p.1 < D) → (∀ p ∈ t30' ++ t37', p.1 ≠ D) →
      Fr h₀ L h' m → News h₀ L h' ((D, ({ cls := .type "list", data := .seq its ep } : Obj)) :: (news ++ (t30' ++ t37'))) → Q (.ref D) { s with heap := h', toks := tk' }) :
    wpAny (model PySem.Challenge.rw_sn0056_01.prog w) (ktrTop dp un gd cn cs L a ccd cl outer) (call (.ref 169) [.ref lc, .ref lh, .ref lf]) Q E s := by
  revert X; k_fill; intro X
  walk_at "my enterC"
  rename_i g1 L1 h1 tk1 FG1 F1 B1 X1 T1 lt1 o1 o2 o3 o4 d1 d2 d3 d4 N1
  replace d1 : o1.data = .cell none := d1
  replace d2 : o2.data = .cell (some (.ref lf)) := d2
  replace d3 : o3.data = .cell (some (.ref lh)) := d3
  replace d4 : o4.data = .cell (some (.ref lc)) := d4
  generalize hm1 : bindL _ _ _ = m1 at F1
  clear hm1
  iterate 8 walk_at "st"
  rename_i S _ lS _ _ _
  (with_reducible rename Fr _ _ _ _ => kF3)
  (with_reducible rename News _ _ _ _ => kN3)
  refine For_F kF3 (List.range 6) (fun (i : Nat) v => ∃ t, v = .int (i : Int) t) (J7 S L1 o2 o3 o4 c h f news) (fun _ => rfl) ?_
  iterate 7 walk_at "st"
  refine for_range (n := 6) rfl (by assumption) (by assumption) (by assumption) (by decide) ?_ ?_ ?_
  · refine ⟨rfl, #[], 0, o1, none, t30, t37, rfl, d1, .nil, ht30, ht37, ?_, ap2⟩
    intro b hb p hp
    rcases List.mem_cons.mp hb with rfl | hb
    · exact Nat.ne_of_gt (ktn_ltOf lS.2.2.2.2 p (List.mem_append_right _ hp))
    have hpl := ltN (lt1 p (List.mem_append_right _ hp))
    rcases List.mem_cons.mp hb with rfl | hb
    · exact Nat.ne_of_gt (Nat.lt_trans hpl (by omega))
    rcases List.mem_cons.mp hb with rfl | hb
    · exact Nat.ne_of_gt (Nat.lt_trans hpl (by omega))
    rcases List.mem_cons.mp hb with rfl | hb
    · exact Nat.ne_of_gt (Nat.lt_trans hpl (by omega))
    rcases List.mem_cons.mp hb with rfl | hb
    · exact Nat.ne_of_gt (Nat.lt_trans hpl (by omega))
    obtain ⟨q, hq, rfl⟩ := List.mem_map.mp hb
    exact ap q hq p hp
  · intro i ti m₁ news₁ I oI h' tk hi hP9_5 F5 N5 off
    obtain ⟨mS, sits, ep, ok, oks, t30', t37', rfl, dok, hsi, ht30', ht37', hap, hap2⟩ := hP9_5
    obtain ⟨tci, hci⟩ := hc i hi
    have hci' : cits[((i : Nat) : Int).toNat]? = some (.int (c i : Nat) tci) := hci
    have hIk : I ≠ L1 + 1 + 1 + 1 + 1 := (off (L1 + 1 + 1 + 1 + 1, ok) (.tail _ (.head _))).symm
    have hSk : S ≠ L1 + 1 + 1 + 1 + 1 := Nat.ne_of_gt (ltN lS.1)
    have hnk : ∀ p ∈ news, p.1 ≠ L1 + 1 + 1 + 1 + 1 := fun p hp => Nat.ne_of_lt (by have := ltN (lt1 p (List.mem_append_left _ hp)); omega)
    have ht3k : ∀ p ∈ t30', p.1 ≠ L1 + 1 + 1 + 1 + 1 := fun p hp => (hap _ (.tail _ (.head _)) p (List.mem_append_left _ hp)).symm
    have ht7k : ∀ p ∈ t37', p.1 ≠ L1 + 1 + 1 + 1 + 1 := fun p hp => (hap _ (.tail _ (.head _)) p (List.mem_append_right _ hp)).symm
    iterate 15 walk_at "st"
    · rename_i _ ok' _ _ dk' _
      replace dk' : ok'.data = .cell (some (.int i ti)) := dk'
      have hei : ((c i : Nat) : Int) = i := by assumption
      have he : c i = i := by omega
      (with_reducible rename Fr _ _ _ _ => kF6)
      (with_reducible rename News _ _ _ _ => kN6)
      refine Assign_ListComp_M kF6 (List.range 6) (fun (d : Nat) v => ∃ t, v = .int (d : Int) t) (fun d => c d == i) (fun d y tl => tl = [] ∧ ∃ t, y = .int (d : Int) t) (fun _ v m₁ => m₁ "day" = some v) rfl (by with_unfolding_all rfl) (by with_unfolding_all rfl) (by decide) rfl (by decide) rfl rfl ?_ (fun _ => rfl)
      iterate 7 walk_at "st"
      refine comp_range (n := 6) rfl (by assumption) (by assumption) (by assumption) (by decide) rfl rfl ?_ ?_ ?_
      · intro d v C oC mm own s Q E' hd hP9_6 hB hC F7 N7 hQ
        obtain ⟨tv, rfl⟩ := hP9_6
        obtain ⟨tcd, hcd⟩ := hc d hd
        have hcd' : cits[((d : Nat) : Int).toNat]? = some (.int (c d : Nat) tcd) := hcd
        refine test_one ?_
        walk_at "ss"
        have e : (((c d : Nat) : Int) == (i : Int)) = (c d == i) := by rw [Bool.eq_iff_iff]; simp; omega
        rw [e]
        exact hQ _ _ F7 N7
      · intro d v C oC mm own s Q E' hd hP9_7 hp hB hC F7 N7 hQ
        obtain ⟨tv, rfl⟩ := hP9_7
        walk_at "ss"
        exact hQ _ _ _ ⟨_, rfl⟩ (by k_asm) (by k_asm)
      · intro D ys h7 tk7 hys hD F7 N7 h8 tk8 F8 N8
        simp only [List.nil_append] at N8
        walk_at "ss"
        refine (no_index (?_ : ∀ as, (as = (List.range 6).filter fun d => c d == i) → _)) _ rfl
        intro as has
        rw [← has] at hys
        have hml : as.length ≤ 1000 := by rw [has]; exact Nat.le_trans (List.length_filter_le _ _) (by decide)
        have hm6 : ∀ d ∈ as, d < 6 := fun d hd => by rw [has] at hd; exact List.mem_range.mp (List.mem_filter.mp hd).1
        have hysA : AllV (fun (d : Nat) y => ∃ t, y = .int (d : Int) t) as ys.toArray.toList := hys
        (with_reducible rename Fr _ _ _ _ => kF9)
        refine ListComp_M kF9 as (fun (d : Nat) v => ∃ t, v = .int (d : Int) t) f (fun d y tl => tl = [] ∧ ∃ t, y = .int (h d) t) (fun _ v m₁ => m₁ "day" = some v) (by with_unfolding_all rfl) (by decide) rfl (by decide) ?_ (fun _ => rfl)
        walk_at "ss"
        (with_reducible rename Fr _ _ _ _ => kF9)
        (with_reducible rename News _ _ _ _ => kN9)
        refine comp_list (its := ys.toArray) (n := ys.length) rfl kF9 kN9 (.head _) hysA hml rfl rfl ?_ ?_ ?_
        · intro d v C oC mm own s Q E' hd hP9_8 hB hC F7 N7 hQ
          obtain ⟨tv, rfl⟩ := hP9_8
          have hd6 := hm6 d hd
          have hfd' : fits[((d : Nat) : Int).toNat]? = some (.bool (f d)) := hf d (hm6 d hd)
          refine test_one ?_
          walk_at "ss"
          exact hQ _ _ (by k_asm) (by k_asm)
        · intro d v C oC mm own s Q E' hd hP9_9 hp hB hC F7 N7 hQ
          obtain ⟨tv, rfl⟩ := hP9_9
          have hd6 := hm6 d hd
          obtain ⟨tcd, hcd⟩ := hh d hd6
          have hcd' : hits[((d : Nat) : Int).toNat]? = some (.int (h d) tcd) := hcd
          walk_at "ss"
          exact hQ _ _ _ ⟨_, rfl⟩ (by k_asm) (by k_asm)
        intro D2 ys2 h9 tk9 hys2 hD2 F9 N9
        have hI2 := hys2.ints
        have hG := tot_bd hh5 as f
        have hT := sum_bd hh5 as
        have hi1 : i ∈ as := by rw [has]; exact List.mem_filter.mpr ⟨List.mem_range.mpr hi, by simp [he]⟩
        have hl1 : 0 < as.length := List.length_pos_of_mem hi1
        have hl6 : as.length ≤ 6 := by rw [has]; exact Nat.le_trans (List.length_filter_le _ _) (by decide)
        walk_at "ss"
        (with_reducible rename Fr _ _ _ _ => kF9)
        refine ListComp_M kF9 as (fun (d : Nat) v => ∃ t, v = .int (d : Int) t) (fun _ => true) (fun d y tl => tl = [] ∧ ∃ t, y = .int (h d) t) (fun _ v m₁ => m₁ "day" = some v) (by with_unfolding_all rfl) (by decide) rfl (by decide) ?_ (fun _ => rfl)
        walk_at "ss"
        (with_reducible rename Fr _ _ _ _ => kF9)
        (with_reducible rename News _ _ _ _ => kN9)
        refine comp_list (its := ys.toArray) (n := ys.length) rfl kF9 kN9 (by k_mem) hysA hml rfl rfl ?_ ?_ ?_
        · intro d v C oC mm own s Q E' hd hP9_10 hB hC F7 N7 hQ
          obtain ⟨tv, rfl⟩ := hP9_10
          refine test_nil ?_
          exact hQ _ _ F7 N7
        · intro d v C oC mm own s Q E' hd hP9_11 hp hB hC F7 N7 hQ
          obtain ⟨tv, rfl⟩ := hP9_11
          have hd6 := hm6 d hd
          obtain ⟨tcd, hcd⟩ := hh d hd6
          have hcd' : hits[((d : Nat) : Int).toNat]? = some (.int (h d) tcd) := hcd
          walk_at "ss"
          exact hQ _ _ _ ⟨_, rfl⟩ (by k_asm) (by k_asm)
        intro D3 ys3 h10 tk10 hys3 hD3 F10 N10
        have hI3 := hys3.ints
        rw [List.filter_eq_self.mpr (fun _ _ => rfl)] at hI3
        walk_at "ss"
        (with_reducible rename Fr _ _ _ _ => kFa)
        (with_reducible rename News _ _ _ _ => kNa)
        (with_reducible rename Below _ _ _ _ => kB1)
        (with_reducible rename Top _ _ _ _ _ _ => kT1)
        refine int_divmod_c w mean mg mb (news := (D3, lst ys3) :: (D2, lst ys2) :: (D, lst ys) :: (I, oI) :: (S, PySem.W.listOf sits ep) :: (L1 + 1 + 1 + 1 + 1, _) :: (L1 + 1 + 1 + 1, o2) :: (L1 + 1 + 1, o3) :: (L1 + 1, o4) :: news) (t30 := t30') (t37 := t37') kB1 kFa (by k_asm) kNa kT1 rfl (by k_room) (by k_room) C30 C37 ht30' ht37' ?_ hap2 _ _ _ _ (by omega) (by omega) (by omega) (by omega) ?_
        · intro q hq p hp
          have hm : ∀ l, p ∈ l ++ (t30' ++ t37') := fun l => List.mem_append_right _ hp
          rcases List.mem_cons.mp hq with rfl | hq
          · exact Nat.ne_of_gt (hD3 p (.tail _ (.tail _ (.tail _ (.tail _ (.tail _ (.tail _ (.tail _ (.tail _ (hm _))))))))))
          rcases List.mem_cons.mp hq with rfl | hq
          · exact Nat.ne_of_gt (hD2 p (.tail _ (.tail _ (.tail _ (.tail _ (.tail _ (.tail _ (.tail _ (hm _)))))))))
          rcases List.mem_cons.mp hq with rfl | hq
          · exact Nat.ne_of_gt (hD p (.tail _ (.tail _ (.tail _ (.tail _ (.tail _ (.tail _ (hm _))))))))
          rcases List.mem_cons.mp hq with rfl | hq
          · exact (off p (.tail _ (.tail _ (.tail _ (.tail _ (.tail _ (hm _))))))).symm
          rcases List.mem_cons.mp hq with rfl | hq
          · exact hap _ (.head _) p hp
          rcases List.mem_cons.mp hq with rfl | hq
          · exact hap _ (.tail _ (.head _)) p hp
          rcases List.mem_cons.mp hq with rfl | hq
          · exact hap _ (.tail _ (.tail _ (.head _))) p hp
          rcases List.mem_cons.mp hq with rfl | hq
          · exact hap _ (.tail _ (.tail _ (.tail _ (.head _)))) p hp
          rcases List.mem_cons.mp hq with rfl | hq
          · exact hap _ (.tail _ (.tail _ (.tail _ (.tail _ (.head _))))) p hp
          · exact hap _ (.tail _ (.tail _ (.tail _ (.tail _ (.tail _ (List.mem_map_of_mem hq)))))) p hp
        intro D4 tq tr h11 tk11 t30'' t37'' ht30'' ht37'' hap'' hap2'' hlt'' F11 N11
        iterate 3 walk_at "st"
        (with_reducible rename Fr _ _ _ _ => kFb)
        (with_reducible rename News _ _ _ _ => kNb)
        have hrest : ∀ p ∈ (I, oI) :: (L1 + 1 + 1 + 1 + 1, ok') :: (L1 + 1 + 1 + 1, o2) :: (L1 + 1 + 1, o3) :: (L1 + 1, o4) :: (news ++ (t30'' ++ t37'')), p.1 ≠ S := by
          intro p hp
          rcases List.mem_cons.mp hp with rfl | hp
          · exact (off (S, PySem.W.listOf sits ep) (.head _)).symm
          rcases List.mem_cons.mp hp with rfl | hp
          · exact Nat.ne_of_lt (ltN lS.1)
          rcases List.mem_cons.mp hp with rfl | hp
          · exact Nat.ne_of_lt (ltN lS.2.1)
          rcases List.mem_cons.mp hp with rfl | hp
          · exact Nat.ne_of_lt (ltN lS.2.2.1)
          rcases List.mem_cons.mp hp with rfl | hp
          · exact Nat.ne_of_lt (ltN lS.2.2.2.1)
          rcases List.mem_append.mp hp with hp | hp
          · exact Nat.ne_of_lt (ktn_ltOf lS.2.2.2.2 p (List.mem_append_left _ hp))
          · exact (hap'' (S, PySem.W.listOf sits ep) (.tail _ (.tail _ (.tail _ (.tail _ (.head _))))) p hp).symm
        have Nc := News.sub (nw' := (S, PySem.W.listOf sits ep) :: (I, oI) :: (L1 + 1 + 1 + 1 + 1, ok') :: (L1 + 1 + 1 + 1, o2) :: (L1 + 1 + 1, o3) :: (L1 + 1, o4) :: (news ++ (t30'' ++ t37''))) kNb (by
          intro p hp
          simp only [List.mem_cons, List.mem_append, List.cons_append] at hp ⊢
          grind)
        have hqs : sits.size = i := by have := hsi.length; rw [Array.length_toList, List.length_map, List.length_range] at this; exact this
        refine append_K kFb Nc (.head hrest) ?_ (by rw [sizeLine_eq]; omega)
        intro h12 F12 N12
        iterate 3 walk_at "st"
        refine ⟨_, _, _, (S, PySem.W.listOf (sits.push (Value.int ((2048 * (List.map h (List.filter f as)).sum).fdiv (List.map h as).sum) tq)) (ep + 1)) :: (L1 + 1 + 1 + 1 + 1, ok') :: (L1 + 1 + 1 + 1, o2) :: (L1 + 1 + 1, o3) :: (L1 + 1, o4) :: (news ++ (t30'' ++ t37'')), rfl, F12, News.sub N12 ?_, ?_, mS, _, _, ok', _, t30'', t37'', rfl, dk', ?_, ht30'', ht37'', ?_, hap2''⟩
        · intro p hp
          simp only [List.mem_cons, List.mem_append] at hp ⊢
          grind
        · intro p hp
          rcases List.mem_cons.mp hp with rfl | hp
          · exact off (S, PySem.W.listOf sits ep) (.head _)
          rcases List.mem_cons.mp hp with rfl | hp
          · exact off (L1 + 1 + 1 + 1 + 1, ok) (.tail _ (.head _))
          rcases List.mem_cons.mp hp with rfl | hp
          · exact off _ (.tail _ (.tail _ (.head _)))
          rcases List.mem_cons.mp hp with rfl | hp
          · exact off _ (.tail _ (.tail _ (.tail _ (.head _))))
          rcases List.mem_cons.mp hp with rfl | hp
          · exact off _ (.tail _ (.tail _ (.tail _ (.tail _ (.head _)))))
          rcases List.mem_append.mp hp with hp | hp
          · exact off p (.tail _ (.tail _ (.tail _ (.tail _ (.tail _ (List.mem_append_left _ hp))))))
          · exact (hap'' (I, oI) (.tail _ (.tail _ (.tail _ (.head _)))) p hp).symm
        · rw [Array.toList_push, List.range_succ, List.map_append]
          have hv : shareOf c h f i = ((2048 * (List.map h (List.filter f as)).sum).fdiv (List.map h as).sum) := by
            unfold shareOf cellOf tot
            rw [he, ← has]
          have := ints_snoc hsi (shareOf c h f i) tq
          rw [hv] at this
          rw [List.map_singleton, hv]
          exact this
        · intro b hb p hp
          rcases List.mem_cons.mp hb with rfl | hb
          · exact hap'' (b, PySem.W.listOf sits ep) (.tail _ (.tail _ (.tail _ (.tail _ (.head _))))) p hp
          rcases List.mem_cons.mp hb with rfl | hb
          · exact hap'' _ (.tail _ (.tail _ (.tail _ (.tail _ (.tail _ (.head _)))))) p hp
          rcases List.mem_cons.mp hb with rfl | hb
          · exact hap'' _ (.tail _ (.tail _ (.tail _ (.tail _ (.tail _ (.tail _ (.head _))))))) p hp
          rcases List.mem_cons.mp hb with rfl | hb
          · exact hap'' _ (.tail _ (.tail _ (.tail _ (.tail _ (.tail _ (.tail _ (.tail _ (.head _)))))))) p hp
          rcases List.mem_cons.mp hb with rfl | hb
          · exact hap'' _ (.tail _ (.tail _ (.tail _ (.tail _ (.tail _ (.tail _ (.tail _ (.tail _ (.head _))))))))) p hp
          obtain ⟨q, hq, rfl⟩ := List.mem_map.mp hb
          exact hap'' q (.tail _ (.tail _ (.tail _ (.tail _ (.tail _ (.tail _ (.tail _ (.tail _ (.tail _ hq))))))))) p hp
    · rename_i _ ok' _ _ dk' _
      replace dk' : ok'.data = .cell (some (.int i ti)) := dk'
      have hei : ¬ ((c i : Nat) : Int) = i := by assumption
      have hci1 := hck i hi
      have hlt : c i < i := by omega
      have hlen : sits.size = i := by have := hsi.length; rw [Array.length_toList, List.length_map, List.length_range] at this; exact this
      obtain ⟨tx, hx⟩ := ints_get hsi (show ((List.range i).map (shareOf c h f))[c i]? = some (shareOf c h f (c i)) by rw [List.getElem?_map, List.getElem?_range hlt]; rfl)
      have hx' : sits[((c i : Nat) : Int).toNat]? = some (.int (shareOf c h f (c i)) tx) := by rw [Int.toNat_natCast, ← Array.getElem?_toList]; exact hx
      iterate 13 walk_at "st"
      walk_at "my item"
      walk_at "st"
      (with_reducible rename Fr _ _ _ _ => kFb)
      (with_reducible rename News _ _ _ _ => kNb)
      have hrest : ∀ p ∈ (I, oI) :: (L1 + 1 + 1 + 1 + 1, ok') :: (L1 + 1 + 1 + 1, o2) :: (L1 + 1 + 1, o3) :: (L1 + 1, o4) :: (news ++ (t30' ++ t37')), p.1 ≠ S := by
        intro p hp
        rcases List.mem_cons.mp hp with rfl | hp
        · exact (off (S, PySem.W.listOf sits ep) (.head _)).symm
        rcases List.mem_cons.mp hp with rfl | hp
        · exact Nat.ne_of_lt (ltN lS.1)
        rcases List.mem_cons.mp hp with rfl | hp
        · exact Nat.ne_of_lt (ltN lS.2.1)
        rcases List.mem_cons.mp hp with rfl | hp
        · exact Nat.ne_of_lt (ltN lS.2.2.1)
        rcases List.mem_cons.mp hp with rfl | hp
        · exact Nat.ne_of_lt (ltN lS.2.2.2.1)
        rcases List.mem_append.mp hp with hp | hp
        · exact Nat.ne_of_lt (ktn_ltOf lS.2.2.2.2 p (List.mem_append_left _ hp))
        · exact (hap _ (.head _) p hp).symm
      have Nc := News.sub (nw' := (S, PySem.W.listOf sits ep) :: (I, oI) :: (L1 + 1 + 1 + 1 + 1, ok') :: (L1 + 1 + 1 + 1, o2) :: (L1 + 1 + 1, o3) :: (L1 + 1, o4) :: (news ++ (t30' ++ t37'))) kNb (by
        intro p hp
        simp only [List.mem_cons, List.mem_append] at hp ⊢
        grind)
      refine append_K kFb Nc (.head hrest) ?_ (by rw [sizeLine_eq]; omega)
      intro h12 F12 N12
      iterate 3 walk_at "st"
      refine ⟨_, _, _, (S, PySem.W.listOf (sits.push (Value.int (shareOf c h f (c i)) tx)) (ep + 1)) :: (L1 + 1 + 1 + 1 + 1, ok') :: (L1 + 1 + 1 + 1, o2) :: (L1 + 1 + 1, o3) :: (L1 + 1, o4) :: (news ++ (t30' ++ t37')), rfl, F12, News.sub N12 ?_, ?_, mS, _, _, ok', _, t30', t37', rfl, dk', ?_, ht30', ht37', hap, hap2⟩
      · intro p hp
        simp only [List.mem_cons, List.mem_append] at hp ⊢
        grind
      · intro p hp
        rcases List.mem_cons.mp hp with rfl | hp
        · exact off (S, PySem.W.listOf sits ep) (.head _)
        rcases List.mem_cons.mp hp with rfl | hp
        · exact off (L1 + 1 + 1 + 1 + 1, ok) (.tail _ (.head _))
        · exact off p (.tail _ (.tail _ hp))
      · rw [Array.toList_push, List.range_succ, List.map_append]
        have hv : shareOf c h f i = shareOf c h f (c i) := by
          unfold shareOf
          rw [hci1.2]
        have := ints_snoc hsi (shareOf c h f (c i)) tx
        rw [List.map_singleton, hv]
        exact this
  · intro h' tk m₁ news₁ hP9_12 F5 N5
    obtain ⟨mS, sits, ep, ok, oks, t30', t37', rfl, dok, hsi, ht30', ht37', hap, hap2⟩ := hP9_12
    walk_at "ss"
    (with_reducible rename News h₀ _ _ _ => kN9)
    refine hret S sits ep _ _ t30' t37' hsi ht30' ht37' ?_ hap2 ?_ ?_ (by k_asm) (News.sub kN9 ?_)
    · intro q hq p hp
      exact hap q.1 (.tail _ (.tail _ (.tail _ (.tail _ (.tail _ (List.mem_map_of_mem hq)))))) p hp
    · intro p hp
      exact ktn_ltOf lS.2.2.2.2 p (List.mem_append_left _ hp)
    · intro p hp
      exact (hap _ (.head _) p hp).symm
    · intro p hp
      rcases List.mem_cons.mp hp with rfl | hp
      · exact .head _
      · exact .tail _ (.tail _ (.tail _ (.tail _ (.tail _ hp))))
end
section
open PySem PySem.Spec PySem.Calls PySem.W PyProof.Rows PyProof.Rows.LCg
inductive J9 (Dw : Addr) (u1 u2 u3 t2 : Tok) (g : Str) (i1 i2 : Int) (news : Led) (i : Nat) (m₁ : Str → Option Value) (news₁ : Led) : Prop
  | mk : news₁ = (Dw, PySem.W.listOf #[.str ⟨#[]⟩ u1, .str ⟨#[58, 32]⟩ u2, .str ⟨#[97]⟩ u3] (0 + 1)) :: news → m₁ "got" = some (.str g t2) → (∃ te, m₁ "endpos" = some (.int ((g.length : Int) - (1 : Nat)) te)) → ∀ (ts : Tok), m₁ "startpos" = some (.int (if i = 0 then 0 else if i = 1 then 0 else if i = 2 then i1 + 2 else i2 + 1) ts) → (i = 3 → 0 ≤ i2) → J9 Dw u1 u2 u3 t2 g i1 i2 news i m₁ news₁
set_option maxHeartbeats 4000000 in
theorem match_c (w : World) (mean : ExcName → Option Value) (mg mb : Str → Option Value) {p : Program} {loose : List Str}
    {dp un : Nat} {gd : Option (List Code)} {cn : Str} {cs : Scope} {a : Addr} {ccd : Value} {cl : List (Str × Addr)} {outer : List Env} {A₀ : Around} {base h₀ : Heap} {L : Addr} {m : Str → Option Value} {news : Led} {s : Shared} {Q E : Value → Shared → Prop}
    (B : Below A₀ base outer h₀) (F : Fr h₀ L s.heap m) (X : (Mine.hd.heap_39 w.params).In h₀) (N : News h₀ L s.heap news) (T : Top p loose mean mg mb h₀) (hk : cs.kind = .function)
    (hd : dp + 2 < recursionLimit) (hu : un + 60 < cLine)
    (g : Str) (t1 t2 : Tok) (i1 i2 : Int) (f0 : find4 g ⟨#[]⟩ 0 ((g.length : Int) - (1 : Nat)) = 0) (f1 : find4 g ⟨#[58, 32]⟩ 0 ((g.length : Int) - (1 : Nat)) = i1) (hi1 : 0 ≤ i1) (f2 : find4 g ⟨#[97]⟩ (i1 + 2) ((g.length : Int) - (1 : Nat)) = i2)
    (hret : ∀ h' tk', Fr h₀ L h' m → News h₀ L h' news → Q (.bool (Txt.endswith g (Str.ofString "b") && decide (0 ≤ i2))) { s with heap := h', toks := tk' })
    (hlen : g.length ≤ 40) (hlen2 : 1 ≤ g.length) :
    wpAny (model PySem.Challenge.rw_sn0056_01.prog w) (ktrTop dp un gd cn cs L a ccd cl outer) (call (.ref 77) [.str (Str.ofString "...: ...a...b") t1, .str g t2]) Q E s := by
  revert X; k_fill; intro X
  walk_at "my enter"
  have hin : (Builtin.Str.occurrences (Str.ofString "...: ...a...b") (Str.ofString "...") 0 (Str.ofString "...: ...a...b").length 1).isEmpty = false := by decide +kernel
  iterate 11 walk_at "st"
  · exact absurd (by assumption : (Builtin.Str.occurrences (Str.ofString "...: ...a...b") (Str.ofString "...") 0 (Str.ofString "...: ...a...b").length 1).isEmpty = true) (by rw [hin]; decide)
  walk_at "ss"
  · (with_reducible rename Fr _ _ _ _ => kF3)
    (with_reducible rename News _ _ _ _ => kN3)
    have hb : Txt.endswith g (Str.ofString "b") = true := by assumption
    rw [hb, Bool.true_and] at hret
    refine (no_index (?_ : ∀ (mm : Str → Option Value) (Dw : Addr) (u1 u2 u3 ts te : Tok), Fr _ _ _ mm → mm "ws" = some (.ref Dw) → mm "got" = some (.str g t2) → mm "startpos" = some (.int 0 ts) → mm "endpos" = some (.int ((g.length : Int) - (1 : Nat)) te) → News _ _ _ ((Dw, PySem.W.listOf #[.str ⟨#[]⟩ u1, .str ⟨#[58, 32]⟩ u2, .str ⟨#[97]⟩ u3] (0 + 1)) :: news) → _)) _ _ _ _ _ _ _ kF3 rfl rfl rfl rfl (News.sub kN3 fun p hp => .tail _ hp)
    intro mm Dw u1 u2 u3 ts te kF4 mws mgot mst men kN4
    clear kF3 kN3
    refine For_F kF4 [(⟨#[]⟩ : Str), ⟨#[58, 32]⟩, ⟨#[97]⟩] (fun (z : Str) v => ∃ t, v = .str z t) (J9 Dw u1 u2 u3 t2 g i1 i2 news) (fun _ => rfl) ?_
    walk_at "ss"
    (with_reducible rename Fr _ _ _ _ => kF5)
    (with_reducible rename News _ _ _ _ => kN5)
    refine for_list rfl kF5 kN5 (.head _) (.cons ⟨_, rfl⟩ (.cons ⟨_, rfl⟩ (.cons ⟨_, rfl⟩ .nil))) ⟨rfl, mgot, ⟨_, men⟩, _, mst, fun h => nomatch h⟩ (fun i m₁ news₁ hJ => by rw [hJ.1]; exact .head _) ?_ ?_
    · intro i z v m₁ news₁ I oI h tk hi hP9_13 hP9_14 F5 N5 off
      obtain ⟨tv, rfl⟩ := hP9_13
      obtain ⟨rfl, mg1, ⟨te1, me1⟩, ts1, ms1, h3⟩ := hP9_14
      obtain ⟨P, R, hP, hRf, hR2, hR0, hlt3, hnext, hzl⟩ : ∃ P R, (if i = 0 then 0 else if i = 1 then 0 else if i = 2 then i1 + 2 else i2 + 1) = P ∧ find4 g z P ((g.length : Int) - (1 : Nat)) = R ∧ (R < 0 → ¬ 0 ≤ i2) ∧ (0 ≤ R → i = 2 → 0 ≤ i2) ∧ i < 3 ∧ (0 ≤ R → (if i + 1 = 0 then 0 else if i + 1 = 1 then 0 else if i + 1 = 2 then i1 + 2 else i2 + 1) = R + z.length) ∧ z.length ≤ 10 := by
        rcases i with _ | _ | _ | i
        · cases (Option.some.inj hi); exact ⟨0, 0, rfl, f0, by omega, by omega, by omega, fun _ => rfl, by decide⟩
        · cases (Option.some.inj hi); exact ⟨0, i1, rfl, f1, by omega, by omega, by omega, fun _ => rfl, by decide⟩
        · cases (Option.some.inj hi); exact ⟨i1 + 2, i2, rfl, f2, by omega, by omega, by omega, fun _ => rfl, by decide⟩
        · simp at hi
      rw [hP] at ms1
      walk_at "ss"
      refine find4_M ?_
      rw [hRf]
      walk_at "sx"
      · (with_reducible rename (R < 0) => hneg)
        (with_reducible rename News h₀ _ _ _ => kN9)
        rw [decide_eq_false (hR2 hneg)] at hret
        exact hret _ _ (by k_asm) (News.sub kN9 fun p hp => .tail _ (.tail _ hp))
      · (with_reducible rename (¬ R < 0) => hpos)
        (with_reducible rename Fr _ _ _ _ => kF9)
        (with_reducible rename News _ _ _ ((I, oI) :: _) => kN9)
        refine ⟨_, _, _, _, rfl, kF9, kN9, off, rfl, mg1, ⟨te1, me1⟩, ?t9, ?_, ?_⟩
        rotate_left
        · rw [hnext (by omega)]; exact rfl
        · intro h; exact hR0 (by omega) (by omega)
    · intro h' tk m₁ news₁ hJ F5 N5
      obtain ⟨rfl, mg1, ⟨te1, me1⟩, ts1, ms1, h3⟩ := hJ
      have hp := h3 rfl
      rw [decide_eq_true hp] at hret
      walk_at "ss"
      (with_reducible rename News h₀ _ _ _ => kN9)
      exact hret _ _ (by k_asm) (News.sub kN9 fun p hp => .tail _ hp)
  · (with_reducible rename News h₀ _ _ _ => kN9)
    have hb : Txt.endswith g (Str.ofString "b") = false := by assumption
    rw [hb, Bool.false_and] at hret
    exact hret _ _ (by k_asm) (News.sub kN9 fun p hp => .tail _ (.tail _ hp))
end
section
open PySem PySem.Spec PySem.Calls PySem.W PyProof.Rows PyProof.Rows.LCg
inductive J12 (D sl : Addr) (news : Led) (i : Nat) (m₁ : Str → Option Value) (news₁ : Led) : Prop
  | mk : m₁ "totals" = some (.ref D) → m₁ "script" = some (.ref sl) → ∀ (ys : List Value) (ts : List Int) (c' : Nat), news₁ = (D, ({ cls := .type "list", data := .seq ys.toArray c' } : Obj)) :: news → IntsAre ys ts → ts.length = 8 → (∀ t ∈ ts, 0 ≤ t ∧ t < 2000 + 1000000 * i) → J12 D sl news i m₁ news₁
set_option maxRecDepth 100000 in
set_option maxHeartbeats 8000000 in
theorem totals_c (w : World) (mean : ExcName → Option Value) (mg mb : Str → Option Value) {p : Program} {loose : List Str}
    {dp un : Nat} {gd : Option (List Code)} {cn : Str} {cs : Scope} {a : Addr} {ccd : Value} {cl : List (Str × Addr)} {outer : List Env} {A₀ : Around} {base h₀ : Heap} {L : Addr} {m : Str → Option Value} {news : Led} {s : Shared} {Q E : Value → Shared → Prop}
    (B : Below A₀ base outer h₀) (F : Fr h₀ L s.heap m) (X : (Mine.hd.heap_39 w.params).In h₀) (N : News h₀ L s.heap news) (T : Top p loose mean mg mb h₀) (hk : cs.kind = .function)
    (hd : dp + 10 < recursionLimit) (hu : un + 100 < cLine)
    (sl fl : Addr) (vs : List Value) (ns fs : List Int) (its : Array Value) (n : Nat) (hs : h₀.IsList sl vs.toArray) (hI : IntsAre vs ns) (hlen : ns.length ≤ 63)
    (hm : (fl, ({ cls := .type "list", data := .seq its n } : Obj)) ∈ news) (hF : IntsAre its.toList fs) (hfl : fs.length = 8) (hfb : ∀ f ∈ fs, 0 ≤ f ∧ f < 2000)
    (hret : ∀ D ys ts c h' tk', IntsAre ys ts → ts.length = 8 → (∀ t ∈ ts, 0 ≤ t ∧ t < 2 ^ 40) → (∀ p ∈ news, p.1 < D) → Fr h₀ L h' m → News h₀ L h' ((D, ({ cls := .type "list", data := .seq ys.toArray c } : Obj)) :: news) → Q (.ref D) { s with heap := h', toks := tk' }) :
    wpAny (model PySem.Challenge.rw_sn0056_01.prog w) (ktrTop dp un gd cn cs L a ccd cl outer) (call (.ref 133) [.ref sl, .ref fl]) Q E s := by
  revert X; k_fill; intro X
  walk_at "my enter"
  (with_reducible rename Fr h₀ L _ _ => kG)
  obtain ⟨oS, eS, cS, nS, dS⟩ := hs
  have hs2 : Heap.IsList _ sl vs.toArray := ⟨oS, kG.keep _ _ eS, cS, nS, dS⟩
  walk_at "sx"
  (with_reducible rename Fr _ _ _ _ => kF)
  (with_reducible rename News _ _ _ _ => kN)
  refine kup_listOf (zs := its.toList) kF kN hm rfl (fun D c h1 F1 N1 l1 => ?_) (by rw [hF.length, hfl]; decide)
  walk_at "sx"
  (with_reducible rename Fr _ _ _ _ => kF2)
  (with_reducible rename News _ _ _ _ => kN2)
  refine (no_index (?_ : ∀ (mm : Str → Option Value), (Fr _ _ _ mm) → (mm "totals" = some (.ref D)) → (mm "script" = some (.ref sl)) → (News _ _ _ ((D, ({ cls := .type "list", data := .seq its.toList.toArray c } : Obj)) :: news)) → _)) _ kF2 rfl rfl kN2
  intro mm kF mtot mscr kN
  clear kF2 kN2
  refine For_F kF (List.range (List.take 16 ns).length) (fun (i : Nat) v => ∃ t, v = .int (i : Int) t) (J12 D sl news) (fun _ => rfl) ?_
  walk_at "sx"
  (with_reducible rename Fr _ _ _ _ => kF5)
  (with_reducible rename News _ _ _ _ => kN5)
  (with_reducible rename IsRange _ _ _ _ _ _ _ _ => kR)
  refine for_range rfl kF5 (News.sub kN5 fun p hp => .tail _ hp) kR (Nat.le_trans (List.length_take_le 16 ns) (by decide)) ⟨mtot, mscr, _, fs, _, rfl, hF, hfl, fun t ht => ⟨(hfb t ht).1, bd3 0 (hfb t ht).2⟩⟩ ?_ ?_
  · intro i ti m₁ news₁ I oI h tk hi hP9_15 F5 N5 off
    obtain ⟨mt, ms, ys, ts, c', rfl, hI2, hl2, hb2⟩ := hP9_15
    have hi16 : i < 16 := by rw [List.length_take] at hi; exact Nat.lt_of_lt_of_le hi (Nat.min_le_left _ _)
    have hns : i < ns.length := by rw [List.length_take] at hi; exact Nat.lt_of_lt_of_le hi (Nat.min_le_right _ _)
    have hfm := fdm (i : Int) (y := (ts.length : Int)) (by rw [hl2]; decide)
    have hyl : ys.length = 8 := hI2.length.trans hl2
    walk_at "!wpAny:6 _ _ setItem:3 Value.ref:1 _ Value.int:2 _ _ _ _ _ _"
    (with_reducible rename Fr _ _ _ _ => kF9)
    (with_reducible rename News _ _ _ _ => kN9)
    have hk0 : (0 : Int) ≤ (i : Int).fmod ((ys.toArray.size : Nat) : Int) := by rw [List.size_toArray, hyl, ← hl2]; exact hfm.2.1
    have hk1 : (i : Int).fmod ((ys.toArray.size : Nat) : Int) < ts.length := by rw [List.size_toArray, hyl, ← hl2]; exact hfm.2.2
    have hDI : D ≠ I := off (D, _) (.head _)
    have hDI2 : I ≠ D := Ne.symm hDI
    refine ksa_set kF9 kN9 (by k_upd) hI2 hk0 hk1 (Int.lt_of_lt_of_le hk1 (by rw [hl2]; decide)) ?_
    intro h3 F9 N9 hi9 hl9 _
    walk_at "sx"
    refine ⟨_, _, _, _, rfl, F9, N9, ?_, mt, ms, _, _, _, rfl, hi9, by rw [hl9]; exact hl2, ?_⟩
    · intro q hq
      rcases List.mem_cons.mp hq with rfl | hq
      · exact hDI
      · exact off q (.tail _ hq)
    · intro t ht
      rcases List.mem_or_eq_of_mem_set ht with ht | rfl
      · exact ⟨(hb2 t ht).1, bd0 (hb2 t ht).2⟩
      · have hm1 := fdm (ns.getD (i : Int).toNat 0) (y := 1000000) (by decide)
        have e6 : (10 : Int) ^ Int.toNat 6 = 1000000 := by decide
        rw [e6]
        have hk2 : ((i : Int).fmod ((ys.toArray.size : Nat) : Int)).toNat < ts.length := toN_lt hk0 hk1
        have hg : ts.getD ((i : Int).fmod ((ys.toArray.size : Nat) : Int)).toNat 0 ∈ ts := by
          rw [List.getD_eq_getElem?_getD, List.getElem?_eq_getElem hk2]; exact List.getElem_mem hk2
        exact ⟨Int.add_nonneg (hb2 _ hg).1 hm1.2.1, bd1 (hb2 _ hg).2 hm1.2.2⟩
  · intro h' tk m₁ news₁ hP9_16 F5 N5
    obtain ⟨mt, ms, ys, ts, c', rfl, hI2, hl2, hb2⟩ := hP9_16
    walk_at "sx"
    (with_reducible rename News h₀ _ _ _ => kN9)
    have hD9 : ∀ p ∈ news, p.1 < D := l1
    exact hret D ys ts _ _ _ hI2 hl2 (fun t ht => ⟨(hb2 t ht).1, bd2 (hb2 t ht).2 (List.length_take_le 16 ns)⟩) hD9 (by k_asm) kN9
end
section
open PySem PySem.Spec PySem.Calls PySem.W PyProof.Rows PyProof.Rows.LCg
inductive OrdJ (O D : Addr) (base : List (Str × Tok)) (news : Led) (k : Nat) (m₁ : Str → Option Value) (news₁ : Led) : Prop
  | mk : m₁ "left" = some (.ref D) → m₁ "order" = some (.ref O) → ∀ (y : Int) (td : Tok) (ls os : List (Str × Tok)) (c c' : Nat), m₁ "draw" = some (.int y td) → 0 ≤ y → y < 2 ^ 40 → ls.length = k → os.length + k = 3 → news₁ = (O, PySem.W.listOf (os.map fun p => Value.str p.1 p.2).toArray c') :: (D, PySem.W.listOf (ls.map fun p => Value.str p.1 p.2).toArray c) :: news → (os ++ ls).Perm base → OrdJ O D base news k m₁ news₁
theorem ord_fin {O D : Addr} {base os : List (Str × Tok)} {news : Led} {k : Nat} {y : Int} {ov : Array Value} {h₀ : Heap} {L : Addr} {s : Shared} (hos : (os.map fun p => Value.str p.1 p.2).toArray = ov) (hok : os.length + k = 3) (hy0 : 0 ≤ y) (hy1 : y < 2 ^ 40)
    (mm : Str → Option Value) (h'' : Heap) (tk'' e1 e2 : Nat) (tq : Tok) (q6 : Fr h₀ L h'' mm) (q5 : mm "draw" = some (.int (y.fdiv 6) tq)) (q3 : mm "left" = some (.ref D)) (q4 : mm "order" = some (.ref O))
    (v : Str) (u : Tok) (ls' : List (Str × Tok)) (q2 : ls'.length + 1 = k) (q1 : (os ++ (v, u) :: ls').Perm base)
    (q7 : News h₀ L h'' ((O, PySem.W.listOf (ov.push (.str v u)) e1) :: (D, PySem.W.listOf (ls'.map fun p => Value.str p.1 p.2).toArray e2) :: news)) :
    TurnW h₀ L s.gens s.drawn s.os k (OrdJ O D base news) { s with heap := h'', toks := tk'' } :=
  ⟨h'', tk'', k - 1, mm, _, rfl, by omega, q6, q7, q3, q4, y.fdiv 6, tq, ls', os ++ [(v, u)], e2, e1, q5, fd_lo hy0 (by decide), fd_lt hy0 hy1 (by decide), by omega, by simp; omega, by rw [← hos]; simp, by simpa using q1⟩
set_option maxRecDepth 100000 in
set_option maxHeartbeats 8000000 in
theorem order_c (w : World) (mean : ExcName → Option Value) (mg mb : Str → Option Value) {p : Program} {loose : List Str}
    {dp un : Nat} {gd : Option (List Code)} {cn : Str} {cs : Scope} {a : Addr} {ccd : Value} {cl : List (Str × Addr)} {outer : List Env} {A₀ : Around} {base h₀ : Heap} {L : Addr} {m : Str → Option Value} {news : Led} {s : Shared} {Q E : Value → Shared → Prop}
    (B : Below A₀ base outer h₀) (F : Fr h₀ L s.heap m) (X : (Mine.hd.heap_39 w.params).In h₀) (N : News h₀ L s.heap news) (T : Top p loose mean mg mb h₀) (hk : cs.kind = .function)
    (hd : dp + 10 < recursionLimit) (hu : un + 100 < cLine)
    (x : Int) (t1 t2 t3 t4 : Tok) (nl : Addr) (hx0 : 0 ≤ x) (hx1 : x < 2 ^ 40) (hret : ∀ (O : Addr) (os : List (Str × Tok)) (c : Nat) h' tk', os.Perm [(Str.ofString "bright", t2), (Str.ofString "light", t3), (Str.ofString "title", t4)] → Fr h₀ L h' m → News h₀ L h' ((O, PySem.W.listOf (os.map fun p => Value.str p.1 p.2).toArray c) :: news) → Q (.ref O) { s with heap := h', toks := tk' }) (hm : (nl, PySem.W.listOf #[.str (Str.ofString "bright") t2, .str (Str.ofString "light") t3, .str (Str.ofString "title") t4] 0) ∈ news) :
    wpAny (model PySem.Challenge.rw_sn0056_01.prog w) (ktrTop dp un gd cn cs L a ccd cl outer) (call (.ref 145) [.ref nl, .int x t1]) Q E s := by
  revert X; k_fill; intro X
  walk_at "my enter"
  walk_at "sx"
  (with_reducible rename Fr _ _ _ _ => kF2)
  (with_reducible rename News _ _ _ _ => kN2)
  refine (no_index (?_ : ∀ (mm : Str → Option Value) (O D : Addr) (c : Nat) (td : Tok), (Fr _ _ _ mm) → (mm "left" = some (.ref D)) → (mm "order" = some (.ref O)) → (mm "draw" = some (.int x td)) → (News _ _ _ ((O, PySem.W.listOf #[] 0) :: (D, PySem.W.listOf #[.str (Str.ofString "bright") t2, .str (Str.ofString "light") t3, .str (Str.ofString "title") t4] c) :: news)) → (@LT.lt Nat _ D O ∧ AllLt O news) → (AllLt D news) → _)) _ _ _ _ _ kF2 rfl rfl rfl kN2 (by assumption) (allLt_of (by assumption))
  intro mm O D c td kF mleft mord mdraw kN hDO hDn
  clear kF2 kN2
  refine While_F kF kN (OrdJ O D [(Str.ofString "bright", t2), (Str.ofString "light", t3), (Str.ofString "title", t4)] news) 3 ⟨mleft, mord, x, td, [(Str.ofString "bright", t2), (Str.ofString "light", t3), (Str.ofString "title", t4)], [], _, _, mdraw, hx0, hx1, rfl, rfl, rfl, .refl _⟩ ?_
  intro k m₁ news₁ h tk hP9_17 F1 N1
  obtain ⟨ml, mo, y, td, ls, os, c, c', md, hy0, hy1, hlk, hok, rfl, hp⟩ := hP9_17
  have c3 : ∀ y : Int, y.fmod 3 = 0 ∨ y.fmod 3 = 1 ∨ y.fmod 3 = 2 := fm3
  have c2 : ∀ y : Int, y.fmod 2 = 0 ∨ y.fmod 2 = 1 := fm2
  have c1 : ∀ y : Int, y.fmod 1 = 0 := fun y => by have := fdm y (y := 1) (by decide); omega
  have hok2 : ∀ p ∈ ls, PyData.strOk p.1 = true := fun p h => by
    have := hp.mem_iff.mp (List.mem_append_right os h)
    simp only [List.mem_cons, List.not_mem_nil, or_false] at this
    rcases this with rfl | rfl | rfl
    · show PyData.strOk (Str.ofString "bright") = true; decide +kernel
    · show PyData.strOk (Str.ofString "light") = true; decide +kernel
    · show PyData.strOk (Str.ofString "title") = true; decide +kernel
  walk_at "sx"
  refine ne_strs_nil (ps := ls) (News.isList (by k_asm) (by k_mem)) (News.isList (by k_asm) (.head _)) hok2 (by units_room) ?_
  have hovz : (os.map fun p => Value.str p.1 p.2).toArray.size ≤ 3 := by simp; omega
  generalize hos : (os.map fun p => Value.str p.1 p.2).toArray = ov at *
  rcases ls with _ | ⟨⟨v1, u1⟩, _ | ⟨⟨v2, u2⟩, _ | ⟨⟨v3, u3⟩, _ | ⟨v4, ls⟩⟩⟩⟩
  rotate_right
  · simp at hlk; omega
  all_goals (with_reducible rename News _ _ _ (_ :: _ :: _) => kN8)
  all_goals (simp only [List.map_cons, List.map_nil] at kN8)
  · walk_at "sx"
    (with_reducible rename News h₀ _ _ _ => kN9)
    refine hret O os c' _ _ (by rw [List.append_nil] at hp; exact hp) (by k_asm) (by rw [hos]; refine News.sub kN9 fun p hp => ?_; rcases List.mem_cons.mp hp with rfl | hp; exact .tail _ (.head _); exact .tail _ (.tail _ (.tail _ hp)))
  · walk_at "!wpAny:6 _ _ PySem.call:2 Value.builtin:1 _ List.cons:2 Value.ref:1 _ List.cons:2 Value.int:2 _ _ List.nil:0 _ _ _"
    rw [c1 y]
    walk_at "sx"
    (with_reducible rename Fr _ _ _ _ => kF9)
    (with_reducible rename News _ _ _ _ => kN9)
    refine ord_fin hos hok hy0 hy1 _ _ _ _ _ _ kF9 rfl ml mo v1 u1 [] (by simpa using hlk) hp (News.sub kN9 fun p hp => .tail _ hp)
  · walk_at "!wpAny:6 _ _ PySem.call:2 Value.builtin:1 _ List.cons:2 Value.ref:1 _ List.cons:2 Value.int:2 _ _ List.nil:0 _ _ _"
    rcases c2 y with h2 | h2
    all_goals (rw [h2]; walk_at "sx"; (with_reducible rename Fr _ _ _ _ => kF9); (with_reducible rename News _ _ _ _ => kN9))
    · refine ord_fin hos hok hy0 hy1 _ _ _ _ _ _ kF9 rfl ml mo v1 u1 [(v2, u2)] (by simpa using hlk) hp (News.sub kN9 fun p hp => .tail _ hp)
    · refine ord_fin hos hok hy0 hy1 _ _ _ _ _ _ kF9 rfl ml mo v2 u2 [(v1, u1)] (by simpa using hlk) (.trans (.append_left _ (.swap ..)) hp) (News.sub kN9 fun p hp => .tail _ hp)
  · walk_at "!wpAny:6 _ _ PySem.call:2 Value.builtin:1 _ List.cons:2 Value.ref:1 _ List.cons:2 Value.int:2 _ _ List.nil:0 _ _ _"
    rcases c3 y with h2 | h2 | h2
    all_goals (rw [h2]; walk_at "sx"; (with_reducible rename Fr _ _ _ _ => kF9); (with_reducible rename News _ _ _ _ => kN9))
    · refine ord_fin hos hok hy0 hy1 _ _ _ _ _ _ kF9 rfl ml mo v1 u1 [(v2, u2), (v3, u3)] (by simpa using hlk) hp (News.sub kN9 fun p hp => .tail _ hp)
    · refine ord_fin hos hok hy0 hy1 _ _ _ _ _ _ kF9 rfl ml mo v2 u2 [(v1, u1), (v3, u3)] (by simpa using hlk) (.trans (.append_left _ (.swap ..)) hp) (News.sub kN9 fun p hp => .tail _ hp)
    · refine ord_fin hos hok hy0 hy1 _ _ _ _ _ _ kF9 rfl ml mo v3 u3 [(v1, u1), (v2, u2)] (by simpa using hlk) (.trans (.append_left _ (.trans (.swap ..) (.cons _ (.swap ..)))) hp) (News.sub kN9 fun p hp => .tail _ hp)
end
section
open PySem PySem.Spec PySem.Calls PySem.W PyProof.Rows PyProof.Rows.LCg
inductive Wr : List Str → Str → Prop
  | nil : Wr [] (Str.ofString "")
  | plain {ws t w c} : Wr ws t → c ∈ ([Str.ofString " ", Str.ofString "\t", Str.ofString "\n"] : List Str) → Wr (ws ++ [w]) (t ++ w ++ c)
  | quoted {ws t w c} : Wr ws t → c ∈ ([Str.ofString " ", Str.ofString "\t", Str.ofString "\n"] : List Str) → Wr (ws ++ [w]) (t ++ (Str.ofString "\"" ++ w ++ Str.ofString "\"") ++ c)
  | slashed {ws t w c} : Wr ws t → c ∈ ([Str.ofString " ", Str.ofString "\t", Str.ofString "\n"] : List Str) → Wr (ws ++ [w]) (t ++ (Str.ofString "\\" ++ w) ++ c)
inductive J14 (w1 w2 w3 : Str) (news : Led) (i : Nat) (m₁ : Str → Option Value) (news₁ : Led) : Prop
  | mk : news₁ = news → ∀ (y : Int) (tx : Str) (td tt : Tok), m₁ "draw" = some (.int y td) → m₁ "text" = some (.str tx tt) → 0 ≤ y → y < 2 ^ 40 → tx.length ≤ 10 * i → Wr ([w1, w2, w3].take i) tx → J14 w1 w2 w3 news i m₁ news₁
set_option maxRecDepth 100000 in
set_option maxHeartbeats 8000000 in
theorem written_c (w : World) (mean : ExcName → Option Value) (mg mb : Str → Option Value) {p : Program} {loose : List Str}
    {dp un : Nat} {gd : Option (List Code)} {cn : Str} {cs : Scope} {a : Addr} {ccd : Value} {cl : List (Str × Addr)} {outer : List Env} {A₀ : Around} {base h₀ : Heap} {L : Addr} {m : Str → Option Value} {news : Led} {s : Shared} {Q E : Value → Shared → Prop}
    (B : Below A₀ base outer h₀) (F : Fr h₀ L s.heap m) (X : (Mine.hd.heap_39 w.params).In h₀) (N : News h₀ L s.heap news) (T : Top p loose mean mg mb h₀) (hk : cs.kind = .function)
    (hd : dp + 10 < recursionLimit) (hu : un + 100 < cLine)
    (x : Int) (t1 t2 t3 t4 : Tok) (nl : Addr) (ep : Nat) (w1 w2 w3 : Str) (hret : ∀ tx h' tk' t', Wr [w1, w2, w3] tx → tx.length ≤ 30 → Fr h₀ L h' m → News h₀ L h' news → Q (.str tx t') { s with heap := h', toks := tk' }) (hw1 : w1.length ≤ 6) (hw2 : w2.length ≤ 6) (hw3 : w3.length ≤ 6) (hx0 : 0 ≤ x) (hx1 : x < 2 ^ 40) (hm : (nl, ({ cls := .type "list", data := .seq #[.str w1 t2, .str w2 t3, .str w3 t4] ep } : Obj)) ∈ news) :
    wpAny (model PySem.Challenge.rw_sn0056_01.prog w) (ktrTop dp un gd cn cs L a ccd cl outer) (call (.ref 152) [.ref nl, .int x t1]) Q E s := by
  revert X; k_fill; intro X
  walk_at "my enter"
  walk_at "sx"
  (with_reducible rename Fr _ _ _ _ => kF2)
  (with_reducible rename News _ _ _ _ => kN2)
  refine (no_index (?_ : ∀ (mm : Str → Option Value) (tt td : Tok), (Fr _ _ _ mm) → (mm "words" = some (.ref nl)) → (mm "text" = some (.str (Str.ofString "") tt)) → (mm "draw" = some (.int x td)) → (News _ _ _ news) → _)) _ _ _ kF2 rfl rfl rfl kN2
  intro mm tt td kF mwords mtext mdraw kN
  clear kF2 kN2
  refine For_F kF [w1, w2, w3] (fun (z : Str) v => ∃ t, v = .str z t) (J14 w1 w2 w3 news) (fun _ => rfl) ?_
  walk_at "sx"
  (with_reducible rename Fr _ _ _ _ => kF3)
  (with_reducible rename News _ _ _ _ => kN3)
  refine for_list rfl kF3 kN3 hm (.cons ⟨_, rfl⟩ (.cons ⟨_, rfl⟩ (.cons ⟨_, rfl⟩ .nil))) ⟨rfl, x, _, td, tt, mdraw, mtext, hx0, hx1, by decide, .nil⟩ (fun i m₁ news₁ hJ => by rw [hJ.1]; exact hm) ?_ ?_
  · intro i z v m₁ news₁ I oI h tk hi hP9_18 hP9_19 F4 N4 off
    obtain ⟨tz, rfl⟩ := hP9_18
    obtain ⟨rfl, y, tx, td1, tt1, md, mt, hy0, hy1, hl, hW⟩ := hP9_19
    have hz : z.length ≤ 6 := by
      rcases i with _ | _ | _ | i
      · cases (Option.some.inj hi); exact hw1
      · cases (Option.some.inj hi); exact hw2
      · cases (Option.some.inj hi); exact hw3
      · simp at hi
    have hi3 : i < 3 := (List.getElem?_eq_some_iff.mp hi).1
    have hm3 := fdm y (y := 3) (by decide)
    have hc : Txt.item (Str.ofString " \t\n") ((y.fdiv 3).fmod 3) ∈ ([Str.ofString " ", Str.ofString "\t", Str.ofString "\n"] : List Str) := by
      rcases fm3 (y.fdiv 3) with h | h | h <;> rw [h] <;> decide +kernel
    have htk : [w1, w2, w3].take (i + 1) = [w1, w2, w3].take i ++ [z] := by rw [List.take_succ, hi]; rfl
    have hq1 : (Str.ofString "\"").length ≤ 1 := by decide +kernel
    have hq2 : (Str.ofString "\\").length ≤ 1 := by decide +kernel
    have hc1 : (Txt.item (Str.ofString " \t\n") ((y.fdiv 3).fmod 3)).length ≤ 1 := by
      rcases fm3 (y.fdiv 3) with h | h | h <;> rw [h] <;> decide +kernel
    have hx : tx.length ≤ 30 := Nat.le_trans hl (Nat.mul_le_mul_left 10 (Nat.le_of_lt hi3))
    have b0 := sb hq1 hz rfl
    have b1 := sb (sl hq1 hz) hq1 rfl
    have b2 := sb hx (sl (sl hq1 hz) hq1) rfl
    have b3 := sb (sl hx (sl (sl hq1 hz) hq1)) hc1 rfl
    have b4 := sb hq2 hz rfl
    have b5 := sb hx (sl hq2 hz) rfl
    have b6 := sb (sl hx (sl hq2 hz)) hc1 rfl
    have b7 := sb hx hz rfl
    have b8 := sb (sl hx hz) hc1 rfl
    walk_at "sx"
    all_goals
      (with_reducible rename Fr _ _ _ _ => kF9)
      (with_reducible rename News _ _ _ _ => kN9)
      refine ⟨_, _, _, _, rfl, kF9, kN9, off, rfl, y.fdiv 9, _, _, _, rfl, rfl, fd_lo hy0 (by decide), fd_lt hy0 hy1 (by decide), ?_, ?_⟩
    · exact l10 (sla (sl hl hz) hc1) rfl
    · rw [htk]; exact .plain hW hc
    · exact l10 (sla (sl hl (sl (sl hq1 hz) hq1)) hc1) rfl
    · rw [htk]; exact .quoted hW hc
    · exact l10 (sla (sl hl (sl hq2 hz)) hc1) rfl
    · rw [htk]; exact .slashed hW hc
  · intro h' tk m₁ news₁ hP9_20 F4 N4
    obtain ⟨rfl, y, tx, td1, tt1, md, mt, hy0, hy1, hl, hW⟩ := hP9_20
    walk_at "sx"
    (with_reducible rename News h₀ _ _ _ => kN9)
    exact hret tx _ _ _ hW hl (by k_asm) kN9
end
section
open PySem PySem.Spec PySem.Calls PySem.W PyProof.Rows PyProof.Rows.LCg
noncomputable def dB (x : Int) : Nat := ((x.fdiv 27).fmod 2).toNat
noncomputable def dJ (k : Nat) : Nat := ((k : Int).fmod 3).toNat
noncomputable def dL (x : Int) : Str := lettersOf (((x.fdiv 54).fdiv ((1 : Nat) : Int)).fmod 2).toNat (((x.fdiv 54).fdiv ((2 : Nat) : Int)).fmod 2).toNat (((x.fdiv 54).fdiv ((4 : Nat) : Int)).fmod 2).toNat
noncomputable def dTitle (x : Int) (k : Nat) : Str := leadOf (dJ k) ++ bareOf (dB x) ++ Str.ofString ": " ++ dL x
noncomputable def dayObj (x : Int) (k : Nat) (P : Addr) (u : Nat → Tok) : Obj := { cls := .type "tuple", data := .seq #[.ref P, .str (bareOf (dB x)) (u 1), .str (dL x) (u 2), .str (dTitle x k) (u 3)] 0 }
noncomputable def paintObj (x : Int) (u : Nat → Tok) : Obj := { cls := .type "list", data := .seq #[.int (x.fmod 3) (u 4), .int ((x.fdiv 3).fmod 3) (u 5), .int ((x.fdiv 9).fmod 3) (u 6)] 0 }
noncomputable def RDay (X : Nat → Int) (d : Nat) (y : Value) (tl : Led) : Prop := ∃ (D P : Addr) (u : Nat → Tok), y = .ref D ∧ tl = [(D, dayObj (X d) d P u), (P, paintObj (X d) u)]

theorem allV_of {V : Nat → Value → Prop} : ∀ {n : Nat} {ys : List Value}, ys.length = n → (∀ d, d < n → ∃ y, ys[d]? = some y ∧ V d y) → AllV V (List.range n) ys
  | 0, ys, hl, _ => by
    have : ys = [] := List.eq_nil_of_length_eq_zero hl
    subst this; exact .nil
  | n + 1, ys, hl, h => by
    obtain ⟨y, hy, hV⟩ := h n (Nat.lt_succ_self n)
    have e : ys = ys.take n ++ [y] := by
      have h1 := List.take_append_drop n ys
      have h2 : ys.drop n = [y] := by
        have hlt : n < ys.length := by omega
        rw [List.drop_eq_getElem_cons hlt]
        have h3 : ys.drop (n + 1) = [] := List.drop_eq_nil_of_le (by omega)
        rw [h3]
        rw [List.getElem?_eq_getElem hlt] at hy
        rw [Option.some.inj hy]
      rw [← h2]; exact h1.symm
    rw [e, List.range_succ]
    refine (allV_of (by simp; omega) fun d hd => ?_).snoc hV
    obtain ⟨z, hz, hVz⟩ := h d (by omega)
    exact ⟨z, by rw [List.getElem?_take_of_lt hd]; exact hz, hVz⟩

theorem days_of {X : Nat → Int} {ys : List Value} {TL : Led} (g : Got (RDay X) (List.range 6) ys TL) :
    ∃ (D P : Nat → Addr) (u : Nat → Nat → Tok), AllV (fun (d : Nat) v => v = .ref (D d)) (List.range 6) ys ∧ ∀ d, d < 6 → (D d, dayObj (X d) d (P d) (u d)) ∈ TL ∧ (P d, paintObj (X d) (u d)) ∈ TL := by
  have h : ∀ d, ∃ t : Addr × Addr × (Nat → Tok), d < 6 → ys[d]? = some (.ref t.1) ∧ (t.1, dayObj (X d) d t.2.1 t.2.2) ∈ TL ∧ (t.2.1, paintObj (X d) t.2.2) ∈ TL := by
    intro d
    by_cases hd : d < 6
    · obtain ⟨y, tl, h1, ⟨D, P, u, rfl, rfl⟩, h3⟩ := g.get d d (List.getElem?_range hd)
      exact ⟨(D, P, u), fun _ => ⟨h1, h3 _ (.head _), h3 _ (.tail _ (.head _))⟩⟩
    · exact ⟨(0, 0, fun _ => 0), fun h => absurd h hd⟩
  obtain ⟨f, hf⟩ := Classical.axiomOfChoice h
  refine ⟨fun d => (f d).1, fun d => (f d).2.1, fun d => (f d).2.2, allV_of (by have := g.length; simpa using this) fun d hd => ⟨_, (hf d hd).1, rfl⟩, fun d hd => (hf d hd).2⟩
end
section
open PySem PySem.Spec PySem.Calls PySem.W PyProof.Rows PyProof.Rows.LCg
noncomputable def slc (x : Str) (i : Nat) : Str := Txt.slice x (some (i : Int)) (some ((i : Int) + 1))
noncomputable abbrev lexEs (w : World) (k1 k2 k3 k4 tl tw : Tok) (ln : Int) (f2 PB : Addr) : List DictEntry :=
  [⟨PyData.keyHash w.params (Str.ofString "lineno"), .str (Str.ofString "lineno") k1, .int ln tl⟩, ⟨PyData.keyHash w.params (Str.ofString "instream"), .str (Str.ofString "instream") k2, .ref f2⟩,
   ⟨PyData.keyHash w.params (Str.ofString "whitespace"), .str (Str.ofString "whitespace") k3, .str (Str.ofString "\n\t\r ") tw⟩, ⟨PyData.keyHash w.params (Str.ofString "pushback"), .str (Str.ofString "pushback") k4, .ref PB⟩]
theorem fn_read : typeLookup (.type "function") (Str.ofString "read") = pure none := by rw [typeLookup_type, builtinLookup_eq_fast]; kernel_rfl
/-- what the read-on function does -/
noncomputable def ReadOn (w : World) (p : Program) (loose : List Str) (mean : ExcName → Option Value) (mg mb : Str → Option Value) (base : Heap) (f1 AT : Addr) (own : Led) (x : Str) : Prop :=
  ∀ {dp un : Nat} {gd : Option (List Code)} {cn : Str} {cs : Scope} {a : Addr} {ccd : Value} {cl : List (Str × Addr)} {outer : List Env} {A₀ : Around} {h₀ : Heap} {L : Addr} {m : Str → Option Value} {rest : Led} {s : Shared} {Q E : Value → Shared → Prop}
    (i ep : Nat) (ti t : Tok), i ≤ x.length →
    Below A₀ base outer h₀ → Fr h₀ L s.heap m → (Mine.hd.heap_39 w.params).In h₀ → Top p loose mean mg mb h₀ → cs.kind = .function → dp + 2 < recursionLimit → un + 40 < cLine →
    News h₀ L s.heap ((AT, PySem.W.listOf #[.int i ti] ep) :: rest) → (∀ q ∈ rest, q.1 ≠ AT) → (∀ q ∈ own, q ∈ rest) →
    (∀ h' tk' ep' t' t'', Fr h₀ L h' m → News h₀ L h' ((AT, PySem.W.listOf #[.int (i + (slc x i).length : Nat) t'] ep') :: rest) → Q (.str (slc x i) t'') { s with heap := h', toks := tk' }) →
    wpAny (model PySem.Challenge.rw_sn0056_01.prog w) (ktrTop dp un gd cn cs L a ccd cl outer) (call (.ref f1) [.int 1 t]) Q E s
set_option maxRecDepth 100000 in
set_option maxHeartbeats 8000000 in
theorem readch_c (w : World) (mean : ExcName → Option Value) (mg mb : Str → Option Value) {p : Program} {loose : List Str}
    {dp un : Nat} {gd : Option (List Code)} {cn : Str} {cs : Scope} {a : Addr} {ccd : Value} {cl : List (Str × Addr)} {outer : List Env} {A₀ : Around} {base h₀ : Heap} {L : Addr} {m : Str → Option Value} {rest own : Led} {s : Shared} {R : Result → Shared → Prop}
    (B : Below A₀ base outer h₀) (F : Fr h₀ L s.heap m) (X : (Mine.hd.heap_39 w.params).In h₀) (T : Top p loose mean mg mb h₀) (hk : cs.kind = .function)
    (hd : dp + 20 < recursionLimit) (hu : un + 100 < cLine)
    (x : Str) (f1 f2 d AT I dx PB : Addr) (od : Obj) (fd2 : FuncData) (sl : Array (Option Value)) (m' : Str → Option Value) (i ep nn : Nat) (ti k1 k2 k3 k4 tl tw : Tok) (ln : Int) (hi : i ≤ x.length)
    (RO : ReadOn w p loose mean mg mb base f1 AT own x) (ho : ∀ q ∈ own, q ∈ rest)
    (N : News h₀ L s.heap ((AT, PySem.W.listOf #[.int i ti] ep) :: (dx, dictOf (lexEs w k1 k2 k3 k4 tl tw ln f2 PB) nn) :: rest)) (hI : (I, instObj 122 dx) ∈ rest) (hf2 : (f2, ⟨.type "function", some d, .func fd2, sl⟩) ∈ rest) (oc1 : Value) (od1 : Option Addr) (fd1 : FuncData) (sl1 : Array (Option Value)) (hf1 : (f1, (⟨oc1, od1, .func fd1, sl1⟩ : Obj)) ∈ rest) (hod : (d, od) ∈ rest) (hnod : NsObj od m') (hm' : m' (Str.ofString "read") = some (.ref f1))
    (ap1 : ∀ q ∈ rest, q.1 ≠ AT) (ap2 : ∀ q ∈ rest, q.1 ≠ dx) (ap3 : dx ≠ AT)
    (hret : ∀ h' tk' ep' nn' ln' tl' t' t'', Fr h₀ L h' m → News h₀ L h' ((AT, PySem.W.listOf #[.int (i + (slc x i).length : Nat) t'] ep') :: (dx, dictOf (lexEs w k1 k2 k3 k4 tl' tw ln' f2 PB) nn') :: rest) → R (.ok (.ret (.str (slc x i) t''))) { s with heap := h', toks := tk' }) :
    codeAny (model PySem.Challenge.rw_sn0056_01.prog w) (ktrTop dp un gd cn cs L a ccd cl outer) (.call (.ref 105) ⟨[.ref I], []⟩) R s := by
  have ap4 : AT ≠ dx := Ne.symm ap3
  revert X; k_fill; intro X
  k_dflt cell_enter
  walk_at "!wpAny:6 _ _ PySem.getMethod:3 Value.ref:1 _ _ _ _ _ _"
  (with_reducible rename News _ _ _ _ => kN)
  refine fn_meth (kN _ (.tail _ (.tail _ hf2))).1 (kN _ (.tail _ (.tail _ hod))).1 hnod hm' fn_read rfl ?_
  dsimp only
  refine callWith_F (FnAt.of (by k_asm) (.tail _ (.tail _ hf1))) ?_
  walk_at "sx"
  (with_reducible rename Fr _ _ _ _ => kF1)
  (with_reducible rename News _ _ _ _ => kN1)
  (with_reducible rename Below _ _ _ _ => kB1)
  (with_reducible rename Top _ _ _ _ _ _ => kT1)
  unfold ReadOn at RO
  refine' RO (rest := (dx, dictOf (lexEs w k1 k2 k3 k4 tl tw ln f2 PB) nn) :: rest) i ep ti _ hi ?b ?f ?x ?t ?k ?d ?u ?n ?o1 ?o2 ?_
  case b => exact kB1
  case f => exact kF1
  case x => k_asm
  case t => exact kT1
  case k => exact rfl
  case d => k_room
  case u => k_room
  case n => exact kN1
  case o1 =>
    intro q hq
    rcases List.mem_cons.mp hq with rfl | hq
    · exact ap3
    · exact ap1 q hq
  case o2 => exact fun q hq => .tail _ (ho q hq)
  intro h2 tk2 ep2 t2 t3 F2 N2
  walk_at "sx"
  · refine' set_dict ?k1 ?k2 ?k3 ?k4 ?k5 ?k6 ?k7 ?k8 ?k9 ?k10 ?k11 ?k12 ?k13 ?_
    case k1 => k_asm
    case k2 => k_asm
    case k3 => k_asm
    case k4 => k_inst
    case k5 => rfl
    case k6 => k_is
    case k7 => k_is
    case k8 => k_is
    case k9 => k_is
    case k10 => k_get
    case k11 => exact rfl
    case k12 => k_upd
    case k13 => exact Nat.le_of_ble_eq_true rfl
    intro h4 F4 N4
    walk_at "sx"
    (with_reducible rename News h₀ _ _ _ => kN9)
    exact hret _ _ _ _ _ _ _ _ (by k_asm) kN9
  · (with_reducible rename News h₀ _ _ _ => kN9)
    exact hret _ _ _ _ _ _ _ _ (by k_asm) kN9
end
section
open PySem PySem.Spec PySem.Calls PySem.W PyProof.Rows PyProof.Rows.LCg
set_option maxRecDepth 100000 in
set_option maxHeartbeats 8000000 in
theorem next_c (w : World) (mean : ExcName → Option Value) (mg mb : Str → Option Value) {p : Program} {loose : List Str}
    {dp un : Nat} {gd : Option (List Code)} {cn : Str} {cs : Scope} {a : Addr} {ccd : Value} {cl : List (Str × Addr)} {outer : List Env} {A₀ : Around} {base h₀ : Heap} {L : Addr} {m : Str → Option Value} {rest own : Led} {s : Shared} {Q : Option Value → Shared → Prop} {E : Value → Shared → Prop}
    (B : Below A₀ base outer h₀) (F : Fr h₀ L s.heap m) (X : (Mine.hd.heap_39 w.params).In h₀) (T : Top p loose mean mg mb h₀) (hk : cs.kind = .function)
    (hd : dp + 20 < recursionLimit) (hu : un + 101 < cLine)
    (x : Str) (f1 f2 d AT I dx PB IT b : Addr) (od : Obj) (fd2 : FuncData) (sl : Array (Option Value)) (m' : Str → Option Value) (i ep nn : Nat) (ti k1 k2 k3 k4 tl tw tz : Tok) (ln : Int) (hi : i ≤ x.length)
    (RO : ReadOn w p loose mean mg mb base f1 AT own x) (ho : ∀ q ∈ own, q ∈ rest)
    (N : News h₀ L s.heap ((AT, PySem.W.listOf #[.int i ti] ep) :: (dx, dictOf (lexEs w k1 k2 k3 k4 tl tw ln f2 PB) nn) :: (IT, citObj b tz) :: rest)) (hb : (b, methodObj (.ref 105) (.ref I)) ∈ rest) (hI : (I, instObj 122 dx) ∈ rest) (hf2 : (f2, ⟨.type "function", some d, .func fd2, sl⟩) ∈ rest) (oc1 : Value) (od1 : Option Addr) (fd1 : FuncData) (sl1 : Array (Option Value)) (hf1 : (f1, (⟨oc1, od1, .func fd1, sl1⟩ : Obj)) ∈ rest) (hod : (d, od) ∈ rest) (hnod : NsObj od m') (hm' : m' (Str.ofString "read") = some (.ref f1))
    (ap1 : ∀ q ∈ rest, q.1 ≠ AT) (ap2 : ∀ q ∈ rest, q.1 ≠ dx) (ap3 : dx ≠ AT) (ap5 : ∀ q ∈ rest, q.1 ≠ IT) (ap6 : IT ≠ AT) (ap7 : IT ≠ dx)
    (hret1 : slc x i ≠ Str.ofString "" → ∀ h' tk' ep' nn' ln' tl' t' t'', Fr h₀ L h' m → News h₀ L h' ((AT, PySem.W.listOf #[.int (i + (slc x i).length : Nat) t'] ep') :: (dx, dictOf (lexEs w k1 k2 k3 k4 tl' tw ln' f2 PB) nn') :: (IT, citObj b tz) :: rest) → Q (some (.str (slc x i) t'')) { s with heap := h', toks := tk' })
    (hret2 : slc x i = Str.ofString "" → ∀ h' tk' ep' nn' ln' tl' t', Fr h₀ L h' m → News h₀ L h' ((AT, PySem.W.listOf #[.int (i + (slc x i).length : Nat) t'] ep') :: (dx, dictOf (lexEs w k1 k2 k3 k4 tl' tw ln' f2 PB) nn') :: rest) → Q none { s with heap := h', toks := tk' }) :
    wpAny (model PySem.Challenge.rw_sn0056_01.prog w) (ktrTop dp un gd cn cs L a ccd cl outer) (pyNext (.ref IT)) Q E s := by
  have hbN := (N _ (.tail _ (.tail _ (.tail _ hb)))).1
  have hIN := N _ (.tail _ (.tail _ (.head _)))
  refine (no_index (?_ : ∀ o5 fd5, ((Mine.hd.heap_39 w.params).lookup 105 = some o5) → (o5.data = .func fd5) → _)) _ _ rfl rfl
  intro o5 fd5 e5 d5
  have h5 : h₀.get? 105 = some o5 := X _ _ e5
  refine ci_pyNext rfl hIN.1 hbN (F.keep _ _ h5) d5 (method_call hbN ?_)
  refine' readch_c w mean mg mb (dp := dp) (un := un + 1) (gd := gd) (cn := cn) (cs := cs) (a := a) (ccd := ccd) (cl := cl) (outer := outer) (rest := (IT, citObj b tz) :: rest) (own := own) B F X T hk hd ?u x f1 f2 d AT I dx PB od fd2 sl m' i ep nn ti k1 k2 k3 k4 tl tw ln hi RO ?o N (.tail _ hI) (.tail _ hf2) oc1 od1 fd1 sl1 (.tail _ hf1) (.tail _ hod) hnod hm' ?a1 ?a2 ap3 ?_
  case u => omega
  case o => exact fun q hq => .tail _ (ho q hq)
  case a1 =>
    intro q hq
    rcases List.mem_cons.mp hq with rfl | hq
    · exact ap6
    · exact ap1 q hq
  case a2 =>
    intro q hq
    rcases List.mem_cons.mp hq with rfl | hq
    · exact ap7
    · exact ap2 q hq
  intro h' tk' ep' nn' ln' tl' t' t'' F' N'
  refine ⟨_, _, rfl, (N' _ (.tail _ (.tail _ (.head _)))).1, (N' _ (.tail _ (.tail _ (.tail _ hb)))).1, F'.keep _ _ h5, fun hne => hret1 hne h' tk' ep' nn' ln' tl' t' t'' F' N', fun he h2 tk2 hk2 => hret2 he h2 tk2 ep' nn' ln' tl' t' (Fr.but1 F' hk2 (Ne.symm hIN.2.1) hIN.2.2) (News.but1 (News.sub N' (fun q hq => ?_)) hk2 fun q hq => ?_)⟩
  · rcases List.mem_cons.mp hq with rfl | hq
    · exact .head _
    · rcases List.mem_cons.mp hq with rfl | hq
      · exact .tail _ (.head _)
      · exact .tail _ (.tail _ (.tail _ hq))
  · rcases List.mem_cons.mp hq with rfl | hq
    · exact Ne.symm ap6
    · rcases List.mem_cons.mp hq with rfl | hq
      · exact Ne.symm ap7
      · exact ap5 q hq
end
section
open PySem PySem.Spec PySem.Calls PySem.W PyProof.Rows PyProof.Rows.LCg
noncomputable def IsWs (c : Str) : Prop := (Builtin.Str.occurrences (Str.ofString "\n\t\r ") c 0 (Str.ofString "\n\t\r ").length 1).isEmpty = false
structure IsLet (c : Str) : Prop where
  ws : (Builtin.Str.occurrences (Str.ofString "\n\t\r ") c 0 (Str.ofString "\n\t\r ").length 1).isEmpty = true
  q : c ≠ Str.ofString "\""
  b : c ≠ Str.ofString "\\"
noncomputable def tokOf (c : Nat → Str) : Nat → Str
  | 0 => Str.ofString ""
  | j + 1 => tokOf c j ++ c j
/-- how a word stands in the text from st on, and where the reading stops -/
inductive Form (x : Str) (st n : Nat) (c : Nat → Str) : Nat → Prop
  | none : st = x.length → n = 0 → Form x st n c st
  | plain : 0 < n → (∀ j, j < n → slc x (st + j) = c j) → IsWs (slc x (st + n)) → st + n < x.length → Form x st n c (st + n + 1)
  | slashed : 0 < n → slc x st = Str.ofString "\\" → (∀ j, j < n → slc x (st + 1 + j) = c j) → IsWs (slc x (st + 1 + n)) → st + 1 + n < x.length → Form x st n c (st + 1 + n + 1)
  | quoted : slc x st = Str.ofString "\"" → (∀ j, j < n → slc x (st + 1 + j) = c j) → slc x (st + 1 + n) = Str.ofString "\"" → st + 1 + n < x.length → Form x st n c (st + 1 + n + 1)
inductive J18a (i st : Nat) (w : World) (I IT AT dx b f2 PB : Addr) (k1 k2 k3 k4 tw tz : Tok) (rest : Led) (k : Nat) (m₁ : Str → Option Value) (news₁ : Led) : Prop
  | mk : m₁ "self" = some (.ref I) → (∃ tt, m₁ "token" = some (.str (Str.ofString "") tt)) → m₁ "fiter" = some (.ref IT) → ∀ (i' ep nn : Nat) (ti tl : Tok) (ln : Int), k = 200 - i' → i ≤ i' → i' ≤ st → news₁ = (AT, PySem.W.listOf #[.int i' ti] ep) :: (dx, dictOf (lexEs w k1 k2 k3 k4 tl tw ln f2 PB) nn) :: (IT, citObj b tz) :: (b, methodObj (.ref 105) (.ref I)) :: rest → J18a i st w I IT AT dx b f2 PB k1 k2 k3 k4 tw tz rest k m₁ news₁
inductive J18b (c : Nat → Str) (n off lo : Nat) (w : World) (I IT AT dx b f2 PB : Addr) (k1 k2 k3 k4 tw tz : Tok) (rest : Led) (k : Nat) (m₁ : Str → Option Value) (news₁ : Led) : Prop
  | mk : m₁ "self" = some (.ref I) → m₁ "fiter" = some (.ref IT) → ∀ (j ep nn : Nat) (ti tl tt : Tok) (ln : Int), k = 200 - j → lo ≤ j → j ≤ n → (tokOf c j).length ≤ j → m₁ "token" = some (.str (tokOf c j) tt) → news₁ = (AT, PySem.W.listOf #[.int (off + j : Nat) ti] ep) :: (dx, dictOf (lexEs w k1 k2 k3 k4 tl tw ln f2 PB) nn) :: (IT, citObj b tz) :: (b, methodObj (.ref 105) (.ref I)) :: rest → J18b c n off lo w I IT AT dx b f2 PB k1 k2 k3 k4 tw tz rest k m₁ news₁
set_option maxRecDepth 100000 in
set_option maxHeartbeats 8000000 in
theorem lex_c (w : World) (mean : ExcName → Option Value) (mg mb : Str → Option Value) {p : Program} {loose : List Str}
    {dp un : Nat} {gd : Option (List Code)} {cn : Str} {cs : Scope} {a : Addr} {ccd : Value} {cl : List (Str × Addr)} {outer : List Env} {A₀ : Around} {base h₀ : Heap} {L : Addr} {m : Str → Option Value} {rest own : Led} {s : Shared} {Q E : Value → Shared → Prop}
    (B : Below A₀ base outer h₀) (F : Fr h₀ L s.heap m) (X : (Mine.hd.heap_39 w.params).In h₀) (T : Top p loose mean mg mb h₀) (hk : cs.kind = .function)
    (hd : dp + 40 < recursionLimit) (hu : un + 200 < cLine)
    (x : Str) (f1 f2 d AT I dx PB : Addr) (od : Obj) (fd2 : FuncData) (sl : Array (Option Value)) (m' : Str → Option Value) (i ep nn npb : Nat) (ti k1 k2 k3 k4 tl tw : Tok) (ln : Int)
    (RO : ReadOn w p loose mean mg mb base f1 AT own x) (ho : ∀ q ∈ own, q ∈ rest)
    (N : News h₀ L s.heap ((AT, PySem.W.listOf #[.int i ti] ep) :: (dx, dictOf (lexEs w k1 k2 k3 k4 tl tw ln f2 PB) nn) :: rest)) (hI : (I, instObj 122 dx) ∈ rest) (hpb : (PB, ({ cls := .type "list", data := .seq #[] npb } : Obj)) ∈ rest) (hf2 : (f2, ⟨.type "function", some d, .func fd2, sl⟩) ∈ rest) (oc1 : Value) (od1 : Option Addr) (fd1 : FuncData) (sl1 : Array (Option Value)) (hf1 : (f1, (⟨oc1, od1, .func fd1, sl1⟩ : Obj)) ∈ rest) (hod : (d, od) ∈ rest) (hnod : NsObj od m') (hm' : m' (Str.ofString "read") = some (.ref f1))
    (ap1 : ∀ q ∈ rest, q.1 ≠ AT) (ap2 : ∀ q ∈ rest, q.1 ≠ dx) (ap3 : dx ≠ AT) (hlen : x.length ≤ 100) (hsl : ∀ j, j < x.length → (slc x j).length = 1) (hsl0 : slc x x.length = Str.ofString "")
    (st n e : Nat) (c : Nat → Str) (hist : i ≤ st) (hws : ∀ j, i ≤ j → j < st → IsWs (slc x j)) (hstl : st ≤ x.length) (hform : Form x st n c e) (hc : ∀ j, j < n → IsLet (c j))
    (hret : ∀ h' tk' ep' nn' ln' tl' t' t'', Fr h₀ L h' m → News h₀ L h' ((AT, PySem.W.listOf #[.int (e : Nat) t'] ep') :: (dx, dictOf (lexEs w k1 k2 k3 k4 tl' tw ln' f2 PB) nn') :: rest) → Q (.str (tokOf c n) t'') { s with heap := h', toks := tk' }) :
    wpAny (model PySem.Challenge.rw_sn0056_01.prog w) (ktrTop dp un gd cn cs L a ccd cl outer) (call (.ref 112) [.ref I]) Q E s := by
  have ap4 : AT ≠ dx := Ne.symm ap3
  have hne : ∀ j, j < x.length → slc x j ≠ Str.ofString "" := fun j hj h => by have := hsl j hj; rw [h] at this; exact absurd this (by decide)
  revert X; k_fill; intro X
  walk_at "my enter"
  walk_at "!wpAny:6 _ _ truthy:1 Value.ref:1 _ _ _ _"
  (with_reducible rename News _ _ _ _ => kN)
  refine truthy_M kN (.tail _ (.tail _ hpb)) (by decide) (fun _ tk0 => ?_) (fun h => absurd rfl h)
  walk_at "sx"
  (with_reducible rename News _ _ _ _ => kN2)
  (with_reducible rename Fr _ _ _ _ => kF2)
  (with_reducible rename Below _ _ _ _ => kB2)
  (with_reducible rename Top _ _ _ _ _ _ => kT2)
  (with_reducible rename ∀ (q : Addr × Obj), q ∈ _ → q.1 < _ => hl1)
  (with_reducible rename _ ∧ _ ∧ AllLt _ rest => hl2)
  refine (no_index (?_ : ∀ (mm : Str → Option Value) (IT b : Addr) (tz tt : Tok), Fr _ _ _ mm → mm "self" = some (.ref I) → mm "token" = some (.str (Str.ofString "") tt) → mm "fiter" = some (.ref IT) → News _ _ _ ((AT, PySem.W.listOf #[.int i ti] ep) :: (dx, dictOf (lexEs w k1 k2 k3 k4 tl tw ln f2 PB) nn) :: (IT, citObj b tz) :: (b, methodObj (.ref 105) (.ref I)) :: rest) → (∀ q ∈ (b, methodObj (.ref 105) (.ref I)) :: (AT, PySem.W.listOf #[.int i ti] ep) :: (dx, dictOf (lexEs w k1 k2 k3 k4 tl tw ln f2 PB) nn) :: rest, q.1 < IT) → (@LT.lt Nat _ AT b ∧ @LT.lt Nat _ dx b ∧ AllLt b rest) → True → _)) _ _ _ _ _ kF2 rfl rfl rfl (News.sub kN2 (fun q hq => by
        rcases List.mem_cons.mp hq with rfl | hq
        · exact .tail _ (.tail _ (.head _))
        rcases List.mem_cons.mp hq with rfl | hq
        · exact .tail _ (.tail _ (.tail _ (.head _)))
        rcases List.mem_cons.mp hq with rfl | hq
        · exact .head _
        rcases List.mem_cons.mp hq with rfl | hq
        · exact .tail _ (.head _)
        · exact .tail _ (.tail _ (.tail _ (.tail _ hq))))) hl1 hl2 trivial
  intro mm IT b tz tt kF mself mtok mfit kN apI apb apbI
  clear kF2 kN2
  have a1 : ∀ q ∈ (b, methodObj (.ref 105) (.ref I)) :: rest, q.1 ≠ AT := fun q hq => by
    rcases List.mem_cons.mp hq with rfl | hq
    · exact Nat.ne_of_gt apb.1
    · exact ap1 q hq
  have a2 : ∀ q ∈ (b, methodObj (.ref 105) (.ref I)) :: rest, q.1 ≠ dx := fun q hq => by
    rcases List.mem_cons.mp hq with rfl | hq
    · exact Nat.ne_of_gt apb.2.1
    · exact ap2 q hq
  have a5 : ∀ q ∈ (b, methodObj (.ref 105) (.ref I)) :: rest, q.1 ≠ IT := fun q hq => by
    rcases List.mem_cons.mp hq with rfl | hq
    · exact Nat.ne_of_lt (apI _ (.head _))
    · exact Nat.ne_of_lt (apI q (.tail _ (.tail _ (.tail _ hq))))
  have a6 : IT ≠ AT := Nat.ne_of_gt (apI _ (.tail _ (.head _)))
  have a7 : IT ≠ dx := Nat.ne_of_gt (apI _ (.tail _ (.tail _ (.head _))))
  refine For_G kF IT (J18a i st w I IT AT dx b f2 PB k1 k2 k3 k4 tw tz rest) ?_ ?_ (fun _ => rfl)
  · walk_at "sx"
    refine ci_pyIter (kN _ (.tail _ (.tail _ (.head _)))).1 ?_
    exact ⟨_, _, 200 - i, mm, _, rfl, rfl, ⟨mself, ⟨_, mtok⟩, mfit, i, ep, nn, ti, tl, ln, rfl, Nat.le_refl _, hist, rfl⟩, kF, kN⟩
  intro k m₁ news₁ h1 tk1 hP9_23 F1 N1
  obtain ⟨ms1, ⟨tt1, mt1⟩, mf1, i', ep1, nn1, ti1, tl1, ln1, rfl, hi1, hi2, rfl⟩ := hP9_23
  refine' next_c w mean mg mb (rest := (b, methodObj (.ref 105) (.ref I)) :: rest) (own := own) kB2 F1 ?xx kT2 rfl ?dd ?uu x f1 f2 d AT I dx PB IT b od fd2 sl m' i' ep1 nn1 ti1 k1 k2 k3 k4 tl1 tw tz ln1 ?hh RO ?oo N1 (.head _) (.tail _ hI) (.tail _ hf2) oc1 od1 fd1 sl1 (.tail _ hf1) (.tail _ hod) hnod hm' a1 a2 ap3 a5 a6 a7 ?_ ?_
  case xx => k_asm
  case dd => k_room
  case uu => k_room
  case hh => omega
  case oo => exact fun q hq => .tail _ (ho q hq)
  · intro hn1 h2 tk2 ep2 nn2 ln2 tl2 t2 t3 F2 N2
    have hil : i' < x.length := by
      rcases Nat.lt_or_ge i' x.length with h | h
      · exact h
      · have : i' = x.length := by omega
        rw [this] at hn1; exact absurd hsl0 hn1
    have hl1' := hsl i' hil
    by_cases hlt : i' < st
    · have hw : (Builtin.Str.occurrences (Str.ofString "\n\t\r ") (slc x i') 0 (Str.ofString "\n\t\r ").length 1).isEmpty = false := hws i' hi1 hlt
      generalize hch : slc x i' = ch at hw hl1' N2
      walk_at "sx"
      (with_reducible rename Fr _ _ _ _ => kF9)
      (with_reducible rename News _ _ _ ((AT, _) :: _) => kN9)
      rw [hl1'] at kN9
      exact ⟨_, _, 200 - (i' + 1), _, _, rfl, s2a hil (by assumption), kF9, kN9, ms1, ⟨_, mt1⟩, mf1, i' + 1, _, _, _, _, _, rfl, by omega, by omega, rfl⟩
    · obtain rfl : i' = st := by omega
      cases hform with
      | none h _ => exact absurd hil (by omega)
      | plain hn0 hcs hwe hel =>
        have hch := hcs 0 hn0
        rw [Nat.add_zero] at hch
        have hL := hc 0 hn0
        have q1 := hL.ws
        have q2 : (c 0 == Str.ofString "\"") = false := by simpa using hL.q
        have q3 : (c 0 == Str.ofString "\\") = false := by simpa using hL.b
        rw [hch] at N2 hl1' ⊢
        have ht1 : tokOf c 1 = Str.ofString "" ++ c 0 := rfl
        generalize hc0 : c 0 = ch at hch q1 q2 q3 N2 hl1' hL ht1
        walk_at "sx"
        have htl0 : (tokOf c 1).length ≤ 1 := by rw [ht1]; have : (Str.ofString "").length = 0 := by decide
                                                 omega
        (with_reducible rename Fr _ _ _ _ => kF7)
        (with_reducible rename News _ _ _ ((AT, _) :: _) => kN7)
        refine (no_index (?_ : ∀ (mm7 : Str → Option Value) (epA nnA : Nat) (tiA tlA : Tok) (lnA : Int) (ttA : Tok), (Fr _ _ _ mm7) → (mm7 "self" = some (.ref I)) → (mm7 "token" = some (.str (tokOf c 1) ttA)) → (mm7 "fiter" = some (.ref IT)) → (News _ _ _ ((AT, PySem.W.listOf #[.int (i' + 1 : Nat) tiA] epA) :: (dx, dictOf (lexEs w k1 k2 k3 k4 tlA tw lnA f2 PB) nnA) :: (IT, citObj b tz) :: (b, methodObj (.ref 105) (.ref I)) :: rest)) → _)) _ _ _ _ _ _ _ kF7 ms1 (by rw [ht1]; exact rfl) mf1 (by rw [hl1'] at kN7; exact kN7)
        intro mm7 epA nnA tiA tlA lnA ttA kF8 mself7 mtok7 mfit7 kN8
        clear kF7 kN7
        refine For_G kF8 IT (J18b c n i' 1 w I IT AT dx b f2 PB k1 k2 k3 k4 tw tz rest) ?_ ?_ (fun _ => rfl)
        · walk_at "sx"
          refine ci_pyIter (kN8 _ (.tail _ (.tail _ (.head _)))).1 ?_
          exact ⟨_, _, 200 - 1, mm7, _, rfl, rfl, ⟨mself7, mfit7, 1, epA, nnA, tiA, tlA, ttA, lnA, rfl, Nat.le_refl _, by omega, htl0, mtok7, rfl⟩, kF8, kN8⟩
        intro k m₂ news₂ h5 tk5 hP9_24 F5 N5
        obtain ⟨ms5, mf5, j, ep5, nn5, ti5, tl5, tt5, ln5, rfl, hj0, hj1, htl, mt5, rfl⟩ := hP9_24
        refine' next_c w mean mg mb (rest := (b, methodObj (.ref 105) (.ref I)) :: rest) (own := own) kB2 F5 ?xx kT2 rfl ?dd ?uu x f1 f2 d AT I dx PB IT b od fd2 sl m' (i' + j) ep5 nn5 ti5 k1 k2 k3 k4 tl5 tw tz ln5 ?hh RO ?oo N5 (.head _) (.tail _ hI) (.tail _ hf2) oc1 od1 fd1 sl1 (.tail _ hf1) (.tail _ hod) hnod hm' a1 a2 ap3 a5 a6 a7 ?_ ?_
        case xx => k_asm
        case dd => k_room
        case uu => k_room
        case hh => omega
        case oo => exact fun q hq => .tail _ (ho q hq)
        rotate_left
        · intro he5
          exact absurd he5 (hne _ (by omega))
        intro hn5 h6 tk6 ep6 nn6 ln6 tl6 t6 t7 F6 N6
        have hl6 := hsl (i' + j) (by omega)
        by_cases hjn : j < n
        · have hL := hc j hjn
          have hch6 := hcs j hjn
          rw [hch6] at hl6 N6 ⊢
          have q1 := hL.ws
          have q2 : (c j == Str.ofString "\"") = false := by simpa using hL.q
          have q3 : (c j == Str.ofString "\\") = false := by simpa using hL.b
          have htk : tokOf c (j + 1) = tokOf c j ++ c j := rfl
          generalize hcj : c j = ch6 at q1 q2 q3 N6 hl6 htk
          generalize htj : tokOf c j = tkj at mt5 htl htk
          have b16 := l16 hl6 htl (jn hjn (by assumption)) (by assumption)
          walk_at "sx"
          (with_reducible rename Fr _ _ _ _ => kF9)
          (with_reducible rename News _ _ _ ((AT, _) :: _) => kN9)
          rw [hl6] at kN9
          exact ⟨_, _, 200 - (j + 1), _, _, rfl, s2a (jn hjn (by assumption)) (by assumption), kF9, kN9, ms5, mf5, j + 1, _, _, _, _, _, _, rfl, by omega, by omega, by rw [htk]; omega, by rw [htk]; exact rfl, rfl⟩
        · have hjn' : j = n := by omega
          subst hjn'
          have q1 : (Builtin.Str.occurrences (Str.ofString "\n\t\r ") (slc x (i' + j)) 0 (Str.ofString "\n\t\r ").length 1).isEmpty = false := hwe
          generalize hch6 : slc x (i' + j) = ch6 at q1 N6 hl6
          walk_at "sx"
          (with_reducible rename News h₀ _ _ _ => kN9)
          rw [hl6] at kN9
          exact hret _ _ _ _ _ _ _ _ (by k_asm) (News.sub kN9 fun q hq => by
            rcases List.mem_cons.mp hq with rfl | hq
            · exact .head _
            rcases List.mem_cons.mp hq with rfl | hq
            · exact .tail _ (.head _)
            · exact .tail _ (.tail _ (.tail _ (.tail _ hq))))
      | slashed hn0 hq hcs hwe hel =>
        rw [hq] at N2 hl1' ⊢
        have w1 : (Builtin.Str.occurrences (Str.ofString "\n\t\r ") (Str.ofString "\\") 0 (Str.ofString "\n\t\r ").length 1).isEmpty = true := by decide +kernel
        walk_at "sx"
        rotate_left
        · exact absurd (by assumption : (Builtin.Str.occurrences (Str.ofString "\n\t\r ") (Str.ofString "\\") 0 (Str.ofString "\n\t\r ").length 1).isEmpty = false) (by rw [w1]; decide)
        dsimp only [List.cons_append, List.nil_append]
        (with_reducible rename Fr _ _ _ _ => kF7)
        (with_reducible rename News _ _ _ ((AT, _) :: _) => kN7)
        rw [hl1'] at kN7
        refine wpAny_call ?_
        refine' readch_c w mean mg mb (rest := (IT, citObj b tz) :: (b, methodObj (.ref 105) (.ref I)) :: rest) (own := own) kB2 kF7 ?xx kT2 rfl ?dd ?uu x f1 f2 d AT I dx PB od fd2 sl m' (i' + 1) ep2 nn2 t2 k1 k2 k3 k4 tl2 tw ln2 ?hh RO ?oo kN7 (.tail _ (.tail _ hI)) (.tail _ (.tail _ hf2)) oc1 od1 fd1 sl1 (.tail _ (.tail _ hf1)) (.tail _ (.tail _ hod)) hnod hm' ?a1 ?a2 ap3 ?_
        case xx => k_asm
        case dd => k_room
        case uu => k_room
        case hh => omega
        case oo => exact fun q hq => .tail _ (.tail _ (ho q hq))
        case a1 =>
          intro q hq
          rcases List.mem_cons.mp hq with rfl | hq
          · exact a6
          · exact a1 q hq
        case a2 =>
          intro q hq
          rcases List.mem_cons.mp hq with rfl | hq
          · exact a7
          · exact a2 q hq
        intro h4 tk4 ep4 nn4 ln4 tl4 t4 t5 F4 N4
        clear kF7 kN7
        have hch := hcs 0 hn0
        rw [Nat.add_zero] at hch
        have hl0 := hsl (i' + 1) (by omega)
        rw [hch] at N4 hl0 ⊢
        have ht1 : tokOf c 1 = Str.ofString "" ++ c 0 := rfl
        generalize hc0 : c 0 = ch at hch N4 hl0 ht1
        walk_at "sx"
        have htl0 : (tokOf c 1).length ≤ 1 := by rw [ht1]; have : (Str.ofString "").length = 0 := by decide
                                                 omega
        (with_reducible rename Fr _ _ _ _ => kF7)
        (with_reducible rename News _ _ _ ((AT, _) :: _) => kN7)
        refine (no_index (?_ : ∀ (mm7 : Str → Option Value) (epA nnA : Nat) (tiA tlA : Tok) (lnA : Int) (ttA : Tok), (Fr _ _ _ mm7) → (mm7 "self" = some (.ref I)) → (mm7 "token" = some (.str (tokOf c 1) ttA)) → (mm7 "fiter" = some (.ref IT)) → (News _ _ _ ((AT, PySem.W.listOf #[.int ((i' + 1) + 1 : Nat) tiA] epA) :: (dx, dictOf (lexEs w k1 k2 k3 k4 tlA tw lnA f2 PB) nnA) :: (IT, citObj b tz) :: (b, methodObj (.ref 105) (.ref I)) :: rest)) → _)) _ _ _ _ _ _ _ kF7 ms1 (by rw [ht1]; exact rfl) mf1 (by rw [hl0] at kN7; exact kN7)
        intro mm7 epA nnA tiA tlA lnA ttA kF8 mself7 mtok7 mfit7 kN8
        clear kF7 kN7
        refine For_G kF8 IT (J18b c n (i' + 1) 1 w I IT AT dx b f2 PB k1 k2 k3 k4 tw tz rest) ?_ ?_ (fun _ => rfl)
        · walk_at "sx"
          refine ci_pyIter (kN8 _ (.tail _ (.tail _ (.head _)))).1 ?_
          exact ⟨_, _, 200 - 1, mm7, _, rfl, rfl, ⟨mself7, mfit7, 1, epA, nnA, tiA, tlA, ttA, lnA, rfl, Nat.le_refl _, by omega, htl0, mtok7, rfl⟩, kF8, kN8⟩
        intro k m₂ news₂ h5 tk5 hP9_25 F5 N5
        obtain ⟨ms5, mf5, j, ep5, nn5, ti5, tl5, tt5, ln5, rfl, hj0, hj1, htl, mt5, rfl⟩ := hP9_25
        refine' next_c w mean mg mb (rest := (b, methodObj (.ref 105) (.ref I)) :: rest) (own := own) kB2 F5 ?xx kT2 rfl ?dd ?uu x f1 f2 d AT I dx PB IT b od fd2 sl m' ((i' + 1) + j) ep5 nn5 ti5 k1 k2 k3 k4 tl5 tw tz ln5 ?hh RO ?oo N5 (.head _) (.tail _ hI) (.tail _ hf2) oc1 od1 fd1 sl1 (.tail _ hf1) (.tail _ hod) hnod hm' a1 a2 ap3 a5 a6 a7 ?_ ?_
        case xx => k_asm
        case dd => k_room
        case uu => k_room
        case hh => omega
        case oo => exact fun q hq => .tail _ (ho q hq)
        rotate_left
        · intro he5
          exact absurd he5 (hne _ (by omega))
        intro hn5 h6 tk6 ep6 nn6 ln6 tl6 t6 t7 F6 N6
        have hl6 := hsl ((i' + 1) + j) (by omega)
        by_cases hjn : j < n
        · have hL := hc j hjn
          have hch6 := hcs j hjn
          rw [hch6] at hl6 N6 ⊢
          have q1 := hL.ws
          have q2 : (c j == Str.ofString "\"") = false := by simpa using hL.q
          have q3 : (c j == Str.ofString "\\") = false := by simpa using hL.b
          have htk : tokOf c (j + 1) = tokOf c j ++ c j := rfl
          generalize hcj : c j = ch6 at q1 q2 q3 N6 hl6 htk
          generalize htj : tokOf c j = tkj at mt5 htl htk
          have b16 := l16 hl6 htl (jn hjn (by assumption)) (by assumption)
          walk_at "sx"
          (with_reducible rename Fr _ _ _ _ => kF9)
          (with_reducible rename News _ _ _ ((AT, _) :: _) => kN9)
          rw [hl6] at kN9
          exact ⟨_, _, 200 - (j + 1), _, _, rfl, s2a (jn hjn (by assumption)) (by assumption), kF9, kN9, ms5, mf5, j + 1, _, _, _, _, _, _, rfl, by omega, by omega, by rw [htk]; omega, by rw [htk]; exact rfl, rfl⟩
        · have hjn' : j = n := by omega
          subst hjn'
          have q1 : (Builtin.Str.occurrences (Str.ofString "\n\t\r ") (slc x ((i' + 1) + j)) 0 (Str.ofString "\n\t\r ").length 1).isEmpty = false := hwe
          generalize hch6 : slc x ((i' + 1) + j) = ch6 at q1 N6 hl6
          walk_at "sx"
          (with_reducible rename News h₀ _ _ _ => kN9)
          rw [hl6] at kN9
          exact hret _ _ _ _ _ _ _ _ (by k_asm) (News.sub kN9 fun q hq => by
            rcases List.mem_cons.mp hq with rfl | hq
            · exact .head _
            rcases List.mem_cons.mp hq with rfl | hq
            · exact .tail _ (.head _)
            · exact .tail _ (.tail _ (.tail _ (.tail _ hq))))
      | quoted hq hcs hwe hel =>
        rw [hq] at N2 hl1' ⊢
        have w1 : (Builtin.Str.occurrences (Str.ofString "\n\t\r ") (Str.ofString "\"") 0 (Str.ofString "\n\t\r ").length 1).isEmpty = true := by decide +kernel
        walk_at "sx"
        rotate_left
        · exact absurd (by assumption : (Builtin.Str.occurrences (Str.ofString "\n\t\r ") (Str.ofString "\"") 0 (Str.ofString "\n\t\r ").length 1).isEmpty = false) (by rw [w1]; decide)
        have htl0 : (tokOf c 0).length ≤ 0 := by show (Str.ofString "").length ≤ 0; decide
        (with_reducible rename Fr _ _ _ _ => kF7)
        (with_reducible rename News _ _ _ ((AT, _) :: _) => kN7)
        refine (no_index (?_ : ∀ (mm7 : Str → Option Value) (epA nnA : Nat) (tiA tlA : Tok) (lnA : Int) (ttA : Tok), (Fr _ _ _ mm7) → (mm7 "self" = some (.ref I)) → (mm7 "token" = some (.str (tokOf c 0) ttA)) → (mm7 "fiter" = some (.ref IT)) → (News _ _ _ ((AT, PySem.W.listOf #[.int ((i' + 1) + 0 : Nat) tiA] epA) :: (dx, dictOf (lexEs w k1 k2 k3 k4 tlA tw lnA f2 PB) nnA) :: (IT, citObj b tz) :: (b, methodObj (.ref 105) (.ref I)) :: rest)) → _)) _ _ _ _ _ _ _ kF7 ms1 mt1 mf1 (by rw [hl1'] at kN7; exact kN7)
        intro mm7 epA nnA tiA tlA lnA ttA kF8 mself7 mtok7 mfit7 kN8
        clear kF7 kN7
        refine For_G kF8 IT (J18b c n (i' + 1) 0 w I IT AT dx b f2 PB k1 k2 k3 k4 tw tz rest) ?_ ?_ (fun _ => rfl)
        · walk_at "sx"
          refine ci_pyIter (kN8 _ (.tail _ (.tail _ (.head _)))).1 ?_
          exact ⟨_, _, 200 - 0, mm7, _, rfl, rfl, ⟨mself7, mfit7, 0, epA, nnA, tiA, tlA, ttA, lnA, rfl, Nat.le_refl _, by omega, htl0, mtok7, rfl⟩, kF8, kN8⟩
        intro k m₂ news₂ h5 tk5 hP9_26 F5 N5
        obtain ⟨ms5, mf5, j, ep5, nn5, ti5, tl5, tt5, ln5, rfl, hj0, hj1, htl, mt5, rfl⟩ := hP9_26
        refine' next_c w mean mg mb (rest := (b, methodObj (.ref 105) (.ref I)) :: rest) (own := own) kB2 F5 ?xx kT2 rfl ?dd ?uu x f1 f2 d AT I dx PB IT b od fd2 sl m' ((i' + 1) + j) ep5 nn5 ti5 k1 k2 k3 k4 tl5 tw tz ln5 ?hh RO ?oo N5 (.head _) (.tail _ hI) (.tail _ hf2) oc1 od1 fd1 sl1 (.tail _ hf1) (.tail _ hod) hnod hm' a1 a2 ap3 a5 a6 a7 ?_ ?_
        case xx => k_asm
        case dd => k_room
        case uu => k_room
        case hh => omega
        case oo => exact fun q hq => .tail _ (ho q hq)
        rotate_left
        · intro he5
          exact absurd he5 (hne _ (by omega))
        intro hn5 h6 tk6 ep6 nn6 ln6 tl6 t6 t7 F6 N6
        have hl6 := hsl ((i' + 1) + j) (by omega)
        by_cases hjn : j < n
        · have hL := hc j hjn
          have hch6 := hcs j hjn
          rw [hch6] at hl6 N6 ⊢
          have q1 := hL.ws
          have q2 : (c j == Str.ofString "\"") = false := by simpa using hL.q
          have q3 : (c j == Str.ofString "\\") = false := by simpa using hL.b
          have htk : tokOf c (j + 1) = tokOf c j ++ c j := rfl
          generalize hcj : c j = ch6 at q1 q2 q3 N6 hl6 htk
          generalize htj : tokOf c j = tkj at mt5 htl htk
          have b16 := l16 hl6 htl (jn hjn (by assumption)) (by assumption)
          walk_at "sx"
          (with_reducible rename Fr _ _ _ _ => kF9)
          (with_reducible rename News _ _ _ ((AT, _) :: _) => kN9)
          rw [hl6] at kN9
          exact ⟨_, _, 200 - (j + 1), _, _, rfl, s2a (jn hjn (by assumption)) (by assumption), kF9, kN9, ms5, mf5, j + 1, _, _, _, _, _, _, rfl, by omega, by omega, by rw [htk]; omega, by rw [htk]; exact rfl, rfl⟩
        · have hjn' : j = n := by omega
          subst hjn'
          rw [hwe] at hl6 N6 ⊢
          walk_at "sx"
          (with_reducible rename News h₀ _ _ _ => kN9)
          rw [hl6] at kN9
          exact hret _ _ _ _ _ _ _ _ (by k_asm) (News.sub kN9 fun q hq => by
            rcases List.mem_cons.mp hq with rfl | hq
            · exact .head _
            rcases List.mem_cons.mp hq with rfl | hq
            · exact .tail _ (.head _)
            · exact .tail _ (.tail _ (.tail _ (.tail _ hq))))
  · intro he2 h2 tk2 ep2 nn2 ln2 tl2 t2 F2 N2
    have hil : i' = x.length := by
      rcases Nat.lt_or_ge i' x.length with h | h
      · exact absurd he2 (hne i' h)
      · omega
    have hz : (slc x i').length = 0 := by rw [he2]; decide
    cases hform with
    | plain hn0 hcs hwe hel => omega
    | slashed hn0 hq hcs hwe hel => omega
    | quoted hq hcs hwe hel => omega
    | none h hn0 =>
      walk_at "sx"
      (with_reducible rename News h₀ _ _ _ => kN9)
      subst hn0
      rw [hz, Nat.add_zero, show i' = st by omega] at kN9
      exact hret _ _ _ _ _ _ _ _ (by k_asm) (News.sub kN9 fun q hq => by
        rcases List.mem_cons.mp hq with rfl | hq
        · exact .head _
        rcases List.mem_cons.mp hq with rfl | hq
        · exact .tail _ (.head _)
        · exact .tail _ (.tail _ (.tail _ hq)))
end
section
open PySem PySem.Spec PySem.Calls PySem.W PyProof.Rows PyProof.Rows.LCg
set_option maxRecDepth 100000 in
set_option maxHeartbeats 8000000 in
theorem take_c (w : World) (mean : ExcName → Option Value) (mg mb : Str → Option Value) {p : Program} {loose : List Str}
    {dp un : Nat} {gd : Option (List Code)} {cn : Str} {cs : Scope} {a : Addr} {ccd : Value} {cl : List (Str × Addr)} {outer : List Env} {A₀ : Around} {base h₀ : Heap} {L : Addr} {m : Str → Option Value} {rest : Led} {s : Shared} {Q E : Value → Shared → Prop}
    (B : Below A₀ base outer h₀) (F : Fr h₀ L s.heap m) (X : (Mine.hd.heap_39 w.params).In h₀) (T : Top p loose mean mg mb h₀) (hk : cs.kind = .function)
    (hd : dp + 10 < recursionLimit) (hu : un + 50 < cLine)
    (f2 I dx PB : Addr) (nn npb : Nat) (k1 k2 k3 k4 tl tw : Tok) (ln : Int) (v : Value) (vs : List Value) (hlen : vs.length ≤ 10)
    (N : News h₀ L s.heap ((PB, PySem.W.listOf (v :: vs).toArray npb) :: rest)) (hdx : (dx, dictOf (lexEs w k1 k2 k3 k4 tl tw ln f2 PB) nn) ∈ rest) (hI : (I, instObj 122 dx) ∈ rest) (ap : ∀ q ∈ rest, q.1 ≠ PB)
    (hret : ∀ h' tk', Fr h₀ L h' m → News h₀ L h' ((PB, PySem.W.listOf vs.toArray (npb + 1)) :: rest) → Q v { s with heap := h', toks := tk' }) :
    wpAny (model PySem.Challenge.rw_sn0056_01.prog w) (ktrTop dp un gd cn cs L a ccd cl outer) (call (.ref 112) [.ref I]) Q E s := by
  revert X; k_fill; intro X
  walk_at "my enter"
  walk_at "sx"
  (with_reducible rename Fr _ _ _ _ => kF)
  (with_reducible rename News _ _ _ _ => kN)
  refine kl_popAt (p := []) (q := vs) (y := v) (k := 0) kF kN rfl (seqIdx (v :: vs).toArray.size 0 (by simp)) rfl (.head ap) (by rw [sizeLine_eq]; simp; omega) ?_
  intro h4 F4 N4
  walk_at "sx"
  (with_reducible rename News h₀ _ _ _ => kN9)
  exact hret _ _ (by k_asm) kN9
end
section
open PySem PySem.Spec PySem.Calls PySem.W PyProof.Rows PyProof.Rows.LCg
set_option maxRecDepth 100000 in
set_option maxHeartbeats 8000000 in
theorem push_c (w : World) (mean : ExcName → Option Value) (mg mb : Str → Option Value) {p : Program} {loose : List Str}
    {dp un : Nat} {gd : Option (List Code)} {cn : Str} {cs : Scope} {a : Addr} {ccd : Value} {cl : List (Str × Addr)} {outer : List Env} {A₀ : Around} {base h₀ : Heap} {L : Addr} {m : Str → Option Value} {rest : Led} {s : Shared} {Q E : Value → Shared → Prop}
    (B : Below A₀ base outer h₀) (F : Fr h₀ L s.heap m) (X : (Mine.hd.heap_39 w.params).In h₀) (T : Top p loose mean mg mb h₀) (hk : cs.kind = .function)
    (hd : dp + 10 < recursionLimit) (hu : un + 50 < cLine)
    (f2 I dx PB : Addr) (nn npb : Nat) (k1 k2 k3 k4 tl tw : Tok) (ln : Int) (v : Value) (vs : List Value) (hlen : vs.length ≤ 10)
    (N : News h₀ L s.heap ((PB, PySem.W.listOf vs.toArray npb) :: rest)) (hdx : (dx, dictOf (lexEs w k1 k2 k3 k4 tl tw ln f2 PB) nn) ∈ rest) (hI : (I, instObj 122 dx) ∈ rest) (ap : ∀ q ∈ rest, q.1 ≠ PB)
    (hret : ∀ h' tk', Fr h₀ L h' m → News h₀ L h' ((PB, PySem.W.listOf (vs.toArray.push v) (npb + 1)) :: rest) → Q .none { s with heap := h', toks := tk' }) :
    wpAny (model PySem.Challenge.rw_sn0056_01.prog w) (ktrTop dp un gd cn cs L a ccd cl outer) (call (.ref 119) [.ref I, v]) Q E s := by
  revert X; k_fill; intro X
  walk_at "my enter"
  walk_at "sx"
  (with_reducible rename News h₀ _ _ _ => kN9)
  exact hret _ _ (by k_asm) kN9
end
section
open PySem PySem.Spec PySem.Calls PySem.W PyProof.Rows PyProof.Rows.LCg
/-- words that stand in the text from i on -/
inductive Stands (x : Str) : Nat → List (Nat × (Nat → Str)) → Prop
  | nil {i : Nat} : i ≤ x.length → (∀ j, i ≤ j → j < x.length → IsWs (slc x j)) → Stands x i []
  | cons {i st e n : Nat} {c : Nat → Str} {r} : i ≤ st → st ≤ x.length → (∀ j, i ≤ j → j < st → IsWs (slc x j)) → Form x st n c e → 0 < n → (∀ j, j < n → IsLet (c j)) → tokOf c n ≠ Str.ofString "" → Stands x e r → Stands x i ((n, c) :: r)
theorem queue_ap {AT c5 f1 f2 d d' x' PB W L1 : Nat} {o1 o2 o3 o4 o5 o6 o7 : Obj} {news : Led} (ord : @LT.lt Nat _ (L1 + 1 + 1) AT ∧ @LT.lt Nat _ AT c5 ∧ @LT.lt Nat _ c5 f1 ∧ @LT.lt Nat _ f1 f2 ∧ @LT.lt Nat _ f2 d ∧ @LT.lt Nat _ d d' ∧ @LT.lt Nat _ d' x' ∧ @LT.lt Nat _ x' PB ∧ @LT.lt Nat _ PB W) (ltn : ∀ q ∈ news, q.1 < L1) :
    (∀ q ∈ ((x', o1) :: (d, o2) :: (f2, o3) :: (f1, o4) :: (c5, o5) :: (L1 + 1, o6) :: (L1 + 1 + 1, o7) :: news : Led), q.1 ≠ AT) ∧ (∀ q ∈ ((x', o1) :: (d, o2) :: (f2, o3) :: (f1, o4) :: (c5, o5) :: (L1 + 1, o6) :: (L1 + 1 + 1, o7) :: news : Led), q.1 ≠ d') ∧
    (∀ q ∈ ((x', o1) :: (d, o2) :: (f2, o3) :: (f1, o4) :: (c5, o5) :: (L1 + 1, o6) :: (L1 + 1 + 1, o7) :: news : Led), q.1 ≠ W) ∧ (∀ q ∈ ((x', o1) :: (d, o2) :: (f2, o3) :: (f1, o4) :: (c5, o5) :: (L1 + 1, o6) :: (L1 + 1 + 1, o7) :: news : Led), q.1 ≠ PB) := by
  have h : ∀ q ∈ news, @LT.lt Nat _ q.1 L1 := fun q hq => ltN (ltn q hq)
  have go : ∀ z : Nat, x' ≠ z → d ≠ z → f2 ≠ z → f1 ≠ z → c5 ≠ z → L1 + 1 ≠ z → L1 + 1 + 1 ≠ z → L1 ≤ z → (∀ q ∈ ((x', o1) :: (d, o2) :: (f2, o3) :: (f1, o4) :: (c5, o5) :: (L1 + 1, o6) :: (L1 + 1 + 1, o7) :: news : Led), q.1 ≠ z) := by
    intro z h1 h2 h3 h4 h5 h6 h7 h8 q hq
    simp only [List.mem_cons] at hq
    rcases hq with rfl | rfl | rfl | rfl | rfl | rfl | rfl | hq
    · exact h1
    · exact h2
    · exact h3
    · exact h4
    · exact h5
    · exact h6
    · exact h7
    · exact Nat.ne_of_lt (Nat.lt_of_lt_of_le (h q hq) h8)
  refine ⟨go _ ?_ ?_ ?_ ?_ ?_ ?_ ?_ ?_, go _ ?_ ?_ ?_ ?_ ?_ ?_ ?_ ?_, go _ ?_ ?_ ?_ ?_ ?_ ?_ ?_ ?_, go _ ?_ ?_ ?_ ?_ ?_ ?_ ?_ ?_⟩ <;> omega
theorem allV_pairs : ∀ dn : List (Str × Tok), AllV (fun (z : Str) v => ∃ t, v = Value.str z t) (dn.map (·.1)) (dn.map fun p => Value.str p.1 p.2)
  | [] => .nil
  | p :: r => .cons ⟨_, rfl⟩ (allV_pairs r)
theorem ltn2 {l : Led} {b d : Nat} (h : ∀ p ∈ l, p.1 < b) (hb : b ≤ d) : ∀ p ∈ l, @LT.lt Nat _ p.1 d := fun p hp => Nat.lt_of_lt_of_le (ltN (h p hp)) hb
theorem stands_next {x : Str} {i : Nat} {rs : List (Nat × (Nat → Str))} (h : Stands x i rs) : ∃ st n e c, i ≤ st ∧ st ≤ x.length ∧ (∀ j, i ≤ j → j < st → IsWs (slc x j)) ∧ Form x st n c e ∧ (∀ j, j < n → IsLet (c j)) ∧
    ((rs = [] ∧ n = 0 ∧ Stands x e []) ∨ ∃ rs', rs = (n, c) :: rs' ∧ Stands x e rs' ∧ tokOf c n ≠ Str.ofString "") := by
  cases h with
  | nil h1 h2 => exact ⟨x.length, 0, x.length, fun _ => Str.ofString "", h1, Nat.le_refl _, h2, .none rfl rfl, fun j hj => absurd hj (Nat.not_lt_zero j), .inl ⟨rfl, rfl, .nil (Nat.le_refl _) fun j h1 h2 => absurd h1 (by omega)⟩⟩
  | cons h1 h2 h3 h4 h5 h6 h7 h8 => exact ⟨_, _, _, _, h1, h2, h3, h4, h6, .inr ⟨_, rfl, h8, h7⟩⟩
inductive J21a (x : Str) (n1 n2 n3 : Nat) (c1 c2 c3 : Nat → Str) (w : World) (AT d' x' W PB f2 : Addr) (k1 k2 k3 k4 tw : Tok) (S0 : Led) (k : Nat) (m₁ : Str → Option Value) (news₁ : Led) : Prop
  | mk : m₁ "line" = some (.ref x') → m₁ "words" = some (.ref W) → ∀ (ii ep nn cW : Nat) (ti tl tc : Tok) (ln : Int) (dn : List (Str × Tok)) (cur : Str) (rs : List (Nat × (Nat → Str))), m₁ "word" = some (.str cur tc) → Stands x ii rs → dn.length + rs.length ≤ 3 → ((cur ≠ Str.ofString "" ∧ k = rs.length + 1 ∧ dn.map (·.1) ++ cur :: rs.map (fun p => tokOf p.2 p.1) = [tokOf c1 n1, tokOf c2 n2, tokOf c3 n3]) ∨ (cur = Str.ofString "" ∧ k = 0 ∧ dn.map (·.1) = [tokOf c1 n1, tokOf c2 n2, tokOf c3 n3])) → news₁ = (AT, PySem.W.listOf #[.int ii ti] ep) :: (d', dictOf (lexEs w k1 k2 k3 k4 tl tw ln f2 PB) nn) :: (W, PySem.W.listOf (dn.map fun p => Value.str p.1 p.2).toArray cW) :: (PB, ({ cls := .type "list", data := .seq #[] 0 } : Obj)) :: S0 → J21a x n1 n2 n3 c1 c2 c3 w AT d' x' W PB f2 k1 k2 k3 k4 tw S0 k m₁ news₁
inductive J21b (n1 n2 n3 cW nn5 : Nat) (c1 c2 c3 : Nat → Str) (w : World) (d' x' W PB f2 : Addr) (k1 k2 k3 k4 tl5 tw : Tok) (ln5 : Int) (dn : List (Str × Tok)) (S0 : Led) (i : Nat) (m₁ : Str → Option Value) (news₁ : Led) : Prop
  | mk : m₁ "line" = some (.ref x') → ∀ (pv : List Value) (np : Nat), AllV (fun (z : Str) v => ∃ t, v = .str z t) ([tokOf c1 n1, tokOf c2 n2, tokOf c3 n3].take i) pv → news₁ = (PB, PySem.W.listOf pv.toArray np) :: (W, PySem.W.listOf (dn.map fun p => Value.str p.1 p.2).toArray cW) :: (d', dictOf (lexEs w k1 k2 k3 k4 tl5 tw ln5 f2 PB) nn5) :: S0 → J21b n1 n2 n3 cW nn5 c1 c2 c3 w d' x' W PB f2 k1 k2 k3 k4 tl5 tw ln5 dn S0 i m₁ news₁
set_option maxRecDepth 100000 in
set_option maxHeartbeats 8000000 in
theorem queue_c (w : World) (mean : ExcName → Option Value) (mg mb : Str → Option Value) {p : Program} {loose : List Str}
    {dp un : Nat} {gd : Option (List Code)} {cn : Str} {cs : Scope} {a : Addr} {ccd : Value} {cl : List (Str × Addr)} {outer : List Env} {A₀ : Around} {base h₀ : Heap} {L : Addr} {m : Str → Option Value} {news t154 : Led} {s : Shared} {Q E : Value → Shared → Prop}
    (B : Below A₀ base outer h₀) (F : Fr h₀ L s.heap m) (X : (Mine.hd.heap_39 w.params).In h₀) (N : News h₀ L s.heap (t154 ++ news)) (T : Top p loose mean mg mb h₀) (hk : cs.kind = .function) (C154 : CodeHd base 158 154) (ap : ∀ q ∈ news, q.1 ≠ 154) (ht154 : t154 = [(154, tabObj #[])])
    (hd : dp + 100 < recursionLimit) (hu : un + 3000 < cLine)
    (x : Str) (t1 : Tok) (hlen : x.length ≤ 40) (hsl : ∀ j, j < x.length → (slc x j).length = 1) (hsl0 : slc x x.length = Str.ofString "")
    (n1 n2 n3 : Nat) (c1 c2 c3 : Nat → Str) (hst : Stands x 0 [(n1, c1), (n2, c2), (n3, c3)])
    (hret : ∀ I dx PB f2 nn npb k1 k2 k3 k4 tl tw ln u1 u2 u3 ps h' tk', (∀ q ∈ news, @LT.lt Nat _ q.1 dx ∧ @LT.lt Nat _ q.1 I ∧ @LT.lt Nat _ q.1 PB) → dx ≠ PB → I ≠ PB → Fr h₀ L h' m →
      News h₀ L h' ((PB, PySem.W.listOf ([.str (tokOf c1 n1) u1, .str (tokOf c2 n2) u2, .str (tokOf c3 n3) u3] : List Value).toArray npb) :: (dx, dictOf (lexEs w k1 k2 k3 k4 tl tw ln f2 PB) nn) :: (I, instObj 122 dx) :: (154, tabObj ps) :: news) → Q (.ref I) { s with heap := h', toks := tk' }) :
    wpAny (model PySem.Challenge.rw_sn0056_01.prog w) (ktrTop dp un gd cn cs L a ccd cl outer) (call (.ref 159) [.str x t1]) Q E s := by
  revert X; k_fill; intro X
  walk_at "my enterC"
  rename_i g1 L1 h1 tk1 FG1 F1 B1 X1 T1 lt1 o1 o2 d1 d2 N1
  walk_at "sx"
  rename_i AT hq l1q hq2 o4 F4 N4 d4
  replace d2 : o2.data = .cell (some (.str x t1)) := d2
  subst ht154
  simp only [List.cons_append, List.nil_append] at *
  have l154 := ltN (lt1 (154, tabObj #[]) (.head _))
  dsimp only at l154
  have ltn : ∀ q ∈ news, q.1 < L1 := fun q hq => lt1 q (.tail _ hq)
  iterate 4 walk_at "s1"
  rename_i f1 c5 oc vs5 tq ctv doc hA tkA hoc hvs lc lf hB kF1 kN1
  generalize hfo : fnMade _ _ _ _ _ _ _ _ _ _ = fo at kN1
  have RO : ReadOn w p loose mean mg mb base f1 AT [(f1, fo), (c5, oc), (L1 + 1, o2), (L1 + 1 + 1, o4)] x := by
    unfold ReadOn
    intro dp un gd cn cs a ccd cl outer A₀ h₀ L m rest s Q E i ep ti t hi B F X T hk hd hu N ap ho hret
    have m1 := ho _ (.head _)
    have m2 := ho _ (.tail _ (.head _))
    have m3 := ho _ (.tail _ (.tail _ (.head _)))
    have m4 := ho _ (.tail _ (.tail _ (.tail _ (.head _))))
    rw [← hfo] at m1
    walk_at "my enterN"
    walk_at "sx"
    (with_reducible rename News h₀ _ _ _ => kN9)
    exact hret _ _ _ _ _ (by k_asm) kN9
  refine (no_index (?_ : ∀ fd1, (fo = (⟨.type "function", none, .func fd1, #[]⟩ : Obj)) → _)) _ hfo.symm
  intro fd1 hfd
  clear hfo
  iterate 6 walk_at "s1"
  (with_reducible rename Fr _ _ _ _ => kF2)
  (with_reducible rename News _ _ _ _ => kN2)
  refine fn_set kF2 kN2 fn_read ?_ ?_
  · k_all
  intro d hD tkD od ld lfd hnod F3 N3
  walk_at "sx"
  (with_reducible rename Fr _ _ _ _ => kF4)
  (with_reducible rename News _ _ _ _ => kN4)
  k_dflt (refine' call_cls ?k1 ?k2 ?k3 ?k4 ?k5 ?k6 ?_)
  case k1 => k_asm
  case k2 => k_asm
  case k3 => k_asm
  case k5 => k_is
  case k6 => k_is
  case k4 => k_is
  intro x' d' h' F' N' ld9 lx9
  have e3 := ltN (ld9 (d, od) (.head _))
  have e2 := ltN lx9
  dsimp only at e3
  have l1 := ld9
  have l2 := lx9
  (try k_lt l1)
  (try k_lt2 l2)
  k_dflt (walk_at "my enterCls")
  walk_at "sx"
  (with_reducible rename Fr _ _ _ _ => kF5)
  (with_reducible rename News _ _ _ (_ :: _) => kN5)
  generalize hfn : (⟨Value.type "function", some d, _, _⟩ : Obj) = fnO at kN5
  (with_reducible rename _ ∧ _ ∧ _ ∧ _ ∧ _ ∧ _ ∧ _ ∧ _ ∧ _ ∧ _ ∧ _ ∧ _ ∧ AllLt _ news => hW)
  (with_reducible rename _ ∧ _ ∧ _ ∧ _ ∧ _ ∧ _ ∧ _ ∧ _ ∧ _ ∧ _ ∧ _ ∧ AllLt _ news => hPB)
  have e1 := ltN lfd
  have e5 := hW.1
  have e6 := hPB.1
  have e7 := lc.1
  have e8 := lf
  have e9 := l1q.1
  refine (no_index (?_ : ∀ (mm : Str → Option Value) (W PB f2 : Addr) (nn : Nat) (k1 k2 k3 k4 tl tw : Tok) (fd2 : FuncData) (ps : Array Value), Fr g1 L1 _ mm → mm "line" = some (.ref x') → mm "words" = some (.ref W) → fnO = ⟨.type "function", some d, .func fd2, #[]⟩ → News g1 L1 _ ((W, PySem.W.listOf #[] 0) :: (PB, PySem.W.listOf #[] 0) :: (x', instObj 122 d') :: (d', dictOf (lexEs w k1 k2 k3 k4 tl tw 1 f2 PB) nn) :: (d, od) :: (f2, fnO) :: (_, _) :: (f1, fo) :: (c5, oc) :: (AT, PySem.W.listOf #[.int 0 tk1] 0) :: (L1 + 1 + 1, o4) :: (L1 + 1, o2) :: (154, tabObj ps) :: news) → (@LT.lt Nat _ (L1 + 1 + 1) AT ∧ @LT.lt Nat _ AT c5 ∧ @LT.lt Nat _ c5 f1 ∧ @LT.lt Nat _ f1 f2 ∧ @LT.lt Nat _ f2 d ∧ @LT.lt Nat _ d d' ∧ @LT.lt Nat _ d' x' ∧ @LT.lt Nat _ x' PB ∧ @LT.lt Nat _ PB W) → _)) _ _ _ _ _ _ _ _ _ _ _ _ _ kF5 rfl rfl hfn.symm kN5 (by omega)
  intro mm W PB f2 nn k1 k2 k3 k4 tl tw fd2 ps kF mline mwords hfn2 kN ord
  clear kF5 kN5
  refine (no_index (?_ : ∀ nw2, (nw2 = (154, tabObj ps) :: news) → _)) _ rfl
  intro nw2 hnw2
  rw [← hnw2] at kN
  have ltn : ∀ q ∈ nw2, q.1 < L1 := fun q hq => by
    subst hnw2
    rcases List.mem_cons.mp hq with rfl | hq
    · exact l154
    · exact ltn q hq
  obtain ⟨sAT, sd, sW, sPB⟩ := queue_ap (o1 := instObj 122 d') (o2 := od) (o3 := fnO) (o4 := fo) (o5 := oc) (o6 := o2) (o7 := o4) ord ltn
  have hN2 := News.sub (nw' := (AT, PySem.W.listOf #[.int 0 tk1] 0) :: (d', dictOf (lexEs w k1 k2 k3 k4 tl tw 1 f2 PB) nn) :: (W, PySem.W.listOf #[] 0) :: (PB, ({ cls := .type "list", data := .seq #[] 0 } : Obj)) :: (x', instObj 122 d') :: (d, od) :: (f2, fnO) :: (f1, fo) :: (c5, oc) :: (L1 + 1, o2) :: (L1 + 1 + 1, o4) :: nw2) kN (fun q hq => by
    rcases List.mem_cons.mp hq with rfl | hq
    · k_mem
    rcases List.mem_cons.mp hq with rfl | hq
    · k_mem
    rcases List.mem_cons.mp hq with rfl | hq
    · k_mem
    rcases List.mem_cons.mp hq with rfl | hq
    · exact .tail _ (.head _)
    rcases List.mem_cons.mp hq with rfl | hq
    · k_mem
    rcases List.mem_cons.mp hq with rfl | hq
    · k_mem
    rcases List.mem_cons.mp hq with rfl | hq
    · k_mem
    rcases List.mem_cons.mp hq with rfl | hq
    · k_mem
    rcases List.mem_cons.mp hq with rfl | hq
    · k_mem
    rcases List.mem_cons.mp hq with rfl | hq
    · k_mem
    rcases List.mem_cons.mp hq with rfl | hq
    · k_mem
    · k_mem)
  refine (no_index (?_ : ∀ (S0 : Led), (x', instObj 122 d') ∈ S0 → (d, od) ∈ S0 → (f2, fnO) ∈ S0 → (f1, fo) ∈ S0 → (∀ q ∈ [(f1, fo), (c5, oc), (L1 + 1, o2), (L1 + 1 + 1, o4)], q ∈ S0) → (∀ q ∈ nw2, q ∈ S0) → (∀ q ∈ S0, q.1 ≠ AT) → (∀ q ∈ S0, q.1 ≠ d') → (∀ q ∈ S0, q.1 ≠ W) → (∀ q ∈ S0, q.1 ≠ PB) → News g1 L1 _ ((AT, PySem.W.listOf #[.int 0 tk1] 0) :: (d', dictOf (lexEs w k1 k2 k3 k4 tl tw 1 f2 PB) nn) :: (W, PySem.W.listOf #[] 0) :: (PB, ({ cls := .type "list", data := .seq #[] 0 } : Obj)) :: S0) → _)) ((x', instObj 122 d') :: (d, od) :: (f2, fnO) :: (f1, fo) :: (c5, oc) :: (L1 + 1, o2) :: (L1 + 1 + 1, o4) :: nw2) (.head _) (.tail _ (.head _)) (.tail _ (.tail _ (.head _))) (.tail _ (.tail _ (.tail _ (.head _)))) ((fun q hq => by
      rcases List.mem_cons.mp hq with rfl | hq
      · k_mem
      rcases List.mem_cons.mp hq with rfl | hq
      · k_mem
      rcases List.mem_cons.mp hq with rfl | hq
      · k_mem
      rcases List.mem_cons.mp hq with rfl | hq
      · k_mem
      · cases hq)) ((fun q hq => by k_mem)) sAT sd sW sPB hN2
  intro S0 hS1 hS2 hS3 hS4 hS5 hS6 sAT sd sW sPB kN
  clear hN2
  obtain ⟨r1, r2, r3, r4, r5, r6, r7, r8, r9⟩ := ord
  have aWAT : W ≠ AT := Nat.ne_of_gt (by omega)
  have aPAT : PB ≠ AT := Nat.ne_of_gt (by omega)
  have aWd : W ≠ d' := Nat.ne_of_gt (by omega)
  have aPd : PB ≠ d' := Nat.ne_of_gt (by omega)
  have adAT : d' ≠ AT := Nat.ne_of_gt (by omega)
  have aWP : W ≠ PB := Nat.ne_of_gt (by omega)
  have hSt := hst
  refine (no_index (?_ : ∀ ep : Nat, (ep = 0) → _)) 0 rfl
  intro ep hep
  refine (no_index (?_ : ∀ ti : Tok, (ti = tk1) → _)) _ rfl
  intro ti hti
  refine (no_index (?_ : ∀ ln : Int, (ln = 1) → _)) _ rfl
  intro ln hln
  rw [← hti, ← hln] at kN
  rw [show PySem.W.listOf #[Value.int 0 ti] 0 = PySem.W.listOf #[Value.int ((0 : Nat) : Int) ti] ep from by rw [hep]; rfl] at kN
  dsimp only [List.cons_append, List.nil_append]
  obtain ⟨st, n, e, cc, g1', g2', g3', g4', g5', g6'⟩ := stands_next hSt
  refine' lex_c w mean mg mb (rest := (W, PySem.W.listOf ([] : List Value).toArray 0) :: (PB, ({ cls := .type "list", data := .seq #[] 0 } : Obj)) :: S0) (own := [(f1, fo), (c5, oc), (L1 + 1, o2), (L1 + 1 + 1, o4)]) B1 kF ?xx T1 ?kk ?dd ?uu x f1 f2 d AT x' d' PB od fd2 #[] _ 0 ep nn 0 ti k1 k2 k3 k4 tl tw ln RO ?oo kN (.tail _ (.tail _ hS1)) (.tail _ (.head _)) (.tail _ (.tail _ (by rw [← hfn2]; exact hS3))) (.type "function") none fd1 #[] (.tail _ (.tail _ (by rw [← hfd]; exact hS4))) (.tail _ (.tail _ hS2)) hnod (by exact if_pos rfl) ?a1 ?a2 adAT (by omega) hsl hsl0 st n e cc g1' g3' g2' g4' g5' ?_
  case xx => k_asm
  case kk => exact rfl
  case dd => k_room
  case uu => k_room
  case oo => exact fun q hq => .tail _ (.tail _ (hS5 q hq))
  case a1 =>
    intro q hq
    rcases List.mem_cons.mp hq with rfl | hq
    · exact aWAT
    rcases List.mem_cons.mp hq with rfl | hq
    · exact aPAT
    · exact sAT q hq
  case a2 =>
    intro q hq
    rcases List.mem_cons.mp hq with rfl | hq
    · exact aWd
    rcases List.mem_cons.mp hq with rfl | hq
    · exact aPd
    · exact sd q hq
  intro h9 tk9 ep9 nn9 ln9 tl9 t9 t10 F9 N9
  rcases g6' with ⟨hh, _⟩ | ⟨rs', hrs, hSt', hne0⟩
  · cases hh
  obtain ⟨rfl, rfl, rfl⟩ : n1 = n ∧ c1 = cc ∧ [(n2, c2), (n3, c3)] = rs' := by
    injection hrs with h1 h2
    injection h1 with h3 h4
    exact ⟨h3, h4, h2⟩
  walk_at "sx"
  (with_reducible rename Fr _ _ _ _ => kF6)
  (with_reducible rename News _ _ _ _ => kN6)
  refine (no_index (?_ : ∀ mm6 : Str → Option Value, (Fr g1 L1 _ mm6) → (mm6 "line" = some (.ref x')) → (mm6 "words" = some (.ref W)) → (mm6 "word" = some (.str (tokOf c1 n1) t10)) → _)) _ kF6 mline mwords rfl
  intro mm6 kF7 ml6 mw6 mword6
  clear kF6
  refine While_F kF7 kN6 (J21a x n1 n2 n3 c1 c2 c3 w AT d' x' W PB f2 k1 k2 k3 k4 tw S0) 3 ⟨ml6, mw6, e, ep9, nn9, 0, t9, tl9, t10, ln9, [], tokOf c1 n1, _, mword6, hSt', Nat.le_succ 2, .inl ⟨hne0, rfl, rfl⟩, rfl⟩ ?_
  intro k m₁ news₁ hA5 tkA5 hP9_27 F5 N5
  obtain ⟨ml, mw, ii, ep5, nn5, cW, ti5, tl5, tc, ln5, dn, cur, rs, mword, hSt5, hdl, hcase, rfl⟩ := hP9_27
  have hsz : (dn.map fun p => Value.str p.1 p.2).toArray.size ≤ 3 := by simp; omega
  rcases hcase with ⟨hc1, rfl, hall⟩ | ⟨hc1, rfl, hall⟩
  · walk_at "sx"
    refine WhlIf.yes (by simpa using hc1) ?_
    walk_at "sx"
    (with_reducible rename Fr _ _ _ _ => kF8)
    (with_reducible rename News _ _ _ _ => kN8)
    dsimp only [List.cons_append, List.nil_append]
    obtain ⟨st, n, e, cc, g1', g2', g3', g4', g5', g6'⟩ := stands_next hSt5
    refine' lex_c w mean mg mb (rest := (W, _) :: (PB, ({ cls := .type "list", data := .seq #[] 0 } : Obj)) :: S0) (own := [(f1, fo), (c5, oc), (L1 + 1, o2), (L1 + 1 + 1, o4)]) B1 kF8 ?xx T1 ?kk ?dd ?uu x f1 f2 d AT x' d' PB od fd2 #[] _ ii ep5 nn5 0 ti5 k1 k2 k3 k4 tl5 tw ln5 RO ?oo kN8 (.tail _ (.tail _ hS1)) (.tail _ (.head _)) (.tail _ (.tail _ (by rw [← hfn2]; exact hS3))) (.type "function") none fd1 #[] (.tail _ (.tail _ (by rw [← hfd]; exact hS4))) (.tail _ (.tail _ hS2)) hnod (by exact if_pos rfl) ?a1 ?a2 adAT (by omega) hsl hsl0 st n e cc g1' g3' g2' g4' g5' ?_
    case xx => k_asm
    case kk => exact rfl
    case dd => k_room
    case uu => k_room
    case oo => exact fun q hq => .tail _ (.tail _ (hS5 q hq))
    case a1 =>
      intro q hq
      rcases List.mem_cons.mp hq with rfl | hq
      · exact aWAT
      rcases List.mem_cons.mp hq with rfl | hq
      · exact aPAT
      · exact sAT q hq
    case a2 =>
      intro q hq
      rcases List.mem_cons.mp hq with rfl | hq
      · exact aWd
      rcases List.mem_cons.mp hq with rfl | hq
      · exact aPd
      · exact sd q hq
    intro h6 tk6 ep6 nn6 ln6 tl6 t6 t7 F6 N6
    walk_at "sx"
    (with_reducible rename Fr _ _ _ _ => kF9)
    (with_reducible rename News _ _ _ _ => kN9)
    rcases g6' with ⟨hh, hn0, hS6⟩ | ⟨rs', hrs, hS6, hne6⟩
    · subst hh hn0
      refine ⟨_, _, 0, _, _, rfl, by omega, kF9, kN9, ml, mw, e, ep6, nn6, cW + 1, t6, tl6, t7, ln6, dn ++ [(cur, tc)], Str.ofString "", [], rfl, hS6, by have := congrArg List.length hall; simp at this; simp; omega, .inr ⟨rfl, rfl, by simpa using hall⟩, by simp⟩
    · subst hrs
      refine ⟨_, _, rs'.length + 1, _, _, rfl, by simp, kF9, kN9, ml, mw, e, ep6, nn6, cW + 1, t6, tl6, t7, ln6, dn ++ [(cur, tc)], tokOf cc n, rs', rfl, hS6, by simp at hdl ⊢; omega, .inl ⟨hne6, rfl, by simpa using hall⟩, by simp⟩
  · subst hc1
    walk_at "sx"
    (with_reducible rename Fr _ _ _ _ => kF8)
    (with_reducible rename News _ _ _ _ => kN8)
    refine (no_index (?_ : ∀ mm8 : Str → Option Value, (Fr g1 L1 _ mm8) → (mm8 "line" = some (.ref x')) → (mm8 "words" = some (.ref W)) → _)) _ kF8 ml mw
    intro mm8 kF9 ml8 mw8
    refine For_F kF9 [tokOf c1 n1, tokOf c2 n2, tokOf c3 n3] (fun (z : Str) v => ∃ t, v = .str z t) (J21b n1 n2 n3 cW nn5 c1 c2 c3 w d' x' W PB f2 k1 k2 k3 k4 tl5 tw ln5 dn S0) (fun _ => rfl) ?_
    walk_at "sx"
    (with_reducible rename Fr _ _ _ _ => kFA)
    (with_reducible rename News _ _ _ _ => kNA)
    refine for_list (news := (PB, PySem.W.listOf ([] : List Value).toArray 0) :: (W, PySem.W.listOf (dn.map fun p => Value.str p.1 p.2).toArray cW) :: (d', dictOf (lexEs w k1 k2 k3 k4 tl5 tw ln5 f2 PB) nn5) :: S0) rfl kFA (News.sub kNA fun q hq => ?_) (.tail _ (.head _)) ?_ ⟨ml8, [], 0, .nil, rfl⟩ (fun i m₁ news₁ hJ => by obtain ⟨_, pv, np, _, rfl⟩ := hJ; exact .tail _ (.head _)) ?_ ?_
    · rcases List.mem_cons.mp hq with rfl | hq
      · exact .tail _ (.tail _ (.tail _ (.head _)))
      rcases List.mem_cons.mp hq with rfl | hq
      · exact .tail _ (.tail _ (.head _))
      rcases List.mem_cons.mp hq with rfl | hq
      · exact .tail _ (.head _)
      · exact .tail _ (.tail _ (.tail _ (.tail _ hq)))
    · rw [← hall]
      exact allV_pairs dn
    · intro i z v m₁ news₁ I oI h tk hi hP9_28 hP9_29 F5 N5 off
      obtain ⟨tz, rfl⟩ := hP9_28
      obtain ⟨ml, pv, np, hpv, rfl⟩ := hP9_29
      have hi3 : i < 3 := (List.getElem?_eq_some_iff.mp hi).1
      have hpl : pv.length ≤ 3 := by have := hpv.length; simp at this; omega
      walk_at "sx"
      (with_reducible rename Fr _ _ _ _ => kFB)
      (with_reducible rename News _ _ _ _ => kNB)
      refine' push_c w mean mg mb (rest := (I, oI) :: (W, PySem.W.listOf (dn.map fun p => Value.str p.1 p.2).toArray cW) :: (d', dictOf (lexEs w k1 k2 k3 k4 tl5 tw ln5 f2 PB) nn5) :: S0) B1 kFB ?xx T1 ?kk ?dd ?uu f2 x' d' PB nn5 np k1 k2 k3 k4 tl5 tw ln5 (.str z tz) pv (by omega) (News.sub kNB fun q hq => ?_) (.tail _ (.tail _ (.head _))) (.tail _ (.tail _ (.tail _ hS1))) ?ap ?_
      case xx => k_asm
      case kk => exact rfl
      case dd => k_room
      case uu => k_room
      case ap =>
        intro q hq
        rcases List.mem_cons.mp hq with rfl | hq
        · exact Ne.symm (off _ (.head _))
        rcases List.mem_cons.mp hq with rfl | hq
        · exact aWP
        rcases List.mem_cons.mp hq with rfl | hq
        · exact Ne.symm aPd
        · exact sPB q hq
      · rcases List.mem_cons.mp hq with rfl | hq
        · exact .tail _ (.head _)
        rcases List.mem_cons.mp hq with rfl | hq
        · exact .head _
        · exact .tail _ (.tail _ hq)
      intro h7 tk7 F7 N7
      walk_at "sx"
      (with_reducible rename Fr _ _ _ _ => kFC)
      (with_reducible rename News _ _ _ _ => kNC)
      refine ⟨_, _, _, (PB, PySem.W.listOf (pv ++ [Value.str z tz]).toArray (np + 1)) :: (W, PySem.W.listOf (dn.map fun p => Value.str p.1 p.2).toArray cW) :: (d', dictOf (lexEs w k1 k2 k3 k4 tl5 tw ln5 f2 PB) nn5) :: S0, rfl, kFC, News.sub kNC fun q hq => ?_, fun q hq => ?_, ml, pv ++ [Value.str z tz], np + 1, ?_, rfl⟩
      · have e0 : (pv ++ [Value.str z tz]).toArray = pv.toArray.push (.str z tz) := by simp
        rw [e0] at hq
        rcases List.mem_cons.mp hq with rfl | hq
        · exact .tail _ (.head _)
        rcases List.mem_cons.mp hq with rfl | hq
        · exact .head _
        · exact .tail _ (.tail _ hq)
      · rcases List.mem_cons.mp hq with rfl | hq
        · exact off (PB, PySem.W.listOf pv.toArray np) (.head _)
        · exact off q (.tail _ hq)
      · rw [List.take_succ, hi]
        exact hpv.snoc ⟨_, rfl⟩
    · intro h' tk m₁ news₁ hP9_30 F5 N5
      obtain ⟨ml, pv, np, hpv, rfl⟩ := hP9_30
      walk_at "sx"
      (with_reducible rename News h₀ _ _ _ => kN9)
      obtain _ | ⟨⟨u1, rfl⟩, _ | ⟨⟨u2, rfl⟩, _ | ⟨⟨u3, rfl⟩, _ | _⟩⟩⟩ := hpv
      have hL : ∀ q ∈ news, @LT.lt Nat _ q.1 L1 := fun q hq => ltN (ltn q (by rw [hnw2]; exact .tail _ hq))
      refine hret x' d' PB f2 nn5 np k1 k2 k3 k4 tl5 tw ln5 u1 u2 u3 ps _ _ (fun q hq => ⟨Nat.lt_trans (hL q hq) (by omega), Nat.lt_trans (hL q hq) (by omega), Nat.lt_trans (hL q hq) (by omega)⟩) (Ne.symm aPd) (sPB (x', instObj 122 d') hS1) (by k_asm) (News.sub kN9 fun q hq => ?_)
      rcases List.mem_cons.mp hq with rfl | hq
      · exact .head _
      rcases List.mem_cons.mp hq with rfl | hq
      · exact .tail _ (.tail _ (.head _))
      rcases List.mem_cons.mp hq with rfl | hq
      · exact .tail _ (.tail _ (.tail _ hS1))
      · exact .tail _ (.tail _ (.tail _ (hS6 q (by rw [hnw2]; exact hq))))
end
section
open PySem PySem.Spec PySem.Calls PySem.W PyProof.Rows PyProof.Rows.LCg
theorem three_in {a b c n : Str} (ha : a ∈ names3) (hb : b ∈ names3) (hc : c ∈ names3) (h1 : a ≠ b) (h2 : a ≠ c) (h3 : b ≠ c) (hn : n ∈ names3) : n = a ∨ n = b ∨ n = c := by
  simp only [names3, List.mem_cons, List.not_mem_nil, or_false] at ha hb hc hn
  rcases ha with rfl | rfl | rfl <;> rcases hb with rfl | rfl | rfl <;> rcases hc with rfl | rfl | rfl <;> first | exact absurd rfl h1 | exact absurd rfl h2 | exact absurd rfl h3 | (rcases hn with h | h | h <;> simp [h])
inductive J22 (w : World) (c0 : Str → Nat → Nat) (sd hl fl I K PB : Addr) (w1 w2 w3 : Str) (u1 u2 u3 : Tok) (npb : Nat) (S0 t30 t37 : Led) (i : Nat) (m₁ : Str → Option Value) (news₁ : Led) : Prop
  | mk : m₁ "seen" = some (.ref sd) → m₁ "heavy" = some (.ref hl) → m₁ "fits" = some (.ref fl) → m₁ "line" = some (.ref I) → m₁ "known" = some (.ref K) → ∀ (oK : Obj) (ka : Str → Addr) (SK : Led), oK.IsDictOf (PySem.strKind PySem.Challenge.rw_sn0056_01.prog w) ((names3.take i).map fun n => (n, Value.ref (ka n))) → news₁ = (K, oK) :: (PB, PySem.W.listOf ([.str w1 u1, .str w2 u2, .str w3 u3] : List Value).toArray npb) :: (SK ++ (t30 ++ t37)) → (∀ q ∈ S0, q ∈ SK) → (∀ q ∈ SK, q.1 ≠ K) → (∀ q ∈ SK, q.1 ≠ PB) → (∀ q ∈ SK, ∀ p ∈ t30 ++ t37, q.1 ≠ p.1) → (∀ n ∈ names3.take i, ∃ ys : List Value, (ka n, ({ cls := .type "list", data := .seq ys.toArray ys.length } : Obj)) ∈ SK ∧ IntsAre ys ((List.range 6).map fun d => ((c0 n d : Nat) : Int))) → J22 w c0 sd hl fl I K PB w1 w2 w3 u1 u2 u3 npb S0 t30 t37 i m₁ news₁
set_option maxRecDepth 100000 in
set_option maxHeartbeats 8000000 in
theorem talk_c (w : World) (mean : ExcName → Option Value) (mg mb : Str → Option Value) {p : Program} {loose : List Str}
    {dp un : Nat} {gd : Option (List Code)} {cn : Str} {cs : Scope} {a : Addr} {ccd : Value} {cl : List (Str × Addr)} {outer : List Env} {A₀ : Around} {base h₀ : Heap} {L : Addr} {m : Str → Option Value} {S0 t30 t37 : Led} {s : Shared} {Q E : Value → Shared → Prop}
    (B : Below A₀ base outer h₀) (F : Fr h₀ L s.heap m) (X : (Mine.hd.heap_39 w.params).In h₀) (T : Top p loose mean mg mb h₀) (hk : cs.kind = .function)
    (hd : dp + 400 < recursionLimit) (hu : un + 2400 < cLine) (C30 : CodeHd base 34 30) (C37 : CodeHd base 41 37)
    (ht30 : TabOk 30 ⟨32, 4, 41, 28⟩ (Str.ofString "_int2digits.<locals>.inner") t30) (ht37 : TabOk 37 ⟨47, 4, 52, 55⟩ (Str.ofString "_digits2int.<locals>.inner") t37)
    (w1 w2 w3 : Str) (u1 u2 u3 : Tok) (PB dx I f2 sd hl fl lt : Addr) (npb nn : Nat) (k1 k2 k3 k4 tl tw : Tok) (ln : Int) (oS : Obj) (af : Str → Addr) (c0 : Str → Nat → Nat)
    (N : News h₀ L s.heap ((PB, PySem.W.listOf ([.str w1 u1, .str w2 u2, .str w3 u3] : List Value).toArray npb) :: (S0 ++ (t30 ++ t37))))
    (apS : ∀ q ∈ S0, q.1 ≠ PB) (apP : ∀ q ∈ t30 ++ t37, q.1 ≠ PB) (apT : ∀ q ∈ S0, ∀ p ∈ t30 ++ t37, q.1 ≠ p.1) (ap2 : ∀ q ∈ t30, ∀ p ∈ t37, q.1 ≠ p.1)
    (hdx : (dx, dictOf (lexEs w k1 k2 k3 k4 tl tw ln f2 PB) nn) ∈ S0) (hI : (I, instObj 122 dx) ∈ S0) (hS : (sd, oS) ∈ S0) (hSd : oS.IsDictOf (PySem.strKind PySem.Challenge.rw_sn0056_01.prog w) (names3.map fun n => (n, Value.ref (af n)))) (lo : (sd == sysModules) = false)
    (ob : ∀ n ∈ names3, Obs h₀ S0 (af n) (c0 n)) (hv0 : ∀ n ∈ names3, Valid (c0 n))
    (nx : Str → Str) (hnx : w1 ∈ names3 ∧ w2 ∈ names3 ∧ w3 ∈ names3 ∧ nx w1 = w2 ∧ nx w2 = w3 ∧ nx w3 = w1 ∧ w1 ≠ w2 ∧ w1 ≠ w3 ∧ w2 ≠ w3)
    (hits fits : Array Value) (nh nf : Nat) (h : Nat → Int) (f : Nat → Bool) (hlh : (hl, ({ cls := .type "list", data := .seq hits nh } : Obj)) ∈ S0) (hlf : (fl, ({ cls := .type "list", data := .seq fits nf } : Obj)) ∈ S0)
    (hh : ∀ d, d < 6 → ∃ t, hits[d]? = some (.int (h d) t)) (hf : ∀ d, d < 6 → fits[d]? = some (.bool (f d))) (hh5 : ∀ d, 5 ≤ h d ∧ h d ≤ 7)
    (hret : ∀ (D K Wd : Addr) (nt : Nat) (oK oW : Obj) (kvW : List (Str × Value)) (ka : Str → Addr) (SK : Led) (c : Str → Nat → Nat) (p30 p37 : Array Value) h' tk', oK.IsDictOf (PySem.strKind PySem.Challenge.rw_sn0056_01.prog w) (names3.map fun n => (n, Value.ref (ka n))) → oW.IsDictOf (PySem.strKind PySem.Challenge.rw_sn0056_01.prog w) kvW → (K == sysModules) = false →
      (∀ q ∈ S0, q ∈ SK) → (∀ n ∈ names3, ∃ ys : List Value, (ka n, ({ cls := .type "list", data := .seq ys.toArray ys.length } : Obj)) ∈ SK ∧ IntsAre ys ((List.range 6).map fun d => ((c n d : Nat) : Int))) → (∀ n ∈ names3, Valid (c n)) → (∀ n ∈ names3, GoodW SK kvW c nx h f n) →
      Fr h₀ L h' m → News h₀ L h' ((D, ({ cls := .type "tuple", data := .seq #[.ref K, .ref Wd] nt } : Obj)) :: (K, oK) :: (Wd, oW) :: (30, tabObj p30) :: (37, tabObj p37) :: SK) → Q (.ref D) { s with heap := h', toks := tk' }) :
    wpAny (model PySem.Challenge.rw_sn0056_01.prog w) (ktrTop dp un gd cn cs L a ccd cl outer) (call (.ref 176) [.ref sd, .ref hl, .ref fl, .ref I]) Q E s := by
  revert X; k_fill; intro X
  walk_at "my enter"
  (with_reducible rename Fr h₀ L _ m => kFG)
  walk_at "sy"
  (with_reducible rename Fr _ _ _ _ => kF2)
  (with_reducible rename News _ _ _ _ => kN2)
  (with_reducible rename Below _ _ _ _ => kB)
  (with_reducible rename Top _ _ _ _ _ _ => kT)
  (with_reducible rename Obj.IsDictOf (PySem.strKind _ _) _ [] => hK0)
  (with_reducible rename @LT.lt Nat _ PB _ ∧ AllLt _ _ => hlK)
  (with_reducible rename (_ == sysModules) = false => loK)
  refine (no_index (?_ : ∀ (mm : Str → Option Value) (K : Addr) (oK : Obj), Fr _ _ _ mm → mm "seen" = some (.ref sd) → mm "heavy" = some (.ref hl) → mm "fits" = some (.ref fl) → mm "line" = some (.ref I) → mm "known" = some (.ref K) → News _ _ _ ((K, oK) :: (PB, PySem.W.listOf ([.str w1 u1, .str w2 u2, .str w3 u3] : List Value).toArray npb) :: (S0 ++ (t30 ++ t37))) → oK.IsDictOf (PySem.strKind PySem.Challenge.rw_sn0056_01.prog w) [] → @LT.lt Nat _ PB K → (∀ q ∈ S0 ++ (t30 ++ t37), q.1 < K) → (K == sysModules) = false → _)) _ _ _ kF2 rfl rfl rfl rfl rfl kN2 hK0 hlK.1 (ktn_ltOf hlK.2) loK
  intro mm K oK kF m1 m2 m3 m4 m5 kN hK0 hPK hlK loK
  clear kF2 kN2
  refine For_F kF ((names3.map fun n => (n, Value.ref (af n))).map (·.1)) (fun (k : Str) v => ∃ t, v = .str k t) (J22 w c0 sd hl fl I K PB w1 w2 w3 u1 u2 u3 npb S0 t30 t37) (fun _ => rfl) ?_
  walk_at "sy"
  (with_reducible rename Fr _ _ _ _ => kF3)
  (with_reducible rename News _ _ _ _ => kN3)
  refine for_dict rfl kF3 kN3 (.tail _ (.tail _ (List.mem_append_left _ hS))) hSd lo ⟨m1, m2, m3, m4, m5, oK, fun _ => 0, S0, hK0, rfl, fun _ h => h, fun q hq => Nat.ne_of_lt (hlK q (List.mem_append_left _ hq)), apS, apT, fun n hn => by cases hn⟩ (fun i m₁ news₁ hJ => by obtain ⟨_, _, _, _, _, _, _, SK, _, rfl, h, _⟩ := hJ; exact .tail _ (.tail _ (List.mem_append_left _ (h _ hS)))) ?_ ?_
  · intro i n tn m₁ news₁ It oI h tk hi hP9_31 F5 N5 off
    obtain ⟨f1, f3, f4, f5, f6, oK, ka, SK, hdK, rfl, sS, sK, sP, sT, sC⟩ := hP9_31
    have hn : n ∈ names3 := by
      have := List.mem_of_getElem? hi
      simpa using this
    walk_at "sy"
    (with_reducible rename Fr _ _ _ _ => kF6)
    (with_reducible rename News _ _ _ _ => kN6)
    refine kda_item (knd := PySem.strKind _ _) kN6 (.tail _ (.tail _ (.tail _ (List.mem_append_left _ (sS _ hS))))) hSd (strKind_is _ _ _ _) (valueAt_map hn) ?_
    walk_at "sy"
    (with_reducible rename Fr _ _ _ _ => kF7)
    (with_reducible rename News _ _ _ _ => kN7)
    obtain ⟨its, no, eo, o1, o2, o3, o4, o5⟩ := ob n hn
    refine' cells_c w mean mg mb (news := (It, oI) :: (K, oK) :: (PB, PySem.W.listOf ([.str w1 u1, .str w2 u2, .str w3 u3] : List Value).toArray npb) :: (SK ++ (t30 ++ t37))) kB kF7 ?xx kN7 kT ?kk ?dd ?uu (af n) its no eo (.tail _ (.tail _ (.tail _ (List.mem_append_left _ (sS _ o1))))) (by omega) ?he o4 ?_
    case xx => k_asm
    case kk => exact rfl
    case dd => k_room
    case uu => k_room
    case he => exact fun A' s' y x hu hy hx hk hb => o3 A' s' y x hu hy hx (fun p hp => hk p (.tail _ (.tail _ (.tail _ (List.mem_append_left _ (sS _ hp)))))) fun b o h => hb b o (kFG.keep b o h)
    intro D ys h8 tk8 hys hlt F8 N8
    rw [o5] at hys
    walk_at "sy"
    (with_reducible rename Fr _ _ _ _ => kF9)
    (with_reducible rename News _ _ _ _ => kN9)
    have hDK : D ≠ K := Nat.ne_of_gt (ltN (hlt (K, oK) (.tail _ (.head _))))
    have hIK : It ≠ K := Ne.symm (off (K, oK) (.head _))
    have hPBK : PB ≠ K := Nat.ne_of_lt hPK
    have hrestK : ∀ q ∈ SK ++ (t30 ++ t37), q.1 ≠ K := fun q hq => by
      rcases List.mem_append.mp hq with hq | hq
      · exact sK q hq
      · exact Nat.ne_of_lt (hlK q (List.mem_append_right _ hq))
    refine kda_set (knd := PySem.strKind _ _) kF9 kN9 (.tail hDK (.tail hIK (.head (fun q hq => by
      rcases List.mem_cons.mp hq with rfl | hq
      · exact hPBK
      · exact hrestK q hq)))) hdK (strKind_is _ _ _ _) (by rw [sizeLine_eq]; simp [names3]; omega) ?_
    intro h10 oK2 F10 N10 hdK2
    walk_at "sy"
    (with_reducible rename Fr _ _ _ _ => kF11)
    (with_reducible rename News _ _ _ _ => kN11)
    have hi' : names3[i]? = some n := by simpa using hi
    have hni : n ∉ names3.take i := names3_fresh hi'
    have hPB := hlt (PB, _) (.tail _ (.tail _ (.head _)))
    have hDt : ∀ q ∈ t30 ++ t37, q.1 < D := fun q hq => hlt q (.tail _ (.tail _ (.tail _ (List.mem_append_right _ hq))))
    have hDI := hlt (It, oI) (.head _)
    rw [stored_map hni, ← take_next hi'] at hdK2
    refine ⟨_, _, _, (K, oK2) :: (PB, PySem.W.listOf ([.str w1 u1, .str w2 u2, .str w3 u3] : List Value).toArray npb) :: (((D, lst ys) :: SK) ++ (t30 ++ t37)), rfl, kF11, News.sub kN11 (fun q hq => ?_), fun q hq => ?_, f1, f3, f4, f5, f6, oK2, _, (D, lst ys) :: SK, hdK2, rfl, fun q hq => .tail _ (sS q hq), fun q hq => ?_, fun q hq => ?_, fun q hq p hp => ?_, fun n' hn' => ?_⟩
    · rcases List.mem_cons.mp hq with rfl | hq
      · exact .tail _ (.head _)
      rcases List.mem_cons.mp hq with rfl | hq
      · exact .tail _ (.tail _ (.head _))
      rcases List.mem_cons.mp hq with rfl | hq
      · exact .tail _ (.tail _ (.tail _ (.head _)))
      rcases List.mem_cons.mp hq with rfl | hq
      · exact .head _
      · exact .tail _ (.tail _ (.tail _ (.tail _ hq)))
    · rcases List.mem_cons.mp hq with rfl | hq
      · exact Ne.symm hIK
      rcases List.mem_cons.mp hq with rfl | hq
      · exact off _ (.tail _ (.head _))
      rcases List.mem_cons.mp hq with rfl | hq
      · exact Nat.ne_of_gt (ltN hDI)
      · exact off _ (.tail _ (.tail _ hq))
    · rcases List.mem_cons.mp hq with rfl | hq
      · exact hDK
      · exact sK q hq
    · rcases List.mem_cons.mp hq with rfl | hq
      · exact Nat.ne_of_gt (ltN hPB)
      · exact sP q hq
    · rcases List.mem_cons.mp hq with rfl | hq
      · exact Nat.ne_of_gt (ltN (hDt p hp))
      · exact sT q hq p hp
    · by_cases hnn : n' = n
      · subst hnn
        exact ⟨ys, by rw [if_pos rfl]; exact .head _, hys⟩
      · rw [if_neg hnn]
        rw [take_next hi'] at hn'
        rcases List.mem_append.mp hn' with hn' | hn'
        · obtain ⟨ys', q1, q2⟩ := sC n' hn'
          exact ⟨ys', .tail _ q1, q2⟩
        · exact absurd (List.mem_singleton.mp hn') hnn
  · intro h' tk m₁ news₁ hP9_32 F5 N5
    obtain ⟨f1, f3, f4, f5, f6, oK, ka, SK, hdK, rfl, sS, sK, sP, sT, sC⟩ := hP9_32
    have hI' : (I, instObj 122 dx) ∈ SK := sS _ hI
    have hdx' : (dx, dictOf (lexEs w k1 k2 k3 k4 tl tw ln f2 PB) nn) ∈ SK := sS _ hdx
    walk_at "sy"
    dsimp only [List.cons_append, List.nil_append]
    (with_reducible rename Fr _ _ _ _ => kF6)
    (with_reducible rename News _ _ _ _ => kN6)
    (with_reducible rename Obj.IsDictOf (PySem.strKind _ _) _ [] => hW0)
    (with_reducible rename @LT.lt Nat _ K _ ∧ @LT.lt Nat _ PB _ ∧ AllLt _ _ => hlW)
    refine (no_index (?_ : ∀ (mm : Str → Option Value) (Wd : Addr) (oW : Obj) (uc : Tok), Fr _ _ _ mm → mm "heavy" = some (.ref hl) → mm "fits" = some (.ref fl) → mm "line" = some (.ref I) → mm "known" = some (.ref K) → mm "whispered" = some (.ref Wd) → mm "calm" = some (.int 0 uc) → News _ _ _ ((Wd, oW) :: (K, oK) :: (PB, PySem.W.listOf ([.str w1 u1, .str w2 u2, .str w3 u3] : List Value).toArray npb) :: (SK ++ (t30 ++ t37))) → oW.IsDictOf (PySem.strKind PySem.Challenge.rw_sn0056_01.prog w) [] → (@LT.lt Nat _ K Wd ∧ @LT.lt Nat _ PB Wd ∧ AllLt Wd (SK ++ (t30 ++ t37))) → _)) _ _ _ _ kF6 f3 f4 f5 f6 rfl rfl kN6 hW0 hlW
    intro mm2 Wd oW uc kF7 n1 n2 n3 n4 n5 n6 kN7 hW0 hlW
    clear kF6 kN6
    have aKW : K ≠ Wd := Nat.ne_of_lt hlW.1
    have aPW : PB ≠ Wd := Nat.ne_of_lt hlW.2.1
    have aPK : PB ≠ K := Nat.ne_of_lt hPK
    have lW := ktn_ltOf hlW.2.2
    refine' take_c w mean mg mb (rest := (Wd, oW) :: (K, oK) :: (SK ++ (t30 ++ t37))) kB kF7 ?xx kT ?kk ?dd ?uu f2 I dx PB nn npb k1 k2 k3 k4 tl tw ln (.str w1 u1) [.str w2 u2, .str w3 u3] (Nat.le_of_ble_eq_true rfl) (News.sub kN7 fun q hq => ?_) (.tail _ (.tail _ (List.mem_append_left _ hdx'))) (.tail _ (.tail _ (List.mem_append_left _ hI'))) ?ap ?_
    case xx => k_asm
    case kk => exact rfl
    case dd => k_room
    case uu => k_room
    case ap =>
      intro q hq
      rcases List.mem_cons.mp hq with rfl | hq
      · exact Ne.symm aPW
      rcases List.mem_cons.mp hq with rfl | hq
      · exact Ne.symm aPK
      rcases List.mem_append.mp hq with hq | hq
      · exact sP q hq
      · exact apP q hq
    · rcases List.mem_cons.mp hq with rfl | hq
      · exact .tail _ (.tail _ (.head _))
      rcases List.mem_cons.mp hq with rfl | hq
      · exact .head _
      rcases List.mem_cons.mp hq with rfl | hq
      · exact .tail _ (.head _)
      · exact .tail _ (.tail _ (.tail _ hq))
    intro h9 tk9 F9 N9
    walk_at "sy"
    (with_reducible rename Fr _ _ _ _ => kFA)
    (with_reducible rename News _ _ _ _ => kNA)
    refine While_F (news := (K, oK) :: (Wd, oW) :: (PB, PySem.W.listOf ([.str w2 u2, .str w3 u3] : List Value).toArray (npb + 1)) :: (SK ++ (t30 ++ t37))) kFA (News.sub kNA fun q hq => ?_) (TalkJ w S0 K Wd PB hl fl I nx h f) _ ⟨⟨n1, n2, n3, n4, n5⟩, oK, oW, [], ka, SK, t30, t37, c0, w1, w2, w3, u1, u2, u3, uc, npb + 1, 0, n6, rfl, rfl, hdK, hW0, by simp; omega, ht30, ht37,
      ⟨fun q hq => ⟨sK q hq, Nat.ne_of_lt (lW q (List.mem_append_left _ hq)), sP q hq⟩, fun q hq => ⟨Nat.ne_of_lt (hlK q (List.mem_append_right _ hq)), Nat.ne_of_lt (lW q (List.mem_append_right _ hq)), apP q hq⟩, sT, ap2⟩, sS, fun n hn => sC n (by simpa [names3] using hn), hv0, hnx, by decide, rfl, fun h => absurd h (by decide), fun h => absurd h (by decide), fun h => absurd h (by decide)⟩ ?_
    · rcases List.mem_cons.mp hq with rfl | hq
      · exact .tail _ (.tail _ (.head _))
      rcases List.mem_cons.mp hq with rfl | hq
      · exact .tail _ (.head _)
      rcases List.mem_cons.mp hq with rfl | hq
      · exact .head _
      · exact .tail _ (.tail _ (.tail _ hq))
    intro k m₂ news₂ hB tkB hP9_33 FB NB
    obtain ⟨⟨r1, r2, r3, r4, r5⟩, oK1, oW1, kvW, ka1, S1, v30, v37, c, sp, li, ot, us, ul, uo, uq, np, q, r6, r7, rfl, dK1, dW1, hkv, T30, T37, ⟨A1, A2, A3, A4⟩, B0, C0, V0, ⟨y1, y2, y3, y4, y5, y6, y7, y8, y9⟩, hq3, hk0, G1, G2, G3⟩ := hP9_33
    rcases Nat.lt_or_ge q 3 with hq | hq
    · have hI1 : (I, instObj 122 dx) ∈ S1 := B0 _ hI
      have hdx1 : (dx, dictOf (lexEs w k1 k2 k3 k4 tl tw ln f2 PB) nn) ∈ S1 := B0 _ hdx
      walk_at "sy"
      refine WhlIf.yes (decide_eq_true (by omega)) ?_
      walk_at "sy"
      (with_reducible rename Fr _ _ _ _ => kFa)
      (with_reducible rename News _ _ _ _ => kNa)
      refine' take_c w mean mg mb (rest := (K, oK1) :: (Wd, oW1) :: (S1 ++ (v30 ++ v37))) kB kFa ?xx kT ?kk ?dd ?uu f2 I dx PB nn np k1 k2 k3 k4 tl tw ln (.str li ul) [.str ot uo] (Nat.le_of_ble_eq_true rfl) (News.sub kNa fun q hq => ?_) (.tail _ (.tail _ (List.mem_append_left _ (B0 _ hdx)))) (.tail _ (.tail _ (List.mem_append_left _ (B0 _ hI)))) ?ap ?_
      case xx => k_asm
      case kk => exact rfl
      case dd => k_room
      case uu => k_room
      case ap =>
        intro q hq
        rcases List.mem_cons.mp hq with rfl | hq
        · exact Ne.symm aPK
        rcases List.mem_cons.mp hq with rfl | hq
        · exact Ne.symm aPW
        rcases List.mem_append.mp hq with hq | hq
        · exact (A1 q hq).2.2
        · exact (A2 q hq).2.2
      · rcases List.mem_cons.mp hq with rfl | hq
        · exact .tail _ (.tail _ (.head _))
        rcases List.mem_cons.mp hq with rfl | hq
        · exact .head _
        rcases List.mem_cons.mp hq with rfl | hq
        · exact .tail _ (.head _)
        · exact .tail _ (.tail _ (.tail _ hq))
      intro hb tkb Fb Nb
      walk_at "sy"
      (with_reducible rename Fr _ _ _ _ => kFb)
      (with_reducible rename News _ _ _ _ => kNb)
      refine kda_item (knd := PySem.strKind _ _) kNb (.tail _ (.head _)) dK1 (strKind_is _ _ _ _) (valueAt_map y1) ?_
      walk_at "sy"
      (with_reducible rename Fr _ _ _ _ => kFc)
      (with_reducible rename News _ _ _ _ => kNc)
      obtain ⟨cs0, hcs, ics⟩ := C0 sp y1
      have hc6 : ∀ d, d < 6 → ∃ t, cs0.toArray[d]? = some (.int (c sp d : Nat) t) := fun d hd => by
        have := ints_get ics (show ((List.range 6).map fun d => ((c sp d : Nat) : Int))[d]? = some ((c sp d : Nat) : Int) by rw [List.getElem?_map, List.getElem?_range hd]; rfl)
        simpa using this
      refine' shares_c w mean mg mb (news := (PB, PySem.W.listOf ([.str ot uo] : List Value).toArray (np + 1)) :: (K, oK1) :: (Wd, oW1) :: S1) (t30 := v30) (t37 := v37) kB kFc ?xx kNc kT ?kk ?dd ?uu ?c3 ?c37 T30 T37 (fun q hq p hp => ?_) A4 (ka1 sp) hl fl cs0.toArray hits fits cs0.length nh nf (c sp) h f (.tail _ (.tail _ (.tail _ hcs))) (.tail _ (.tail _ (.tail _ (B0 _ hlh)))) (.tail _ (.tail _ (.tail _ (B0 _ hlf)))) hc6 hh hf (V0 sp y1) hh5 ?_
      case xx => k_asm
      case kk => exact rfl
      case dd => k_room
      case uu => k_room
      case c3 => k_asm
      case c37 => k_asm
      · rcases List.mem_cons.mp hq with rfl | hq
        · exact Ne.symm (A2 p hp).2.2
        rcases List.mem_cons.mp hq with rfl | hq
        · exact Ne.symm (A2 p hp).1
        rcases List.mem_cons.mp hq with rfl | hq
        · exact Ne.symm (A2 p hp).2.1
        · exact A3 q hq p hp
      intro Dw wits wep hw tkw x30 x37 hwI X30 X37 xap xap2 xlt xne Fw Nw
      have dwK : Dw ≠ K := Ne.symm (Nat.ne_of_lt (ltN (xlt (K, oK1) (.tail _ (.head _)))))
      have dwW : Dw ≠ Wd := Ne.symm (Nat.ne_of_lt (ltN (xlt (Wd, oW1) (.tail _ (.tail _ (.head _))))))
      have dwP : Dw ≠ PB := Ne.symm (Nat.ne_of_lt (ltN (xlt (PB, _) (.head _))))
      have A2' : ∀ q ∈ x30 ++ x37, q.1 ≠ K ∧ q.1 ≠ Wd ∧ q.1 ≠ PB := fun q hq => ⟨Ne.symm (xap (K, oK1) (.tail _ (.head _)) q hq), Ne.symm (xap (Wd, oW1) (.tail _ (.tail _ (.head _))) q hq), Ne.symm (xap (PB, _) (.head _) q hq)⟩
      have A3' : ∀ q ∈ S1, ∀ p ∈ x30 ++ x37, q.1 ≠ p.1 := fun q hq => xap q (.tail _ (.tail _ (.tail _ hq)))
      dsimp only [List.cons_append] at Nw
      walk_at "sy"
      (with_reducible rename Fr _ _ _ _ => kFd)
      (with_reducible rename News _ _ _ _ => kNd)
      refine kda_set (knd := PySem.strKind _ _) kFd kNd (.tail dwW (.tail aPW (.tail aKW (.head (fun q hq => by
        rcases List.mem_append.mp hq with hq | hq
        · exact (A1 q hq).2.1
        · exact (A2' q hq).2.1))))) dW1 (strKind_is _ _ _ _) (by rw [sizeLine_eq]; omega) ?_
      intro hx oW2 Fx Nx dW2
      walk_at "sy"
      (with_reducible rename Fr _ _ _ _ => kFe)
      (with_reducible rename News _ _ _ _ => kNe)
      obtain ⟨cl0, hcl, icl⟩ := C0 li y2
      refine kda_item (knd := PySem.strKind _ _) kNe (.tail _ (.tail _ (.head _))) dK1 (strKind_is _ _ _ _) (valueAt_map y2) ?_
      walk_at "sy"
      (with_reducible rename News _ _ _ _ => kNf)
      refine kda_item (knd := PySem.strKind _ _) kNf (.tail _ (.tail _ (.tail _ (.head _)))) dW2 (strKind_is _ _ _ _) (by rw [valueAt_stored, if_pos rfl]) ?_
      walk_at "sy"
      (with_reducible rename Fr _ _ _ _ => kFg)
      (with_reducible rename News _ _ _ _ => kNg)
      refine zip_K kFg kNg (.tail _ (.tail _ (.tail _ (.tail _ (List.mem_append_left _ hcl))))) (.head _) ?_
      intro z hz Fz Nz Zz
      walk_at "sy"
      (with_reducible rename Fr _ _ _ _ => kFh)
      (with_reducible rename News _ _ _ _ => kNh)
      have hcl6 : cl0.toArray.size = 6 := by have := IntsAre.length icl; simpa using this
      have hw6 : wits.size = 6 := by have := IntsAre.length hwI; simpa using this
      refine listzip_K rfl kFh kNh Zz (by omega) (by omega) ?_
      intro D0 ts TL h0 tk0 acc cacc hacc htl htp ltD ltT F0 N0
      walk_at "sy"
      (with_reducible rename Fr _ _ _ _ => kFi)
      (with_reducible rename News _ _ _ _ => kNi)
      obtain ⟨its6, n6', e6, p1, p2, p3, p4, p5⟩ := zip_obs (c := c li) (g := shareOf (c sp) h f) kNi hacc (htl.trans hcl6) htp
        (fun d hd => by
          have := ints_get icl (show ((List.range 6).map fun d => ((c li d : Nat) : Int))[d]? = some ((c li d : Nat) : Int) by rw [List.getElem?_map, List.getElem?_range hd]; rfl)
          simpa using this)
        (fun d hd => by
          have := ints_get hwI (show ((List.range 6).map (shareOf (c sp) h f))[d]? = some (shareOf (c sp) h f d) by rw [List.getElem?_map, List.getElem?_range hd]; rfl)
          simpa using this)
      refine' cells_c w mean mg mb kB kFi ?xx kNi kT ?kk ?dd ?uu D0 its6 n6' e6 p1 (by omega) p3 p4 ?_
      case xx => k_asm
      case kk => exact rfl
      case dd => k_room
      case uu => k_room
      intro Df ys hf' tkf hys hlt Ff Nf
      rw [p5] at hys
      have ltf := fun q hq => hlt q (.tail _ (List.mem_append_right TL hq))
      have Ng : News _ _ hf' ((K, oK1) :: (Wd, oW2) :: (PB, PySem.W.listOf ([.str ot uo] : List Value).toArray (np + 1)) :: (((Df, lst ys) :: (Dw, ({ cls := .type "list", data := .seq wits wep } : Obj)) :: S1) ++ (x30 ++ x37))) := News.sub Nf fun q hq => by
        rcases List.mem_cons.mp hq with rfl | hq
        · exact .tail _ (.tail _ (List.mem_append_right TL (.tail _ (.tail _ (.head _)))))
        rcases List.mem_cons.mp hq with rfl | hq
        · exact .tail _ (.tail _ (List.mem_append_right TL (.tail _ (.tail _ (.tail _ (.head _))))))
        rcases List.mem_cons.mp hq with rfl | hq
        · exact .tail _ (.tail _ (List.mem_append_right TL (.tail _ (.head _))))
        rcases List.mem_cons.mp hq with rfl | hq
        · exact .head _
        rcases List.mem_cons.mp hq with rfl | hq
        · exact .tail _ (.tail _ (List.mem_append_right TL (.head _)))
        · exact .tail _ (.tail _ (List.mem_append_right TL (.tail _ (.tail _ (.tail _ (.tail _ hq))))))
      have dfK : Df ≠ K := Ne.symm (Nat.ne_of_lt (ltN (ltf (K, oK1) (.tail _ (.tail _ (.head _))))))
      have dfW : Df ≠ Wd := Ne.symm (Nat.ne_of_lt (ltN (ltf (Wd, oW2) (.tail _ (.tail _ (.tail _ (.head _)))))))
      have dfP : Df ≠ PB := Ne.symm (Nat.ne_of_lt (ltN (ltf (PB, _) (.tail _ (.head _)))))
      have dft : ∀ p ∈ x30 ++ x37, Df ≠ p.1 := fun p hp => Ne.symm (Nat.ne_of_lt (ltN (ltf p (.tail _ (.tail _ (.tail _ (.tail _ (List.mem_append_right _ hp))))))))
      clear hlt ltf ltD ltT htp Zz Nf p1 p2 p3 p4 p5 hacc htl
      walk_at "sy"
      (with_reducible rename Fr _ _ _ _ => kFj)
      (with_reducible rename News _ _ _ _ => kNj)
      refine kda_item (knd := PySem.strKind _ _) kNj (.head _) dK1 (strKind_is _ _ _ _) (valueAt_map y2) ?_
      walk_at "sy"
      (with_reducible rename News _ _ _ _ => kNk)
      refine ke_eq_ints (News.isList kNk (.tail _ (.tail _ (.tail _ (.head _))))) (News.isList kNk (.tail _ (.tail _ (.tail _ (.tail _ (.tail _ (List.mem_append_left _ hcl))))))) hys icl (by ke_room) ?_
      have hnl : ∀ d, d < 6 → ((List.range 6).map fun d => ((canon (finer (c li) (shareOf (c sp) h f)) d : Nat) : Int))[d]? = some ((canon (finer (c li) (shareOf (c sp) h f)) d : Nat) : Int) := fun d hd => by rw [List.getElem?_map, List.getElem?_range hd]; rfl
      have hnr : ∀ d, d < 6 → ((List.range 6).map fun d => ((c li d : Nat) : Int))[d]? = some ((c li d : Nat) : Int) := fun d hd => by rw [List.getElem?_map, List.getElem?_range hd]; rfl
      have hbr : ∃ (b : Bool) (q' : Nat), decide (((List.range 6).map fun d => ((canon (finer (c li) (shareOf (c sp) h f)) d : Nat) : Int)) = (List.range 6).map fun d => ((c li d : Nat) : Int)) = b ∧ (q' : Int) = (if b then (q : Int) + 1 else 0) ∧ (((∀ d, d < 6 → canon (finer (c li) (shareOf (c sp) h f)) d = c li d) ∧ q' = q + 1) ∨ ((∃ d, d < 6 ∧ canon (finer (c li) (shareOf (c sp) h f)) d ≠ c li d) ∧ q' = 0)) := by
        by_cases he : ((List.range 6).map fun d => ((canon (finer (c li) (shareOf (c sp) h f)) d : Nat) : Int)) = (List.range 6).map fun d => ((c li d : Nat) : Int)
        · refine ⟨true, q + 1, decide_eq_true he, by simp, .inl ⟨fun d hd => ?_, rfl⟩⟩
          have h1 := hnl d hd
          rw [he, hnr d hd] at h1
          have := Option.some.inj h1
          omega
        · refine ⟨false, 0, decide_eq_false he, by simp, .inr ⟨Classical.byContradiction fun hno => he (List.map_congr_left fun d hd => ?_), rfl⟩⟩
          have hd6 := List.mem_range.mp hd
          by_cases e : canon (finer (c li) (shareOf (c sp) h f)) d = c li d
          · rw [e]
          · exact absurd ⟨d, hd6, e⟩ hno
      obtain ⟨bb, q', ebb, eq', hor⟩ := hbr
      rw [ebb]
      clear hnl hnr ebb
      refine (no_index (?_ : ∀ u : Tok, (True) → _)) 0 trivial
      intro uq' eqv
      cases bb
      all_goals walk_at "sy"
      all_goals
        (with_reducible rename Fr _ _ _ _ => kFl)
        (with_reducible rename News _ _ _ _ => kNl)
        refine (no_index (?_ : ∀ (mm : Str → Option Value) (uq9 : Tok), (Fr _ _ _ mm) → (mm "heavy" = some (.ref hl)) → (mm "fits" = some (.ref fl)) → (mm "line" = some (.ref I)) → (mm "known" = some (.ref K)) → (mm "whispered" = some (.ref Wd)) → (mm "calm" = some (.int (q' : Nat) uq9)) → (mm "speaker" = some (.str sp us)) → (mm "listener" = some (.str li ul)) → _)) _ _ kFl r1 r2 r3 r4 r5 (by simp only [if_true, if_false, Bool.false_eq_true] at eq'; rw [eq']; rfl) r7 rfl
        intro mm uq9 kFm n1 n2 n3 n4 n5 n6 n7 n8
        clear kFl
        refine kda_set (knd := PySem.strKind _ _) kFm kNl (.head (fa (P := fun q => q.1 ≠ K) (Ne.symm aKW) (fa aPK (fapp (fa dfK (fa dwK fun q hq => (A1 q hq).1)) fun q hq => (A2' q hq).1)))) dK1 (strKind_is _ _ _ _) (by rw [sizeLine_eq]; simp [names3]) ?_
        intro hy oK3 Fy Ny dK3
        walk_at "sy"
        (with_reducible rename Fr _ _ _ _ => kFn)
        (with_reducible rename News _ _ _ _ => kNn)
      all_goals
        refine' push_c w mean mg mb (rest := (K, oK3) :: (Wd, oW2) :: (((Df, lst ys) :: (Dw, ({ cls := .type "list", data := .seq wits wep } : Obj)) :: S1) ++ (x30 ++ x37))) kB kFn ?xx kT ?kk ?dd ?uu f2 I dx PB nn (np + 1) k1 k2 k3 k4 tl tw ln (.str sp us) [.str ot uo] (Nat.le_of_ble_eq_true rfl) ?nw (.tail _ (.tail _ (.tail _ (.tail _ (List.mem_append_left _ hdx1))))) (.tail _ (.tail _ (.tail _ (.tail _ (List.mem_append_left _ hI1))))) ?ap ?_
        case xx => k_asm
        case kk => exact rfl
        case dd => k_room
        case uu => k_room
        case nw =>
          exact News.sub kNn fun q hq => by
            rcases List.mem_cons.mp hq with rfl | hq
            · exact .tail _ (.tail _ (.head _))
            rcases List.mem_cons.mp hq with rfl | hq
            · exact .head _
            rcases List.mem_cons.mp hq with rfl | hq
            · exact .tail _ (.head _)
            · exact .tail _ (.tail _ (.tail _ hq))
        case ap =>
          refine fa (P := fun q : Addr × Obj => q.1 ≠ PB) ?_ (fa (P := fun q : Addr × Obj => q.1 ≠ PB) ?_ (fapp (fa (P := fun q : Addr × Obj => q.1 ≠ PB) ?_ (fa (P := fun q : Addr × Obj => q.1 ≠ PB) ?_ fun q hq => (A1 q hq).2.2)) fun q hq => (A2' q hq).2.2))
          · exact Ne.symm aPK
          · exact Ne.symm aPW
          · exact dfP
          · exact dwP
        intro hv tkv Fv Nv
        walk_at "sy"
        (with_reducible rename Fr _ _ _ _ => kFo)
        (with_reducible rename News _ _ _ _ => kNo)
        obtain ⟨k', hk', hJ'⟩ := talk_turn (w := w) (S0 := S0) (PB := PB) (I := I) (hl := hl) (fl := fl) (us := ul) (ul := us) (uo := uo) (np := np + 1 + 1) (ep := wep) (uc := uq9) (m₁ := fun y => if y = Str.ofString "speaker" then some (.str li ul) else mm y) n1 n2 n3 n4 n5 n6 rfl dK3 dW2 hkv X30 X37 A1 A2' A3' xap2 ⟨dwK, dwW, dwP⟩ (fun p hp => Ne.symm (xne p hp)) ⟨dfK, dfW, dfP⟩ dft B0 C0 V0 ⟨y1, y2, y3, y4, y5, y6, y7, y8, y9⟩ hq hk0 G1 G2 hwI hys hor
        refine ⟨_, _, k', _, _, rfl, hk', kFo, News.sub kNo ?_, hJ'⟩
        intro q hq
        rcases List.mem_cons.mp hq with rfl | hq
        · exact .tail _ (.head _)
        rcases List.mem_cons.mp hq with rfl | hq
        · exact .tail _ (.tail _ (.head _))
        rcases List.mem_cons.mp hq with rfl | hq
        · exact .head _
        · exact .tail _ (.tail _ (.tail _ hq))
    · walk_at "sy"
      refine WhlIf.no (decide_eq_false (by omega)) ?_
      walk_at "sy"
      (with_reducible rename Fr h₀ _ _ _ => kFz)
      (with_reducible rename News h₀ _ _ _ => kNz)
      obtain ⟨p30, q30, hq30, _⟩ := T30
      obtain ⟨p37, q37, hq37, _⟩ := T37
      refine hret _ K Wd 0 _ _ kvW ka1 S1 c p30 p37 _ _ dK1 dW1 loK B0 C0 V0 (fun n hn => ?_) kFz (News.sub kNz ?_)
      · obtain rfl : q = 3 := by omega
        have hcase : n = sp ∨ n = li ∨ n = ot := three_in y1 y2 y3 y7 y8 y9 hn
        rcases hcase with rfl | rfl | rfl
        · exact G3 (by decide)
        · exact G2 (by decide)
        · exact G1 (by decide)
      · intro q hq
        rcases List.mem_cons.mp hq with rfl | hq
        · exact .head _
        rcases List.mem_cons.mp hq with rfl | hq
        · exact .tail _ (.head _)
        rcases List.mem_cons.mp hq with rfl | hq
        · exact .tail _ (.tail _ (.head _))
        rcases List.mem_cons.mp hq with rfl | hq
        · exact .tail _ (.tail _ (.tail _ (.tail _ (List.mem_append_right _ (List.mem_append_left _ (by rw [hq30]; exact .head _))))))
        rcases List.mem_cons.mp hq with rfl | hq
        · exact .tail _ (.tail _ (.tail _ (.tail _ (List.mem_append_right _ (List.mem_append_right _ (by rw [hq37]; exact .head _))))))
        · exact .tail _ (.tail _ (.tail _ (.tail _ (List.mem_append_left _ hq))))
end
section
open PySem PySem.Spec PySem.Calls PySem.W PyProof.Rows PyProof.Rows.LCg
theorem ints_allV {g : Nat → Nat} {l : List Nat} {ys : List Value} (h : IntsAre ys (l.map fun d => ((g d : Nat) : Int))) : AllV (fun (d : Nat) v => ∃ t, v = .int ((g d : Nat) : Int) t) l ys := by
  induction l generalizing ys with
  | nil => cases h; exact .nil
  | cons a l ih =>
    cases h with
    | cons n t h => exact .cons ⟨_, rfl⟩ (ih h)
theorem ints_at6 {g : Nat → Nat} {ys : List Value} (h : IntsAre ys ((List.range 6).map fun d => ((g d : Nat) : Int))) {d : Nat} (hd : d < 6) : ∃ t, ys.toArray[((d : Nat) : Int).toNat]? = some (.int ((g d : Nat) : Int) t) := by
  have := ints_get h (show ((List.range 6).map fun d => ((g d : Nat) : Int))[d]? = some ((g d : Nat) : Int) by rw [List.getElem?_map, List.getElem?_range hd]; rfl)
  simpa using this
inductive J23a (c : Str → Nat → Nat) (K L1 : Addr) (news : Led) (i : Nat) (m₁ : Str → Option Value) (news₁ : Led) : Prop
  | mk : m₁ "known" = some (.ref K) → ∀ (D : Addr) (us : List Value) (cc : Nat) (bl : Nat → Nat) (y1 y2 : Option Value) (x1 x2 : Obj), m₁ "block" = some (.ref D) → news₁ = (D, listOf us.toArray cc) :: ((L1 + 1 + 1), x1) :: ((L1 + 1), x2) :: news → x1.data = .cell y1 → x2.data = .cell y2 → IntsAre us ((List.range 6).map fun d => ((bl d : Nat) : Int)) → Tight c bl → (∀ n ∈ names3.take i, ∀ k, k < 6 → bl k = bl (c n k)) → (∀ p ∈ ((L1 + 1 + 1), x1) :: ((L1 + 1), x2) :: news, p.1 < D) → J23a c K L1 news i m₁ news₁
inductive J23b (c : Str → Nat → Nat) (K L1 It : Addr) (oI : Obj) (n : Str) (tn : Tok) (i : Nat) (news : Led) (j : Nat) (m₁ : Str → Option Value) (news₁ : Led) : Prop
  | mk : m₁ "known" = some (.ref K) → m₁ "name" = some (.str n tn) → ∀ (D : Addr) (us : List Value) (cc : Nat) (bl : Nat → Nat) (y1 y2 : Option Value) (x1 x2 : Obj), m₁ "block" = some (.ref D) → news₁ = (It, oI) :: (D, listOf us.toArray cc) :: ((L1 + 1 + 1), x1) :: ((L1 + 1), x2) :: news → x1.data = .cell y1 → x2.data = .cell y2 → IntsAre us ((List.range 6).map fun d => ((bl d : Nat) : Int)) → Tight c bl → (∀ n ∈ names3.take i, ∀ k, k < 6 → bl k = bl (c n k)) → (∀ k, k < j → bl k = bl (c n k)) → (∀ p ∈ ((L1 + 1 + 1), x1) :: ((L1 + 1), x2) :: news, p.1 < D) → D ≠ It → J23b c K L1 It oI n tn i news j m₁ news₁
set_option maxRecDepth 100000 in
set_option maxHeartbeats 8000000 in
theorem blocks_c (w : World) (mean : ExcName → Option Value) (mg mb : Str → Option Value) {p : Program} {loose : List Str}
    {dp un : Nat} {gd : Option (List Code)} {cn : Str} {cs : Scope} {a : Addr} {ccd : Value} {cl : List (Str × Addr)} {outer : List Env} {A₀ : Around} {base h₀ : Heap} {L : Addr} {m : Str → Option Value} {news : Led} {s : Shared} {Q E : Value → Shared → Prop}
    (B : Below A₀ base outer h₀) (F : Fr h₀ L s.heap m) (X : (Mine.hd.heap_39 w.params).In h₀) (T : Top p loose mean mg mb h₀) (hk : cs.kind = .function)
    (hd : dp + 10 < recursionLimit) (hu : un + 100 < cLine) (N : News h₀ L s.heap news)
    (K : Addr) (oK : Obj) (ka : Str → Addr) (c : Str → Nat → Nat) (hK : (K, oK) ∈ news) (hKd : oK.IsDictOf (PySem.strKind PySem.Challenge.rw_sn0056_01.prog w) (names3.map fun n => (n, Value.ref (ka n)))) (lo : (K == sysModules) = false)
    (hc : ∀ n ∈ names3, ∃ ys : List Value, (ka n, ({ cls := .type "list", data := .seq ys.toArray ys.length } : Obj)) ∈ news ∧ IntsAre ys ((List.range 6).map fun d => ((c n d : Nat) : Int))) (hv : ∀ n ∈ names3, Valid (c n))
    (hret : ∀ (D : Addr) (ys : List Value) (h' : Heap) (tk' : Tok) (bl : Nat → Nat) (cc : Nat), IntsAre ys ((List.range 6).map fun d => ((bl d : Nat) : Int)) → (∀ n ∈ names3, ∀ k, k < 6 → bl k = bl (c n k)) → Tight c bl → (∀ p ∈ news, p.1 < D) →
      Fr h₀ L h' m → News h₀ L h' ((D, ({ cls := .type "list", data := .seq ys.toArray cc } : Obj)) :: news) → Q (.ref D) { s with heap := h', toks := tk' }) :
    wpAny (model PySem.Challenge.rw_sn0056_01.prog w) (ktrTop dp un gd cn cs L a ccd cl outer) (call (.ref 181) [.ref K]) Q E s := by
  revert X; k_fill; intro X
  walk_at "my enterC"
  rename_i g1 L1 h1 tk1 FG1 F1 B1 X1 T1 lt1 o1 o2 d1 d2 N1
  replace d1 : o1.data = .cell none := d1
  replace d2 : o2.data = .cell none := d2
  iterate 14 walk_at "s1"
  (with_reducible rename Fr _ _ _ _ => kF)
  (with_reducible rename News _ _ _ _ => kN)
  (with_reducible rename IsRange _ _ _ _ _ _ _ _ => hR)
  refine kll_range (n := 6) rfl kF kN hR (by decide) (by decide) (by decide) ?_
  intro D0 us cc h2 tk2 F2 N2 lt0 hI0
  iterate 3 walk_at "s1"
  (with_reducible rename Fr _ _ _ _ => kF3)
  (with_reducible rename News _ _ _ _ => kN3)
  refine (no_index (?_ : ∀ (mm : Str → Option Value), (Fr _ _ _ mm) → (mm "known" = some (.ref K)) → (mm "block" = some (.ref D0)) → _)) _ kF3 rfl rfl
  intro mm kF4 m1 m2
  clear kF3
  have hI1 : IntsAre us ((List.range 6).map fun d => ((d : Nat) : Int)) := hI0
  have bJ : ∃ bl : Nat → Nat, IntsAre us ((List.range 6).map fun d => ((bl d : Nat) : Int)) ∧ Tight c bl := ⟨fun d => d, hI1, Tight.id c⟩
  obtain ⟨bl0, hI2, tg0⟩ := bJ
  have nb1 : ∀ p ∈ news, p.1 ≠ L1 + 1 := fun p hp => Nat.ne_of_lt (by have := ltN (lt1 p hp); omega)
  have nb2 : ∀ p ∈ news, p.1 ≠ L1 + 1 + 1 := fun p hp => Nat.ne_of_lt (by have := ltN (lt1 p hp); omega)
  have n12 : L1 + 1 ≠ L1 + 1 + 1 := Nat.ne_of_lt (by omega)
  clear hI0 hI1 hR
  refine For_F kF4 ((names3.map fun n => (n, Value.ref (ka n))).map (·.1)) (fun (k : Str) v => ∃ t, v = .str k t) (J23a c K L1 news) (fun _ => rfl) ?_
  walk_at "sy"
  (with_reducible rename Fr _ _ _ _ => kF5)
  (with_reducible rename News _ _ _ _ => kN5)
  refine for_dict rfl kF5 kN5 (.tail _ (.tail _ (.tail _ hK))) hKd lo ⟨m1, D0, us, cc, bl0, none, none, o1, o2, m2, rfl, d1, d2, hI2, tg0, fun n hn => by (cases hn), lt0⟩ (fun i m₁ news₁ hJ => by obtain ⟨_, _, _, _, _, _, _, _, _, _, rfl, _⟩ := hJ; exact .tail _ (.tail _ (.tail _ hK))) ?_ ?_
  · intro i n tn m₁ news₁ It oI h tk hi hP9_34 F5 N5 off
    obtain ⟨f1, D, us, cc, bl, y1, y2, x1, x2, f2, rfl, dx1, dx2, hI, tg, dn, ltD⟩ := hP9_34
    have hi' : names3[i]? = some n := by simpa using hi
    have hn : n ∈ names3 := List.mem_of_getElem? hi'
    have hIt1 : It ≠ (L1 + 1) := Ne.symm (off ((L1 + 1), x2) (.tail _ (.tail _ (.head _))))
    have hIt2 : It ≠ (L1 + 1 + 1) := Ne.symm (off ((L1 + 1 + 1), x1) (.tail _ (.head _)))
    have hItn : ∀ q ∈ news, q.1 ≠ It := fun q hq => off q (.tail _ (.tail _ (.tail _ hq)))
    obtain ⟨ks, hks, iks⟩ := hc n hn
    walk_at "sy"
    (with_reducible rename Fr _ _ _ _ => kF6)
    (with_reducible rename News _ _ _ _ => kN6)
    refine (no_index (?_ : ∀ (m3 : Str → Option Value), (Fr _ _ _ m3) → (m3 "known" = some (.ref K)) → (m3 "block" = some (.ref D)) → (m3 "name" = some (.str n tn)) → _)) _ kF6 f1 f2 rfl
    intro m3 kF7 m31 m32 m33
    clear kF6
    refine For_F kF7 (List.range 6) (fun (i : Nat) v => ∃ t, v = .int (i : Int) t) (J23b c K L1 It oI n tn i news) (fun _ => rfl) ?_
    iterate 7 walk_at "s1"
    (with_reducible rename Fr _ _ _ _ => kF8)
    (with_reducible rename News _ _ _ _ => kN8)
    (with_reducible rename IsRange _ _ _ _ _ _ _ _ => hR2)
    refine for_range (n := 6) rfl kF8 kN8 hR2 (by decide) ⟨m31, m33, D, us, cc, bl, y1, y2, x1, x2, m32, rfl, dx1, dx2, hI, tg, dn, fun k hk => absurd hk (Nat.not_lt_zero k), ltD, off (D, _) (.head _)⟩ ?_ ?_
    · clear kN8 kF8 hR2 dx1 dx2 hI tg dn ltD off
      intro k tk3 m₂ news₂ I2 oI2 h9 tk9 hk hP9_35 F9 N9 off
      obtain ⟨e1, e2, D, us, cc, bl, y1, y2, x1, x2, e3, rfl, dx1, dx2, hI, tg, dn, dk, ltD, hDIt⟩ := hP9_35
      have hI21 : I2 ≠ (L1 + 1) := Ne.symm (off ((L1 + 1), x2) (.tail _ (.tail _ (.tail _ (.head _)))))
      have hI22 : I2 ≠ (L1 + 1 + 1) := Ne.symm (off ((L1 + 1 + 1), x1) (.tail _ (.tail _ (.head _))))
      have hItn2 : ∀ q ∈ news, q.1 ≠ I2 := fun q hq => off q (.tail _ (.tail _ (.tail _ (.tail _ hq))))
      have hD1 : D ≠ (L1 + 1) := Nat.ne_of_gt (ltN (ltD ((L1 + 1), x2) (.tail _ (.head _))))
      have hD2 : D ≠ (L1 + 1 + 1) := Nat.ne_of_gt (ltN (ltD ((L1 + 1 + 1), x1) (.head _)))
      have h21 : (L1 + 1 + 1) ≠ (L1 + 1) := Ne.symm n12
      have hkc : c n k ≤ k := (hv n hn k hk).1
      obtain ⟨tb, hb⟩ := ints_at6 hI hk
      obtain ⟨tb2, hb2⟩ := ints_at6 hI (show c n k < 6 by omega)
      obtain ⟨tc, hcx⟩ := ints_at6 iks hk
      walk_at "sy"
      (with_reducible rename News _ _ _ _ => kNa)
      refine kda_item (knd := PySem.strKind _ _) kNa (.tail _ (.tail _ (.tail _ (.tail _ (.tail _ hK))))) hKd (strKind_is _ _ _ _) (valueAt_map hn) ?_
      walk_at "sy"
      (with_reducible rename Fr _ _ _ _ => kFb)
      (with_reducible rename News _ _ _ _ => kNb)
      refine (no_index (?_ : ∀ (m4 : Str → Option Value), (Fr _ _ _ m4) → (m4 "known" = some (.ref K)) → (m4 "block" = some (.ref D)) → (m4 "name" = some (.str n tn)) → _)) _ kFb e1 e3 e2
      intro m4 kFc q1 q2 q3
      clear kFb
      (with_reducible rename _ = Data.cell (some (Value.int (List.getD _ _ _) _)) => dz1)
      have hgd : ((List.range 6).map fun d => ((bl d : Nat) : Int)).getD (((c n k : Nat) : Int).toNat) 0 = ((bl (c n k) : Nat) : Int) := by
        rw [List.getD_eq_getElem?_getD, List.getElem?_map, List.getElem?_range (by omega)]; rfl
      rw [hgd] at dz1
      (with_reducible rename _ = Data.cell (some (Value.int (bl k : Int) _)) => dz2)
      refine Assign_ListComp_M kFc (List.range 6) (fun (d : Nat) v => ∃ t, v = .int (bl d : Int) t) (fun _ => true) (fun d y tl => tl = [] ∧ ∃ t, y = .int (mergeB bl (bl k) (bl (c n k)) d : Int) t) (fun _ v m₁ => m₁ "b" = some v) rfl (by with_unfolding_all rfl) (by with_unfolding_all rfl) (by decide) rfl (by decide) rfl rfl ?_ (fun _ => rfl)
      walk_at "sy"
      (with_reducible rename Fr _ _ _ _ => kFd)
      (with_reducible rename News _ _ _ _ => kNd)
      have hIV : AllV (fun (d : Nat) v => ∃ t, v = .int ((bl d : Nat) : Int) t) (List.range 6) us.toArray.toList := ints_allV hI
      refine comp_list (its := us.toArray) (n := cc) rfl kFd kNd (.tail _ (.tail _ (.head _))) hIV (Nat.le_of_ble_eq_true rfl) rfl rfl ?_ ?_ ?_
      · intro d v C oC mm own s Q E' hd hP9_36 hB hC F7 N7 hQ
        obtain ⟨tv, rfl⟩ := hP9_36
        exact test_nil (hQ _ _ (by k_asm) (by k_asm))
      · intro d v C oC mm own s Q E' hd hP9_37 hp hB hC F7 N7 hQ
        obtain ⟨tv, rfl⟩ := hP9_37
        walk_at "sy"
        · have he : ((bl d : Nat) : Int) = ((bl (c n k) : Nat) : Int) := by assumption
          refine hQ _ _ _ ⟨tb, ?_⟩ (by k_asm) (by k_asm)
          unfold mergeB
          rw [if_pos (by omega)]
        · have he : ¬ ((bl d : Nat) : Int) = ((bl (c n k) : Nat) : Int) := by assumption
          refine hQ _ _ _ ⟨tv, ?_⟩ (by k_asm) (by k_asm)
          unfold mergeB
          rw [if_neg (by omega)]
      · intro D2 ys2 h12 tk12 hys2 hD2 F12 N12 h13 tk13 F13 N13
        simp only [List.nil_append] at N13
        have hI3 : IntsAre ys2 ((List.range 6).map fun d => ((mergeB bl (bl k) (bl (c n k)) d : Nat) : Int)) := AllV.ints (show AllV _ (List.range 6) ys2 from hys2)
        walk_at "sx"
        have hD2t := hD2 (It, oI) (.tail _ (.head _))
        have hD2i := hD2 (I2, oI2) (.head _)
        refine ⟨_, _, _, (It, oI) :: (D2, lst ys2) :: (L1 + 1 + 1, _) :: (L1 + 1, _) :: news, rfl, F13, News.sub N13 fun q hq => ?_, fun q hq => ?_, q1, q3, D2, ys2, ys2.length, mergeB bl (bl k) (bl (c n k)), _, _, _, _, rfl, rfl, dz1, dz2, hI3, tg.merge hn hk (by omega), fun n' hn' k' hk' => mergeB_keep (dn n' hn' k' hk'), fun k' hk' => ?_, fun q hq => hD2 q (.tail _ (.tail _ (.tail _ hq))), Nat.ne_of_gt (ltN hD2t)⟩
        · rcases List.mem_cons.mp hq with rfl | hq
          · exact .tail _ (.head _)
          rcases List.mem_cons.mp hq with rfl | hq
          · exact .tail _ (.tail _ (.head _))
          rcases List.mem_cons.mp hq with rfl | hq
          · exact .head _
          · exact .tail _ (.tail _ (.tail _ (.tail _ hq)))
        · rcases List.mem_cons.mp hq with rfl | hq
          · exact off (It, oI) (.head _)
          rcases List.mem_cons.mp hq with rfl | hq
          · exact Nat.ne_of_gt (ltN hD2i)
          rcases List.mem_cons.mp hq with rfl | hq
          · exact Ne.symm hI22
          rcases List.mem_cons.mp hq with rfl | hq
          · exact Ne.symm hI21
          · exact hItn2 q hq
        · rcases Nat.lt_succ_iff_lt_or_eq.mp hk' with hk' | rfl
          · exact mergeB_keep (dk k' hk')
          · exact mergeB_join
    · intro h' tk m₂ news₂ hP9_38 F9 N9
      obtain ⟨e1, e2, D, us, cc, bl, y1, y2, x1, x2, e3, rfl, dx1, dx2, hI, tg, dn, dk, ltD, hDIt⟩ := hP9_38
      walk_at "sx"
      refine ⟨_, _, _, (D, listOf us.toArray cc) :: (L1 + 1 + 1, x1) :: (L1 + 1, x2) :: news, rfl, F9, N9, fun q hq => ?_, e1, D, us, cc, bl, _, _, _, _, e3, rfl, dx1, dx2, hI, tg, fun n' hn' => ?_, ltD⟩
      · rcases List.mem_cons.mp hq with rfl | hq
        · exact hDIt
        rcases List.mem_cons.mp hq with rfl | hq
        · exact Ne.symm hIt2
        rcases List.mem_cons.mp hq with rfl | hq
        · exact Ne.symm hIt1
        · exact hItn q hq
      · rw [take_next hi'] at hn'
        rcases List.mem_append.mp hn' with hn' | hn'
        · exact dn n' hn'
        · rw [List.mem_singleton.mp hn']; exact dk
  · intro h' tk m₁ news₁ hP9_39 F5 N5
    obtain ⟨f1, D, us, cc, bl, y1, y2, x1, x2, f2, rfl, dx1, dx2, hI, tg, dn, ltD⟩ := hP9_39
    walk_at "ss"
    (with_reducible rename Fr h₀ L _ m => kFz)
    (with_reducible rename News h₀ L _ _ => kNz)
    exact hret D us _ _ bl cc hI (fun n hn => dn n hn) tg (fun q hq => ltD q (.tail _ (.tail _ hq))) kFz (News.sub kNz fun q hq => by
      rcases List.mem_cons.mp hq with rfl | hq
      · exact .head _
      · exact .tail _ (.tail _ (.tail _ hq)))
end
section
open PySem PySem.Spec PySem.Calls PySem.W PyProof.Rows PyProof.Rows.LCg
theorem hsv_h (w : World) (mean : ExcName → Option Value) (mg mb : Str → Option Value) {p : Program} {loose : List Str}
    {dp un : Nat} {gd : Option (List Code)} {cn : Str} {cs : Scope} {a : Addr} {ccd : Value} {cl : List (Str × Addr)} {outer : List Env} {A₀ : Around} {base h₀ : Heap} {L : Addr} {m : Str → Option Value} {news : Led} {s : Shared} {Q E : Value → Shared → Prop}
    (B : Below A₀ base outer h₀) (F : Fr h₀ L s.heap m) (X : (Mine.hd.heap_39 w.params).In h₀) (N : News h₀ L s.heap news) (T : Top p loose mean mg mb h₀) (hk : cs.kind = .function)
    (hd : dp + 2 < recursionLimit) (hu : un + 30 < cLine) (a0 a1 a2 : Nat) (l0 : a0 < 3) (l1 : a1 < 3) (l2 : a2 < 3) (t1 t2 t3 : Tok)
    (hret : ∀ h' tk' t' r x y, s.toks ≤ tk' → Fr h₀ L h' m → News h₀ L h' ((r, { cls := .type "tuple", data := .seq #[x, y, .float (hf (max a0 (max a1 a2))) t'] }) :: news) → Q (.ref r) { s with heap := h', toks := tk' }) :
    wpAny (model PySem.Challenge.rw_sn0056_01.prog w) (ktrTop dp un gd cn cs L a ccd cl outer) (call (.ref 70) [.float (hf a0) t1, .float (hf a1) t2, .float (hf a2) t3]) Q E s := by
  obtain ⟨tM, hM⟩ := mx3_hf l0 l1 l2 t1 t2 t3
  obtain ⟨tn, hn⟩ := mn3_hf l0 l1 l2 t1 t2 t3
  refine wpAny_with_toks (n := s.toks) (Nat.le_refl _) (hsv_c w mean mg mb B F X N T hk hd hu _ _ _ _ _ t1 t2 t3 tM tn hM hn (hf_hsv _ (by omega) _ (by omega) (by omega)) ?_)
  exact fun h' tk' t' r x y F' N' hle => hret h' tk' t' r x y hle F' N'
theorem hls_h (w : World) (mean : ExcName → Option Value) (mg mb : Str → Option Value) {p : Program} {loose : List Str}
    {dp un : Nat} {gd : Option (List Code)} {cn : Str} {cs : Scope} {a : Addr} {ccd : Value} {cl : List (Str × Addr)} {outer : List Env} {A₀ : Around} {base h₀ : Heap} {L : Addr} {m : Str → Option Value} {news : Led} {s : Shared} {Q E : Value → Shared → Prop}
    (B : Below A₀ base outer h₀) (F : Fr h₀ L s.heap m) (X : (Mine.hd.heap_39 w.params).In h₀) (N : News h₀ L s.heap news) (T : Top p loose mean mg mb h₀) (hk : cs.kind = .function)
    (hd : dp + 2 < recursionLimit) (hu : un + 30 < cLine) (a0 a1 a2 : Nat) (l0 : a0 < 3) (l1 : a1 < 3) (l2 : a2 < 3) (t1 t2 t3 : Tok)
    (hret : ∀ h' tk' t' r x y, s.toks ≤ tk' → Fr h₀ L h' m → News h₀ L h' ((r, { cls := .type "tuple", data := .seq #[x, .float (Float64.div (Float64.add (hf (max a0 (max a1 a2))) (hf (min a0 (min a1 a2)))) 0x4000000000000000) t', y] }) :: news) → Q (.ref r) { s with heap := h', toks := tk' }) :
    wpAny (model PySem.Challenge.rw_sn0056_01.prog w) (ktrTop dp un gd cn cs L a ccd cl outer) (call (.ref 63) [.float (hf a0) t1, .float (hf a1) t2, .float (hf a2) t3]) Q E s := by
  obtain ⟨tM, hM⟩ := mx3_hf l0 l1 l2 t1 t2 t3
  obtain ⟨tn, hn⟩ := mn3_hf l0 l1 l2 t1 t2 t3
  refine wpAny_with_toks (n := s.toks) (Nat.le_refl _) (hls_c w mean mg mb B F X N T hk hd hu _ _ _ _ _ t1 t2 t3 tM tn hM hn (fun hne => ⟨hf_hls1 _ (by omega) _ (by omega) (by omega) hne, (hf_hsv _ (by omega) _ (by omega) (by omega) hne).2, hf_hls2 _ (by omega) _ (by omega) (by omega) hne⟩) ?_)
  exact fun h' tk' t' r x y F' N' hle => hret h' tk' t' r x y hle F' N'
end
section
open PySem PySem.Spec PySem.Calls PySem.W PyProof.Rows PyProof.Rows.LCg
noncomputable def ttl (j b x y z : Nat) : Str := leadOf j ++ bareOf b ++ Str.ofString ": " ++ lettersOf x y z
noncomputable def goodOf (x y z : Nat) : Bool := (x == 0 || y == 0) && z == 1
noncomputable def stripOk (t y : Str) : Bool := decide (t.length ≤ 40) && decide (Txt.find t (Str.ofString "\n") = -1) && decide (0 ≤ find4 t (Str.ofString ":") 0 t.length) &&
  (if 0 ≤ rfind4 t (Str.ofString ".") 0 (find4 t (Str.ofString ":") 0 t.length) then decide (Txt.slice t (some (rfind4 t (Str.ofString ".") 0 (find4 t (Str.ofString ":") 0 t.length) + 1)) (some (find4 t (Str.ofString ":") 0 t.length)) = y)
   else decide (Txt.slice t (some 0) (some (find4 t (Str.ofString ":") 0 t.length)) = y))
noncomputable def matchOk (g : Str) (r : Bool) : Bool := decide (find4 g ⟨#[]⟩ 0 ((g.length : Int) - (1 : Nat)) = 0) && decide (0 ≤ find4 g ⟨#[58, 32]⟩ 0 ((g.length : Int) - (1 : Nat))) && decide (g.length ≤ 40) && decide (1 ≤ g.length) &&
  ((Txt.endswith g (Str.ofString "b") && decide (0 ≤ find4 g ⟨#[97]⟩ (find4 g ⟨#[58, 32]⟩ 0 ((g.length : Int) - (1 : Nat)) + 2) ((g.length : Int) - (1 : Nat)))) == r)
theorem strip_all : ∀ j, j < 3 → ∀ b, b < 2 → ∀ x, x < 2 → ∀ y, y < 2 → ∀ z, z < 2 → stripOk (ttl j b x y z) (bareOf b) = true := by decide +kernel
theorem match_all : ∀ j, j < 3 → ∀ b, b < 2 → ∀ x, x < 2 → ∀ y, y < 2 → ∀ z, z < 2 → matchOk (ttl j b x y z) (goodOf x y z) = true := by decide +kernel
theorem strip_t (w : World) (mean : ExcName → Option Value) (mg mb : Str → Option Value) {p : Program} {loose : List Str}
    {dp un : Nat} {gd : Option (List Code)} {cn : Str} {cs : Scope} {a : Addr} {ccd : Value} {cl : List (Str × Addr)} {outer : List Env} {A₀ : Around} {base h₀ : Heap} {L : Addr} {m : Str → Option Value} {news : Led} {s : Shared} {Q E : Value → Shared → Prop}
    (B : Below A₀ base outer h₀) (F : Fr h₀ L s.heap m) (X : (Mine.hd.heap_39 w.params).In h₀) (N : News h₀ L s.heap news) (T : Top p loose mean mg mb h₀) (hk : cs.kind = .function)
    (hd : dp + 2 < recursionLimit) (hu : un + 30 < cLine) (x y : Str) (t1 : Tok) (ok : stripOk x y = true)
    (hret : ∀ h' tk' t', Fr h₀ L h' m → News h₀ L h' news → Q (.str y t') { s with heap := h', toks := tk' }) :
    wpAny (model PySem.Challenge.rw_sn0056_01.prog w) (ktrTop dp un gd cn cs L a ccd cl outer) (call (.ref 84) [.str x t1]) Q E s := by
  simp only [stripOk, Bool.and_eq_true, decide_eq_true_eq] at ok
  obtain ⟨⟨⟨h1, h2⟩, h3⟩, h4⟩ := ok
  refine strip_c w mean mg mb B F X N T hk hd hu x t1 h1 h2 _ _ rfl h3 rfl y (fun h => ?_) (fun h => ?_) hret
  · rw [if_pos h] at h4; exact of_decide_eq_true h4
  · rw [if_neg h] at h4; exact of_decide_eq_true h4
theorem match_t (w : World) (mean : ExcName → Option Value) (mg mb : Str → Option Value) {p : Program} {loose : List Str}
    {dp un : Nat} {gd : Option (List Code)} {cn : Str} {cs : Scope} {a : Addr} {ccd : Value} {cl : List (Str × Addr)} {outer : List Env} {A₀ : Around} {base h₀ : Heap} {L : Addr} {m : Str → Option Value} {news : Led} {s : Shared} {Q E : Value → Shared → Prop}
    (B : Below A₀ base outer h₀) (F : Fr h₀ L s.heap m) (X : (Mine.hd.heap_39 w.params).In h₀) (N : News h₀ L s.heap news) (T : Top p loose mean mg mb h₀) (hk : cs.kind = .function)
    (hd : dp + 2 < recursionLimit) (hu : un + 60 < cLine) (g : Str) (t1 t2 : Tok) (r : Bool) (ok : matchOk g r = true)
    (hret : ∀ h' tk', Fr h₀ L h' m → News h₀ L h' news → Q (.bool r) { s with heap := h', toks := tk' }) :
    wpAny (model PySem.Challenge.rw_sn0056_01.prog w) (ktrTop dp un gd cn cs L a ccd cl outer) (call (.ref 77) [.str (Str.ofString "...: ...a...b") t1, .str g t2]) Q E s := by
  simp only [matchOk, Bool.and_eq_true, decide_eq_true_eq] at ok
  obtain ⟨⟨⟨⟨h1, h2⟩, h3⟩, h4⟩, h5⟩ := ok
  refine match_c w mean mg mb B F X N T hk hd hu g t1 t2 _ _ h1 rfl h2 rfl ?_ h3 h4
  rw [eq_of_beq h5]
  exact hret
/-- the letters of a day -/
noncomputable def lA (x : Int) : Nat := (((x.fdiv 54).fdiv ((1 : Nat) : Int)).fmod 2).toNat
noncomputable def lB (x : Int) : Nat := (((x.fdiv 54).fdiv ((2 : Nat) : Int)).fmod 2).toNat
noncomputable def lC (x : Int) : Nat := (((x.fdiv 54).fdiv ((4 : Nat) : Int)).fmod 2).toNat
theorem two_lt (x : Int) : (x.fmod 2).toNat < 2 := (fmn x 2 (by decide)).2
theorem dJ_lt (k : Nat) : dJ k < 3 := (fmn (k : Int) 3 (by decide)).2
theorem strip_day (x : Int) (k : Nat) : stripOk (dTitle x k) (bareOf (dB x)) = true := strip_all _ (dJ_lt k) _ (two_lt _) _ (two_lt _) _ (two_lt _) _ (two_lt _)
theorem match_day (x : Int) (k : Nat) : matchOk (dTitle x k) (goodOf (lA x) (lB x) (lC x)) = true := match_all _ (dJ_lt k) _ (two_lt _) _ (two_lt _) _ (two_lt _) _ (two_lt _)
theorem let_in : ∀ x, x < 2 → ∀ y, y < 2 → ∀ z, z < 2 → (!(Builtin.Str.occurrences (Txt.slice (lettersOf x y z) none (some 2)) (Str.ofString "a") 0 (Txt.slice (lettersOf x y z) none (some 2)).length 1).isEmpty) = (x == 0 || y == 0) := by decide +kernel
theorem let_b : ∀ x, x < 2 → ∀ y, y < 2 → ∀ z, z < 2 → (Txt.item (lettersOf x y z) 2 == Str.ofString "b") = (z == 1) := by decide +kernel
theorem good_no (x : Int) {lt : Str} (h : lt = dL x) (he : (Builtin.Str.occurrences (Txt.slice lt none (some 2)) (Str.ofString "a") 0 (Txt.slice lt none (some 2)).length 1).isEmpty = true) :
    Value.bool (!(Builtin.Str.occurrences (Txt.slice lt none (some 2)) (Str.ofString "a") 0 (Txt.slice lt none (some 2)).length 1).isEmpty) = Value.bool (goodOf (lA x) (lB x) (lC x)) := by
  subst h
  have h1 := let_in (lA x) (two_lt _) (lB x) (two_lt _) (lC x) (two_lt _)
  have h2 : (!(Builtin.Str.occurrences (Txt.slice (dL x) none (some 2)) (Str.ofString "a") 0 (Txt.slice (dL x) none (some 2)).length 1).isEmpty) = (lA x == 0 || lB x == 0) := h1
  rw [he] at h2 ⊢
  unfold goodOf
  rw [← h2]
  rfl
theorem good_yes (x : Int) {lt : Str} (h : lt = dL x) (he : (Builtin.Str.occurrences (Txt.slice lt none (some 2)) (Str.ofString "a") 0 (Txt.slice lt none (some 2)).length 1).isEmpty = false) :
    Value.bool (Txt.item lt 2 == Str.ofString "b") = Value.bool (goodOf (lA x) (lB x) (lC x)) := by
  subst h
  have h1 := let_in (lA x) (two_lt _) (lB x) (two_lt _) (lC x) (two_lt _)
  have h2 : (!(Builtin.Str.occurrences (Txt.slice (dL x) none (some 2)) (Str.ofString "a") 0 (Txt.slice (dL x) none (some 2)).length 1).isEmpty) = (lA x == 0 || lB x == 0) := h1
  have h3 : (Txt.item (dL x) 2 == Str.ofString "b") = (lC x == 1) := let_b (lA x) (two_lt _) (lB x) (two_lt _) (lC x) (two_lt _)
  rw [he] at h2
  unfold goodOf
  rw [← h2, h3]
  rfl
end
section
open PySem PySem.Spec PySem.Calls PySem.W PyProof.Rows PyProof.Rows.LCg
open PyProof
theorem slc_at {x : Str} {i c : Nat} (h : x.cps[i]? = some c) : slc x i = ⟨#[c]⟩ := by
  have hlt : i < x.cps.size := (Array.getElem?_eq_some_iff.mp h).1
  have e : slc x i = _ := StrLaws.sliceText_nat x (a := i) (b := i + 1) (by omega) (by unfold Str.length; omega)
  rw [e]
  have h2 : x.cps.toList.drop i = c :: x.cps.toList.drop (i + 1) := by
    have hl : i < x.cps.toList.length := by simpa using hlt
    rw [List.drop_eq_getElem_cons hl]
    congr 1
    rw [← Array.getElem?_toList, List.getElem?_eq_getElem hl] at h
    exact Option.some.inj h
  rw [h2, show i + 1 - i = 1 by omega]
  rfl
theorem slc_end {x : Str} (h : 0 < x.length) : slc x x.length = Str.ofString "" := by
  unfold slc Txt.slice
  have e : Builtin.Str.strSliceIndices (some (x.length : Int)) (some ((x.length : Int) + 1)) 1 x.length = [] := by
    have h1 : ¬ ((x.length : Int) < 0) := by omega
    have h2 : ¬ ((x.length : Int) + 1 < 0) := by omega
    have h4 : max (0 : Int) (min ((x.length : Int) + 1) (x.length : Int)) = x.length := by rw [Int.min_eq_right (Int.le_add_of_nonneg_right (by decide)), Int.max_eq_right (Int.natCast_nonneg _)]
    simp [Builtin.Str.strSliceIndices, sliceRange, h1, h2, h4]
  rw [e, if_neg (by simp; omega)]
  rfl
theorem get_app {x y z : Str} {j : Nat} (h : j < y.length) : (x ++ y ++ z).cps[x.length + j]? = y.cps[j]? := by
  unfold Str.length at *
  rw [Str.cps_append, Str.cps_append, Array.getElem?_append_left (by simp; omega), Array.getElem?_append_right (by omega)]
  congr 1
  omega
theorem slc_app {x y z : Str} {j : Nat} (h : j < y.length) : slc (x ++ y ++ z) (x.length + j) = slc y j := by
  have hj : j < y.cps.size := h
  have e : y.cps[j]? = some y.cps[j] := Array.getElem?_eq_getElem hj
  rw [slc_at e, slc_at ((get_app h).trans e)]
theorem slc_len {x : Str} {j : Nat} (h : j < x.length) : (slc x j).length = 1 := by
  have hj : j < x.cps.size := h
  rw [slc_at (Array.getElem?_eq_getElem hj)]
  rfl
theorem tokOf_take {w : Str} : ∀ {n : Nat}, n ≤ w.length → tokOf (slc w) n = ⟨(w.cps.toList.take n).toArray⟩
  | 0, _ => rfl
  | n + 1, h => by
    have hj : n < w.cps.size := h
    show tokOf (slc w) n ++ slc w n = _
    rw [tokOf_take (by omega), slc_at (Array.getElem?_eq_getElem hj)]
    apply Str.ext'
    rw [Str.cps_append]
    have hl : n < w.cps.toList.length := by simpa using hj
    rw [List.take_add_one, List.getElem?_eq_getElem hl]
    simp
theorem tokOf_word (w : Str) : tokOf (slc w) w.length = w := by
  rw [tokOf_take (Nat.le_refl _)]
  apply Str.ext'
  show (w.cps.toList.take w.cps.size).toArray = w.cps
  rw [← Array.length_toList, List.take_length]
inductive Bd (w : Str) : Str → Prop
  | plain : Bd w w
  | quoted : Bd w (Str.ofString "\"" ++ w ++ Str.ofString "\"")
  | slashed : Bd w (Str.ofString "\\" ++ w)
noncomputable def WsC (c : Str) : Prop := c ∈ ([Str.ofString " ", Str.ofString "\t", Str.ofString "\n"] : List Str)
theorem WsC.len {c : Str} (h : WsC c) : c.length = 1 := by
  simp only [WsC, List.mem_cons, List.not_mem_nil, or_false] at h
  rcases h with rfl | rfl | rfl <;> decide +kernel
theorem WsC.ws {c : Str} (h : WsC c) : IsWs (slc c 0) := by
  simp only [WsC, List.mem_cons, List.not_mem_nil, or_false] at h
  rcases h with rfl | rfl | rfl <;> (unfold IsWs; decide +kernel)
/-- where a word stands in a text -/
theorem stands_word {pre b c post x w : Str} {i : Nat} {rs : List (Nat × (Nat → Str))} (hx : x = pre ++ b ++ c ++ post) (hb : Bd w b) (hc : WsC c) (hw : 0 < w.length) (hl : ∀ j, j < w.length → IsLet (slc w j))
    (hi : i = pre.length ∨ (i + 1 = pre.length ∧ IsWs (slc x i)))
    (hr : ∀ e, (e = pre.length + b.length + 1 ∨ (e + 1 = pre.length + b.length + 1 ∧ IsWs (slc x e))) → Stands x e rs) : Stands x i ((w.length, slc w) :: rs) := by
  have hxl : x.length = pre.length + b.length + 1 + post.length := by rw [hx, Str.length_append, Str.length_append, Str.length_append, hc.len]
  have hlead : ∀ j, i ≤ j → j < pre.length → IsWs (slc x j) := fun j h1 h2 => by
    rcases hi with h | ⟨h, hw⟩
    · omega
    · have : j = i := by omega
      rw [this]; exact hw
  have hne : tokOf (slc w) w.length ≠ Str.ofString "" := by
    rw [tokOf_word]
    intro h
    rw [h] at hw
    revert hw
    decide +kernel
  have hcx : IsWs (slc x (pre.length + b.length)) := by
    have : slc x (pre.length + b.length) = slc c 0 := by
      have := slc_app (x := pre ++ b) (y := c) (z := post) (j := 0) (by rw [hc.len]; exact Nat.one_pos)
      rw [Str.length_append] at this
      rw [hx]
      simpa using this
    rw [this]; exact hc.ws
  cases hb with
  | plain =>
    have hch : ∀ j, j < b.length → slc x (pre.length + j) = slc b j := fun j hj => by
      have := slc_app (x := pre) (y := b) (z := c ++ post) hj
      rw [← Str.append_assoc] at this
      rw [hx]; exact this
    exact .cons (by omega) (by omega) hlead (.plain hw hch hcx (by omega)) hw hl hne (hr _ (.inl rfl))
  | quoted =>
    have hq1 : (Str.ofString "\"").length = 1 := by decide +kernel
    have hbl : (Str.ofString "\"" ++ w ++ Str.ofString "\"").length = 1 + w.length + 1 := by rw [Str.length_append, Str.length_append, hq1]
    rw [hbl] at hxl hcx hr
    have h1 : slc x pre.length = Str.ofString "\"" := by
      have := slc_app (x := pre) (y := Str.ofString "\"") (z := w ++ Str.ofString "\"" ++ c ++ post) (j := 0) (by rw [hq1]; exact Nat.one_pos)
      simp only [← Str.append_assoc] at this hx
      rw [hx]
      exact this.trans (by decide +kernel)
    have h2 : ∀ j, j < w.length → slc x (pre.length + 1 + j) = slc w j := fun j hj => by
      have := slc_app (x := pre ++ Str.ofString "\"") (y := w) (z := Str.ofString "\"" ++ c ++ post) hj
      simp only [← Str.append_assoc] at this hx
      rw [Str.length_append, hq1] at this
      rw [hx]; exact this
    have h3 : slc x (pre.length + 1 + w.length) = Str.ofString "\"" := by
      have := slc_app (x := pre ++ Str.ofString "\"" ++ w) (y := Str.ofString "\"") (z := c ++ post) (j := 0) (by rw [hq1]; exact Nat.one_pos)
      simp only [← Str.append_assoc] at this hx
      rw [Str.length_append, Str.length_append, hq1] at this
      rw [hx]
      exact this.trans (by decide +kernel)
    refine .cons (by omega) (by omega) hlead (.quoted h1 h2 h3 (by omega)) hw hl hne (hr _ (.inr ⟨by omega, ?_⟩))
    rw [show pre.length + 1 + w.length + 1 = pre.length + (1 + w.length + 1) by omega]
    exact hcx
  | slashed =>
    have hq1 : (Str.ofString "\\").length = 1 := by decide +kernel
    have hbl : (Str.ofString "\\" ++ w).length = 1 + w.length := by rw [Str.length_append, hq1]
    rw [hbl] at hxl hcx hr
    have h1 : slc x pre.length = Str.ofString "\\" := by
      have := slc_app (x := pre) (y := Str.ofString "\\") (z := w ++ c ++ post) (j := 0) (by rw [hq1]; exact Nat.one_pos)
      simp only [← Str.append_assoc] at this hx
      rw [hx]
      exact this.trans (by decide +kernel)
    have h2 : ∀ j, j < w.length → slc x (pre.length + 1 + j) = slc w j := fun j hj => by
      have := slc_app (x := pre ++ Str.ofString "\\") (y := w) (z := c ++ post) hj
      simp only [← Str.append_assoc] at this hx
      rw [Str.length_append, hq1] at this
      rw [hx]; exact this
    refine .cons (by omega) (by omega) hlead (.slashed hw h1 h2 ?_ (by omega)) hw hl hne (hr _ (.inl (by omega)))
    rw [show pre.length + 1 + w.length = pre.length + (1 + w.length) by omega]
    exact hcx
end
section
open PySem PySem.Spec PySem.Calls PySem.W PyProof.Rows PyProof.Rows.LCg
open PyProof
theorem wr_snoc {l : List Str} {tx : Str} (h : Wr l tx) : (l = [] ∧ tx = Str.ofString "") ∨ ∃ ws t w b c, l = ws ++ [w] ∧ tx = t ++ b ++ c ∧ Bd w b ∧ WsC c ∧ Wr ws t := by
  cases h with
  | nil => exact .inl ⟨rfl, rfl⟩
  | plain h hc => exact .inr ⟨_, _, _, _, _, rfl, rfl, .plain, hc, h⟩
  | quoted h hc => exact .inr ⟨_, _, _, _, _, rfl, rfl, .quoted, hc, h⟩
  | slashed h hc => exact .inr ⟨_, _, _, _, _, rfl, rfl, .slashed, hc, h⟩
theorem stands_wr {w1 w2 w3 tx : Str} (h : Wr [w1, w2, w3] tx) (h1 : 0 < w1.length ∧ ∀ j, j < w1.length → IsLet (slc w1 j)) (h2 : 0 < w2.length ∧ ∀ j, j < w2.length → IsLet (slc w2 j)) (h3 : 0 < w3.length ∧ ∀ j, j < w3.length → IsLet (slc w3 j)) :
    Stands tx 0 [(w1.length, slc w1), (w2.length, slc w2), (w3.length, slc w3)] ∧ 0 < tx.length := by
  rcases wr_snoc h with ⟨h, _⟩ | ⟨ws, t, w, b3, c3, e, rfl, B3, C3, h'⟩
  · cases h
  obtain ⟨rfl, rfl⟩ : ws = [w1, w2] ∧ w = w3 := by
    rcases ws with _ | ⟨a, _ | ⟨b, _ | ⟨c, ws⟩⟩⟩ <;> simp at e
    exact ⟨by rw [e.1, e.2.1], e.2.2.symm⟩
  rcases wr_snoc h' with ⟨h, _⟩ | ⟨ws, t, w', b2, c2, e, rfl, B2, C2, h''⟩
  · cases h
  obtain ⟨rfl, rfl⟩ : ws = [w1] ∧ w' = w2 := by
    rcases ws with _ | ⟨a, _ | ⟨b, ws⟩⟩ <;> simp at e
    exact ⟨by rw [e.1], e.2.symm⟩
  rcases wr_snoc h'' with ⟨h, _⟩ | ⟨ws, t, w'', b1, c1, e, rfl, B1, C1, h'''⟩
  · cases h
  obtain ⟨rfl, rfl⟩ : ws = [] ∧ w'' = w1 := by
    rcases ws with _ | ⟨a, ws⟩ <;> simp at e
    exact ⟨rfl, e.symm⟩
  have ht : t = Str.ofString "" := by
    rcases wr_snoc h''' with ⟨_, h⟩ | ⟨ws, _, w', _, _, e, _⟩
    · exact h
    · simp at e
  subst ht
  have h0 : (Str.ofString "").length = 0 := by decide +kernel
  refine ⟨?_, by rw [Str.length_append, C3.len]; omega⟩
  refine stands_word (pre := Str.ofString "") (b := b1) (c := c1) (post := b2 ++ c2 ++ b3 ++ c3) (by simp only [Str.append_assoc]) B1 C1 h1.1 h1.2 (.inl h0.symm) fun e he => ?_
  refine stands_word (pre := Str.ofString "" ++ b1 ++ c1) (b := b2) (c := c2) (post := b3 ++ c3) (by simp only [Str.append_assoc]) B2 C2 h2.1 h2.2 ?_ fun e2 he2 => ?_
  · rw [Str.length_append, Str.length_append, C1.len]
    exact he
  refine stands_word (pre := Str.ofString "" ++ b1 ++ c1 ++ b2 ++ c2) (b := b3) (c := c3) (post := Str.ofString "") ?_ B3 C3 h3.1 h3.2 ?_ fun e3 he3 => ?_
  · rw [show Str.ofString "" = Str.empty by decide +kernel]
    exact (Str.append_empty _).symm
  · have hl : (Str.ofString "" ++ b1 ++ c1 ++ b2 ++ c2).length = (Str.ofString "" ++ b1 ++ c1).length + b2.length + 1 := by rw [Str.length_append, Str.length_append, C2.len]
    rw [hl]
    exact he2
  · have hl : (Str.ofString "" ++ b1 ++ c1 ++ b2 ++ c2 ++ b3 ++ c3).length = (Str.ofString "" ++ b1 ++ c1 ++ b2 ++ c2).length + b3.length + 1 := by rw [Str.length_append, Str.length_append, C3.len]
    rcases he3 with he3 | ⟨he3, hw⟩
    · exact .nil (by omega) fun j h1 h2 => by omega
    · exact .nil (by omega) fun j h1 h2 => by
        have : j = e3 := by omega
        rw [this]; exact hw
noncomputable def letOk (c : Str) : Bool := (Builtin.Str.occurrences (Str.ofString "\n\t\r ") c 0 (Str.ofString "\n\t\r ").length 1).isEmpty && decide (c ≠ Str.ofString "\"") && decide (c ≠ Str.ofString "\\")
noncomputable def wordOk (w : Str) : Bool := decide (0 < w.length) && decide (w.length ≤ 6) && (List.range w.length).all fun j => letOk (slc w j)
theorem words_ok : ∀ w ∈ names3, wordOk w = true := by decide +kernel
theorem word_let {w : Str} (h : w ∈ names3) : 0 < w.length ∧ w.length ≤ 6 ∧ ∀ j, j < w.length → IsLet (slc w j) := by
  have := words_ok w h
  simp only [wordOk, Bool.and_eq_true, decide_eq_true_eq, List.all_eq_true] at this
  obtain ⟨⟨h1, h2⟩, h3⟩ := this
  refine ⟨h1, h2, fun j hj => ?_⟩
  have := h3 j (List.mem_range.mpr hj)
  simp only [letOk, Bool.and_eq_true, decide_eq_true_eq] at this
  exact ⟨this.1.1, this.1.2, this.2⟩
end
section
open PySem
set_option autoImplicit false
theorem order_split {os : List (Str × Tok)} {t2 t3 t4 : Tok} (h : os.Perm [(Str.ofString "bright", t2), (Str.ofString "light", t3), (Str.ofString "title", t4)]) :
    ∃ w1 u1 w2 u2 w3 u3, os = [(w1, u1), (w2, u2), (w3, u3)] ∧ w1 ∈ names3 ∧ w2 ∈ names3 ∧ w3 ∈ names3 ∧ w1 ≠ w2 ∧ w1 ≠ w3 ∧ w2 ≠ w3 := by
  have hl := h.length_eq
  rcases os with _ | ⟨⟨w1, u1⟩, _ | ⟨⟨w2, u2⟩, _ | ⟨⟨w3, u3⟩, _ | ⟨a, os⟩⟩⟩⟩ <;> simp at hl
  have hm : [w1, w2, w3].Perm names3 := List.Perm.map (fun p : Str × Tok => p.1) h
  have hn : [w1, w2, w3].Nodup := hm.nodup_iff.mpr (by decide +kernel)
  simp only [List.nodup_cons, List.mem_cons, List.not_mem_nil, or_false, not_or] at hn
  exact ⟨w1, u1, w2, u2, w3, u3, rfl, hm.subset (by simp), hm.subset (by simp), hm.subset (by simp), hn.1.1, hn.1.2, hn.2.1⟩
end
section
open PySem PySem.Spec PySem.Calls PySem.W PyProof.Rows PyProof.Rows.LCg
theorem tabOk_nil (P : Addr) (pos : Pos) (q : Str) : TabOk P pos q [(P, tabObj #[])] := ⟨#[], [], rfl, (fun _ h => nomatch h), .inl rfl⟩
theorem news_uniq {h₀ h : Heap} {L a : Addr} {o o' : Obj} {nw : Led} (N : News h₀ L h nw) (hp : (a, o) ∈ nw) (hq : (a, o') ∈ nw) : o = o' := by
  have h1 := (N _ hp).1
  rw [(N _ hq).1] at h1
  exact (Option.some.inj h1).symm
noncomputable def notCell (o : Obj) : Prop := ∀ v, o.data ≠ .cell v
theorem notCell_seq {c : Value} {its : Array Value} {n : Nat} : notCell ({ cls := c, data := .seq its n } : Obj) := fun v h => nomatch h
theorem notCell_dict {prog : Program} {w : World} {K : Type} [DecidableEq K] {knd : KeyKind prog w K} {o : Obj} {kvs : List (K × Value)} (h : o.IsDictOf knd kvs) : notCell o := by
  intro v hv
  obtain ⟨_, _, h1⟩ := h
  rw [hv] at h1
  simp at h1
theorem not_cell {h₀ h : Heap} {L a b : Addr} {o o' : Obj} {v : Option Value} {nw : Led} (N : News h₀ L h nw) (hp : (a, o) ∈ nw) (hq : (b, o') ∈ nw) (ho : notCell o) (hd : o'.data = .cell v) : a ≠ b := by
  rintro rfl
  have := news_uniq N hp hq
  subst this
  exact ho v hd
/-- the ledger without the law's own cells -/
noncomputable def offCells (L : Nat) (nw : Led) : Led := nw.filter fun q => decide (q.1 ≠ L + 1 ∧ q.1 ≠ L + 1 + 1 ∧ q.1 ≠ L + 1 + 1 + 1 ∧ q.1 ≠ L + 1 + 1 + 1 + 1 ∧ q.1 ≠ L + 1 + 1 + 1 + 1 + 1 ∧ q.1 ≠ L + 1 + 1 + 1 + 1 + 1 + 1)
theorem offCells_mem {L : Nat} {nw : Led} {q : Addr × Obj} : q ∈ offCells L nw ↔ q ∈ nw ∧ q.1 ≠ L + 1 ∧ q.1 ≠ L + 1 + 1 ∧ q.1 ≠ L + 1 + 1 + 1 ∧ q.1 ≠ L + 1 + 1 + 1 + 1 ∧ q.1 ≠ L + 1 + 1 + 1 + 1 + 1 ∧ q.1 ≠ L + 1 + 1 + 1 + 1 + 1 + 1 := by
  unfold offCells
  rw [List.mem_filter, decide_eq_true_eq]
theorem offCells_of {h₀ h : Heap} {K L : Addr} {nw : Led} {c1 c2 c3 c4 c5 c6 o : Obj} {v1 v2 v3 v4 v5 v6 : Option Value} {a : Addr} (N : News h₀ K h nw)
    (m1 : (L + 1, c1) ∈ nw) (m2 : (L + 1 + 1, c2) ∈ nw) (m3 : (L + 1 + 1 + 1, c3) ∈ nw) (m4 : (L + 1 + 1 + 1 + 1, c4) ∈ nw) (m5 : (L + 1 + 1 + 1 + 1 + 1, c5) ∈ nw) (m6 : (L + 1 + 1 + 1 + 1 + 1 + 1, c6) ∈ nw)
    (e1 : c1.data = .cell v1) (e2 : c2.data = .cell v2) (e3 : c3.data = .cell v3) (e4 : c4.data = .cell v4) (e5 : c5.data = .cell v5) (e6 : c6.data = .cell v6) (hm : (a, o) ∈ nw) (ho : notCell o) :
    a ≠ L + 1 ∧ a ≠ L + 1 + 1 ∧ a ≠ L + 1 + 1 + 1 ∧ a ≠ L + 1 + 1 + 1 + 1 ∧ a ≠ L + 1 + 1 + 1 + 1 + 1 ∧ a ≠ L + 1 + 1 + 1 + 1 + 1 + 1 :=
  ⟨not_cell N hm m1 ho e1, not_cell N hm m2 ho e2, not_cell N hm m3 ho e3, not_cell N hm m4 ho e4, not_cell N hm m5 ho e5, not_cell N hm m6 ho e6⟩
set_option maxRecDepth 100000 in
theorem none_booked {w : Params} {H0 : Heap} (X : (Mine.hd.heap_39 w).In H0) : NoneBooked H0 := by
  obtain ⟨o, ho, ep, hd⟩ : ∃ o, (Mine.hd.heap_39 w).lookup 2 = some o ∧ ∃ ep, o.data = .dict #[] ep := ⟨_, by with_unfolding_all rfl, _, rfl⟩
  exact ⟨fun _ => none, ⟨o, #[], ep, X 2 o ho, hd, by simp [StrKeys], fun _ => rfl⟩, rfl⟩
/-- what each of the three sees at first -/
noncomputable def sawAt (B1 B2 B3 : Addr) (n : Str) : Addr := if n = Str.ofString "bright" then B1 else if n = Str.ofString "light" then B2 else B3
noncomputable def seeAt (X : Nat → Int) (n : Str) : Nat → Nat :=
  if n = Str.ofString "bright" then canon (fun e d => decide (mxD X e = mxD X d)) else if n = Str.ofString "light" then canon (fun e d => decide (mxD X e + mnD X e = mxD X d + mnD X d)) else canon (fun e d => decide (bareOf (dB (X e)) = bareOf (dB (X d))))
theorem names3_cases {n : Str} (h : n ∈ names3) : n = Str.ofString "bright" ∨ n = Str.ofString "light" ∨ n = Str.ofString "title" := by
  simpa [names3] using h
theorem ne_lb : Str.ofString "light" ≠ Str.ofString "bright" := by decide +kernel
theorem ne_tb : Str.ofString "title" ≠ Str.ofString "bright" := by decide +kernel
theorem ne_tl : Str.ofString "title" ≠ Str.ofString "light" := by decide +kernel
theorem saw_map (B1 B2 B3 : Addr) : (names3.map fun n => (n, Value.ref (sawAt B1 B2 B3 n))) = [(Str.ofString "bright", Value.ref B1), (Str.ofString "light", Value.ref B2), (Str.ofString "title", Value.ref B3)] := by
  simp only [names3, List.map_cons, List.map_nil, sawAt, if_pos, ne_lb, ne_tb, ne_tl, if_neg, if_true, if_false]
theorem see_valid (X : Nat → Int) (n : Str) : Valid (seeAt X n) := by
  unfold seeAt
  split
  · exact canon_eq_valid _
  · split
    · exact canon_eq_valid (fun e => mxD X e + mnD X e)
    · exact canon_eq_valid (fun e => bareOf (dB (X e)))
theorem see_obs {H0 : Heap} {S0 : Led} {X : Nat → Int} {B1 B2 B3 : Addr} {bys bys2 bys3 : List Value} {tr1 tr2 : Nat} (hb : NoneBooked H0)
    (h1 : AllV (fun (a : Nat) v => ∃ t, v = .float (fl (mxD X a)) t) (List.range 6) bys) (r1 : Rising bys tr1) (h2 : AllV (fun (a : Nat) v => ∃ t, v = .float (fl (mxD X a + mnD X a)) t) (List.range 6) bys2) (r2 : Rising bys2 tr2) (h3 : AllV (fun (d : Nat) y => ∃ t, y = .str (bareOf (dB (X d))) t) (List.range 6) bys3)
    (m1 : (B1, lst bys) ∈ S0) (m2 : (B2, lst bys2) ∈ S0) (m3 : (B3, lst bys3) ∈ S0) {n : Str} (hn : n ∈ names3) : Obs H0 S0 (sawAt B1 B2 B3 n) (seeAt X n) := by
  rcases names3_cases hn with rfl | rfl | rfl
  · have := obs_fl (g := mxD X) hb (fun d _ => by have := mnx_lt X d; omega) h1 r1 m1
    simpa [sawAt, seeAt] using this
  · have := obs_fl (g := fun d => mxD X d + mnD X d) hb (fun d _ => by have := mnx_lt X d; omega) h2 r2 m2
    simpa [sawAt, seeAt, ne_lb] using this
  · have := obs_str (H0 := H0) (g := fun d => bareOf (dB (X d))) h3 m3
    simpa [sawAt, seeAt, ne_tb, ne_tl] using this
/-- who sits after whom -/
noncomputable def nxt (w1 w2 w3 n : Str) : Str := if n = w1 then w2 else if n = w2 then w3 else w1
theorem nxt_ok {w1 w2 w3 : Str} (n12 : w1 ≠ w2) (n13 : w1 ≠ w3) (n23 : w2 ≠ w3) : nxt w1 w2 w3 w1 = w2 ∧ nxt w1 w2 w3 w2 = w3 ∧ nxt w1 w2 w3 w3 = w1 := by
  unfold nxt
  refine ⟨by simp, ?_, ?_⟩
  · rw [if_neg (Ne.symm n12), if_pos rfl]
  · rw [if_neg (Ne.symm n13), if_neg (Ne.symm n23)]
theorem hv_bd (x : Int) : 5 ≤ 5 + (x.fdiv 432).fmod 3 ∧ 5 + (x.fdiv 432).fmod 3 ≤ 7 := by
  have := fdm (x.fdiv 432) (y := 3) (by decide)
  omega
theorem allV_at {V : Nat → Value → Prop} {ys : List Value} (h : AllV V (List.range 6) ys) {d : Nat} (hd : d < 6) : ∃ v, ys.toArray[d]? = some v ∧ V d v := by
  obtain ⟨y, hy, hV⟩ := h.get (List.getElem?_range hd)
  exact ⟨y, by simpa using hy, hV⟩
end
section
open PySem
set_option autoImplicit false
theorem three_in2 {a b c n : Str} (ha : a ∈ names3) (hb : b ∈ names3) (hc : c ∈ names3) (h1 : a ≠ b) (h2 : a ≠ c) (h3 : b ≠ c) (hn : n ∈ names3) : n = a ∨ n = b ∨ n = c := by
  simp only [names3, List.mem_cons, List.not_mem_nil, or_false] at ha hb hc hn
  rcases ha with rfl | rfl | rfl <;> rcases hb with rfl | rfl | rfl <;> rcases hc with rfl | rfl | rfl <;> first | exact absurd rfl h1 | exact absurd rfl h2 | exact absurd rfl h3 | (rcases hn with h | h | h <;> simp [h])
theorem law_plain {c : Str → Nat → Nat} {h : Nat → Int} {f : Nat → Bool} {bl : Nat → Nat} {w1 w2 w3 : Str} (hh : ∀ d, 5 ≤ h d ∧ h d ≤ 7) (hval : ∀ n ∈ names3, Valid (c n))
    (hm : ∀ n ∈ names3, ∀ d e, d < 6 → e < 6 → c (nxt w1 w2 w3 n) d = c (nxt w1 w2 w3 n) e → shareOf (c n) h f d = shareOf (c n) h f e)
    (hw1 : w1 ∈ names3) (hw2 : w2 ∈ names3) (hw3 : w3 ∈ names3) (n12 : w1 ≠ w2) (n13 : w1 ≠ w3) (n23 : w2 ≠ w3) (hbc : ∀ n ∈ names3, ∀ k, k < 6 → bl k = bl (c n k)) (hbT : Tight c bl) :
    ∀ n ∈ names3, ∀ k, k < 6 → shareOf (c n) h f k = (2048 * tot h (((List.range 6).filter fun d => bl d == bl k).filter f)).fdiv (tot h ((List.range 6).filter fun d => bl d == bl k)) := by
  obtain ⟨x1, x2, x3⟩ := nxt_ok n12 n13 n23
  have lt6 : ∀ n ∈ names3, ∀ d, d < 6 → c n d < 6 := fun n hn d hd => by have := (hval n hn d hd).1; omega
  have meas : ∀ n ∈ names3, ∀ d e, d < 6 → e < 6 → c (nxt w1 w2 w3 n) d = c (nxt w1 w2 w3 n) e → XX (c n) h f d = XX (c n) h f e := fun n hn d e hd he hc => by
    have hs := hm n hn d e hd he hc
    rw [shareOf_eq, shareOf_eq] at hs
    exact cross_X hh hd he (mark_cross (HH_bd hh hd) (HH_bd hh he) hs)
  have m1 := meas w1 hw1
  have m2 := meas w2 hw2
  have m3 := meas w3 hw3
  rw [x1] at m1
  rw [x2] at m2
  rw [x3] at m3
  have ag := three_agree hh (lt6 w1 hw1) (lt6 w2 hw2) (lt6 w3 hw3) m1 m2 m3
  have agn : ∀ n ∈ names3, ∀ d, d < 6 → XX (c n) h f d = XX (c w1) h f d := fun n hn d hd => by
    obtain ⟨a1, a2⟩ := ag d hd
    rcases three_in2 hw1 hw2 hw3 n12 n13 n23 hn with rfl | rfl | rfl
    · rfl
    · exact a1.symm
    · exact (a1.trans a2).symm
  have tight : ∀ d e, d < 6 → e < 6 → bl d = bl e → XX (c w1) h f d = XX (c w1) h f e :=
    hbT (fun d e => XX (c w1) h f d = XX (c w1) h f e) (fun _ => rfl) (fun _ _ h => h.symm) (fun _ _ _ h1 h2 => h1.trans h2) fun n hn k hk => by
      rw [← agn n hn k hk, ← agn n hn _ (lt6 n hn k hk)]
      exact (HH_cell (hval n hn k hk).2.symm).2.2
  intro n hn k hk
  exact block_share hh (lt6 n hn) (hbc n hn) (fun d e hd he hb => by rw [agn n hn d hd, agn n hn e he]; exact tight d e hd he hb) hk
end
section
open PySem PySem.Spec PySem.Calls PySem.W PyProof.Rows PyProof.Rows.LCg
theorem gE {α : Type} {M : Model} {A : Around} {t : Sem α} {Q : α → Shared → Prop} {E₀ : Value → Shared → Prop} {s : Shared} (h : ∀ E : Value → Shared → Prop, wpAny M A t Q E s) : wpAny M A t Q E₀ s := h _
theorem law_end {H0 h1 : Heap} {L : Addr} {m1 : Str → Option Value} {s0 s1 : Shared} {ns : List Int} {tk1 : Nat} (F1 : Fr H0 L h1 m1) (hg : s1.gens = #[]) (a : GrownAt 37 h1) (b : GrownAt 30 h1) (d : GrownAt 154 h1) :
    PySem.W.GoodW PySem.Challenge.rw_sn0056_01.row.claim (classAt s0.heap) (ExcName.means s0.heap) [ofPy (PyData.list (List.map PyData.int ns))] { s1 with heap := H0 } (.ok (.ret (.bool true))) { s1 with heap := h1, toks := tk1 } ∧ GrownAll [(41, 37), (34, 30), (158, 154)] h1 :=
  ⟨goodW_bool F1 hg (raisesW_false (by wrow_none_raised)) (by wrow_post), a, b, d, True.intro⟩
local macro_rules | `(tactic| walk_at "binaryOp Div int int") => `(tactic| (k_dflt (refine' div_half ?k1 ?k2 ?k3 ?_; (case k1 => exact rfl); (case k2 => with_reducible assumption); (case k3 => with_reducible assumption); k_whole)))
local macro_rules | `(tactic| walk_at "call builtin:max") => `(tactic| ((with_reducible show wpAny _ _ (call (Value.builtin "max") [Value.ref _]) _ _ _); k_dflt (refine' max_P ?k1 ?k2 ?k3 ?k4 ?k5 ?_; (case k1 => exact rfl); (case k2 => k_asm); (case k3 => k_asm); (case k4 => k_mem); (case k5 => with_reducible assumption); k_whole); intro h' t' tk' F' N'))
local macro_rules | `(tactic| walk_at "call builtin:min") => `(tactic| ((with_reducible show wpAny _ _ (call (Value.builtin "min") [Value.ref _]) _ _ _); k_dflt (refine' min_P ?k1 ?k2 ?k3 ?k4 ?k5 ?_; (case k1 => exact rfl); (case k2 => k_asm); (case k3 => k_asm); (case k4 => k_mem); (case k5 => with_reducible assumption); k_whole); intro h' t' tk' F' N'))
set_option maxRecDepth 100000 in
set_option maxHeartbeats 8000000 in
theorem law_x : PySem.Challenge.rw_sn0056_01.Holds := by
  w_on
  refine holds_law said_law fun said => ?_
  refine holds_open (q := hd.view_39) (loose := []) (Xt := fun s => xlAt hd.view_39 [] s && recOk (RowW.records PySem.Challenge.rw_sn0056_01.row.toRowW) s) (XP := XL hd.view_39 []) (Yf := Hook.obs hd.hook) (Ya := Hook.val hd.hook) (YP := Hook.says hd.hook) (N := 2214) hd.left (Hook.of hd.hook) (Hook.keeps hd.hook) (fun s e => xl_of s (Bool.and_eq_true_iff.mp e).1) XL.keeps (by rfl) (by rfl) (by rfl) (fun s e => recFacts_of (Bool.and_eq_true_iff.mp e).2) (by rfl) (by first | assumption | decide +kernel) (by decide +kernel) ⟨rfl, rfl, rfl, rfl, rfl, by decide +kernel⟩ ?hw ?h9c
  case hw => w_witness2
  delta hd.hook
  w_strict k_go0
  rename_i w0 s0 s1 mg mb G Y fa0 oo pm cd doc ho hcd hg Xm V T0 B0 TE TW ns hs0 hlay hL0 hr0 hl2 a1 a2 sl vs a3 hL1 ra w1 r0 hI hr1 hlen hc2 hD h1 tk1 c6 c5 c4 c3 c2 c1 e6 e5 e4 e3 e2 e1 X0 X T K F Ca Cb N l0
  replace e1 : c1.data = .cell none := e1
  replace e2 : c2.data = .cell none := e2
  replace e3 : c3.data = .cell none := e3
  replace e4 : c4.data = .cell none := e4
  replace e5 : c5.data = .cell none := e5
  replace e6 : c6.data = .cell none := e6
  refine (no_index (?_ : ∀ m0, (Fr _ _ h1 m0) → (m0 "script" = some (.ref sl)) → _)) _ F rfl
  intro m0 F0 hm0
  replace hlen : ns.length ≤ 63 := by omega
  clear said F X0 hD hr1 hc2 r0 w1 ra hL1 a3 a1 a2 hl2 hr0 hL0 hlay hs0 TW TE B0 V Xm hcd hT8 hT9 Y ho doc pm
  generalize ghostOf _ _ = H0 at *
  generalize s1.heap.objs.size = L at *
  dsimp only
  refine gE ?_
  intro E9
  refine cut (fun s' => Cps fun C9 => ∀ h' tk' D ys ts cc o1 m', (s' = { s1 with heap := h', toks := tk' }) → (IntsAre ys ts) → (ts.length = 8) → (∀ t ∈ ts, 0 ≤ t ∧ t < 2 ^ 40) → (o1.data = .cell (some (.ref D))) → (L + 6 < D) → (Fr H0 L h' m') → (News H0 L h' [(D, ({ cls := .type "list", data := .seq ys.toArray cc } : Obj)), (L + 1 + 1 + 1 + 1 + 1 + 1, c6), (L + 1 + 1 + 1 + 1 + 1, c5), (L + 1 + 1 + 1 + 1, c4), (L + 1 + 1 + 1, c3), (L + 1 + 1, c2), (L + 1, o1), (37, tabObj #[]), (30, tabObj #[]), (154, tabObj #[])]) → C9) ?_ ?_
  --S1<
  · walk_at "sx"
    (with_reducible rename Fr _ _ _ _ => kF)
    (with_reducible rename News _ _ _ _ => kN)
    refine' totals_c w0 (ExcName.means s0.heap) mg mb K kF X kN T ?kk ?dd ?uu sl _ vs ns [325, 40, 56, 1040, 259, 1272, 0, 19] _ _ lifted hI hlen (.head _) ?hF rfl ?hfb ?_
    case kk => exact rfl
    case dd => k_room
    case uu => k_room
    case hF => exact .cons _ _ (.cons _ _ (.cons _ _ (.cons _ _ (.cons _ _ (.cons _ _ (.cons _ _ (.cons _ _ .nil)))))))
    case hfb => decide
    intro D ys ts cc h2 tk2 hys hl8 htb hlt F2 N2
    have hLD : L + 1 + 1 + 1 + 1 + 1 + 1 < D := ltN (hlt (L + 1 + 1 + 1 + 1 + 1 + 1, c6) (.tail _ (.head _)))
    have N3 := News.sel N2 [0] 2
    clear N2 kN kF hlt
    walk_at "sx"
    · exact trivial
    (with_reducible rename Fr _ _ _ _ => kF)
    (with_reducible rename News _ _ _ _ => kN)
    (with_reducible rename _ = Data.cell (some (Value.ref D)) => hc)
    exact fun _ kk9 => kk9 _ _ D ys ts cc _ _ rfl hys hl8 htb hc (by omega) kF kN
  --S1>
  clear lifted hI hlen hm0 F0 N e1
  intro s9 hs9
  refine hs9 _ fun h1 tk1 TD tys ts tcc c1 m1 e9 hts hl8 htb e1 hLT F1 N1 => ?_
  clear hs9
  subst e9
  obtain ⟨XT, hX, hXb⟩ : ∃ XT : Nat → Int, (∀ d, d < 8 → ∃ t, tys.toArray[((d : Nat) : Int).toNat]? = some (.int (XT d) t)) ∧ ∀ d, d < 8 → 0 ≤ XT d ∧ XT d < 2 ^ 40 := by
    refine ⟨fun d => ts.getD d 0, fun d hd => ?_, fun d hd => ?_⟩
    · have hts' : ts[d]? = some (ts.getD d 0) := by rw [List.getD_eq_getElem?_getD, List.getElem?_eq_getElem (by omega)]; rfl
      have := ints_get hts hts'
      simpa using this
    · refine htb _ ?_
      show ts.getD d 0 ∈ ts
      rw [List.getD_eq_getElem?_getD, List.getElem?_eq_getElem (by omega)]
      exact List.getElem_mem _
  clear htb hts hl8
  refine cut (fun s' => Cps fun C9 => ∀ h' tk' DL ys TL, ∀ (D P : Nat → Addr) (u : Nat → Nat → Tok), ∀ m', (s' = { s1 with heap := h', toks := tk' }) → (AllV (fun (d : Nat) v => v = .ref (D d)) (List.range 6) ys) → (∀ d, d < 6 → (D d, dayObj (XT d) d (P d) (u d)) ∈ TL ∧ (P d, paintObj (XT d) (u d)) ∈ TL) → (∀ q ∈ TL, DL < q.1) → (L + 6 < DL) → (TD < DL) → (m' "days" = some (.ref DL)) → (Fr H0 L h' m') → (News H0 L h' ((DL, lst ys) :: (TL ++ [(TD, ({ cls := .type "list", data := .seq tys.toArray tcc } : Obj)), (L + 1 + 1 + 1 + 1 + 1 + 1, c6), (L + 1 + 1 + 1 + 1 + 1, c5), (L + 1 + 1 + 1 + 1, c4), (L + 1 + 1 + 1, c3), (L + 1 + 1, c2), (L + 1, c1), (37, tabObj #[]), (30, tabObj #[]), (154, tabObj #[])]))) → C9) ?_ ?_
  --S2<
  · refine Assign_ListComp_M F1 (List.range 6) (fun (i : Nat) v => ∃ t, v = .int (i : Int) t) (fun _ => true) (RDay XT) (fun _ v m₁ => m₁ "k" = some v) rfl (by with_unfolding_all rfl) (by with_unfolding_all rfl) (by decide) rfl (by decide) rfl rfl ?_ (fun _ => rfl)
    iterate 7 walk_at "s1"
    (with_reducible rename Fr _ _ _ _ => kF)
    (with_reducible rename News _ _ _ _ => kN)
    (with_reducible rename IsRange _ _ _ _ _ _ _ _ => hR)
    refine comp_rangeR (n := 6) rfl kF kN hR (by decide) rfl rfl ?_ ?_
    · intro d v C oC mm own s Q E' hd hP9_1 hB hC F7 N7 hQ
      obtain ⟨tv, rfl⟩ := hP9_1
      obtain ⟨tx, hx⟩ := hX d (by omega)
      obtain ⟨x0, x1⟩ := hXb d (by omega)
      walk_at "sx"
      refine' day_c w0 (ExcName.means s0.heap) mg mb K F7 X N7 T ?kk ?dd ?uu (XT d) (d : Int) tx tv x0 x1 (by omega) (by omega) ?_
      case kk => exact rfl
      case dd => k_room
      case uu => k_room
      intro D P b j lt u1 u2 u3 u4 u5 u6 h2 tk2 hb hb2 hj hj3 hlt' hle hPD F2 N2
      subst hlt'
      have hb' : dB (XT d) = b := by unfold dB; rw [hb]; rfl
      have hj' : dJ d = j := by unfold dJ; rw [hj]; rfl
      subst hb' hj'
      refine hQ _ [(D, _), (P, _)] _ _ ⟨D, P, fun i => match i with | 1 => u1 | 2 => u2 | 3 => u3 | 4 => u4 | 5 => u5 | _ => u6, rfl, rfl⟩ F2 N2 ?_
      intro q hq p hp
      rcases List.mem_cons.mp hq with rfl | hq
      · exact (hle p hp).2
      · rw [List.mem_singleton.mp hq]; exact (hle p hp).1
    · intro DL ys TL h2 tk2 G2 hTL hDL F2 N2 h3 tk3 F3 N3
      obtain ⟨D, P, u, hD, hm⟩ := days_of G2
      walk_at "sx"
      · exact trivial
      exact fun _ kk9 => kk9 _ _ DL ys TL D P u _ rfl hD hm hTL (ltN (hDL (L + 1 + 1 + 1 + 1 + 1 + 1, c6) (.tail _ (.head _)))) (ltN (hDL (TD, _) (.head _))) rfl F3 N3
  --S2>
  clear F1 N1
  intro s9 hs9
  refine hs9 _ fun h1 tk1 DL dys TL D P u m1 e9 hDs hdm hTL hLD hTD md1 F1 N1 => ?_
  clear hs9
  subst e9
  refine cut (fun s' => Cps fun C9 => ∀ h' tk' SB HL hys c3' m', (s' = { s1 with heap := h', toks := tk' }) → (∀ q ∈ SB, L + 6 < q.1) → ((TD, ({ cls := .type "list", data := .seq tys.toArray tcc } : Obj)) ∈ SB) → ((HL, lst hys) ∈ SB) → ((DL, lst dys) ∈ SB) → (∀ d, d < 6 → (D d, dayObj (XT d) d (P d) (u d)) ∈ SB ∧ (P d, paintObj (XT d) (u d)) ∈ SB) → (AllV (fun (d : Nat) v => ∃ t, v = .int (5 + ((XT d).fdiv 432).fmod 3) t) (List.range 6) hys) → (m' "days" = some (.ref DL)) → (c3'.data = .cell (some (.ref HL))) → (Fr H0 L h' m') → (News H0 L h' ((L + 1 + 1 + 1 + 1 + 1 + 1, c6) :: (L + 1 + 1 + 1 + 1 + 1, c5) :: (L + 1 + 1 + 1 + 1, c4) :: (L + 1 + 1 + 1, c3') :: (L + 1 + 1, c2) :: (L + 1, c1) :: (37, tabObj #[]) :: (30, tabObj #[]) :: (154, tabObj #[]) :: SB)) → C9) ?_ ?_
  --S3<
  · refine Assign_ListComp_C F1 (List.range 6) (fun (i : Nat) v => ∃ t, v = .int (i : Int) t) (fun _ => true) (fun d y tl => tl = [] ∧ ∃ t, y = .int (5 + ((XT d).fdiv 432).fmod 3) t) (fun _ v m₁ => m₁ "k" = some v) (by with_unfolding_all rfl) (by with_unfolding_all rfl) (by decide) rfl (by decide) ?_ (fun _ => rfl)
    iterate 7 walk_at "s1"
    (with_reducible rename Fr _ _ _ _ => kF)
    (with_reducible rename News _ _ _ _ => kN)
    (with_reducible rename IsRange _ _ _ _ _ _ _ _ => hR)
    refine comp_range (n := 6) rfl kF kN hR (by decide) rfl rfl ?_ ?_ ?_
    · intro d v C oC mm own s Q E' hd hP9_2 hB hC F7 N7 hQ
      obtain ⟨tv, rfl⟩ := hP9_2
      exact test_nil (hQ _ _ F7 N7)
    · intro d v C oC mm own s Q E' hd hP9_3 hp hB hC F7 N7 hQ
      obtain ⟨tv, rfl⟩ := hP9_3
      obtain ⟨tx, hx⟩ := hX d (by omega)
      obtain ⟨x0, x1⟩ := hXb d (by omega)
      walk_at "sx"
      exact hQ _ _ _ ⟨_, rfl⟩ (by k_asm) (by k_asm)
    · intro HL hys h2 tk2 hV hlt F2 N2
      have hLH : DL < HL := ltN (hlt (DL, lst dys) (.head _))
      refine (no_index (?_ : ∀ SB, (SB = (HL, lst hys) :: (DL, lst dys) :: (TD, ({ cls := .type "list", data := .seq tys.toArray tcc } : Obj)) :: TL) → _)) _ rfl
      intro SB hSB
      have N3 : News H0 L h2 ((L + 1 + 1 + 1 + 1 + 1 + 1, c6) :: (L + 1 + 1 + 1 + 1 + 1, c5) :: (L + 1 + 1 + 1 + 1, c4) :: (L + 1 + 1 + 1, c3) :: (L + 1 + 1, c2) :: (L + 1, c1) :: (37, tabObj #[]) :: (30, tabObj #[]) :: (154, tabObj #[]) :: SB) := by
        have NT : News H0 L h2 TL := fun q hq => N2 q (.tail _ (.tail _ (List.mem_append_left _ hq)))
        have NR := fun q hq => N2 q (.tail _ (.tail _ (List.mem_append_right TL hq)))
        subst hSB
        exact News.of_append (News.sel NR [] 1) (News.of_append (News.pick N2 [0, 1]) (News.of_append (News.pick NR [0]) NT))
      have hS1 : ∀ q ∈ SB, L + 6 < q.1 := fun q hq => by
        subst hSB
        revert q hq
        refine fa ?_ (fa ?_ (fa ?_ (fun q hq => ?_)))
        · exact Nat.lt_trans hLD hLH
        · exact hLD
        · exact hLT
        · exact Nat.lt_trans hLD (hTL q hq)
      have hS2 : ∀ q ∈ SB, q.1 ≠ L + 1 + 1 + 1 := fun q hq => Nat.ne_of_gt (by have := hS1 q hq; omega)
      have hS3 : (TD, ({ cls := .type "list", data := .seq tys.toArray tcc } : Obj)) ∈ SB ∧ (HL, lst hys) ∈ SB ∧ (DL, lst dys) ∈ SB ∧ (∀ d, d < 6 → (D d, dayObj (XT d) d (P d) (u d)) ∈ SB ∧ (P d, paintObj (XT d) (u d)) ∈ SB) := by
        subst hSB
        exact ⟨.tail _ (.tail _ (.head _)), .head _, .tail _ (.head _), fun d hd => ⟨.tail _ (.tail _ (.tail _ (hdm d hd).1)), .tail _ (.tail _ (.tail _ (hdm d hd).2))⟩⟩
      clear hSB N2
      walk_at "sx"
      · exact trivial
      (with_reducible rename Fr _ _ _ _ => kF)
      (with_reducible rename News _ _ _ _ => kN)
      (with_reducible rename _ = Data.cell (some (Value.ref HL)) => hc)
      exact fun _ kk9 => kk9 _ _ SB HL hys _ _ rfl hS1 hS3.1 hS3.2.1 hS3.2.2.1 hS3.2.2.2 hV md1 hc kF kN
  --S3>
  clear F1 N1 hLT hLD hTD hTL e3 md1 hdm
  intro s9 hs9
  refine hs9 _ fun h1 tk1 SB HL hys c3 m1 e9 hS1 hTD hHL hDL hdm hV md1 e3 F1 N1 => ?_
  clear hs9
  subst e9
  have hDay : ∀ d ∈ List.range 6, (D d, dayObj (XT d) d (P d) (u d)) ∈ SB := fun d hd => (hdm d (List.mem_range.mp hd)).1
  refine cut (fun s' => Cps fun C9 => ∀ h' tk' SB2 SD oS B1 B2 B3 bys bys2 bys3 tr1 tr2 m', (s' = { s1 with heap := h', toks := tk' }) → (∀ q ∈ SB, q ∈ SB2) → (∀ q ∈ SB2, L + 6 < q.1) → ((SD, oS) ∈ SB2) → ((B1, lst bys) ∈ SB2) → ((B2, lst bys2) ∈ SB2) → ((B3, lst bys3) ∈ SB2) → ((SD == sysModules) = false) → (oS.IsDictOf (PySem.strKind PySem.Challenge.rw_sn0056_01.prog w0) [(Str.ofString "bright", Value.ref B1), (Str.ofString "light", Value.ref B2), (Str.ofString "title", Value.ref B3)]) → (AllV (fun (a : Nat) v => ∃ t, v = .float (fl (mxD XT a)) t) (List.range 6) bys) → (Rising bys tr1) → (AllV (fun (a : Nat) v => ∃ t, v = .float (fl (mxD XT a + mnD XT a)) t) (List.range 6) bys2) → (Rising bys2 tr2) → (AllV (fun (d : Nat) y => ∃ t, y = .str (bareOf (dB (XT d))) t) (List.range 6) bys3) → (m' "days" = some (.ref DL)) → (m' "seen" = some (.ref SD)) → (Fr H0 L h' m') → (News H0 L h' ((L + 1 + 1 + 1 + 1 + 1 + 1, c6) :: (L + 1 + 1 + 1 + 1 + 1, c5) :: (L + 1 + 1 + 1 + 1, c4) :: (L + 1 + 1 + 1, c3) :: (L + 1 + 1, c2) :: (L + 1, c1) :: (37, tabObj #[]) :: (30, tabObj #[]) :: (154, tabObj #[]) :: SB2)) → C9) ?_ ?_
  --S4<
  · walk_at "sx"
    rename_i SD hS0 oS0 FS0 NS0 loS hdS lS
    (with_reducible rename Fr _ _ _ _ => kF)
    refine ListComp_MT kF (List.range 6) (fun d v => v = .ref (D d)) (fun _ => true) (fun a t1 y tl t2 => tl = [] ∧ ∃ t, t1 ≤ t ∧ 0 < t ∧ t < t2 ∧ y = .float (fl (mxD XT a)) t) Rising (fun d _ m₁ => m₁ "p" = some (.ref (P d)) ∧ m₁ "bare" = some (.str (bareOf (dB (XT d))) (u d 1)) ∧ m₁ "letters" = some (.str (dL (XT d)) (u d 2)) ∧ m₁ "title" = some (.str (dTitle (XT d) d) (u d 3))) (by with_unfolding_all rfl) (by decide) rfl (by decide) ?_ (fun _ => rfl)
    walk_at "sx"
    (with_reducible rename Fr _ _ _ _ => kF)
    (with_reducible rename News _ _ _ _ => kN)
    refine comp_tup4T (its := dys.toArray) (D := D) (nn := fun _ => 0) (g := fun a => fl (mxD XT a)) (V1 := fun d => .ref (P d)) (V2 := fun d => .str (bareOf (dB (XT d))) (u d 1)) (V3 := fun d => .str (dL (XT d)) (u d 2)) (V4 := fun d => .str (dTitle (XT d) d) (u d 3)) rfl kF kN (.tail _ (.tail _ (.tail _ (.tail _ (.tail _ (.tail _ (.tail _ (.tail _ (.tail _ (.tail _ hDL)))))))))) hDs (by decide) (fun d hd => (.tail _ (.tail _ (.tail _ (.tail _ (.tail _ (.tail _ (.tail _ (.tail _ (.tail _ (.tail _ (hDay d hd)))))))))))) rfl rfl rfl rfl rfl (by decide) ?_ ?_
    · intro d C oC mm own s Q E' hd b1 b2 b3 b4 hC F7 N7 hQ
      have hd6 : d < 6 := List.mem_range.mp hd
      obtain ⟨a0, a1, a2, q0, q1, q2, la0, la1, la2, hmx, hmn⟩ := paint_nat XT d
      have hP : (P d, ({ cls := .type "list", data := .seq #[.int ((XT d).fmod 3) (u d 4), .int (((XT d).fdiv 3).fmod 3) (u d 5), .int (((XT d).fdiv 9).fmod 3) (u d 6)] 0 } : Obj)) ∈ SB := (hdm d hd6).2
      have i0 : (#[.int ((XT d).fmod 3) (u d 4), .int (((XT d).fdiv 3).fmod 3) (u d 5), .int (((XT d).fdiv 9).fmod 3) (u d 6)] : Array Value)[(0 : Int).toNat]? = some (.int ((XT d).fmod 3) (u d 4)) := rfl
      have i1 : (#[.int ((XT d).fmod 3) (u d 4), .int (((XT d).fdiv 3).fmod 3) (u d 5), .int (((XT d).fdiv 9).fmod 3) (u d 6)] : Array Value)[(1 : Int).toNat]? = some (.int (((XT d).fdiv 3).fmod 3) (u d 5)) := rfl
      have i2 : (#[.int ((XT d).fmod 3) (u d 4), .int (((XT d).fdiv 3).fmod 3) (u d 5), .int (((XT d).fdiv 9).fmod 3) (u d 6)] : Array Value)[(2 : Int).toNat]? = some (.int (((XT d).fdiv 9).fmod 3) (u d 6)) := rfl
      generalize (XT d).fmod 3 = p0 at i0 i1 i2 hP q0
      generalize ((XT d).fdiv 3).fmod 3 = p1 at i0 i1 i2 hP q1
      generalize ((XT d).fdiv 9).fmod 3 = p2 at i0 i1 i2 hP q2
      walk_at "sx"
      refine' hsv_h w0 (ExcName.means s0.heap) mg mb K ?ff X ?nn T ?kk ?dd ?uu a0 a1 a2 la0 la1 la2 _ _ _ ?_
      case ff => exact F7
      case nn => exact N7
      case kk => exact rfl
      case dd => k_room
      case uu => k_room
      intro h2 tk2 t2 r x y hle F2 N2
      walk_at "sx"
      rw [hf_two (max a0 (max a1 a2)) (mx3_lt (by assumption) (by assumption) (by assumption)), ← hmx]
      exact hQ _ _ _ (by have : s.toks + 10 ≤ tk2 := hle; omega) (Nat.succ_pos _) (Nat.lt_succ_self _) F2 (News.sub N2 fun q hq => .tail _ hq)
    · intro B1 bys hB tkB tkB' hBV hBr hBlt FB NB
      walk_at "sy"
      (with_reducible rename Fr _ _ _ _ => kF)
      refine ListComp_MT kF (List.range 6) (fun d v => v = .ref (D d)) (fun _ => true) (fun a t1 y tl t2 => tl = [] ∧ ∃ t, t1 ≤ t ∧ 0 < t ∧ t < t2 ∧ y = .float (fl (mxD XT a + mnD XT a)) t) Rising (fun d _ m₁ => m₁ "p" = some (.ref (P d)) ∧ m₁ "bare" = some (.str (bareOf (dB (XT d))) (u d 1)) ∧ m₁ "letters" = some (.str (dL (XT d)) (u d 2)) ∧ m₁ "title" = some (.str (dTitle (XT d) d) (u d 3))) (by with_unfolding_all rfl) (by decide) rfl (by decide) ?_ (fun _ => rfl)
      walk_at "sx"
      (with_reducible rename Fr _ _ _ _ => kF)
      (with_reducible rename News _ _ _ _ => kN)
      refine comp_tup4T (its := dys.toArray) (D := D) (nn := fun _ => 0) (g := fun a => fl (mxD XT a + mnD XT a)) (V1 := fun d => .ref (P d)) (V2 := fun d => .str (bareOf (dB (XT d))) (u d 1)) (V3 := fun d => .str (dL (XT d)) (u d 2)) (V4 := fun d => .str (dTitle (XT d) d) (u d 3)) rfl kF kN (by k_mem) hDs (by decide) (fun d hd => by have hm := hDay d hd; k_mem) rfl rfl rfl rfl rfl (by decide) ?_ ?_
      · intro d C oC mm own s Q E' hd b1 b2 b3 b4 hC F7 N7 hQ
        have hd6 : d < 6 := List.mem_range.mp hd
        obtain ⟨a0, a1, a2, q0, q1, q2, la0, la1, la2, hmx, hmn⟩ := paint_nat XT d
        have hP : (P d, ({ cls := .type "list", data := .seq #[.int ((XT d).fmod 3) (u d 4), .int (((XT d).fdiv 3).fmod 3) (u d 5), .int (((XT d).fdiv 9).fmod 3) (u d 6)] 0 } : Obj)) ∈ SB := (hdm d hd6).2
        have i0 : (#[.int ((XT d).fmod 3) (u d 4), .int (((XT d).fdiv 3).fmod 3) (u d 5), .int (((XT d).fdiv 9).fmod 3) (u d 6)] : Array Value)[(0 : Int).toNat]? = some (.int ((XT d).fmod 3) (u d 4)) := rfl
        have i1 : (#[.int ((XT d).fmod 3) (u d 4), .int (((XT d).fdiv 3).fmod 3) (u d 5), .int (((XT d).fdiv 9).fmod 3) (u d 6)] : Array Value)[(1 : Int).toNat]? = some (.int (((XT d).fdiv 3).fmod 3) (u d 5)) := rfl
        have i2 : (#[.int ((XT d).fmod 3) (u d 4), .int (((XT d).fdiv 3).fmod 3) (u d 5), .int (((XT d).fdiv 9).fmod 3) (u d 6)] : Array Value)[(2 : Int).toNat]? = some (.int (((XT d).fdiv 9).fmod 3) (u d 6)) := rfl
        generalize (XT d).fmod 3 = p0 at i0 i1 i2 hP q0
        generalize ((XT d).fdiv 3).fmod 3 = p1 at i0 i1 i2 hP q1
        generalize ((XT d).fdiv 9).fmod 3 = p2 at i0 i1 i2 hP q2
        walk_at "sx"
        refine' hls_h w0 (ExcName.means s0.heap) mg mb K ?ff X ?nn T ?kk ?dd ?uu a0 a1 a2 la0 la1 la2 _ _ _ ?_
        case ff => exact F7
        case nn => exact N7
        case kk => exact rfl
        case dd => k_room
        case uu => k_room
        intro h2 tk2 t2 r x y hle F2 N2
        walk_at "sx"
        rw [hf_four (max a0 (max a1 a2)) (mx3_lt (by assumption) (by assumption) (by assumption)) (min a0 (min a1 a2)) (mn3_lt _ _ (by assumption)), ← hmx, ← hmn]
        exact hQ _ _ _ (by have : s.toks + 10 ≤ tk2 := hle; omega) (Nat.succ_pos _) (Nat.lt_succ_self _) F2 (News.sub N2 fun q hq => .tail _ hq)
      · intro B2 bys2 hB2 tkB2 tkB2' hBV2 hBr2 hBlt2 FB2 NB2
        walk_at "sy"
        (with_reducible rename Fr _ _ _ _ => kF)
        refine ListComp_M kF (List.range 6) (fun d v => v = .ref (D d)) (fun _ => true) (fun d y tl => tl = [] ∧ ∃ t, y = .str (bareOf (dB (XT d))) t) (fun d _ m₁ => m₁ "p" = some (.ref (P d)) ∧ m₁ "bare" = some (.str (bareOf (dB (XT d))) (u d 1)) ∧ m₁ "letters" = some (.str (dL (XT d)) (u d 2)) ∧ m₁ "title" = some (.str (dTitle (XT d) d) (u d 3))) (by with_unfolding_all rfl) (by decide) rfl (by decide) ?_ (fun _ => rfl)
        walk_at "sx"
        (with_reducible rename Fr _ _ _ _ => kF)
        (with_reducible rename News _ _ _ _ => kN)
        refine comp_tup4 (its := dys.toArray) (D := D) (nn := fun _ => 0) (V1 := fun d => .ref (P d)) (V2 := fun d => .str (bareOf (dB (XT d))) (u d 1)) (V3 := fun d => .str (dL (XT d)) (u d 2)) (V4 := fun d => .str (dTitle (XT d) d) (u d 3)) rfl kF kN (by k_mem) hDs (by decide) (fun d hd => by have hm := hDay d hd; k_mem) rfl rfl rfl rfl rfl (by decide) ?_ ?_ ?_
        · intro d C oC mm own s Q E' hd b1 b2 b3 b4 hC F7 N7 hQ
          exact test_nil (hQ _ _ F7 N7)
        · intro d C oC mm own s Q E' hd hp b1 b2 b3 b4 hC F7 N7 hQ
          walk_at "sx"
          refine' strip_t w0 (ExcName.means s0.heap) mg mb K ?ff X ?nn T ?kk ?dd ?uu _ _ _ (strip_day (XT d) d) ?_
          case ff => exact F7
          case nn => exact N7
          case kk => exact rfl
          case dd => k_room
          case uu => k_room
          exact fun h2 tk2 t2 F2 N2 => hQ _ _ _ ⟨t2, rfl⟩ F2 N2
        · intro B3 bys3 hB3 tkB3 hBV3 hBlt3 FB3 NB3
          walk_at "sy"
          (with_reducible rename Fr _ _ _ _ => kF)
          (with_reducible rename News _ _ _ _ => kN)
          have n1 : B1 ≠ SD := Nat.ne_of_gt (ltN (hBlt _ (.head _)))
          have n2 : B2 ≠ SD := Nat.ne_of_gt (ltN (hBlt2 _ (.tail _ (.head _))))
          have n3 : B3 ≠ SD := Nat.ne_of_gt (ltN (hBlt3 _ (.tail _ (.tail _ (.head _)))))
          obtain ⟨k1, k2, k3, k4, k5, k6, k7, k8, k9, kS⟩ := lS
          have lSall : ∀ q ∈ (L + 1 + 1 + 1 + 1 + 1 + 1, c6) :: (L + 1 + 1 + 1 + 1 + 1, c5) :: (L + 1 + 1 + 1 + 1, c4) :: (L + 1 + 1 + 1, c3) :: (L + 1 + 1, c2) :: (L + 1, c1) :: (37, tabObj #[]) :: (30, tabObj #[]) :: (154, tabObj #[]) :: SB, q.1 ≠ SD := fun q hq => Nat.ne_of_lt (by
            revert q hq
            refine fa ?_ (fa ?_ (fa ?_ (fa ?_ (fa ?_ (fa ?_ (fa ?_ (fa ?_ (fa ?_ (fun q hq => ?_)))))))))
            · exact k1
            · exact k2
            · exact k3
            · exact k4
            · exact k5
            · exact k6
            · exact k7
            · exact k8
            · exact k9
            · exact ktn_ltOf kS q hq)
          refine kdn_made_str kF kN (.tail n3 (.tail n2 (.tail n1 (.head lSall)))) hdS rfl (of_decide_eq_true (by first | rfl | kernel_rfl!)) ?_
          intro h9 oS F9 N9 hdS9
          walk_at "sx"
          (with_reducible rename Fr _ _ _ _ => kF)
          (with_reducible rename News _ _ _ _ => kN)
          refine (no_index (?_ : ∀ m9, (Fr _ _ _ m9) → (m9 "days" = some (.ref DL)) → (m9 "seen" = some (.ref SD)) → _)) _ kF md1 rfl
          intro m9 kF9 q91 q92
          refine fun _ kk9 => kk9 _ _ ((B3, lst bys3) :: (B2, lst bys2) :: (B1, lst bys) :: (SD, oS) :: SB) SD oS B1 B2 B3 bys bys2 bys3 _ _ _ rfl (fun q hq => .tail _ (.tail _ (.tail _ (.tail _ hq)))) (fun q hq => ?_) (.tail _ (.tail _ (.tail _ (.head _)))) (.tail _ (.tail _ (.head _))) (.tail _ (.head _)) (.head _) loS hdS9 hBV hBr hBV2 hBr2 hBV3 q91 q92 kF9 (News.sel kN [4, 5, 6, 7, 8, 9, 10, 11, 12, 0, 1, 2, 3] 13)
          · revert q hq
            refine fa ?_ (fa ?_ (fa ?_ (fa ?_ (fun q hq => ?_))))
            · exact ltN (hBlt3 (L + 1 + 1 + 1 + 1 + 1 + 1, c6) (by k_mem))
            · exact ltN (hBlt2 (L + 1 + 1 + 1 + 1 + 1 + 1, c6) (by k_mem))
            · exact ltN (hBlt (L + 1 + 1 + 1 + 1 + 1 + 1, c6) (by k_mem))
            · exact k1
            · exact hS1 q hq
  --S4>
  clear F1 N1 md1
  intro s9 hs9
  refine hs9 _ fun h1 tk1 SB2 SD oS B1 B2 B3 bys bys2 bys3 tr1 tr2 m1 e9 hSS hS1' hSD hB1 hB2 hB3 loS hdS hBV hBr hBV2 hBr2 hBV3 md1 ms1 F1 N1 => ?_
  clear hs9
  subst e9
  replace hTD := hSS _ hTD
  replace hHL := hSS _ hHL
  replace hDL := hSS _ hDL
  replace hdm : ∀ d, d < 6 → (D d, dayObj (XT d) d (P d) (u d)) ∈ SB2 ∧ (P d, paintObj (XT d) (u d)) ∈ SB2 := fun d hd => ⟨hSS _ (hdm d hd).1, hSS _ (hdm d hd).2⟩
  replace hDay : ∀ d ∈ List.range 6, (D d, dayObj (XT d) d (P d) (u d)) ∈ SB2 := fun d hd => hSS _ (hDay d hd)
  replace hS1 := hS1'
  clear hS1' hSS
  refine cut (fun s' => Cps fun C9 => ∀ h' tk' SB3 UD oU U1 U2 U3 uys uys2 uys3 m', (s' = { s1 with heap := h', toks := tk' }) → (∀ q ∈ SB2, q ∈ SB3) → (∀ q ∈ SB3, L + 6 < q.1) → ((UD, oU) ∈ SB3) → ((U1, lst uys) ∈ SB3) → ((U2, lst uys2) ∈ SB3) → ((U3, lst uys3) ∈ SB3) → ((UD == sysModules) = false) → (∀ q ∈ SB2, q.1 < U1 ∧ q.1 < U2 ∧ q.1 < U3) → (oU.IsDictOf (PySem.strKind PySem.Challenge.rw_sn0056_01.prog w0) [(Str.ofString "bright", Value.ref U1), (Str.ofString "light", Value.ref U2), (Str.ofString "title", Value.ref U3)]) → (AllV (fun (a : Nat) v => ∃ t, v = .int ((mxD XT a : Nat) : Int) t) (List.range 6) uys) → (AllV (fun (a : Nat) v => ∃ t, v = .int (((mxD XT a : Nat) : Int) + ((mnD XT a : Nat) : Int)) t) (List.range 6) uys2) → (AllV (fun (d : Nat) y => ∃ t, y = .str (bareOf (dB (XT d))) t) (List.range 6) uys3) → (m' "days" = some (.ref DL)) → (m' "seen" = some (.ref SD)) → (m' "due" = some (.ref UD)) → (Fr H0 L h' m') → (News H0 L h' ((L + 1 + 1 + 1 + 1 + 1 + 1, c6) :: (L + 1 + 1 + 1 + 1 + 1, c5) :: (L + 1 + 1 + 1 + 1, c4) :: (L + 1 + 1 + 1, c3) :: (L + 1 + 1, c2) :: (L + 1, c1) :: (37, tabObj #[]) :: (30, tabObj #[]) :: (154, tabObj #[]) :: SB3)) → C9) ?_ ?_
  --S5<
  · walk_at "sx"
    rename_i UD hS0 oS0 FS0 NS0 loU hdS lS
    (with_reducible rename Fr _ _ _ _ => kF)
    refine ListComp_M kF (List.range 6) (fun d v => v = .ref (D d)) (fun _ => true) (fun d y tl => tl = [] ∧ ∃ t, y = .int ((mxD XT d : Nat) : Int) t) (fun d _ m₁ => m₁ "p" = some (.ref (P d)) ∧ m₁ "bare" = some (.str (bareOf (dB (XT d))) (u d 1)) ∧ m₁ "letters" = some (.str (dL (XT d)) (u d 2)) ∧ m₁ "title" = some (.str (dTitle (XT d) d) (u d 3))) (by with_unfolding_all rfl) (by decide) rfl (by decide) ?_ (fun _ => rfl)
    walk_at "sx"
    (with_reducible rename Fr _ _ _ _ => kF)
    (with_reducible rename News _ _ _ _ => kN)
    refine comp_tup4 (its := dys.toArray) (D := D) (nn := fun _ => 0) (V1 := fun d => .ref (P d)) (V2 := fun d => .str (bareOf (dB (XT d))) (u d 1)) (V3 := fun d => .str (dL (XT d)) (u d 2)) (V4 := fun d => .str (dTitle (XT d) d) (u d 3)) rfl kF kN (by k_mem) hDs (by decide) (fun d hd => by have hm := hDay d hd; k_mem) rfl rfl rfl rfl rfl (by decide) ?_ ?_ ?_
    · intro d C oC mm own s Q E' hd b1 b2 b3 b4 hC F7 N7 hQ
      exact test_nil (hQ _ _ F7 N7)
    · intro d C oC mm own s Q E' hd hp b1 b2 b3 b4 hC F7 N7 hQ
      have hd6 : d < 6 := List.mem_range.mp hd
      obtain ⟨a0, a1, a2, q0, q1, q2, la0, la1, la2, hmx, hmn⟩ := paint_nat XT d
      have hP : (P d, ({ cls := .type "list", data := .seq #[.int ((XT d).fmod 3) (u d 4), .int (((XT d).fdiv 3).fmod 3) (u d 5), .int (((XT d).fdiv 9).fmod 3) (u d 6)] 0 } : Obj)) ∈ SB2 := (hdm d hd6).2
      have hM1 : ((mxD XT d : Nat) : Int) = max ((XT d).fmod 3) (max (((XT d).fdiv 3).fmod 3) (((XT d).fdiv 9).fmod 3)) := cmax (by assumption) (by assumption) (by assumption) (by assumption)
      have hM2 : ((mnD XT d : Nat) : Int) = min ((XT d).fmod 3) (min (((XT d).fdiv 3).fmod 3) (((XT d).fdiv 9).fmod 3)) := cmin (by assumption) (by assumption) (by assumption) (by assumption)
      generalize (XT d).fmod 3 = p0 at hM1 hM2 hP q0
      generalize ((XT d).fdiv 3).fmod 3 = p1 at hM1 hM2 hP q1
      generalize ((XT d).fdiv 9).fmod 3 = p2 at hM1 hM2 hP q2
      walk_at "sx"
      exact hQ _ _ _ ⟨_, rfl⟩ (by k_asm) (by k_asm)
    · intro U1 uys hB tkB hUV hBlt FB NB
      walk_at "sy"
      (with_reducible rename Fr _ _ _ _ => kF)
      refine ListComp_M kF (List.range 6) (fun d v => v = .ref (D d)) (fun _ => true) (fun d y tl => tl = [] ∧ ∃ t, y = .int (((mxD XT d : Nat) : Int) + ((mnD XT d : Nat) : Int)) t) (fun d _ m₁ => m₁ "p" = some (.ref (P d)) ∧ m₁ "bare" = some (.str (bareOf (dB (XT d))) (u d 1)) ∧ m₁ "letters" = some (.str (dL (XT d)) (u d 2)) ∧ m₁ "title" = some (.str (dTitle (XT d) d) (u d 3))) (by with_unfolding_all rfl) (by decide) rfl (by decide) ?_ (fun _ => rfl)
      walk_at "sx"
      (with_reducible rename Fr _ _ _ _ => kF)
      (with_reducible rename News _ _ _ _ => kN)
      refine comp_tup4 (its := dys.toArray) (D := D) (nn := fun _ => 0) (V1 := fun d => .ref (P d)) (V2 := fun d => .str (bareOf (dB (XT d))) (u d 1)) (V3 := fun d => .str (dL (XT d)) (u d 2)) (V4 := fun d => .str (dTitle (XT d) d) (u d 3)) rfl kF kN (by k_mem) hDs (by decide) (fun d hd => by have hm := hDay d hd; k_mem) rfl rfl rfl rfl rfl (by decide) ?_ ?_ ?_
      · intro d C oC mm own s Q E' hd b1 b2 b3 b4 hC F7 N7 hQ
        exact test_nil (hQ _ _ F7 N7)
      · intro d C oC mm own s Q E' hd hp b1 b2 b3 b4 hC F7 N7 hQ
        have hd6 : d < 6 := List.mem_range.mp hd
        obtain ⟨a0, a1, a2, q0, q1, q2, la0, la1, la2, hmx, hmn⟩ := paint_nat XT d
        have hP : (P d, ({ cls := .type "list", data := .seq #[.int ((XT d).fmod 3) (u d 4), .int (((XT d).fdiv 3).fmod 3) (u d 5), .int (((XT d).fdiv 9).fmod 3) (u d 6)] 0 } : Obj)) ∈ SB2 := (hdm d hd6).2
        have hM1 : ((mxD XT d : Nat) : Int) = max ((XT d).fmod 3) (max (((XT d).fdiv 3).fmod 3) (((XT d).fdiv 9).fmod 3)) := cmax (by assumption) (by assumption) (by assumption) (by assumption)
        have hM2 : ((mnD XT d : Nat) : Int) = min ((XT d).fmod 3) (min (((XT d).fdiv 3).fmod 3) (((XT d).fdiv 9).fmod 3)) := cmin (by assumption) (by assumption) (by assumption) (by assumption)
        generalize (XT d).fmod 3 = p0 at hM1 hM2 hP q0
        generalize ((XT d).fdiv 3).fmod 3 = p1 at hM1 hM2 hP q1
        generalize ((XT d).fdiv 9).fmod 3 = p2 at hM1 hM2 hP q2
        walk_at "sx"
        exact hQ _ _ _ ⟨_, rfl⟩ (by k_asm) (by k_asm)
      · intro U2 uys2 hB2 tkB2 hUV2 hBlt2 FB2 NB2
        walk_at "sy"
        (with_reducible rename Fr _ _ _ _ => kF)
        refine ListComp_M kF (List.range 6) (fun d v => v = .ref (D d)) (fun _ => true) (fun d y tl => tl = [] ∧ ∃ t, y = .str (bareOf (dB (XT d))) t) (fun d _ m₁ => m₁ "p" = some (.ref (P d)) ∧ m₁ "bare" = some (.str (bareOf (dB (XT d))) (u d 1)) ∧ m₁ "letters" = some (.str (dL (XT d)) (u d 2)) ∧ m₁ "title" = some (.str (dTitle (XT d) d) (u d 3))) (by with_unfolding_all rfl) (by decide) rfl (by decide) ?_ (fun _ => rfl)
        walk_at "sx"
        (with_reducible rename Fr _ _ _ _ => kF)
        (with_reducible rename News _ _ _ _ => kN)
        refine comp_tup4 (its := dys.toArray) (D := D) (nn := fun _ => 0) (V1 := fun d => .ref (P d)) (V2 := fun d => .str (bareOf (dB (XT d))) (u d 1)) (V3 := fun d => .str (dL (XT d)) (u d 2)) (V4 := fun d => .str (dTitle (XT d) d) (u d 3)) rfl kF kN (by k_mem) hDs (by decide) (fun d hd => by have hm := hDay d hd; k_mem) rfl rfl rfl rfl rfl (by decide) ?_ ?_ ?_
        · intro d C oC mm own s Q E' hd b1 b2 b3 b4 hC F7 N7 hQ
          exact test_nil (hQ _ _ F7 N7)
        · intro d C oC mm own s Q E' hd hp b1 b2 b3 b4 hC F7 N7 hQ
          walk_at "sx"
          exact hQ _ _ _ ⟨_, rfl⟩ (by k_asm) (by k_asm)
        · intro U3 uys3 hB3 tkB3 hUV3 hBlt3 FB3 NB3
          walk_at "sy"
          (with_reducible rename Fr _ _ _ _ => kF)
          (with_reducible rename News _ _ _ _ => kN)
          have n1 : U1 ≠ UD := Nat.ne_of_gt (ltN (hBlt _ (.head _)))
          have n2 : U2 ≠ UD := Nat.ne_of_gt (ltN (hBlt2 _ (.tail _ (.head _))))
          have n3 : U3 ≠ UD := Nat.ne_of_gt (ltN (hBlt3 _ (.tail _ (.tail _ (.head _)))))
          obtain ⟨k1, k2, k3, k4, k5, k6, k7, k8, k9, kS⟩ := lS
          have lSall : ∀ q ∈ (L + 1 + 1 + 1 + 1 + 1 + 1, c6) :: (L + 1 + 1 + 1 + 1 + 1, c5) :: (L + 1 + 1 + 1 + 1, c4) :: (L + 1 + 1 + 1, c3) :: (L + 1 + 1, c2) :: (L + 1, c1) :: (37, tabObj #[]) :: (30, tabObj #[]) :: (154, tabObj #[]) :: SB2, q.1 ≠ UD := fun q hq => Nat.ne_of_lt (by
            revert q hq
            refine fa ?_ (fa ?_ (fa ?_ (fa ?_ (fa ?_ (fa ?_ (fa ?_ (fa ?_ (fa ?_ (fun q hq => ?_)))))))))
            · exact k1
            · exact k2
            · exact k3
            · exact k4
            · exact k5
            · exact k6
            · exact k7
            · exact k8
            · exact k9
            · exact ktn_ltOf kS q hq)
          refine kdn_made_str kF kN (.tail n3 (.tail n2 (.tail n1 (.head lSall)))) hdS rfl (of_decide_eq_true (by first | rfl | kernel_rfl!)) ?_
          intro h9 oU F9 N9 hdU
          walk_at "sx"
          (with_reducible rename Fr _ _ _ _ => kF)
          (with_reducible rename News _ _ _ _ => kN)
          refine (no_index (?_ : ∀ m9, (Fr _ _ _ m9) → (m9 "days" = some (.ref DL)) → (m9 "seen" = some (.ref SD)) → (m9 "due" = some (.ref UD)) → _)) _ kF md1 ms1 rfl
          intro m9 kF9 q91 q92 q93
          refine fun _ kk9 => kk9 _ _ ((U3, lst uys3) :: (U2, lst uys2) :: (U1, lst uys) :: (UD, oU) :: SB2) UD oU U1 U2 U3 uys uys2 uys3 _ rfl (fun q hq => .tail _ (.tail _ (.tail _ (.tail _ hq)))) (fun q hq => ?_) (.tail _ (.tail _ (.tail _ (.head _)))) (.tail _ (.tail _ (.head _))) (.tail _ (.head _)) (.head _) loU (fun q hq => ⟨ltN (hBlt q (by k_mem)), ltN (hBlt2 q (by k_mem)), ltN (hBlt3 q (by k_mem))⟩) hdU hUV hUV2 hUV3 q91 q92 q93 kF9 (News.sel kN [4, 5, 6, 7, 8, 9, 10, 11, 12, 0, 1, 2, 3] 13)
          · revert q hq
            refine fa ?_ (fa ?_ (fa ?_ (fa ?_ (fun q hq => ?_))))
            · exact ltN (hBlt3 (L + 1 + 1 + 1 + 1 + 1 + 1, c6) (by k_mem))
            · exact ltN (hBlt2 (L + 1 + 1 + 1 + 1 + 1 + 1, c6) (by k_mem))
            · exact ltN (hBlt (L + 1 + 1 + 1 + 1 + 1 + 1, c6) (by k_mem))
            · exact k1
            · exact hS1 q hq
  --S5>
  clear F1 N1 md1 ms1
  intro s9 hs9
  refine hs9 _ fun h1 tk1 SB3 UD oU U1 U2 U3 uys uys2 uys3 m1 e9 hSS hS1' hUD hU1 hU2 hU3 loU hU4 hdU hUV hUV2 hUV3 md1 ms1 mu1 F1 N1 => ?_
  clear hs9
  subst e9
  have hUne : B1 ≠ U1 ∧ B2 ≠ U2 ∧ B3 ≠ U3 := ⟨Nat.ne_of_lt (hU4 _ hB1).1, Nat.ne_of_lt (hU4 _ hB2).2.1, Nat.ne_of_lt (hU4 _ hB3).2.2⟩
  replace hTD := hSS _ hTD
  replace hHL := hSS _ hHL
  replace hDL := hSS _ hDL
  replace hSD := hSS _ hSD
  replace hB1 := hSS _ hB1
  replace hB2 := hSS _ hB2
  replace hB3 := hSS _ hB3
  replace hdm : ∀ d, d < 6 → (D d, dayObj (XT d) d (P d) (u d)) ∈ SB3 ∧ (P d, paintObj (XT d) (u d)) ∈ SB3 := fun d hd => ⟨hSS _ (hdm d hd).1, hSS _ (hdm d hd).2⟩
  replace hDay : ∀ d ∈ List.range 6, (D d, dayObj (XT d) d (P d) (u d)) ∈ SB3 := fun d hd => hSS _ (hDay d hd)
  replace hS1 := hS1'
  clear hS1' hSS hU4
  refine cut (fun s' => Cps fun C9 => ∀ h' tk', (s' = { s1 with heap := h', toks := tk' }) → (Fr H0 L h' m1) → (News H0 L h' ((L + 1 + 1 + 1 + 1 + 1 + 1, c6) :: (L + 1 + 1 + 1 + 1 + 1, c5) :: (L + 1 + 1 + 1 + 1, c4) :: (L + 1 + 1 + 1, c3) :: (L + 1 + 1, c2) :: (L + 1, c1) :: (37, tabObj #[]) :: (30, tabObj #[]) :: (154, tabObj #[]) :: SB3)) → C9) ?_ ?_
  --S6<
  · walk_at "sx"
    (with_reducible rename News _ _ _ _ => kN)
    refine kne_pairs (knd := PySem.strKind _ _) (r := true && (true && (true && true))) kN (oa := oS) (ob := oU) (by k_mem) (by k_mem) hdS hdU loS loU rfl (by k_units) (.hit rfl ?_ (.hit rfl ?_ (.hit rfl ?_ .nil))) ?_
    · exact eqAt_lists (News.isList kN (by k_mem)) (News.isList kN (by k_mem)) hUne.1 hBV hUV (by k_units) fun d y u hd ⟨t, hy⟩ ⟨t', hu⟩ => by
        rw [hy, hu, ← fl_int (mxD XT d) (Nat.lt_of_lt_of_le (mnx_lt XT d).1 (by decide))]
        exact eqAt_fi
    · exact eqAt_lists (News.isList kN (by k_mem)) (News.isList kN (by k_mem)) hUne.2.1 hBV2 hUV2 (by k_units) fun d y u hd ⟨t, hy⟩ ⟨t', hu⟩ => by
        have hm := mnx_lt XT d
        rw [hy, hu, ← fl_int (mxD XT d + mnD XT d) (by omega), show (((mxD XT d : Nat) : Int) + ((mnD XT d : Nat) : Int)) = ((mxD XT d + mnD XT d : Nat) : Int) by omega]
        exact eqAt_fi
    · exact eqAt_lists (News.isList kN (by k_mem)) (News.isList kN (by k_mem)) hUne.2.2 hBV3 hUV3 (by k_units) fun d y u hd ⟨t, hy⟩ ⟨t', hu⟩ => by
        rw [hy, hu, show true = (bareOf (dB (XT d)) == bareOf (dB (XT d))) by simp]
        exact SeqAt.EqAt.str_str _ _ _ _
    walk_at "sx"
    exact fun _ kk9 => kk9 _ _ rfl F1 kN
  --S6>
  clear F1 N1 hUD hU1 hU2 hU3 hdU hUV hUV2 hUV3 mu1 hUne
  intro s9 hs9
  refine hs9 _ fun h1 tk1 e9 F1 N1 => ?_
  clear hs9
  subst e9
  refine cut (fun s' => Cps fun C9 => ∀ h' tk' SB4 FL fys m', (s' = { s1 with heap := h', toks := tk' }) → (∀ q ∈ SB3, q ∈ SB4) → (∀ q ∈ SB4, L + 6 < q.1) → ((FL, lst fys) ∈ SB4) → (AllV (fun (d : Nat) y => y = .bool (goodOf (lA (XT d)) (lB (XT d)) (lC (XT d)))) (List.range 6) fys) → (m' "days" = some (.ref DL)) → (m' "seen" = some (.ref SD)) → (m' "fits" = some (.ref FL)) → (Fr H0 L h' m') → (News H0 L h' ((L + 1 + 1 + 1 + 1 + 1 + 1, c6) :: (L + 1 + 1 + 1 + 1 + 1, c5) :: (L + 1 + 1 + 1 + 1, c4) :: (L + 1 + 1 + 1, c3) :: (L + 1 + 1, c2) :: (L + 1, c1) :: (37, tabObj #[]) :: (30, tabObj #[]) :: (154, tabObj #[]) :: SB4)) → C9) ?_ ?_
  --S7<
  · refine Assign_ListComp_M F1 (List.range 6) (fun d v => v = .ref (D d)) (fun _ => true) (fun d y tl => tl = [] ∧ y = .bool (goodOf (lA (XT d)) (lB (XT d)) (lC (XT d)))) (fun d _ m₁ => m₁ "p" = some (.ref (P d)) ∧ m₁ "bare" = some (.str (bareOf (dB (XT d))) (u d 1)) ∧ m₁ "letters" = some (.str (dL (XT d)) (u d 2)) ∧ m₁ "title" = some (.str (dTitle (XT d) d) (u d 3))) rfl (by with_unfolding_all rfl) (by with_unfolding_all rfl) (by decide) rfl (by decide) rfl rfl ?_ (fun _ => rfl)
    walk_at "sx"
    (with_reducible rename Fr _ _ _ _ => kF)
    (with_reducible rename News _ _ _ _ => kN)
    refine comp_tup4 (its := dys.toArray) (D := D) (nn := fun _ => 0) (V1 := fun d => .ref (P d)) (V2 := fun d => .str (bareOf (dB (XT d))) (u d 1)) (V3 := fun d => .str (dL (XT d)) (u d 2)) (V4 := fun d => .str (dTitle (XT d) d) (u d 3)) rfl kF kN (by k_mem) hDs (by decide) (fun d hd => by have hm := hDay d hd; k_mem) rfl rfl rfl rfl rfl (by decide) ?_ ?_ ?_
    · intro d C oC mm own s Q E' hd b1 b2 b3 b4 hC F7 N7 hQ
      exact test_nil (hQ _ _ F7 N7)
    · intro d C oC mm own s Q E' hd hp b1 b2 b3 b4 hC F7 N7 hQ
      walk_at "sx"
      refine' match_t w0 (ExcName.means s0.heap) mg mb K ?ff X ?nn T ?kk ?dd ?uu _ _ _ _ (match_day (XT d) d) ?_
      case ff => exact F7
      case nn => exact N7
      case kk => exact rfl
      case dd => k_room
      case uu => k_room
      exact fun h2 tk2 F2 N2 => hQ _ _ _ rfl F2 N2
    · intro FL fys h2 tk2 hFV hlt F2 N2 h3 tk3 F3 N3
      walk_at "sx"
      (with_reducible rename Fr _ _ _ _ => kF)
      (with_reducible rename News _ _ _ _ => kN)
      refine (no_index (?_ : ∀ m9, (Fr _ _ _ m9) → (m9 "days" = some (.ref DL)) → (m9 "seen" = some (.ref SD)) → (m9 "fits" = some (.ref FL)) → _)) _ kF md1 ms1 rfl
      intro m9 kF9 q91 q92 q93
      refine fun _ kk9 => kk9 _ _ ((FL, lst fys) :: SB3) FL fys _ rfl (fun q hq => .tail _ hq) (fun q hq => ?_) (.head _) hFV q91 q92 q93 kF9 (News.sel kN [1, 2, 3, 4, 5, 6, 7, 8, 9, 0] 10)
      · rcases List.mem_cons.mp hq with rfl | hq
        · exact ltN (hlt (L + 1 + 1 + 1 + 1 + 1 + 1, c6) (by k_mem))
        · exact hS1 q hq
  --S7>
  clear F1 N1 md1 ms1
  intro s9 hs9
  refine hs9 _ fun h1 tk1 SB4 FL fys m1 e9 hSS hS1' hFL hFV md1 ms1 mf1 F1 N1 => ?_
  clear hs9
  subst e9
  replace hTD := hSS _ hTD
  replace hHL := hSS _ hHL
  replace hDL := hSS _ hDL
  replace hSD := hSS _ hSD
  replace hB1 := hSS _ hB1
  replace hB2 := hSS _ hB2
  replace hB3 := hSS _ hB3
  replace hDay : ∀ d ∈ List.range 6, (D d, dayObj (XT d) d (P d) (u d)) ∈ SB4 := fun d hd => hSS _ (hDay d hd)
  replace hS1 := hS1'
  clear hS1' hSS hdm
  obtain ⟨t6, hx6⟩ := hX 6 (by decide)
  obtain ⟨t7, hx7⟩ := hX 7 (by decide)
  have hx6' : tys.toArray[(6 : Int).toNat]? = some (.int (XT 6) t6) := hx6
  have hx7' : tys.toArray[(7 : Int).toNat]? = some (.int (XT 7) t7) := hx7
  clear hx6 hx7 hX
  refine cut (fun s' => Cps fun C9 => ∀ h' tk' SB5, ∀ (p154 : Array Value) (I dx PB f2 : Addr) (nn npb : Nat) (k1 k2 k3 k4 tl tw : Tok) (ln : Int) (v1 v2 v3 : Tok) (w1 w2 w3 : Str), ∀ m', (s' = { s1 with heap := h', toks := tk' }) → (∀ q ∈ SB4, q ∈ SB5) → (∀ q ∈ SB5, L + 6 < q.1) → ((dx, dictOf (lexEs w0 k1 k2 k3 k4 tl tw ln f2 PB) nn) ∈ SB5) → ((I, instObj 122 dx) ∈ SB5) → (∀ q ∈ SB5, q.1 ≠ PB) → (L + 6 < PB) → (w1 ∈ names3 ∧ w2 ∈ names3 ∧ w3 ∈ names3 ∧ w1 ≠ w2 ∧ w1 ≠ w3 ∧ w2 ≠ w3) → (m' "days" = some (.ref DL)) → (m' "seen" = some (.ref SD)) → (m' "fits" = some (.ref FL)) → (m' "line" = some (.ref I)) → (Fr H0 L h' m') → (News H0 L h' ((PB, PySem.W.listOf ([.str w1 v1, .str w2 v2, .str w3 v3] : List Value).toArray npb) :: (L + 1 + 1 + 1 + 1 + 1 + 1, c6) :: (L + 1 + 1 + 1 + 1 + 1, c5) :: (L + 1 + 1 + 1 + 1, c4) :: (L + 1 + 1 + 1, c3) :: (L + 1 + 1, c2) :: (L + 1, c1) :: (37, tabObj #[]) :: (30, tabObj #[]) :: (154, tabObj p154) :: SB5)) → C9) ?_ ?_
  --S8<
  · walk_at "sx"
    (with_reducible rename Fr _ _ _ _ => kF)
    (with_reducible rename News _ _ _ _ => kN)
    refine' order_c w0 (ExcName.means s0.heap) mg mb K ?ff X ?nn T ?kk ?dd ?uu (XT 6) t6 _ _ _ _ (hXb 6 (by decide)).1 (hXb 6 (by decide)).2 ?_ ?hm
    case ff => exact kF
    case nn => exact kN
    case kk => exact rfl
    case dd => k_room
    case uu => k_room
    case hm => exact .head _
    intro O os oc h2 tk2 hperm F2 N2
    obtain ⟨w1, g1, w2, g2, w3, g3, rfl, hw1, hw2, hw3, n12, n13, n23⟩ := order_split hperm
    have N3 : News H0 L h2 ((O, PySem.W.listOf ([(w1, g1), (w2, g2), (w3, g3)].map fun p => Value.str p.1 p.2).toArray oc) :: (154, tabObj #[]) :: (L + 1 + 1 + 1 + 1 + 1 + 1, c6) :: (L + 1 + 1 + 1 + 1 + 1, c5) :: (L + 1 + 1 + 1 + 1, c4) :: (L + 1 + 1 + 1, c3) :: (L + 1 + 1, c2) :: (L + 1, c1) :: (37, tabObj #[]) :: (30, tabObj #[]) :: SB4) := News.sel N2 [0, 10, 2, 3, 4, 5, 6, 7, 8, 9] 11
    clear N2 kN kF
    walk_at "sx"
    refine' written_c w0 (ExcName.means s0.heap) mg mb K ?ff X ?nn T ?kk ?dd ?uu (XT 7) t7 g1 g2 g3 O oc w1 w2 w3 ?_ (word_let hw1).2.1 (word_let hw2).2.1 (word_let hw3).2.1 (hXb 7 (by decide)).1 (hXb 7 (by decide)).2 ?hm
    case ff => exact F2
    case nn => exact N3
    case kk => exact rfl
    case dd => k_room
    case uu => k_room
    case hm => exact .head _
    intro tx h4 tk4 t4 hwr hlen F4 N4
    walk_at "sx"
    obtain ⟨hst, hpos⟩ := stands_wr hwr ⟨(word_let hw1).1, (word_let hw1).2.2⟩ ⟨(word_let hw2).1, (word_let hw2).2.2⟩ ⟨(word_let hw3).1, (word_let hw3).2.2⟩
    refine' queue_c w0 (ExcName.means s0.heap) mg mb (news := (L + 1 + 1 + 1 + 1 + 1 + 1, c6) :: (L + 1 + 1 + 1 + 1 + 1, c5) :: (L + 1 + 1 + 1 + 1, c4) :: (L + 1 + 1 + 1, c3) :: (L + 1 + 1, c2) :: (L + 1, c1) :: (37, tabObj #[]) :: (30, tabObj #[]) :: SB4) (t154 := [(154, tabObj #[])]) K ?ff X ?nn T ?kk codeHd ?ap rfl ?dd ?uu tx t4 (by omega) (fun j hj => slc_len hj) (slc_end hpos) _ _ _ _ _ _ hst ?_
    case ff => exact F4
    case nn => exact News.sub N4 fun q hq => .tail _ hq
    case kk => exact rfl
    case dd => k_room
    case uu => k_room
    case ap =>
      intro q hq
      revert q hq
      refine fa ?_ (fa ?_ (fa ?_ (fa ?_ (fa ?_ (fa ?_ (fa ?_ (fa ?_ (fun q hq => ?_))))))))
      · exact Nat.ne_of_gt (by omega)
      · exact Nat.ne_of_gt (by omega)
      · exact Nat.ne_of_gt (by omega)
      · exact Nat.ne_of_gt (by omega)
      · exact Nat.ne_of_gt (by omega)
      · exact Nat.ne_of_gt (by omega)
      · decide
      · decide
      · exact Nat.ne_of_gt (by have := hS1 q hq; omega)
    intro I dx PB f2 nn npb k1 k2 k3 k4 tl tw ln v1 v2 v3 p154 h6 tk6 hlt6 hdP hIP F6 N6
    simp only [tokOf_word] at N6
    clear N4 F4 N3 F2
    walk_at "sx"
    · exact trivial
    (with_reducible rename Fr _ _ _ _ => kF)
    (with_reducible rename News _ _ _ _ => kN)
    refine (no_index (?_ : ∀ m9, (Fr _ _ _ m9) → (m9 "days" = some (.ref DL)) → (m9 "seen" = some (.ref SD)) → (m9 "fits" = some (.ref FL)) → (m9 "line" = some (.ref I)) → _)) _ kF md1 ms1 mf1 rfl
    intro m9 kF9 q91 q92 q93 q94
    have hL6 := hlt6 (L + 1 + 1 + 1 + 1 + 1 + 1, c6) (.head _)
    refine fun _ kk9 => kk9 _ _ ((dx, _) :: (I, instObj 122 dx) :: SB4) p154 I dx PB f2 nn npb k1 k2 k3 k4 tl tw ln v1 v2 v3 w1 w2 w3 _ rfl (fun q hq => .tail _ (.tail _ hq)) (fun q hq => ?_) (.head _) (.tail _ (.head _)) (fun q hq => ?_) hL6.2.2 ⟨hw1, hw2, hw3, n12, n13, n23⟩ q91 q92 q93 q94 kF9 (News.sel kN [0, 4, 5, 6, 7, 8, 9, 10, 11, 3, 1, 2] 12)
    · revert q hq
      refine fa ?_ (fa ?_ (fun q hq => ?_))
      · exact hL6.1
      · exact hL6.2.1
      · exact hS1 q hq
    · revert q hq
      refine fa ?_ (fa ?_ (fun q hq => ?_))
      · exact hdP
      · exact hIP
      · exact Nat.ne_of_lt (hlt6 q (by k_mem)).2.2
  --S8>
  clear F1 N1 md1 ms1 mf1 hx6' hx7'
  intro s9 hs9
  refine hs9 _ fun h1 tk1 SB5 p154 I dx PB f2 nn npb k1 k2 k3 k4 tl tw ln v1 v2 v3 w1 w2 w3 m1 e9 hSS hS1' hdx hI9 hnPB hLPB hn9 md1 ms1 mf1 ml1 F1 N1 => ?_
  clear hs9
  subst e9
  obtain ⟨hw1, hw2, hw3, n12, n13, n23⟩ := hn9
  clear hTD
  replace hHL := hSS _ hHL
  replace hFL := hSS _ hFL
  replace hDL := hSS _ hDL
  replace hSD := hSS _ hSD
  replace hB1 := hSS _ hB1
  replace hB2 := hSS _ hB2
  replace hB3 := hSS _ hB3
  replace hDay : ∀ d ∈ List.range 6, (D d, dayObj (XT d) d (P d) (u d)) ∈ SB5 := fun d hd => hSS _ (hDay d hd)
  replace hS1 := hS1'
  clear hS1' hSS
  refine cut (fun s' => Cps fun C9 => ∀ h' tk' SK, ∀ (Kd Wd : Addr) (oK oW : Obj) (kvW : List (Str × Value)) (ka : Str → Addr) (c : Str → Nat → Nat) (c4' : Obj) (p30 p37 p154 : Array Value), ∀ m', (s' = { s1 with heap := h', toks := tk' }) → (∀ q ∈ SK, q.1 ≠ L + 1 ∧ q.1 ≠ L + 1 + 1 ∧ q.1 ≠ L + 1 + 1 + 1 ∧ q.1 ≠ L + 1 + 1 + 1 + 1 ∧ q.1 ≠ L + 1 + 1 + 1 + 1 + 1 ∧ q.1 ≠ L + 1 + 1 + 1 + 1 + 1 + 1) → ((30, tabObj p30) ∈ SK) → ((37, tabObj p37) ∈ SK) → ((154, tabObj p154) ∈ SK) → ((Kd, oK) ∈ SK) → ((Wd, oW) ∈ SK) → (oK.IsDictOf (PySem.strKind PySem.Challenge.rw_sn0056_01.prog w0) (names3.map fun n => (n, Value.ref (ka n)))) → (oW.IsDictOf (PySem.strKind PySem.Challenge.rw_sn0056_01.prog w0) kvW) → ((Kd == sysModules) = false) → ((HL, lst hys) ∈ SK) → ((DL, lst dys) ∈ SK) → (∀ d ∈ List.range 6, (D d, dayObj (XT d) d (P d) (u d)) ∈ SK) → (∀ n ∈ names3, ∃ ys : List Value, (ka n, ({ cls := .type "list", data := .seq ys.toArray ys.length } : Obj)) ∈ SK ∧ IntsAre ys ((List.range 6).map fun d => ((c n d : Nat) : Int))) → (∀ n ∈ names3, Valid (c n)) → (∀ n ∈ names3, GoodW SK kvW c (nxt w1 w2 w3) (fun d => 5 + ((XT d).fdiv 432).fmod 3) (fun d => goodOf (lA (XT d)) (lB (XT d)) (lC (XT d))) n) → (m' "days" = some (.ref DL)) → (m' "known" = some (.ref Kd)) → (c4'.data = .cell (some (.ref Wd))) → (Fr H0 L h' m') → (News H0 L h' ((L + 1 + 1 + 1 + 1 + 1 + 1, c6) :: (L + 1 + 1 + 1 + 1 + 1, c5) :: (L + 1 + 1 + 1 + 1, c4') :: (L + 1 + 1 + 1, c3) :: (L + 1 + 1, c2) :: (L + 1, c1) :: SK)) → C9) ?_ ?_
  --S9<
  · walk_at "sx"
    (with_reducible rename Fr _ _ _ _ => kF)
    (with_reducible rename News _ _ _ _ => kN)
    refine' talk_c w0 (ExcName.means s0.heap) mg mb (S0 := (L + 1 + 1 + 1 + 1 + 1 + 1, c6) :: (L + 1 + 1 + 1 + 1 + 1, c5) :: (L + 1 + 1 + 1 + 1, c4) :: (L + 1 + 1 + 1, c3) :: (L + 1 + 1, c2) :: (L + 1, c1) :: (154, tabObj p154) :: SB5) (t30 := [(30, tabObj #[])]) (t37 := [(37, tabObj #[])]) K ?ff X T ?kk ?dd ?uu Cb Ca (tabOk_nil _ _ _) (tabOk_nil _ _ _) w1 w2 w3 v1 v2 v3 PB dx I f2 SD HL FL 0 npb nn k1 k2 k3 k4 tl tw ln oS (sawAt B1 B2 B3) (seeAt XT) ?nn ?apS ?apP ?apT ?ap2 (by k_mem) (by k_mem) (by k_mem) ?hSd loS ?ob (fun n _ => see_valid XT n) (nxt w1 w2 w3) ⟨hw1, hw2, hw3, (nxt_ok n12 n13 n23).1, (nxt_ok n12 n13 n23).2.1, (nxt_ok n12 n13 n23).2.2, n12, n13, n23⟩ hys.toArray fys.toArray hys.length fys.length (fun d => 5 + ((XT d).fdiv 432).fmod 3) (fun d => goodOf (lA (XT d)) (lB (XT d)) (lC (XT d))) (by k_mem) (by k_mem) ?hh ?hf (fun d => hv_bd (XT d)) ?_
    case ff => exact kF
    case kk => exact rfl
    case dd => k_room
    case uu => k_room
    case nn => exact News.of_append (News.sel kN [0, 1, 2, 3, 4, 5, 6, 9] 10) (News.pick kN [8, 7])
    case apS =>
      intro q hq
      revert q hq
      refine fa ?_ (fa ?_ (fa ?_ (fa ?_ (fa ?_ (fa ?_ (fa ?_ (fun q hq => ?_)))))))
      · exact Nat.ne_of_lt (by omega)
      · exact Nat.ne_of_lt (by omega)
      · exact Nat.ne_of_lt (by omega)
      · exact Nat.ne_of_lt (by omega)
      · exact Nat.ne_of_lt (by omega)
      · exact Nat.ne_of_lt (by omega)
      · exact Nat.ne_of_lt (by omega)
      · exact hnPB q hq
    case apP =>
      intro q hq
      simp only [List.cons_append, List.nil_append, List.mem_cons, List.not_mem_nil, or_false] at hq
      rcases hq with rfl | rfl
      · exact Nat.ne_of_lt (by omega)
      · exact Nat.ne_of_lt (by omega)
    case apT =>
      intro q hq p hp
      simp only [List.cons_append, List.nil_append, List.mem_cons, List.not_mem_nil, or_false] at hp
      have hq' : q = (154, tabObj p154) ∨ @LT.lt Nat _ L q.1 := by
        revert q hq
        refine fa ?_ (fa ?_ (fa ?_ (fa ?_ (fa ?_ (fa ?_ (fa ?_ (fun q hq => ?_)))))))
        · exact .inr (show L < L + 1 + 1 + 1 + 1 + 1 + 1 by omega)
        · exact .inr (show L < L + 1 + 1 + 1 + 1 + 1 by omega)
        · exact .inr (show L < L + 1 + 1 + 1 + 1 by omega)
        · exact .inr (show L < L + 1 + 1 + 1 by omega)
        · exact .inr (show L < L + 1 + 1 by omega)
        · exact .inr (show L < L + 1 by omega)
        · exact .inl rfl
        · exact .inr (Nat.lt_of_le_of_lt (Nat.le_add_right L 6) (hS1 q hq))
      rcases hq' with rfl | hq'
      · rcases hp with rfl | rfl
        · exact (show (154 : Nat) ≠ 30 by decide)
        · exact (show (154 : Nat) ≠ 37 by decide)
      rcases hp with rfl | rfl
      · exact Nat.ne_of_gt (Nat.lt_trans l0.2.1 hq')
      · exact Nat.ne_of_gt (Nat.lt_trans l0.1 hq')
    case ap2 =>
      intro q hq p hp
      rw [List.mem_singleton.mp hq, List.mem_singleton.mp hp]
      decide
    case hSd =>
      rw [saw_map]
      exact hdS
    case ob => exact fun n hn => see_obs (none_booked X) hBV hBr hBV2 hBr2 hBV3 (by k_mem) (by k_mem) (by k_mem) hn
    case hh =>
      intro d hd
      obtain ⟨v, h1, t, h2⟩ := allV_at hV hd
      exact ⟨t, h2 ▸ h1⟩
    case hf =>
      intro d hd
      obtain ⟨v, h1, h2⟩ := allV_at hFV hd
      exact h2 ▸ h1
    intro TP Kd Wd nt oK oW kvW ka SK c p30 p37 h6 tk6 dK dW loK hsub hcl hval hgood F6 N6
    have hoc : ∀ a o, (a, o) ∈ (TP, ({ cls := .type "tuple", data := .seq #[.ref Kd, .ref Wd] nt } : Obj)) :: (Kd, oK) :: (Wd, oW) :: (30, tabObj p30) :: (37, tabObj p37) :: SK → notCell o → a ≠ L + 1 ∧ a ≠ L + 1 + 1 ∧ a ≠ L + 1 + 1 + 1 ∧ a ≠ L + 1 + 1 + 1 + 1 ∧ a ≠ L + 1 + 1 + 1 + 1 + 1 ∧ a ≠ L + 1 + 1 + 1 + 1 + 1 + 1 := fun a o hm ho =>
      offCells_of N6 (.tail _ (.tail _ (.tail _ (.tail _ (.tail _ (hsub _ (by k_mem))))))) (.tail _ (.tail _ (.tail _ (.tail _ (.tail _ (hsub _ (by k_mem))))))) (.tail _ (.tail _ (.tail _ (.tail _ (.tail _ (hsub _ (by k_mem))))))) (.tail _ (.tail _ (.tail _ (.tail _ (.tail _ (hsub _ (by k_mem))))))) (.tail _ (.tail _ (.tail _ (.tail _ (.tail _ (hsub _ (by k_mem))))))) (.tail _ (.tail _ (.tail _ (.tail _ (.tail _ (hsub _ (by k_mem))))))) e1 e2 e3 e4 e5 e6 hm ho
    refine (no_index (?_ : ∀ SK', (SK' = (Kd, oK) :: (Wd, oW) :: (30, tabObj p30) :: (37, tabObj p37) :: offCells L SK) → _)) _ rfl
    intro SK' hSK'
    have hoff : ∀ q ∈ SK', q.1 ≠ L + 1 ∧ q.1 ≠ L + 1 + 1 ∧ q.1 ≠ L + 1 + 1 + 1 ∧ q.1 ≠ L + 1 + 1 + 1 + 1 ∧ q.1 ≠ L + 1 + 1 + 1 + 1 + 1 ∧ q.1 ≠ L + 1 + 1 + 1 + 1 + 1 + 1 := by
      intro q hq
      subst hSK'
      revert q hq
      refine fa ?_ (fa ?_ (fa ?_ (fa ?_ (fun q hq => ?_))))
      · exact hoc _ _ (.tail _ (.head _)) (notCell_dict dK)
      · exact hoc _ _ (.tail _ (.tail _ (.head _))) (notCell_dict dW)
      · exact hoc _ _ (.tail _ (.tail _ (.tail _ (.head _)))) (fun _ h => nomatch h)
      · exact hoc _ _ (.tail _ (.tail _ (.tail _ (.tail _ (.head _))))) (fun _ h => nomatch h)
      · exact (offCells_mem.mp hq).2
    have hin : ∀ a c its n, (a, ({ cls := c, data := .seq its n } : Obj)) ∈ SK → (a, ({ cls := c, data := .seq its n } : Obj)) ∈ SK' := fun a c its n hm => by
      subst hSK'
      exact .tail _ (.tail _ (.tail _ (.tail _ (offCells_mem.mpr ⟨hm, hoc _ _ (.tail _ (.tail _ (.tail _ (.tail _ (.tail _ hm))))) notCell_seq⟩))))
    have hKS : (Kd, oK) ∈ SK' := by subst hSK'; exact .head _
    have hWS : (Wd, oW) ∈ SK' := by subst hSK'; exact .tail _ (.head _)
    have h30 : (30, tabObj p30) ∈ SK' := by subst hSK'; exact .tail _ (.tail _ (.head _))
    have h37 : (37, tabObj p37) ∈ SK' := by subst hSK'; exact .tail _ (.tail _ (.tail _ (.head _)))
    have h154 : (154, tabObj p154) ∈ SK' := by
      have hm : (154, tabObj p154) ∈ SK := hsub _ (by k_mem)
      subst hSK'
      exact .tail _ (.tail _ (.tail _ (.tail _ (offCells_mem.mpr ⟨hm, hoc _ _ (.tail _ (.tail _ (.tail _ (.tail _ (.tail _ hm))))) (fun _ h => nomatch h)⟩))))
    have N7 : News H0 L h6 ((TP, ({ cls := .type "tuple", data := .seq #[.ref Kd, .ref Wd] nt } : Obj)) :: (L + 1 + 1 + 1 + 1 + 1 + 1, c6) :: (L + 1 + 1 + 1 + 1 + 1, c5) :: (L + 1 + 1 + 1 + 1, c4) :: (L + 1 + 1 + 1, c3) :: (L + 1 + 1, c2) :: (L + 1, c1) :: SK') := News.sub N6 fun q hq => by
      revert q hq
      refine fa ?_ (fa ?_ (fa ?_ (fa ?_ (fa ?_ (fa ?_ (fa ?_ (fun q hq => ?_)))))))
      · exact .head _
      · exact .tail _ (.tail _ (.tail _ (.tail _ (.tail _ (hsub _ (by k_mem))))))
      · exact .tail _ (.tail _ (.tail _ (.tail _ (.tail _ (hsub _ (by k_mem))))))
      · exact .tail _ (.tail _ (.tail _ (.tail _ (.tail _ (hsub _ (by k_mem))))))
      · exact .tail _ (.tail _ (.tail _ (.tail _ (.tail _ (hsub _ (by k_mem))))))
      · exact .tail _ (.tail _ (.tail _ (.tail _ (.tail _ (hsub _ (by k_mem))))))
      · exact .tail _ (.tail _ (.tail _ (.tail _ (.tail _ (hsub _ (by k_mem))))))
      · subst hSK'
        rcases List.mem_cons.mp hq with rfl | hq
        · exact .tail _ (.head _)
        rcases List.mem_cons.mp hq with rfl | hq
        · exact .tail _ (.tail _ (.head _))
        rcases List.mem_cons.mp hq with rfl | hq
        · exact .tail _ (.tail _ (.tail _ (.head _)))
        rcases List.mem_cons.mp hq with rfl | hq
        · exact .tail _ (.tail _ (.tail _ (.tail _ (.head _))))
        · exact .tail _ (.tail _ (.tail _ (.tail _ (.tail _ (offCells_mem.mp hq).1))))
    have hTP4 : TP ≠ L + 1 + 1 + 1 + 1 := (hoc TP _ (.head _) notCell_seq).2.2.2.1
    have hSK4 : ∀ q ∈ SK', q.1 ≠ L + 1 + 1 + 1 + 1 := fun q hq => (hoff q hq).2.2.2.1
    have hsub5 : ∀ q ∈ SB5, q ∈ SK := fun q hq => hsub q (by k_mem)
    clear N6 kN kF hoc hsub
    walk_at "sx"
    · exact trivial
    (with_reducible rename Fr _ _ _ _ => kF)
    (with_reducible rename News _ _ _ _ => kN)
    (with_reducible rename _ = Data.cell (some (Value.ref Wd)) => hc4)
    refine (no_index (?_ : ∀ m9, (Fr _ _ _ m9) → (m9 "days" = some (.ref DL)) → (m9 "known" = some (.ref Kd)) → _)) _ kF md1 rfl
    intro m9 kF9 q91 q92
    exact fun _ kk9 => kk9 _ _ SK' Kd Wd oK oW kvW ka c _ p30 p37 p154 m9 rfl hoff h30 h37 h154 hKS hWS dK dW loK (hin _ _ _ _ (hsub5 _ hHL)) (hin _ _ _ _ (hsub5 _ hDL)) (fun d hd => hin _ _ _ _ (hsub5 _ (hDay d hd))) (fun n hn => (hcl n hn).elim fun ys h => ⟨ys, hin _ _ _ _ h.1, h.2⟩) hval (fun n hn => (hgood n hn).elim fun ⟨a, its, ep, g1, g2, g3⟩ g4 => ⟨⟨a, its, ep, g1, hin _ _ _ _ g2, g3⟩, g4⟩) q91 q92 hc4 kF9 (News.sub kN fun q hq => .tail _ hq)
  --S9>
  clear F1 N1 md1 ms1 mf1 ml1 hHL hFL hDL hSD hB1 hB2 hB3 hDay hS1 hdx hI9 hnPB hLPB hdS hBV hBr hBV2 hBr2 hBV3 hFV loS e4
  intro s9 hs9
  refine hs9 _ fun h1 tk1 SK Kd Wd oK oW kvW ka c c4 p30 p37 q154 m1 e9 hoff h30 h37 h154 hKS hWS dK dW loK hHL hDL hDay hcl hval hgood md1 mk1 e4 F1 N1 => ?_
  clear hs9
  subst e9
  refine cut (fun s' => Cps fun C9 => ∀ h' tk', ∀ (BL : Addr) (bks : List Value) (bl : Nat → Nat) (bc : Nat) (c5' : Obj), ∀ m', (s' = { s1 with heap := h', toks := tk' }) → (IntsAre bks ((List.range 6).map fun d => ((bl d : Nat) : Int))) → (∀ n ∈ names3, ∀ k, k < 6 → bl k = bl (c n k)) → (Tight c bl) → (BL ≠ L + 1 ∧ BL ≠ L + 1 + 1 ∧ BL ≠ L + 1 + 1 + 1 ∧ BL ≠ L + 1 + 1 + 1 + 1 ∧ BL ≠ L + 1 + 1 + 1 + 1 + 1 ∧ BL ≠ L + 1 + 1 + 1 + 1 + 1 + 1) → (m' "days" = some (.ref DL)) → (c5'.data = .cell (some (.ref BL))) → (Fr H0 L h' m') → (News H0 L h' ((L + 1 + 1 + 1 + 1 + 1 + 1, c6) :: (L + 1 + 1 + 1 + 1 + 1, c5') :: (L + 1 + 1 + 1 + 1, c4) :: (L + 1 + 1 + 1, c3) :: (L + 1 + 1, c2) :: (L + 1, c1) :: (BL, ({ cls := .type "list", data := .seq bks.toArray bc } : Obj)) :: SK)) → C9) ?_ ?_
  --S10<
  · walk_at "sx"
    (with_reducible rename Fr _ _ _ _ => kF)
    (with_reducible rename News _ _ _ _ => kN)
    refine' blocks_c w0 (ExcName.means s0.heap) mg mb (news := (L + 1 + 1 + 1 + 1 + 1 + 1, c6) :: (L + 1 + 1 + 1 + 1 + 1, c5) :: (L + 1 + 1 + 1 + 1, c4) :: (L + 1 + 1 + 1, c3) :: (L + 1 + 1, c2) :: (L + 1, c1) :: SK) K ?ff X T ?kk ?dd ?uu ?nn Kd oK ka c (by k_mem) dK loK ?h8c hval ?_
    case ff => exact kF
    case nn => exact kN
    case kk => exact rfl
    case dd => k_room
    case uu => k_room
    case h8c => exact fun n hn => (hcl n hn).elim fun ys h => ⟨ys, by have hm := h.1; k_mem, h.2⟩
    intro BL bks h2 tk2 bl bc hbI hbc hbT hlt F2 N2
    have hB1 : BL ≠ L + 1 := Nat.ne_of_gt (ltN (hlt (L + 1, c1) (by k_mem)))
    have hB2 : BL ≠ L + 1 + 1 := Nat.ne_of_gt (ltN (hlt (L + 1 + 1, c2) (by k_mem)))
    have hB3 : BL ≠ L + 1 + 1 + 1 := Nat.ne_of_gt (ltN (hlt (L + 1 + 1 + 1, c3) (by k_mem)))
    have hB4 : BL ≠ L + 1 + 1 + 1 + 1 := Nat.ne_of_gt (ltN (hlt (L + 1 + 1 + 1 + 1, c4) (by k_mem)))
    have hB5 : BL ≠ L + 1 + 1 + 1 + 1 + 1 := Nat.ne_of_gt (ltN (hlt (L + 1 + 1 + 1 + 1 + 1, c5) (by k_mem)))
    have hB6 : BL ≠ L + 1 + 1 + 1 + 1 + 1 + 1 := Nat.ne_of_gt (ltN (hlt (L + 1 + 1 + 1 + 1 + 1 + 1, c6) (by k_mem)))
    have hS5 : ∀ q ∈ SK, q.1 ≠ L + 1 + 1 + 1 + 1 + 1 := fun q hq => (hoff q hq).2.2.2.2.1
    clear kN kF
    walk_at "sx"
    · exact trivial
    (with_reducible rename Fr _ _ _ _ => kF)
    (with_reducible rename News _ _ _ _ => kN)
    (with_reducible rename _ = Data.cell (some (Value.ref BL)) => hc5)
    refine fun _ kk9 => kk9 _ _ BL bks bl bc _ _ rfl hbI hbc hbT ⟨hB1, hB2, hB3, hB4, hB5, hB6⟩ md1 hc5 kF (News.sel kN [1, 2, 3, 4, 5, 6, 0] 7)
  --S10>
  clear F1 N1 md1 mk1 hcl hKS dK loK e5
  intro s9 hs9
  refine hs9 _ fun h1 tk1 BL bks bl bc c5 m1 e9 hbI hbc hbT hBoff md1 e5 F1 N1 => ?_
  clear hs9
  subst e9
  refine cut (fun s' => Cps fun C9 => ∀ h' tk', ∀ (GL : Addr) (gys : List Value) (c6' : Obj), ∀ m', (s' = { s1 with heap := h', toks := tk' }) → (AllV (fun (d : Nat) y => y = .bool (goodOf (lA (XT d)) (lB (XT d)) (lC (XT d)))) (List.range 6) gys) → (GL ≠ L + 1 ∧ GL ≠ L + 1 + 1 ∧ GL ≠ L + 1 + 1 + 1 ∧ GL ≠ L + 1 + 1 + 1 + 1 ∧ GL ≠ L + 1 + 1 + 1 + 1 + 1 ∧ GL ≠ L + 1 + 1 + 1 + 1 + 1 + 1) → (c6'.data = .cell (some (.ref GL))) → (Fr H0 L h' m') → (News H0 L h' ((L + 1 + 1 + 1 + 1 + 1 + 1, c6') :: (L + 1 + 1 + 1 + 1 + 1, c5) :: (L + 1 + 1 + 1 + 1, c4) :: (L + 1 + 1 + 1, c3) :: (L + 1 + 1, c2) :: (L + 1, c1) :: (GL, lst gys) :: (BL, ({ cls := .type "list", data := .seq bks.toArray bc } : Obj)) :: SK)) → C9) ?_ ?_
  --S11<
  · refine Assign_ListComp_C F1 (List.range 6) (fun d v => v = .ref (D d)) (fun _ => true) (fun d y tl => tl = [] ∧ y = .bool (goodOf (lA (XT d)) (lB (XT d)) (lC (XT d)))) (fun d _ m₁ => m₁ "p" = some (.ref (P d)) ∧ m₁ "bare" = some (.str (bareOf (dB (XT d))) (u d 1)) ∧ m₁ "letters" = some (.str (dL (XT d)) (u d 2)) ∧ m₁ "title" = some (.str (dTitle (XT d) d) (u d 3))) (by with_unfolding_all rfl) (by with_unfolding_all rfl) (by decide) rfl (by decide) ?_ (fun _ => rfl)
    walk_at "sx"
    (with_reducible rename Fr _ _ _ _ => kF)
    (with_reducible rename News _ _ _ _ => kN)
    refine comp_tup4 (its := dys.toArray) (D := D) (nn := fun _ => 0) (V1 := fun d => .ref (P d)) (V2 := fun d => .str (bareOf (dB (XT d))) (u d 1)) (V3 := fun d => .str (dL (XT d)) (u d 2)) (V4 := fun d => .str (dTitle (XT d) d) (u d 3)) rfl kF kN (by k_mem) hDs (by decide) (fun d hd => by have hm := hDay d hd; k_mem) rfl rfl rfl rfl rfl (by decide) ?_ ?_ ?_
    · intro d C oC mm own s Q E' hd b1 b2 b3 b4 hC F7 N7 hQ
      exact test_nil (hQ _ _ F7 N7)
    · intro d C oC mm own s Q E' hd hp b1 b2 b3 b4 hC F7 N7 hQ
      refine (no_index (?_ : ∀ lt, (lt = dL (XT d)) → _)) _ rfl
      intro lt hlt
      have hl3 : lt.length = 3 := by rw [hlt]; exact lettersOf_len _ _ _
      have hl40 : lt.length ≤ 40 := by omega
      rw [← hlt] at b3
      walk_at "sx"
      · exact hQ _ _ _ (good_no (XT d) hlt (by assumption)) (by k_asm) (by k_asm)
      · exact hQ _ _ _ (good_yes (XT d) hlt (by assumption)) (by k_asm) (by k_asm)
    · intro GL gys h2 tk2 hGV hlt F2 N2
      have hB1 : GL ≠ L + 1 := Nat.ne_of_gt (ltN (hlt (L + 1, c1) (by k_mem)))
      have hB2 : GL ≠ L + 1 + 1 := Nat.ne_of_gt (ltN (hlt (L + 1 + 1, c2) (by k_mem)))
      have hB3 : GL ≠ L + 1 + 1 + 1 := Nat.ne_of_gt (ltN (hlt (L + 1 + 1 + 1, c3) (by k_mem)))
      have hB4 : GL ≠ L + 1 + 1 + 1 + 1 := Nat.ne_of_gt (ltN (hlt (L + 1 + 1 + 1 + 1, c4) (by k_mem)))
      have hB5 : GL ≠ L + 1 + 1 + 1 + 1 + 1 := Nat.ne_of_gt (ltN (hlt (L + 1 + 1 + 1 + 1 + 1, c5) (by k_mem)))
      have hB6 : GL ≠ L + 1 + 1 + 1 + 1 + 1 + 1 := Nat.ne_of_gt (ltN (hlt (L + 1 + 1 + 1 + 1 + 1 + 1, c6) (by k_mem)))
      have hS6 : ∀ q ∈ SK, q.1 ≠ L + 1 + 1 + 1 + 1 + 1 + 1 := fun q hq => (hoff q hq).2.2.2.2.2
      have hBL6 : BL ≠ L + 1 + 1 + 1 + 1 + 1 + 1 := hBoff.2.2.2.2.2
      clear kN kF
      walk_at "sx"
      (with_reducible rename Fr _ _ _ _ => kF)
      (with_reducible rename News _ _ _ _ => kN)
      (with_reducible rename _ = Data.cell (some (Value.ref GL)) => hc6)
      refine fun _ kk9 => kk9 _ _ GL gys _ _ rfl hGV ⟨hB1, hB2, hB3, hB4, hB5, hB6⟩ hc6 kF (News.sel kN [1, 2, 3, 4, 5, 6, 0, 7] 8)
  --S11>
  clear F1 N1 md1 e6 hDay hDL
  intro s9 hs9
  refine hs9 _ fun h1 tk1 GL gys c6 m1 e9 hGV hGoff e6 F1 N1 => ?_
  clear hs9
  subst e9
  refine (no_index (?_ : ∀ h : Nat → Int, (h = fun d => 5 + ((XT d).fdiv 432).fmod 3) → _)) _ rfl
  intro h hdef
  refine (no_index (?_ : ∀ f : Nat → Bool, (f = fun d => goodOf (lA (XT d)) (lB (XT d)) (lC (XT d))) → _)) _ rfl
  intro f fdef
  have hh5 : ∀ d, 5 ≤ h d ∧ h d ≤ 7 := fun d => by rw [hdef]; exact hv_bd (XT d)
  rw [← hdef, ← fdef] at hgood
  replace hV : AllV (fun (d : Nat) v => ∃ t, v = .int (h d) t) (List.range 6) hys := by rw [hdef]; exact hV
  replace hGV : AllV (fun (d : Nat) y => y = .bool (f d)) (List.range 6) gys := by rw [fdef]; exact hGV
  have hlaw : ∀ n ∈ names3, ∀ k, k < 6 → shareOf (c n) h f k = (2048 * tot h (((List.range 6).filter fun d => bl d == bl k).filter f)).fdiv (tot h ((List.range 6).filter fun d => bl d == bl k)) :=
    law_plain hh5 hval (fun n hn => (hgood n hn).2) hw1 hw2 hw3 n12 n13 n23 hbc hbT
  clear hdef fdef
  refine cut (fun s' => Cps fun C9 => ∀ h' tk' m' nw, (s' = { s1 with heap := h', toks := tk' }) → (Fr H0 L h' m') → (News H0 L h' nw) → (∀ q ∈ SK, q ∈ nw) → C9) ?_ ?_
  --S12<
  · refine For_F F1 (List.range 6) (fun (i : Nat) v => ∃ t, v = .int (i : Int) t) (fun i m₁ news₁ => ∃ c2' y2, news₁ = (L + 1 + 1 + 1 + 1 + 1 + 1, c6) :: (L + 1 + 1 + 1 + 1 + 1, c5) :: (L + 1 + 1 + 1 + 1, c4) :: (L + 1 + 1 + 1, c3) :: (L + 1 + 1, c2') :: (L + 1, c1) :: (GL, lst gys) :: (BL, ({ cls := .type "list", data := .seq bks.toArray bc } : Obj)) :: SK ∧ c2'.data = .cell y2) (fun _ => rfl) ?_
    iterate 7 walk_at "s1"
    (with_reducible rename Fr _ _ _ _ => kF)
    (with_reducible rename News _ _ _ _ => kN)
    (with_reducible rename IsRange _ _ _ _ _ _ _ _ => hR)
    refine for_range (n := 6) rfl kF kN hR (by decide) ⟨c2, none, rfl, e2⟩ ?_ ?_
    · clear kF kN hR e2
      intro i ti m₁ news₁ I9 oI9 h9 tk9 hi hP9_4 F5 N5 off
      obtain ⟨c2', y2, rfl, e2⟩ := hP9_4
      have o2 : I9 ≠ L + 1 + 1 := (off (L + 1 + 1, c2') (by k_mem)).symm
      have g2 : GL ≠ L + 1 + 1 := hGoff.2.1
      have b2 : BL ≠ L + 1 + 1 := hBoff.2.1
      have s2 : ∀ q ∈ SK, q.1 ≠ L + 1 + 1 := fun q hq => (hoff q hq).2.1
      obtain ⟨tbi, hbi⟩ := ints_at6 hbI hi
      walk_at "sx"
      (with_reducible rename _ = Data.cell (some (Value.int (i : Int) ti)) => ek)
      (with_reducible rename Fr _ _ _ _ => kF)
      (with_reducible rename News _ _ _ _ => kN)
      refine Assign_ListComp_M kF (List.range 6) (fun (d : Nat) v => ∃ t, v = .int (d : Int) t) (fun d => bl d == bl i) (fun d y tl => tl = [] ∧ ∃ t, y = .int (d : Int) t) (fun _ v m₁ => m₁ "day" = some v) rfl (by with_unfolding_all rfl) (by with_unfolding_all rfl) (by decide) rfl (by decide) rfl rfl ?_ (fun _ => rfl)
      iterate 7 walk_at "s1"
      (with_reducible rename Fr _ _ _ _ => kF)
      (with_reducible rename News _ _ _ _ => kN)
      (with_reducible rename IsRange _ _ _ _ _ _ _ _ => hR)
      refine comp_range (n := 6) rfl kF kN hR (by decide) rfl rfl ?_ ?_ ?_
      · intro d v C oC mm own s Q E' hd hP9_5 hB hC F7 N7 hQ
        obtain ⟨tv, rfl⟩ := hP9_5
        obtain ⟨tbd, hbd⟩ := ints_at6 hbI hd
        refine test_one ?_
        walk_at "sx"
        have e : (((bl d : Nat) : Int) == ((bl i : Nat) : Int)) = (bl d == bl i) := by rw [Bool.eq_iff_iff]; simp; omega
        rw [e]
        exact hQ _ _ F7 N7
      · intro d v C oC mm own s Q E' hd hP9_6 hp hB hC F7 N7 hQ
        obtain ⟨tv, rfl⟩ := hP9_6
        walk_at "sx"
        exact hQ _ _ _ ⟨_, rfl⟩ (by k_asm) (by k_asm)
      · intro ML mys h7 tk7 hmV hMlt F7 N7 h8 tk8 F8 N8
        simp only [List.nil_append] at N8
        refine (no_index (?_ : ∀ as, (as = (List.range 6).filter fun d => bl d == bl i) → _)) _ rfl
        intro as has
        rw [← has] at hmV
        have hml : as.length ≤ 1000 := by rw [has]; exact Nat.le_trans (List.length_filter_le _ _) (by decide)
        have hm6 : ∀ d ∈ as, d < 6 := fun d hd => by rw [has] at hd; exact List.mem_range.mp (List.mem_filter.mp hd).1
        have hmA : AllV (fun (d : Nat) y => ∃ t, y = .int (d : Int) t) as mys.toArray.toList := hmV
        clear kF kN hR F7 N7
        walk_at "sx"
        (with_reducible rename Fr _ _ _ _ => kF)
        refine ListComp_M kF as (fun (d : Nat) v => ∃ t, v = .int (d : Int) t) f (fun d y tl => tl = [] ∧ ∃ t, y = .int (h d) t) (fun _ v m₁ => m₁ "day" = some v) (by with_unfolding_all rfl) (by decide) rfl (by decide) ?_ (fun _ => rfl)
        walk_at "sx"
        (with_reducible rename Fr _ _ _ _ => kF)
        (with_reducible rename News _ _ _ _ => kN)
        refine comp_list (its := mys.toArray) (n := mys.length) rfl kF kN (.head _) hmA hml rfl rfl ?_ ?_ ?_
        · intro d v C oC mm own s Q E' hd hP9_7 hB hC F7 N7 hQ
          obtain ⟨tv, rfl⟩ := hP9_7
          have hd6 := hm6 d hd
          obtain ⟨vg, hg, rfl⟩ := allV_at hGV hd6
          have hg' : gys.toArray[((d : Nat) : Int).toNat]? = some (.bool (f d)) := hg
          refine test_one ?_
          walk_at "sx"
          exact hQ _ _ (by k_asm) (by k_asm)
        · intro d v C oC mm own s Q E' hd hP9_8 hp hB hC F7 N7 hQ
          obtain ⟨tv, rfl⟩ := hP9_8
          have hd6 := hm6 d hd
          obtain ⟨vh, hg, th, rfl⟩ := allV_at hV hd6
          have hg' : hys.toArray[((d : Nat) : Int).toNat]? = some (.int (h d) th) := hg
          walk_at "sx"
          exact hQ _ _ _ ⟨_, rfl⟩ (by k_asm) (by k_asm)
        intro D2 ys2 h9 tk9 hys2 hD2 F9 N9
        have hI2 := hys2.ints
        have hG := tot_bd hh5 as f
        have hT := sum_bd hh5 as
        have hi1 : i ∈ as := by rw [has]; exact List.mem_filter.mpr ⟨List.mem_range.mpr hi, by simp⟩
        have hl1 : 0 < as.length := List.length_pos_of_mem hi1
        have hl6 : as.length ≤ 6 := by rw [has]; exact Nat.le_trans (List.length_filter_le _ _) (by decide)
        clear kF kN
        walk_at "sx"
        (with_reducible rename Fr _ _ _ _ => kF)
        refine ListComp_M kF as (fun (d : Nat) v => ∃ t, v = .int (d : Int) t) (fun _ => true) (fun d y tl => tl = [] ∧ ∃ t, y = .int (h d) t) (fun _ v m₁ => m₁ "day" = some v) (by with_unfolding_all rfl) (by decide) rfl (by decide) ?_ (fun _ => rfl)
        walk_at "sx"
        (with_reducible rename Fr _ _ _ _ => kF)
        (with_reducible rename News _ _ _ _ => kN)
        refine comp_list (its := mys.toArray) (n := mys.length) rfl kF kN (by k_mem) hmA hml rfl rfl ?_ ?_ ?_
        · intro d v C oC mm own s Q E' hd hP9_9 hB hC F7 N7 hQ
          obtain ⟨tv, rfl⟩ := hP9_9
          exact test_nil (hQ _ _ F7 N7)
        · intro d v C oC mm own s Q E' hd hP9_10 hp hB hC F7 N7 hQ
          obtain ⟨tv, rfl⟩ := hP9_10
          have hd6 := hm6 d hd
          obtain ⟨vh, hg, th, rfl⟩ := allV_at hV hd6
          have hg' : hys.toArray[((d : Nat) : Int).toNat]? = some (.int (h d) th) := hg
          walk_at "sx"
          exact hQ _ _ _ ⟨_, rfl⟩ (by k_asm) (by k_asm)
        intro D3 ys3 h10 tk10 hys3 hD3 F10 N10
        have hI3 := hys3.ints
        rw [List.filter_eq_self.mpr (fun _ _ => rfl)] at hI3
        clear kF kN
        walk_at "sx"
        (with_reducible rename Fr _ _ _ _ => kF)
        (with_reducible rename News _ _ _ _ => kN)
        refine (no_index (?_ : ∀ sh, (sh = (2048 * (List.map h (List.filter f as)).sum).fdiv (List.map h as).sum) → _)) _ rfl
        intro sh hsh
        rw [← hsh] at kF
        refine (no_index (?_ : ∀ m9 tsh, (Fr _ _ _ m9) → (m9 "share" = some (.int sh tsh)) → _)) _ _ kF rfl
        intro m9 tsh kF9 q9
        clear kF
        have hlawi : ∀ n ∈ names3, shareOf (c n) h f i = sh := fun n hn => by rw [hlaw n hn i hi, hsh, has]; rfl
        refine ListComp_M kF9 names3 (fun (n : Str) v => ∃ t, v = .str n t) (fun _ => true) (fun n y tl => tl = [] ∧ ∃ t, y = .int sh t) (fun _ v m₁ => m₁ "name" = some v) (by with_unfolding_all rfl) (by decide) rfl (by decide) ?_ (fun _ => rfl)
        walk_at "sx"
        (with_reducible rename Fr _ _ _ _ => kF)
        (with_reducible rename News _ _ _ _ => kN)
        refine comp_tuple rfl kF kN (.head _) (.cons ⟨_, rfl⟩ (.cons ⟨_, rfl⟩ (.cons ⟨_, rfl⟩ .nil))) (by decide) rfl rfl ?_ ?_ ?_
        · intro n v C oC m₁ own s₁ Q₁ E₁ ha hv hm hC F₁ N₁ h
          exact test_nil (h _ _ F₁ N₁)
        · intro n v C oC m₁ own s₁ Q₁ E₁ hn hP9_11 v9_12 hm hC F₁ N₁ hQ
          obtain ⟨t, rfl⟩ := hP9_11
          obtain ⟨⟨wa, wits, wep, hva, hwm, hwi⟩, _⟩ := hgood n hn
          obtain ⟨tw9, hw9⟩ := ints_get hwi (show ((List.range 6).map (shareOf (c n) h f))[i]? = some (shareOf (c n) h f i) by rw [List.getElem?_map, List.getElem?_range hi]; rfl)
          have hw9' : wits[((i : Nat) : Int).toNat]? = some (.int sh tw9) := by
            rw [← hlawi n hn]
            simpa using hw9
          walk_at "sy"
          (with_reducible rename News _ _ _ _ => kNw)
          refine kda_item (knd := PySem.strKind _ _) kNw (by k_mem) dW (strKind_is _ _ _ _) hva ?_
          iterate 1 walk_at "y1"
          (with_reducible rename News _ _ _ _ => kNw)
          refine item_anyK (vs := wits.toList) (by rw [Array.toArray_toList]; exact News.isList kNw (by k_mem)) hwi (by omega) (by simp; omega) (by omega) (fun tg => ?_) (by with_unfolding_all rfl)
          rw [show ((List.range 6).map (shareOf (c n) h f)).getD (((i : Nat) : Int).toNat) 0 = sh by
            rw [List.getD_eq_getElem?_getD, List.getElem?_map, show (((i : Nat) : Int).toNat) = i by omega, List.getElem?_range hi]
            exact hlawi n hn]
          exact hQ _ _ _ ⟨_, rfl⟩ (by k_asm) (by k_asm)
        · intro WL wys h11 tk11 hWV hWlt F11 N11
          obtain _ | ⟨⟨u1, rfl⟩, _ | ⟨⟨u2, rfl⟩, _ | ⟨⟨u3, rfl⟩, _ | _⟩⟩⟩ := hWV
          clear kF kN
          walk_at "sx"
          (with_reducible rename News _ _ _ _ => kN)
          refine ke_ne_ints (News.isList kN (by k_mem)) (News.isList kN (.head _)) (.cons _ _ (.cons _ _ (.cons _ _ .nil))) (.cons _ _ (.cons _ _ (.cons _ _ .nil))) (by ke_room) ?_
          rw [decide_eq_true rfl]
          walk_at "sx"
          (with_reducible rename Fr _ _ _ _ => kF)
          (with_reducible rename News _ _ _ _ => kN)
          dsimp only
          refine ⟨_, _, _, (L + 1 + 1 + 1 + 1 + 1 + 1, c6) :: (L + 1 + 1 + 1 + 1 + 1, c5) :: (L + 1 + 1 + 1 + 1, c4) :: (L + 1 + 1 + 1, c3) :: (L + 1 + 1, _) :: (L + 1, c1) :: (GL, lst gys) :: (BL, ({ cls := .type "list", data := .seq bks.toArray bc } : Obj)) :: SK, rfl, kF, News.sel kN [] 6, fun q hq => ?_, _, _, rfl, ek⟩
          · revert q hq
            refine fa ?_ (fa ?_ (fa ?_ (fa ?_ (fa ?_ (fa ?_ (fa ?_ (fa ?_ (fun q hq => ?_))))))))
            · exact off (L + 1 + 1 + 1 + 1 + 1 + 1, c6) (by k_mem)
            · exact off (L + 1 + 1 + 1 + 1 + 1, c5) (by k_mem)
            · exact off (L + 1 + 1 + 1 + 1, c4) (by k_mem)
            · exact off (L + 1 + 1 + 1, c3) (by k_mem)
            · exact Ne.symm o2
            · exact off (L + 1, c1) (by k_mem)
            · exact off (GL, lst gys) (by k_mem)
            · exact off (BL, _) (.tail _ (.tail _ (.tail _ (.tail _ (.tail _ (.tail _ (.tail _ (.head _))))))))
            · exact off q (by k_mem)
    · intro h9 tk9 m₁ news₁ hP9_13 F5 N5
      obtain ⟨c2', y2, rfl, e2⟩ := hP9_13
      exact ⟨rfl, fun _ kk9 => kk9 _ _ _ _ rfl F5 N5 (fun q hq => by k_mem)⟩
  --S12>
  intro s9 hs9
  refine hs9 _ fun h1 tk1 m1 nw e9 F1 N1 hnw => ?_
  clear hs9
  subst e9
  iterate 3 walk_at "s1"
  exact law_end F1 hg (GrownAt.of N1 (hnw _ h37)) (GrownAt.of N1 (hnw _ h30)) (GrownAt.of N1 (hnw _ h154))
end
end Mine
theorem PySem.Challenge.cw_sn0056_01_holds : PySem.Challenge.rw_sn0056_01.Holds := by
  exact Mine.law_x
