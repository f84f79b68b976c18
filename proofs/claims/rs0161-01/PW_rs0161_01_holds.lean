import PyProof.Rows.All
import Wide.All
import OpenK.AllK
import Wide.FinOn
import Lean
import PySem.Challenge.RW_rs0161_01
set_option Elab.async false
set_option maxRecDepth 100000
set_option autoImplicit false
set_option linter.all false
set_option maxHeartbeats 8000000
set_option genSizeOf false
namespace Mine
theorem el0_2 {p0 p1 : Prop} {G : Prop} (y : p0 ∧ p1) (k : p0 → p1 → G) : G := k y.1 y.2
theorem el0_3 {p0 p1 p2 : Prop} {G : Prop} (y : p0 ∧ p1 ∧ p2) (k : p0 → p1 → p2 → G) : G := k y.1 y.2.1 y.2.2
theorem el0_4 {p0 p1 p2 p3 : Prop} {G : Prop} (y : p0 ∧ p1 ∧ p2 ∧ p3) (k : p0 → p1 → p2 → p3 → G) : G := k y.1 y.2.1 y.2.2.1 y.2.2.2
theorem el0_6 {p0 p1 p2 p3 p4 p5 : Prop} {G : Prop} (y : p0 ∧ p1 ∧ p2 ∧ p3 ∧ p4 ∧ p5) (k : p0 → p1 → p2 → p3 → p4 → p5 → G) : G := k y.1 y.2.1 y.2.2.1 y.2.2.2.1 y.2.2.2.2.1 y.2.2.2.2.2
theorem el0_8 {p0 p1 p2 p3 p4 p5 p6 p7 : Prop} {G : Prop} (y : p0 ∧ p1 ∧ p2 ∧ p3 ∧ p4 ∧ p5 ∧ p6 ∧ p7) (k : p0 → p1 → p2 → p3 → p4 → p5 → p6 → p7 → G) : G := k y.1 y.2.1 y.2.2.1 y.2.2.2.1 y.2.2.2.2.1 y.2.2.2.2.2.1 y.2.2.2.2.2.2.1 y.2.2.2.2.2.2.2
theorem el1_1 {A0 : Type} {p0 : A0 → Prop} {G : Prop} (y : ∃ a, p0 a) (k : ∀ a, p0 a → G) : G := y.elim fun a y => k a y
theorem el1_2 {A0 : Type} {p0 p1 : A0 → Prop} {G : Prop} (y : ∃ a, p0 a ∧ p1 a) (k : ∀ a, p0 a → p1 a → G) : G := y.elim fun a y => k a y.1 y.2
theorem el1_3 {A0 : Type} {p0 p1 p2 : A0 → Prop} {G : Prop} (y : ∃ a, p0 a ∧ p1 a ∧ p2 a) (k : ∀ a, p0 a → p1 a → p2 a → G) : G := y.elim fun a y => k a y.1 y.2.1 y.2.2
theorem el1_4 {A0 : Type} {p0 p1 p2 p3 : A0 → Prop} {G : Prop} (y : ∃ a, p0 a ∧ p1 a ∧ p2 a ∧ p3 a) (k : ∀ a, p0 a → p1 a → p2 a → p3 a → G) : G := y.elim fun a y => k a y.1 y.2.1 y.2.2.1 y.2.2.2
theorem el1_5 {A0 : Type} {p0 p1 p2 p3 p4 : A0 → Prop} {G : Prop} (y : ∃ a, p0 a ∧ p1 a ∧ p2 a ∧ p3 a ∧ p4 a) (k : ∀ a, p0 a → p1 a → p2 a → p3 a → p4 a → G) : G := y.elim fun a y => k a y.1 y.2.1 y.2.2.1 y.2.2.2.1 y.2.2.2.2
theorem el2_1 {A0 : Type} {A1 : Type} {p0 : A0 → A1 → Prop} {G : Prop} (y : ∃ a b, p0 a b) (k : ∀ a b, p0 a b → G) : G := y.elim fun a y => y.elim fun b y => k a b y
theorem el2_2 {A0 : Type} {A1 : Type} {p0 p1 : A0 → A1 → Prop} {G : Prop} (y : ∃ a b, p0 a b ∧ p1 a b) (k : ∀ a b, p0 a b → p1 a b → G) : G := y.elim fun a y => y.elim fun b y => k a b y.1 y.2
theorem el2_3 {A0 : Type} {A1 : Type} {p0 p1 p2 : A0 → A1 → Prop} {G : Prop} (y : ∃ a b, p0 a b ∧ p1 a b ∧ p2 a b) (k : ∀ a b, p0 a b → p1 a b → p2 a b → G) : G := y.elim fun a y => y.elim fun b y => k a b y.1 y.2.1 y.2.2
theorem el2_5 {A0 : Type} {A1 : Type} {p0 p1 p2 p3 p4 : A0 → A1 → Prop} {G : Prop} (y : ∃ a b, p0 a b ∧ p1 a b ∧ p2 a b ∧ p3 a b ∧ p4 a b) (k : ∀ a b, p0 a b → p1 a b → p2 a b → p3 a b → p4 a b → G) : G := y.elim fun a y => y.elim fun b y => k a b y.1 y.2.1 y.2.2.1 y.2.2.2.1 y.2.2.2.2
theorem el2_6 {A0 : Type} {A1 : Type} {p0 p1 p2 p3 p4 p5 : A0 → A1 → Prop} {G : Prop} (y : ∃ a b, p0 a b ∧ p1 a b ∧ p2 a b ∧ p3 a b ∧ p4 a b ∧ p5 a b) (k : ∀ a b, p0 a b → p1 a b → p2 a b → p3 a b → p4 a b → p5 a b → G) : G := y.elim fun a y => y.elim fun b y => k a b y.1 y.2.1 y.2.2.1 y.2.2.2.1 y.2.2.2.2.1 y.2.2.2.2.2
theorem el2_7 {A0 : Type} {A1 : Type} {p0 p1 p2 p3 p4 p5 p6 : A0 → A1 → Prop} {G : Prop} (y : ∃ a b, p0 a b ∧ p1 a b ∧ p2 a b ∧ p3 a b ∧ p4 a b ∧ p5 a b ∧ p6 a b) (k : ∀ a b, p0 a b → p1 a b → p2 a b → p3 a b → p4 a b → p5 a b → p6 a b → G) : G := y.elim fun a y => y.elim fun b y => k a b y.1 y.2.1 y.2.2.1 y.2.2.2.1 y.2.2.2.2.1 y.2.2.2.2.2.1 y.2.2.2.2.2.2
theorem el3_1 {A0 : Type} {A1 : Type} {A2 : Type} {p0 : A0 → A1 → A2 → Prop} {G : Prop} (y : ∃ a b c, p0 a b c) (k : ∀ a b c, p0 a b c → G) : G := y.elim fun a y => y.elim fun b y => y.elim fun c y => k a b c y
theorem el3_2 {A0 : Type} {A1 : Type} {A2 : Type} {p0 p1 : A0 → A1 → A2 → Prop} {G : Prop} (y : ∃ a b c, p0 a b c ∧ p1 a b c) (k : ∀ a b c, p0 a b c → p1 a b c → G) : G := y.elim fun a y => y.elim fun b y => y.elim fun c y => k a b c y.1 y.2
theorem el3_3 {A0 : Type} {A1 : Type} {A2 : Type} {p0 p1 p2 : A0 → A1 → A2 → Prop} {G : Prop} (y : ∃ a b c, p0 a b c ∧ p1 a b c ∧ p2 a b c) (k : ∀ a b c, p0 a b c → p1 a b c → p2 a b c → G) : G := y.elim fun a y => y.elim fun b y => y.elim fun c y => k a b c y.1 y.2.1 y.2.2
theorem el3_4 {A0 : Type} {A1 : Type} {A2 : Type} {p0 p1 p2 p3 : A0 → A1 → A2 → Prop} {G : Prop} (y : ∃ a b c, p0 a b c ∧ p1 a b c ∧ p2 a b c ∧ p3 a b c) (k : ∀ a b c, p0 a b c → p1 a b c → p2 a b c → p3 a b c → G) : G := y.elim fun a y => y.elim fun b y => y.elim fun c y => k a b c y.1 y.2.1 y.2.2.1 y.2.2.2
theorem el3_5 {A0 : Type} {A1 : Type} {A2 : Type} {p0 p1 p2 p3 p4 : A0 → A1 → A2 → Prop} {G : Prop} (y : ∃ a b c, p0 a b c ∧ p1 a b c ∧ p2 a b c ∧ p3 a b c ∧ p4 a b c) (k : ∀ a b c, p0 a b c → p1 a b c → p2 a b c → p3 a b c → p4 a b c → G) : G := y.elim fun a y => y.elim fun b y => y.elim fun c y => k a b c y.1 y.2.1 y.2.2.1 y.2.2.2.1 y.2.2.2.2
theorem el3_6 {A0 : Type} {A1 : Type} {A2 : Type} {p0 p1 p2 p3 p4 p5 : A0 → A1 → A2 → Prop} {G : Prop} (y : ∃ a b c, p0 a b c ∧ p1 a b c ∧ p2 a b c ∧ p3 a b c ∧ p4 a b c ∧ p5 a b c) (k : ∀ a b c, p0 a b c → p1 a b c → p2 a b c → p3 a b c → p4 a b c → p5 a b c → G) : G := y.elim fun a y => y.elim fun b y => y.elim fun c y => k a b c y.1 y.2.1 y.2.2.1 y.2.2.2.1 y.2.2.2.2.1 y.2.2.2.2.2
theorem el3_7 {A0 : Type} {A1 : Type} {A2 : Type} {p0 p1 p2 p3 p4 p5 p6 : A0 → A1 → A2 → Prop} {G : Prop} (y : ∃ a b c, p0 a b c ∧ p1 a b c ∧ p2 a b c ∧ p3 a b c ∧ p4 a b c ∧ p5 a b c ∧ p6 a b c) (k : ∀ a b c, p0 a b c → p1 a b c → p2 a b c → p3 a b c → p4 a b c → p5 a b c → p6 a b c → G) : G := y.elim fun a y => y.elim fun b y => y.elim fun c y => k a b c y.1 y.2.1 y.2.2.1 y.2.2.2.1 y.2.2.2.2.1 y.2.2.2.2.2.1 y.2.2.2.2.2.2
theorem el4_1 {A0 : Type} {A1 : Type} {A2 : Type} {A3 : Type} {p0 : A0 → A1 → A2 → A3 → Prop} {G : Prop} (y : ∃ a b c d, p0 a b c d) (k : ∀ a b c d, p0 a b c d → G) : G := y.elim fun a y => y.elim fun b y => y.elim fun c y => y.elim fun d y => k a b c d y
theorem el4_2 {A0 : Type} {A1 : Type} {A2 : Type} {A3 : Type} {p0 p1 : A0 → A1 → A2 → A3 → Prop} {G : Prop} (y : ∃ a b c d, p0 a b c d ∧ p1 a b c d) (k : ∀ a b c d, p0 a b c d → p1 a b c d → G) : G := y.elim fun a y => y.elim fun b y => y.elim fun c y => y.elim fun d y => k a b c d y.1 y.2
theorem el4_3 {A0 : Type} {A1 : Type} {A2 : Type} {A3 : Type} {p0 p1 p2 : A0 → A1 → A2 → A3 → Prop} {G : Prop} (y : ∃ a b c d, p0 a b c d ∧ p1 a b c d ∧ p2 a b c d) (k : ∀ a b c d, p0 a b c d → p1 a b c d → p2 a b c d → G) : G := y.elim fun a y => y.elim fun b y => y.elim fun c y => y.elim fun d y => k a b c d y.1 y.2.1 y.2.2
theorem el4_4 {A0 : Type} {A1 : Type} {A2 : Type} {A3 : Type} {p0 p1 p2 p3 : A0 → A1 → A2 → A3 → Prop} {G : Prop} (y : ∃ a b c d, p0 a b c d ∧ p1 a b c d ∧ p2 a b c d ∧ p3 a b c d) (k : ∀ a b c d, p0 a b c d → p1 a b c d → p2 a b c d → p3 a b c d → G) : G := y.elim fun a y => y.elim fun b y => y.elim fun c y => y.elim fun d y => k a b c d y.1 y.2.1 y.2.2.1 y.2.2.2
theorem el4_9 {A0 : Type} {A1 : Type} {A2 : Type} {A3 : Type} {p0 p1 p2 p3 p4 p5 p6 p7 p8 : A0 → A1 → A2 → A3 → Prop} {G : Prop} (y : ∃ a b c d, p0 a b c d ∧ p1 a b c d ∧ p2 a b c d ∧ p3 a b c d ∧ p4 a b c d ∧ p5 a b c d ∧ p6 a b c d ∧ p7 a b c d ∧ p8 a b c d) (k : ∀ a b c d, p0 a b c d → p1 a b c d → p2 a b c d → p3 a b c d → p4 a b c d → p5 a b c d → p6 a b c d → p7 a b c d → p8 a b c d → G) : G := y.elim fun a y => y.elim fun b y => y.elim fun c y => y.elim fun d y => k a b c d y.1 y.2.1 y.2.2.1 y.2.2.2.1 y.2.2.2.2.1 y.2.2.2.2.2.1 y.2.2.2.2.2.2.1 y.2.2.2.2.2.2.2.1 y.2.2.2.2.2.2.2.2
theorem el5_1 {A0 : Type} {A1 : Type} {A2 : Type} {A3 : Type} {A4 : Type} {p0 : A0 → A1 → A2 → A3 → A4 → Prop} {G : Prop} (y : ∃ a b c d e, p0 a b c d e) (k : ∀ a b c d e, p0 a b c d e → G) : G := y.elim fun a y => y.elim fun b y => y.elim fun c y => y.elim fun d y => y.elim fun e y => k a b c d e y
theorem el7_1 {A0 : Type} {A1 : Type} {A2 : Type} {A3 : Type} {A4 : Type} {A5 : Type} {A6 : Type} {p0 : A0 → A1 → A2 → A3 → A4 → A5 → A6 → Prop} {G : Prop} (y : ∃ a b c d e f g, p0 a b c d e f g) (k : ∀ a b c d e f g, p0 a b c d e f g → G) : G := y.elim fun a y => y.elim fun b y => y.elim fun c y => y.elim fun d y => y.elim fun e y => y.elim fun f y => y.elim fun g y => k a b c d e f g y
theorem el7_2 {A0 : Type} {A1 : Type} {A2 : Type} {A3 : Type} {A4 : Type} {A5 : Type} {A6 : Type} {p0 p1 : A0 → A1 → A2 → A3 → A4 → A5 → A6 → Prop} {G : Prop} (y : ∃ a b c d e f g, p0 a b c d e f g ∧ p1 a b c d e f g) (k : ∀ a b c d e f g, p0 a b c d e f g → p1 a b c d e f g → G) : G := y.elim fun a y => y.elim fun b y => y.elim fun c y => y.elim fun d y => y.elim fun e y => y.elim fun f y => y.elim fun g y => k a b c d e f g y.1 y.2
theorem el8_1 {A0 A1 A2 A3 A4 A5 A6 A7 : Type} {p : A0 → A1 → A2 → A3 → A4 → A5 → A6 → A7 → Prop} {G : Prop} (y : ∃ a b c d e f g h, p a b c d e f g h) (k : ∀ a b c d e f g h, p a b c d e f g h → G) : G := y.elim fun a y => y.elim fun b y => y.elim fun c y => y.elim fun d y => y.elim fun e y => y.elim fun f y => y.elim fun g y => y.elim fun h y => k a b c d e f g h y
theorem el9_1 {A0 A1 A2 A3 A4 A5 A6 A7 A8 : Type} {p : A0 → A1 → A2 → A3 → A4 → A5 → A6 → A7 → A8 → Prop} {G : Prop} (y : ∃ a b c d e f g h i, p a b c d e f g h i) (k : ∀ a b c d e f g h i, p a b c d e f g h i → G) : G := y.elim fun a y => y.elim fun b y => y.elim fun c y => y.elim fun d y => y.elim fun e y => y.elim fun f y => y.elim fun g y => y.elim fun h y => y.elim fun i y => k a b c d e f g h i y
end Mine
noncomputable section
set_option genSizeOf false
set_option genInjectivity false
namespace Mine
open PySem PySem.W PySem.Calls PyProof.Rows
structure WsD where
  raw : Str
  n : Nat
  nt : Nat
  count : List Nat
  b : Nat
inductive V where
  | none
  | bool (b : Bool)
  | int (i : Int)
  | str (s : Str)
  | list (xs : List V)
  | tup (xs : List V)
  | opq (v : Value)
  | ws (C : Addr) (d : WsD)
  | own (D : Addr) (xs : List V)
noncomputable abbrev V.isOwn : V → Bool
  | .own _ _ => true
  | _ => false
noncomputable abbrev V.scalar : V → Bool
  | .none | .bool _ | .int _ | .str _ => true
  | _ => false
noncomputable abbrev intsV (xs : List Int) : V := .list (xs.map .int)
mutual
inductive Rd (W : List Addr) (h : Heap) : Value → V → Prop
  | none : Rd W h .none .none
  | bool (b : Bool) : Rd W h (.bool b) (.bool b)
  | int (i : Int) (t : Tok) : Rd W h (.int i t) (.int i)
  | str (x : Str) (t : Tok) : Rd W h (.str x t) (.str x)
  | list {a : Addr} {vs : Array Value} {n : Nat} {ds : List V} : IsL h a vs n → a ∉ W → Rds W h vs.toList ds → Rd W h (.ref a) (.list ds)
  | tup {a : Addr} {vs : Array Value} {n : Nat} {ds : List V} : IsT h a vs n → a ∉ W → Rds W h vs.toList ds → Rd W h (.ref a) (.tup ds)
  | opq (v : Value) : Rd W h v (.opq v)
  | ws {x dx C : Addr} {m : Str → Option Value} {d : WsD} {v1 v2 v3 v4 : Value} : h.get? x = some (instObj C dx) → h.Ns1 dx m → (∀ y v, m y = some v → y ∈ (["raw", "n", "nt", "norm", "is_simple"] : List Str)) →
      m "raw" = some v1 → m "n" = some v2 → m "nt" = some v3 → m "norm" = some v4 → m "is_simple" = some (.bool (decide (d.count.length ≤ 1))) → x ∉ W → dx ∉ W →
      Rd W h v1 (.str d.raw) → Rd W h v2 (.int (d.n : Int)) → Rd W h v3 (.int (d.nt : Int)) → Rd W h v4 (.tup [.tup (d.count.map fun (c : Nat) => .int (c : Int)), .int (d.b : Int)]) →
      Rd W h (.ref x) (.ws C d)
inductive Rds (W : List Addr) (h : Heap) : List Value → List V → Prop
  | nil : Rds W h [] []
  | cons {v : Value} {vs : List Value} {d : V} {ds : List V} : Rd W h v d → Rds W h vs ds → Rds W h (v :: vs) (d :: ds)
end
structure WsAt (W : List Addr) (h : Heap) (C : Addr) (d : WsD) (x dx : Addr) (m : Str → Option Value) (v1 v2 v3 v4 : Value) : Prop where
  h1 : h.get? x = some (instObj C dx)
  h2 : h.Ns1 dx m
  h3 : ∀ y v, m y = some v → y ∈ (["raw", "n", "nt", "norm", "is_simple"] : List Str)
  e1 : m "raw" = some v1
  e2 : m "n" = some v2
  e3 : m "nt" = some v3
  e4 : m "norm" = some v4
  e5 : m "is_simple" = some (.bool (decide (d.count.length ≤ 1)))
  b1 : Rd W h v1 (.str d.raw)
  b2 : Rd W h v2 (.int (d.n : Int))
  b3 : Rd W h v3 (.int (d.nt : Int))
  b4 : Rd W h v4 (.tup [.tup (d.count.map fun (c : Nat) => .int (c : Int)), .int (d.b : Int)])
noncomputable def RdInv (W : List Addr) (h : Heap) (v : Value) : V → Prop
  | .bool b => v = .bool b
  | .int i => ∃ t, v = .int i t
  | .str x => ∃ t, v = .str x t
  | .list ds => ∃ a vs n, v = .ref a ∧ IsL h a vs n ∧ a ∉ W ∧ Rds W h vs.toList ds
  | .tup ds => ∃ a vs n, v = .ref a ∧ IsT h a vs n ∧ a ∉ W ∧ Rds W h vs.toList ds
  | .ws C d => ∃ x dx m v1 v2 v3 v4, v = .ref x ∧ WsAt W h C d x dx m v1 v2 v3 v4
  | _ => True
theorem Rd.inv {W : List Addr} {h : Heap} {v : Value} {d : V} (r : Rd W h v d) : RdInv W h v d := by
  cases r with
  | none => trivial
  | bool b => exact rfl
  | int i t => exact ⟨t, rfl⟩
  | str x t => exact ⟨t, rfl⟩
  | list a b c => exact ⟨_, _, _, rfl, a, b, c⟩
  | tup a b c => exact ⟨_, _, _, rfl, a, b, c⟩
  | opq v => trivial
  | ws h1 h2 h3 e1 e2 e3 e4 e5 n1 n2 b1 b2 b3 b4 => exact ⟨_, _, _, _, _, _, _, rfl, h1, h2, h3, e1, e2, e3, e4, e5, b1, b2, b3, b4⟩
noncomputable def RdsInv (W : List Addr) (h : Heap) (vs : List Value) : List V → Prop
  | [] => vs = []
  | d :: ds => ∃ v r, vs = v :: r ∧ Rd W h v d ∧ Rds W h r ds
theorem Rds.inv {W : List Addr} {h : Heap} {vs : List Value} {ds : List V} (r : Rds W h vs ds) : RdsInv W h vs ds := by
  cases r with
  | nil => exact rfl
  | cons a b => exact ⟨_, _, rfl, a, b⟩
theorem Rd.intI {W : List Addr} {h : Heap} {v : Value} {i : Int} (x : Rd W h v (.int i)) : ∃ t, v = .int i t := x.inv
theorem Rd.strI {W : List Addr} {h : Heap} {v : Value} {i : Str} (x : Rd W h v (.str i)) : ∃ t, v = .str i t := x.inv
theorem Rd.boolI {W : List Addr} {h : Heap} {v : Value} {b : Bool} (x : Rd W h v (.bool b)) : v = .bool b := x.inv
theorem Rds.nilI {W : List Addr} {h : Heap} {vs : List Value} (x : Rds W h vs []) : vs = [] := x.inv
theorem Rds.consI {W : List Addr} {h : Heap} {vs : List Value} {d : V} {ds : List V} (x : Rds W h vs (d :: ds)) : ∃ v r, vs = v :: r ∧ Rd W h v d ∧ Rds W h r ds := x.inv
theorem Rds.i1 {W : List Addr} {h : Heap} {vs : List Value} {a : V} (x : Rds W h vs [a]) : ∃ v, vs = [v] ∧ Rd W h v a := el2_3 (x.consI) fun v _ e x1 x => ⟨v, x.nilI ▸ e, x1⟩
theorem Rds.i2 {W : List Addr} {h : Heap} {vs : List Value} {a b : V} (x : Rds W h vs [a, b]) : ∃ v w, vs = [v, w] ∧ Rd W h v a ∧ Rd W h w b := el2_3 (x.consI) fun v _ e x1 x => el1_2 (x.i1) fun w e2 x2 => ⟨v, w, e2 ▸ e, x1, x2⟩
theorem Rds.i3 {W : List Addr} {h : Heap} {vs : List Value} {a b c : V} (x : Rds W h vs [a, b, c]) : ∃ v w u, vs = [v, w, u] ∧ Rd W h v a ∧ Rd W h w b ∧ Rd W h u c := el2_3 (x.consI) fun v _ e x1 x => el2_3 (x.i2) fun w u e2 x2 x3 => ⟨v, w, u, e2 ▸ e, x1, x2, x3⟩
theorem noN {α : Type} {a : α} {G : Prop} (e : (none : Option α) = some a) : G := nomatch e
theorem noS {α : Type} {a : α} {G : Prop} (e : some a = (none : Option α)) : G := nomatch e
theorem noM {α : Type} {a : α} {G : Prop} (e : a ∈ ([] : List α)) : G := nomatch e
variable {B : Heap}
noncomputable def Same (B : Heap) (b : Addr) (o o' : Obj) : Prop := o' = o ∨ ((∃ es n, o.data = .dict es n) ∧ B.get? b = Option.none ∧ ∃ sl, o' = { o with slots := sl })
noncomputable abbrev NotD (o : Obj) : Prop := ∀ es n, o.data ≠ .dict es n
noncomputable def Loose (o o' : Obj) : Prop := o' = o ∨ ((∃ es n, o.data = .dict es n) ∧ ∃ sl, o' = { o with slots := sl })
theorem Same.loose {b : Addr} {o o' : Obj} (x : Same B b o o') : Loose o o' := x.imp id fun ⟨a, _, c⟩ => ⟨a, c⟩
theorem Loose.eq {o o' : Obj} (x : Loose o o') (h : NotD o) : o' = o := x.elim id fun ⟨⟨es, n, e⟩, _⟩ => absurd e (h es n)
theorem Same.refl {b : Addr} {o : Obj} : Same B b o o := .inl rfl
theorem Same.trans {b : Addr} {o o1 o2 : Obj} (x : Same B b o o1) (y : Same B b o1 o2) : Same B b o o2 := by
  rcases x with rfl | ⟨h1, h2, sl, rfl⟩
  · exact y
  · rcases y with rfl | ⟨_, _, sl', rfl⟩
    · exact .inr ⟨h1, h2, sl, rfl⟩
    · exact .inr ⟨h1, h2, sl', rfl⟩
theorem Same.dat {b : Addr} {o o' : Obj} (x : Same B b o o') : o'.cls = o.cls ∧ o'.data = o.data := by
  rcases x with rfl | ⟨_, _, sl, rfl⟩ <;> exact ⟨rfl, rfl⟩
structure Kh (B : Heap) (M : List Addr) (s s' : Shared) : Prop where
  heap : ∀ b o, b ∉ M → s.heap.get? b = some o → ∃ o', s'.heap.get? b = some o' ∧ Same B b o o'
  drawn : s'.drawn = s.drawn
  os : s'.os = s.os
structure Kp (B : Heap) (M : List Addr) (s s' : Shared) : Prop extends Kh B M s s' where
  gens : ∀ (i : Nat) (g : GenState), s.gens[i]? = some g → s'.gens[i]? = some g
  bare : AllBare s.gens → AllBare s'.gens
theorem Kh.get {M : List Addr} {s s' : Shared} (K : Kh B M s s') {b : Addr} {o : Obj} (hb : b ∉ M) (e : s.heap.get? b = some o) (hc : NotD o) : s'.heap.get? b = some o := by
  refine el1_2 (K.heap b o hb e) fun o' e' h => ?_
  rw [← h.loose.eq hc]; exact e'
theorem Kh.old {M : List Addr} {s s' : Shared} (K : Kh B M s s') {b : Addr} {o ob : Obj} (hb : b ∉ M) (e : s.heap.get? b = some o) (hc : B.get? b = some ob) : s'.heap.get? b = some o := by
  refine el1_2 (K.heap b o hb e) fun o' e' h => ?_
  rcases h with rfl | ⟨_, q, _⟩
  · exact e'
  · rw [hc] at q; cases q
theorem Kh.dat {M : List Addr} {s s' : Shared} (K : Kh B M s s') {b : Addr} {o : Obj} (hb : b ∉ M) (e : s.heap.get? b = some o) : ∃ o', s'.heap.get? b = some o' ∧ o'.cls = o.cls ∧ o'.data = o.data :=
  let ⟨o', e', h⟩ := K.heap b o hb e; ⟨o', e', h.dat⟩
theorem Kh.live {M : List Addr} {s s' : Shared} (K : Kh B M s s') {b : Addr} (hb : b ∉ M) (e : ∃ o, s.heap.get? b = some o) : ∃ o, s'.heap.get? b = some o :=
  let ⟨o, e⟩ := e; let ⟨o', e', _⟩ := K.heap b o hb e; ⟨o', e'⟩
theorem Kh.ns {M : List Addr} {s s' : Shared} (K : Kh B M s s') {b : Addr} {m : Str → Option Value} (hb : b ∉ M) (h : s.heap.Ns b m) : s'.heap.Ns b m :=
  let ⟨_, es, ep, e, d, r⟩ := h; let ⟨o', e', _, d'⟩ := K.dat hb e; ⟨o', es, ep, e', d'.trans d, r⟩
theorem Kh.cell {M : List Addr} {s s' : Shared} (K : Kh B M s s') {b : Addr} {v : Option Value} (hb : b ∉ M) (h : s.heap.IsCell b v) : s'.heap.IsCell b v :=
  let ⟨_, e, d⟩ := h; let ⟨o', e', _, d'⟩ := K.dat hb e; ⟨o', e', d'.trans d⟩
theorem Kh.refl (M : List Addr) (s : Shared) : Kh B M s s := ⟨fun _ o _ e => ⟨o, e, .refl⟩, rfl, rfl⟩
theorem Kh.trans {M : List Addr} {s s1 s2 : Shared} (a : Kh B M s s1) (b : Kh B M s1 s2) : Kh B M s s2 :=
  ⟨fun x o hx e => let ⟨o1, e1, h1⟩ := a.heap x o hx e; let ⟨o2, e2, h2⟩ := b.heap x o1 hx e1; ⟨o2, e2, h1.trans h2⟩, b.drawn.trans a.drawn, b.os.trans a.os⟩
theorem Kh.mono {M M' : List Addr} {s s' : Shared} (a : Kh B M s s') (h : ∀ b ∈ M, b ∈ M') : Kh B M' s s' := ⟨fun x o hx e => a.heap x o (fun q => hx (h x q)) e, a.drawn, a.os⟩
theorem Kh.nil {M : List Addr} {s s' : Shared} (a : Kh B [] s s') : Kh B M s s' := a.mono fun _ h => nomatch h
theorem Kh.fresh {M M' : List Addr} {s s' : Shared} (a : Kh B M s s') (h : ∀ b ∈ M, b ∈ M' ∨ s.heap.get? b = .none) : Kh B M' s s' :=
  ⟨fun x o hx e => a.heap x o (fun q => (h x q).elim hx fun z => by rw [e] at z; cases z) e, a.drawn, a.os⟩
theorem Kp.refl (M : List Addr) (s : Shared) : Kp B M s s := ⟨.refl _ _, fun _ _ e => e, id⟩
theorem Kp.trans {M : List Addr} {s s1 s2 : Shared} (a : Kp B M s s1) (b : Kp B M s1 s2) : Kp B M s s2 :=
  ⟨a.toKh.trans b.toKh, fun i g e => b.gens i g (a.gens i g e), fun x => b.bare (a.bare x)⟩
theorem Kp.mono {M M' : List Addr} {s s' : Shared} (a : Kp B M s s') (h : ∀ b ∈ M, b ∈ M') : Kp B M' s s' := ⟨a.toKh.mono h, a.gens, a.bare⟩
theorem Kp.nil {M : List Addr} {s s' : Shared} (a : Kp B [] s s') : Kp B M s s' := a.mono fun _ h => nomatch h
theorem Kp.of {M : List Addr} {s : Shared} {h' : Heap} {tk : Nat} (k : ∀ b o, b ∉ M → s.heap.get? b = some o → h'.get? b = some o) : Kp B M s { s with heap := h', toks := tk } :=
  ⟨⟨fun b o hb e => ⟨o, k b o hb e, .refl⟩, rfl, rfl⟩, fun _ _ e => e, id⟩
theorem Kp.tok {M : List Addr} {s s' : Shared} (a : Kp B M s s') (tk : Nat) : Kp B M s { s' with toks := tk } := ⟨⟨a.heap, a.drawn, a.os⟩, a.gens, a.bare⟩
theorem Kp.fresh {M M' : List Addr} {s s' : Shared} (a : Kp B M s s') (h : ∀ b ∈ M, b ∈ M' ∨ s.heap.get? b = .none) : Kp B M' s s' := ⟨a.toKh.fresh h, a.gens, a.bare⟩
theorem Rd.move {W W' : List Addr} {h h' : Heap} (k : ∀ b o, b ∉ W → h.get? b = some o → (∃ o', h'.get? b = some o' ∧ Loose o o') ∧ b ∉ W') {v : Value} {d : V} (x : Rd W h v d) : Rd W' h' v d :=
  have key : ∀ {b o}, b ∉ W → h.get? b = some o → NotD o → h'.get? b = some o ∧ b ∉ W' := fun {b o} n e q => (k b o n e).1.elim fun o' y => ⟨y.2.eq q ▸ y.1, (k b o n e).2⟩
  Rd.rec (motive_1 := fun v d _ => Rd W' h' v d) (motive_2 := fun vs ds _ => Rds W' h' vs ds) .none .bool .int .str
    (fun l n _ r => .list (key n l nofun).1 (key n l nofun).2 r) (fun l n _ r => .tup (key n l nofun).1 (key n l nofun).2 r) .opq
    (fun h1 h2 h3 e1 e2 e3 e4 e5 n1 n2 _ _ _ _ b1 b2 b3 b4 => .ws (key n1 h1 nofun).1 (by
      refine el3_3 (h2) fun o es ep h2 hd hr => ?_
      refine el1_2 (k _ _ n2 h2).1 fun o2 g2 q2 => ?_
      exact ⟨o2, es, ep, g2, (by rcases q2 with rfl | ⟨_, sl, rfl⟩ <;> exact hd), hr⟩) h3 e1 e2 e3 e4 e5 (key n1 h1 nofun).2 (el3_3 (h2) fun _ _ _ h2 _ _ => (k _ _ n2 h2).2) b1 b2 b3 b4)
    .nil (fun _ _ a b => .cons a b) x
theorem Rds.ind {W : List Addr} {h : Heap} {P : List Value → List V → Prop} (n : P [] []) (c : ∀ {v vs d ds}, Rd W h v d → Rds W h vs ds → P vs ds → P (v :: vs) (d :: ds)) {vs : List Value} {ds : List V} (x : Rds W h vs ds) : P vs ds :=
  Rds.rec (motive_1 := fun _ _ _ => True) (motive_2 := fun vs ds _ => P vs ds) trivial (fun _ => trivial) (fun _ _ => trivial) (fun _ _ => trivial) (fun _ _ _ _ => trivial) (fun _ _ _ _ => trivial) (fun _ => trivial) (fun _ _ _ _ _ _ _ _ _ _ _ _ _ _ _ _ _ _ => trivial) n (fun a r _ i => c a r i) x
theorem Rds.move {W W' : List Addr} {h h' : Heap} (k : ∀ b o, b ∉ W → h.get? b = some o → (∃ o', h'.get? b = some o' ∧ Loose o o') ∧ b ∉ W') {vs : List Value} {ds : List V} (x : Rds W h vs ds) : Rds W' h' vs ds :=
  x.ind .nil fun a _ r => .cons (Rd.move k a) r
theorem Loose.refl {o : Obj} : Loose o o := .inl rfl
theorem Rd.keepH {W M : List Addr} {s s' : Shared} {v : Value} {d : V} (x : Rd W s.heap v d) (k : Kh B M s s') (hM : ∀ b ∈ M, b ∈ W) : Rd W s'.heap v d :=
  x.move fun b o hb e => ⟨let ⟨o', e', q⟩ := k.heap b o (fun q => hb (hM b q)) e; ⟨o', e', q.loose⟩, hb⟩
theorem Rds.keepH {W M : List Addr} {s s' : Shared} {v : List Value} {d : List V} (x : Rds W s.heap v d) (k : Kh B M s s') (hM : ∀ b ∈ M, b ∈ W) : Rds W s'.heap v d :=
  x.move fun b o hb e => ⟨let ⟨o', e', q⟩ := k.heap b o (fun q => hb (hM b q)) e; ⟨o', e', q.loose⟩, hb⟩
theorem Rd.keep {W M : List Addr} {s s' : Shared} {v : Value} {d : V} (x : Rd W s.heap v d) (k : Kp B M s s') (hM : ∀ b ∈ M, b ∈ W) : Rd W s'.heap v d := x.keepH k.toKh hM
theorem Rds.keep {W M : List Addr} {s s' : Shared} {v : List Value} {d : List V} (x : Rds W s.heap v d) (k : Kp B M s s') (hM : ∀ b ∈ M, b ∈ W) : Rds W s'.heap v d := x.keepH k.toKh hM
theorem Rd.keep0 {W : List Addr} {s s' : Shared} {v : Value} {d : V} (x : Rd W s.heap v d) (k : Kp B [] s s') : Rd W s'.heap v d := x.keep k fun _ h => nomatch h
theorem Rds.keep0 {W : List Addr} {s s' : Shared} {v : List Value} {d : List V} (x : Rds W s.heap v d) (k : Kp B [] s s') : Rds W s'.heap v d := x.keep k fun _ h => nomatch h
theorem Rd.weak {W W' : List Addr} {h : Heap} {v : Value} {d : V} (x : Rd W h v d) (k : ∀ b ∈ W', b ∈ W ∨ h.get? b = .none) : Rd W' h v d :=
  x.move fun b o hb e => ⟨⟨o, e, .refl⟩, fun q => (k b q).elim hb fun z => by rw [e] at z; cases z⟩
theorem Rds.weak {W W' : List Addr} {h : Heap} {v : List Value} {d : List V} (x : Rds W h v d) (k : ∀ b ∈ W', b ∈ W ∨ h.get? b = .none) : Rds W' h v d :=
  x.move fun b o hb e => ⟨⟨o, e, .refl⟩, fun q => (k b q).elim hb fun z => by rw [e] at z; cases z⟩
theorem Rds.length {W : List Addr} {h : Heap} {vs : List Value} {ds : List V} (x : Rds W h vs ds) : vs.length = ds.length := x.ind (P := fun vs ds => vs.length = ds.length) rfl fun _ _ i => congrArg Nat.succ i
theorem Rds.get {W : List Addr} {h : Heap} {vs : List Value} {ds : List V} (x : Rds W h vs ds) {i : Nat} {d : V} (e : ds[i]? = some d) : ∃ v, vs[i]? = some v ∧ Rd W h v d :=
  x.ind (P := fun vs ds => ∀ i d, ds[i]? = some d → ∃ v, vs[i]? = some v ∧ Rd W h v d) (fun _ _ e => noN e) (fun a _ r i d e => by
    cases i with
    | zero => exact ⟨_, rfl, Option.some.inj e ▸ a⟩
    | succ i => exact r i d e) i d e
theorem Rds.get' {W : List Addr} {h : Heap} {vs : List Value} {ds : List V} (x : Rds W h vs ds) {i : Nat} {v : Value} (e : vs[i]? = some v) : ∃ d, ds[i]? = some d ∧ Rd W h v d :=
  x.ind (P := fun vs ds => ∀ i v, vs[i]? = some v → ∃ d, ds[i]? = some d ∧ Rd W h v d) (fun _ _ e => noN e) (fun a _ r i d e => by
    cases i with
    | zero => exact ⟨_, rfl, Option.some.inj e ▸ a⟩
    | succ i => exact r i d e) i v e
theorem Rds.append {W : List Addr} {h : Heap} {vs ws : List Value} {ds es : List V} (x : Rds W h vs ds) (r : Rds W h ws es) : Rds W h (vs ++ ws) (ds ++ es) :=
  x.ind (P := fun vs ds => Rds W h (vs ++ ws) (ds ++ es)) r fun a _ i => .cons a i
theorem Rds.of_get {W : List Addr} {h : Heap} {vs : List Value} {ds : List V} (e : vs.length = ds.length) (q : ∀ (i : Nat) (v : Value) (d : V), vs[i]? = some v → ds[i]? = some d → Rd W h v d) : Rds W h vs ds := by
  induction vs generalizing ds with
  | nil => cases ds with
    | nil => exact .nil
    | cons _ _ => exact Nat.noConfusion e
  | cons v vs ih => cases ds with
    | nil => exact Nat.noConfusion e
    | cons d ds => exact .cons (q 0 v d rfl rfl) (ih (Nat.succ.inj e) fun i v d h1 h2 => q (i + 1) v d h1 h2)
structure Cx where
  prog : Program
  w : World
  h0 : Heap
  tab : Addr
  gl : List (Str × Value)
  C : Addr
inductive Loc (env : Env) (M : List Addr) (x : Str) : Prop
  | loc : env.kindOf x = some .local → Loc env M x
  | cell (c : Addr) : env.kindOf x = some .cell → env.cells.lookup x = some c → c ∈ M → Loc env M x
noncomputable def Var (env : Env) (h : Heap) (x : Str) (v : Value) : Prop :=
  (env.kindOf x = some .local ∧ ∃ m, h.Ns env.locals m ∧ m x = some v) ∨
  (env.kindOf x = some .cell ∧ ∃ c, env.cells.lookup x = some c ∧ h.IsCell c (some v))
noncomputable def FVar (env : Env) (h : Heap) (x : Str) (v : Value) : Prop := (env.kindOf x = some .free ∨ env.kindOf x = some .cell) ∧ ∃ c, env.cells.lookup x = some c ∧ h.IsCell c (some v)
noncomputable abbrev Sto := List (Str × Option V)
inductive VarR (X : Cx) (M W : List Addr) (h : Heap) : Value → V → Prop
  | data {v : Value} {d : V} : Rd W h v d → VarR X M W h v d
  | own {D : Addr} {ds : List V} {vs : Array Value} {n : Nat} : IsL h D vs n → D ∈ M → X.h0.get? D = Option.none ∧ D ≠ X.tab → Rds W h vs.toList ds → VarR X M W h (.ref D) (.own D ds)
theorem VarR.rd {X : Cx} {M W : List Addr} {h : Heap} {v : Value} {d : V} (x : VarR X M W h v d) (hd : d.isOwn = false) : Rd W h v d := by
  cases x with
  | data r => exact r
  | own l n hn r => cases hd
theorem Rd.notOwn {W : List Addr} {h : Heap} {v : Value} {d : V} (r : Rd W h v d) : d.isOwn = false := by
  cases r <;> rfl
theorem VarR.keepH {X : Cx} {B : Heap} {M W O : List Addr} {s s' : Shared} {v : Value} {d : V} (x : VarR X M W s.heap v d) (k : Kh B O s s') (hO : ∀ b ∈ O, b ∈ W) (hl : ∀ b ∈ O, b ∈ M → ∀ vs n, ¬ IsL s.heap b vs n) : VarR X M W s'.heap v d := by
  cases x with
  | data r => exact .data (r.keepH k hO)
  | own l n hn r => exact .own (k.get (fun q => hl _ q n _ _ l) l nofun) n hn (r.keepH k hO)
theorem VarR.weak {X : Cx} {M W W' : List Addr} {h : Heap} {v : Value} {d : V} (x : VarR X M W h v d) (hW : ∀ b ∈ W', b ∈ W ∨ h.get? b = Option.none) : VarR X M W' h v d := by
  cases x with
  | data r => exact .data (r.weak hW)
  | own l n hn r => exact .own l n hn (r.weak hW)
structure Gm where
  gs : List Str
  fr : List (Str × V)
  cs : List Str
structure EnvK (env : Env) (gs : Gm) : Prop where
  fn : env.scope.kind = .function
  gl : env.globals = mainGlobals
  bi : env.builtins = builtinsNs
  gk : ∀ g ∈ gs.gs, env.kindOf g = some .globalImplicit ∧ (g == ("__debug__" : Str)) = false
noncomputable def Frs (X : Cx) (h : Heap) (l : List Env) : Prop := ∀ env ∈ l, env.scope.kind ≠ .module ∧ ∃ L, env.frame = some L ∧ (X.h0.get? L = Option.none ∧ L ≠ X.tab) ∧ ∃ m, h.Ns L m
noncomputable def NF (A : Around) (b : Addr) : Prop := ∀ l, A.frames = some l → ∀ e ∈ l, e.frame ≠ some b
structure Base (X : Cx) (A : Around) (W : List Addr) (s : Shared) : Prop where
  base : ∀ b o, b ≠ X.tab → X.h0.get? b = some o → s.heap.get? b = some o
  tabW : X.tab ∈ W
  old : ∀ a ∈ W, ∃ o, s.heap.get? a = some o
  frs : ∃ l, A.frames = some l ∧ Frs X s.heap l
structure St (X : Cx) (A : Around) (env : Env) (gs : Gm) (M W : List Addr) (σ : Sto) (s : Shared) : Prop extends Base X A W s, EnvK env gs where
  sub : ∀ a ∈ M, a ∈ W
  new : ∀ a ∈ M, X.h0.get? a = Option.none
  ns : ∃ m, s.heap.Ns env.locals m
  locM : env.locals ∈ M
  loc : ∀ x o, (x, o) ∈ σ → Loc env M x ∧ (x == ("__debug__" : Str)) = false
  nodup : (σ.map (·.1)).Nodup
  vars : ∀ x d, (x, some d) ∈ σ → ∃ v, Var env s.heap x v ∧ VarR X M W s.heap v d
  free : ∀ x d, (x, d) ∈ gs.fr → (∃ v, FVar env s.heap x v ∧ Rd W s.heap v d) ∧ (x == ("__debug__" : Str)) = false ∧ (x == ("__classdict__" : Str)) = false
  cells : ∀ n c, env.cells.lookup n = some c → (∃ v, s.heap.IsCell c v) ∧ c ∈ W ∧ c ≠ env.locals
  apart : ∀ n n' c, env.cells.lookup n = some c → env.cells.lookup n' = some c → n = n'
  cs : ∀ x ∈ gs.cs, (env.kindOf x = some .cell ∨ env.kindOf x = some .free) ∧ ∃ c, env.cells.lookup x = some c
  dis : ∀ x o y d, (x, o) ∈ σ → (y, d) ∈ gs.fr → y ≠ x
theorem Frs.keep {X : Cx} {M : List Addr} {s s' : Shared} (k : Kh X.h0 M s s') {l : List Env} (hM : ∀ b ∈ M, (∀ e ∈ l, e.frame ≠ some b) ∨ ∃ m, s'.heap.Ns b m) (h : Frs X s.heap l) : Frs X s'.heap l := by
  intro env he
  refine el0_2 (h env he) fun hk y4 => ?_; refine el1_3 (y4) fun L hf hn y104 => ?_; refine el1_1 (y104) fun m hm => ?_
  refine ⟨hk, L, hf, hn, ?_⟩
  by_cases hL : L ∈ M
  · rcases hM L hL with q | q
    · exact absurd hf (q env he)
    · exact q
  · exact ⟨m, k.ns hL hm⟩
theorem Base.keepH {X : Cx} {A : Around} {W M : List Addr} {s s' : Shared} (B : Base X A W s) (k : Kh X.h0 M s s') (hM : ∀ b ∈ M, X.h0.get? b = .none ∧ (∃ o, s'.heap.get? b = some o) ∧ (NF A b ∨ ∃ m, s'.heap.Ns b m)) : Base X A W s' :=
  ⟨fun b o hb e => k.old (fun q => by rw [(hM b q).1] at e; exact noN e) (B.base b o hb e) e, B.tabW, fun a ha => by
    by_cases hm : a ∈ M
    · exact (hM a hm).2.1
    · exact k.live hm (B.old a ha), by
    refine el1_2 (B.frs) fun l hl hf => ?_
    exact ⟨l, hl, hf.keep k fun b hb => (hM b hb).2.2.imp (fun q => q l hl) id⟩⟩
theorem Base.keep {X : Cx} {A : Around} {W M : List Addr} {s s' : Shared} (B : Base X A W s) (k : Kp X.h0 M s s') (hM : ∀ b ∈ M, X.h0.get? b = .none ∧ (∃ o, s'.heap.get? b = some o) ∧ (NF A b ∨ ∃ m, s'.heap.Ns b m)) : Base X A W s' := B.keepH k.toKh hM
theorem Base.keep0 {X : Cx} {A : Around} {W : List Addr} {s s' : Shared} (B : Base X A W s) (k : Kp X.h0 [] s s') : Base X A W s' := B.keep k fun _ h => nomatch h
theorem Base.nf {X : Cx} {A : Around} {W : List Addr} {s : Shared} {b : Addr} (B : Base X A W s) (h : s.heap.get? b = Option.none) : NF A b := by
  obtain ⟨l, hl, hf⟩ := B.frs
  intro l' hl' e he q
  rw [hl] at hl'; obtain rfl := Option.some.inj hl'
  obtain ⟨_, L, hL, _, m, o, _, _, e', _⟩ := hf e he
  rw [q] at hL; obtain rfl := Option.some.inj hL
  rw [h] at e'; exact noN e'
theorem Var.keepH {M : List Addr} {s s' : Shared} {env : Env} {x : Str} {v : Value} (k : Kh B M s s') (h1 : env.locals ∉ M) (h2 : ∀ n c, env.cells.lookup n = some c → c ∉ M) : Var env s.heap x v → Var env s'.heap x v
  | .inl ⟨a, m, b, c⟩ => .inl ⟨a, m, k.ns h1 b, c⟩
  | .inr ⟨a, c, b, e⟩ => .inr ⟨a, c, b, k.cell (h2 _ _ b) e⟩
theorem FVar.keepH {M : List Addr} {s s' : Shared} {env : Env} {x : Str} {v : Value} (k : Kh B M s s') (h2 : ∀ n c, env.cells.lookup n = some c → c ∉ M) : FVar env s.heap x v → FVar env s'.heap x v
  | ⟨a, c, b, e⟩ => ⟨a, c, b, k.cell (h2 _ _ b) e⟩
variable {X : Cx} {A : Around} {env : Env} {gs : Gm} {M W : List Addr} {σ : Sto} {s s' : Shared}
theorem St.keep (S : St X A env gs M W σ s) (k : Kp X.h0 [] s s') : St X A env gs M W σ s' :=
  ⟨S.toBase.keep0 k, S.toEnvK, S.sub, S.new, let ⟨m, h⟩ := S.ns; ⟨m, k.ns nofun h⟩, S.locM, S.loc, S.nodup, fun x d h => let ⟨v, a, b⟩ := S.vars x d h; ⟨v, a.keepH k.toKh nofun nofun, b.keepH k.toKh nofun nofun⟩,
    fun x d h => let ⟨⟨v, a, b⟩, c⟩ := S.free x d h; ⟨⟨v, a.keepH k.toKh nofun, b.keep0 k⟩, c⟩,
    fun n c h => let ⟨⟨v, a⟩, b⟩ := S.cells n c h; ⟨⟨v, k.cell nofun a⟩, b⟩, S.apart, S.cs, S.dis⟩
structure Room (k : Nat) (A : Around) : Prop where
  handled : A.handled = .none
  depth : A.depth + k < recursionLimit
  units : A.units + 20 * k + 200 < cLine
theorem Room.mono {k k' : Nat} {A : Around} (R : Room k A) (h : k' ≤ k) : Room k' A := ⟨R.handled, Nat.lt_of_le_of_lt (Nat.add_le_add_left h _) R.depth, Nat.lt_of_le_of_lt (Nat.add_le_add_right (Nat.add_le_add_left (Nat.mul_le_mul_left 20 h) _) _) R.units⟩
theorem Room.in1 {k : Nat} {A : Around} (R : Room (k + 1) A) : Room k A.in1 := ⟨R.handled, by have := R.depth; rw [Around.in1_depth]; (exact Nat.le_of_lt (by assumption)), by have := R.units; rw [Around.in1_units]; lia⟩
theorem Room.deeper {k : Nat} {A : Around} (R : Room (k + 1) A) (env : Env) : Room k (A.deeper env) := ⟨R.handled, Nat.lt_of_le_of_lt (Nat.le_of_eq (Nat.add_right_comm A.depth 1 k)) R.depth, Nat.lt_of_le_of_lt (Nat.add_le_add_right (Nat.le_trans (Nat.le_of_eq (Nat.add_right_comm A.units 3 (20 * k))) (Nat.add_le_add_left (show 3 ≤ 20 by decide) _)) 200) R.units⟩
structure Ev (X : Cx) (k : Nat) (gs : Gm) (σ : Sto) (e : Expr) (d : V) : Prop where
  run : ∀ A env M W s, Room k A → St X A env gs M W σ s → wpAny (model X.prog X.w) A (eval e env) (fun v s' => Rd W s'.heap v d ∧ Kp X.h0 [] s s') (fun _ _ => False) s
variable {k : Nat} {e : Expr} {d : V}
theorem Kp.toks {M : List Addr} (s : Shared) (tk : Nat) : Kp B M s { s with toks := tk } := Kp.of fun _ _ _ e => e
theorem Kp.push {M : List Addr} (s : Shared) (o : Obj) : Kp B M s { s with heap := s.heap.push o } := Kp.of fun _ _ _ e => Heap.get?_push_of_some o e
theorem Ev.int {i : Int} {n : Nat} {p : Pos} : Ev X k gs σ (.Constant (.int i) n p) (.int i) := ⟨fun _ _ _ _ s _ _ => wpAny_Constant_int ⟨.int _ _, Kp.toks s _⟩⟩
theorem Ev.str {i : Str} {n : Nat} {p : Pos} : Ev X k gs σ (.Constant (.str i) n p) (.str i) := ⟨fun _ _ _ _ s _ _ => Constant_str ⟨.str _ _, Kp.toks s _⟩⟩
theorem Ev.bool {i : Bool} {n : Nat} {p : Pos} : Ev X k gs σ (.Constant (.bool i) n p) (.bool i) := ⟨fun _ _ _ _ s _ _ => wpAny_Constant_bool ⟨.bool _, Kp.refl _ s⟩⟩
theorem Ev.nul {n : Nat} {p : Pos} : Ev X k gs σ (.Constant .none n p) .none := ⟨fun _ _ _ _ s _ _ => wpAny_Constant_none ⟨.none, Kp.refl _ s⟩⟩
theorem St.load {x : Str} {A' : Around} {E : Value → Shared → Prop} {Q : Value → Shared → Prop} (S : St X A env gs M W σ s) (h : (x, some d) ∈ σ) (hd : d.isOwn = false) (hq : ∀ v, Rd W s.heap v d → Q v s) : wpAny (model X.prog X.w) A' (loadName env x) Q E s := by
  refine el1_2 (S.vars x d h) fun v hv hr => ?_
  rcases hv with ⟨hk, m, hn, hm⟩ | ⟨hk, c, hc, hi⟩
  · exact wpAny_loadName_local S.fn hk hn hm (hq v (hr.rd hd))
  · exact wpAny_loadName_cell S.fn hk hc hi (hq v (hr.rd hd))
theorem Ev.name {x : Str} {p : Pos} (h : (x, some d) ∈ σ) (hd : d.isOwn = false := by rfl) : Ev X k gs σ (.Name x p) d :=
  ⟨fun A env M W s _ S => wpAny_Name (S.load h hd fun v hr => ⟨hr, Kp.refl _ s⟩) (S.loc x _ h).2⟩
theorem Ev.fname {x : Str} {p : Pos} (h : (x, d) ∈ gs.fr) : Ev X k gs σ (.Name x p) d := by
  refine ⟨?_⟩
  intro A env M W s _ S
  refine el0_3 (S.free x d h) fun y5 h1 h2 => ?_; refine el1_2 (y5) fun v y105 hr => ?_; refine el0_2 (y105) fun hk y204 => ?_; obtain ⟨c, hc, hi⟩ := y204
  refine wpAny_Name ?_ h1
  rcases hk with hk | hk
  · exact wpAny_loadName_free S.fn hk hc hi ⟨hr, Kp.refl _ s⟩ h2
  · exact wpAny_loadName_cell S.fn hk hc hi ⟨hr, Kp.refl _ s⟩
end Mine
end
noncomputable section
namespace Mine
open PySem PySem.W PySem.Calls PyProof.Rows
variable {X : Cx} {A : Around} {k : Nat} {gs : Gm} {σ : Sto} {l r : Expr} {pos : Pos}
noncomputable abbrev Out (H : Heap) (W : List Addr) (s : Shared) (d : V) : Value → Shared → Prop := fun v s' => Rd W s'.heap v d ∧ Kp H [] s s'
noncomputable abbrev No : Value → Shared → Prop := fun _ _ => False
structure Op2 (X : Cx) (k : Nat) (t : Value → Value → Sem Value) (a b d : V) : Prop where
  run : ∀ A W s v w, Room k A → Base X A W s → Rd W s.heap v a → Rd W s.heap w b → wpAny (model X.prog X.w) A (t v w) (Out X.h0 W s d) No s
structure Op1 (X : Cx) (k : Nat) (t : Value → Sem Value) (a d : V) : Prop where
  run : ∀ A W s v, Room k A → Base X A W s → Rd W s.heap v a → wpAny (model X.prog X.w) A (t v) (Out X.h0 W s d) No s
theorem Ev.bin {op : Operator} {a b d : V} (hl : Ev X k gs σ l a) (hr : Ev X k gs σ r b) (h : Op2 X k (binaryOp op) a b d) : Ev X k gs σ (.BinOp l op r pos) d := by
  refine ⟨?_⟩
  intro A env M W s R S
  refine wpAny_BinOp (wpAny_mono (hl.run A env M W s R S) ?_ (fun _ _ f => f))
  intro v s1 y1; refine el0_2 (y1) fun hv k1 => ?_
  refine wpAny_mono (hr.run A env M W s1 R (S.keep k1)) ?_ (fun _ _ f => f)
  intro w s2 y2; refine el0_2 (y2) fun hw k2 => ?_
  refine wpAny_mono (h.run A W s2 v w R ((S.keep k1).keep k2).toBase (hv.keep0 k2) hw) ?_ (fun _ _ f => f)
  intro u s3 y3; refine el0_2 (y3) fun hu k3 => ?_
  exact ⟨hu, (k1.trans k2).trans k3⟩
theorem Ev.cmp {op : CmpOp} {a b d : V} (hl : Ev X k gs σ l a) (hr : Ev X k gs σ r b) (h : Op2 X k (compareOp op) a b d) (hm : behindInMarks op r = false := by with_unfolding_all rfl) :
    Ev X k gs σ (.Compare l [op] [r] pos) d := by
  refine ⟨?_⟩
  intro A env M W s R S
  refine wpAny_Compare1 (wpAny_mono (hl.run A env M W s R S) ?_ (fun _ _ f => f)) hm
  intro v s1 y4; refine el0_2 (y4) fun hv k1 => ?_
  refine wpAny_mono (hr.run A env M W s1 R (S.keep k1)) ?_ (fun _ _ f => f)
  intro w s2 y5; refine el0_2 (y5) fun hw k2 => ?_
  refine wpAny_mono (h.run A W s2 v w R ((S.keep k1).keep k2).toBase (hv.keep0 k2) hw) ?_ (fun _ _ f => f)
  intro u s3 y6; refine el0_2 (y6) fun hu k3 => ?_
  exact ⟨hu, (k1.trans k2).trans k3⟩
section
variable {a b : Int}
theorem Op2.add : Op2 X k (binaryOp .Add) (.int a) (.int b) (.int (a + b)) := by
  refine ⟨?_⟩
  intro A W s v w R B z0 z1; obtain ⟨_, rfl⟩ := Rd.intI z0; obtain ⟨_, rfl⟩ := Rd.intI z1; exact P.add_int ⟨.int _ _, Kp.toks _ _⟩
theorem Op2.sub : Op2 X k (binaryOp .Sub) (.int a) (.int b) (.int (a - b)) := by
  refine ⟨?_⟩
  intro A W s v w R B z2 z3; obtain ⟨_, rfl⟩ := Rd.intI z2; obtain ⟨_, rfl⟩ := Rd.intI z3; exact P.sub_int ⟨.int _ _, Kp.toks _ _⟩
theorem Op2.mul (ha : a.natAbs < 2 ^ 63) : Op2 X k (binaryOp .Mult) (.int a) (.int b) (.int (a * b)) := by
  refine ⟨?_⟩
  intro A W s v w R B z4 z5; obtain ⟨_, rfl⟩ := Rd.intI z4; obtain ⟨_, rfl⟩ := Rd.intI z5; exact P.mul_int ⟨.int _ _, Kp.toks _ _⟩ (PySem.IntMulOk.of_left (PySem.intBits_le_64 (by omega) (by omega)))
theorem Op2.mod (hb : b ≠ 0) : Op2 X k (binaryOp .Mod) (.int a) (.int b) (.int (a.fmod b)) := by
  refine ⟨?_⟩
  intro A W s v w R B z6 z7; obtain ⟨_, rfl⟩ := Rd.intI z6; obtain ⟨_, rfl⟩ := Rd.intI z7; exact mod_int' hb ⟨.int _ _, Kp.toks _ _⟩
theorem Op2.fdiv (hb : b ≠ 0) (hs : b.natAbs < 1073741824) : Op2 X k (binaryOp .FloorDiv) (.int a) (.int b) (.int (a.fdiv b)) := by
  refine ⟨?_⟩
  intro A W s v w R B z8 z9; refine el1_1 (Rd.intI z8) fun _ y15 => ?_; obtain rfl := y15; refine el1_1 (Rd.intI z9) fun _ y16 => ?_; obtain rfl := y16; exact floordiv_int hb ⟨.int _ _, Kp.toks _ _⟩ (Or.inl (PyProof.noPylong_small hs))
theorem Op2.pow (h0 : 0 ≤ b) (h1 : b ≤ 1000000) (ha : a.natAbs < 2 ^ 64) : Op2 X k (binaryOp .Pow) (.int a) (.int b) (.int (a ^ b.toNat)) := by
  refine ⟨?_⟩
  intro A W s v w R B z10 z11; obtain ⟨_, rfl⟩ := Rd.intI z10; obtain ⟨_, rfl⟩ := Rd.intI z11; exact pow_int_small h0 h1 ha ⟨.int _ _, Kp.toks _ _⟩
theorem Op2.lt : Op2 X k (compareOp .Lt) (.int a) (.int b) (.bool (decide (a < b))) := by
  refine ⟨?_⟩
  intro A W s v w R B z12 z13; obtain ⟨_, rfl⟩ := Rd.intI z12; obtain ⟨_, rfl⟩ := Rd.intI z13; exact P.lt_int ⟨.bool _, Kp.refl _ _⟩
theorem Op2.le : Op2 X k (compareOp .LtE) (.int a) (.int b) (.bool (decide (a ≤ b))) := by
  refine ⟨?_⟩
  intro A W s v w R B z14 z15; obtain ⟨_, rfl⟩ := Rd.intI z14; obtain ⟨_, rfl⟩ := Rd.intI z15; exact P.le_int ⟨.bool _, Kp.refl _ _⟩
theorem Op2.gt : Op2 X k (compareOp .Gt) (.int a) (.int b) (.bool (decide (a > b))) := by
  refine ⟨?_⟩
  intro A W s v w R B z16 z17; obtain ⟨_, rfl⟩ := Rd.intI z16; obtain ⟨_, rfl⟩ := Rd.intI z17; exact P.gt_int ⟨.bool _, Kp.refl _ _⟩
theorem Op2.ge : Op2 X k (compareOp .GtE) (.int a) (.int b) (.bool (decide (a ≥ b))) := by
  refine ⟨?_⟩
  intro A W s v w R B z18 z19; obtain ⟨_, rfl⟩ := Rd.intI z18; obtain ⟨_, rfl⟩ := Rd.intI z19; exact P.ge_int ⟨.bool _, Kp.refl _ _⟩
theorem Op2.eqi : Op2 X k (compareOp .Eq) (.int a) (.int b) (.bool (decide (a = b))) := by
  refine ⟨?_⟩
  intro A W s v w R B z20 z21; obtain ⟨_, rfl⟩ := Rd.intI z20; obtain ⟨_, rfl⟩ := Rd.intI z21; exact P.eq_int ⟨by rw [show (a == b) = decide (a = b) from rfl]; exact .bool _, Kp.refl _ _⟩
theorem Op2.nei : Op2 X k (compareOp .NotEq) (.int a) (.int b) (.bool (decide (a ≠ b))) := by
  refine ⟨?_⟩
  intro A W s v w R B z22 z23; obtain ⟨_, rfl⟩ := Rd.intI z22; obtain ⟨_, rfl⟩ := Rd.intI z23; exact P.ne_int ⟨by rw [show (a != b) = decide (a ≠ b) by simp [bne, decide_not]; rfl]; exact .bool _, Kp.refl _ _⟩
end
section
variable {x y : Str}
theorem Str.app_empty_left {x y : Str} (h : (x.length == 0) = true) : x ++ y = y := by
  have h1 : x.cps = #[] := Array.eq_empty_of_size_eq_zero (beq_iff_eq.mp h)
  obtain ⟨c⟩ := x; obtain ⟨d⟩ := y
  simp only at h1; subst h1
  show Str.mk (#[] ++ d) = _
  simp
theorem Str.app_empty_right {x y : Str} (h : (y.length == 0) = true) : x ++ y = x := by
  have h1 : y.cps = #[] := Array.eq_empty_of_size_eq_zero (beq_iff_eq.mp h)
  obtain ⟨c⟩ := x; obtain ⟨d⟩ := y
  simp only at h1; subst h1
  show Str.mk (c ++ #[]) = _
  simp
theorem Op2.adds (h : (x ++ y).length ≤ sizeLine) : Op2 X k (binaryOp .Add) (.str x) (.str y) (.str (x ++ y)) := by
  refine ⟨?_⟩
  intro A W s v w R B z24 z25; obtain ⟨_, rfl⟩ := Rd.strI z24; obtain ⟨_, rfl⟩ := Rd.strI z25
  refine P.add_str ?_
  split
  · rename_i hx
    rw [Str.app_empty_left hx]
    exact ⟨.str _ _, Kp.refl _ _⟩
  · split
    · rename_i hy
      rw [Str.app_empty_right hy]
      exact ⟨.str _ _, Kp.refl _ _⟩
    · exact ⟨h, .str _ _, Kp.toks _ _⟩
theorem Op2.eqs : Op2 X k (compareOp .Eq) (.str x) (.str y) (.bool (decide (x = y))) := by
  refine ⟨?_⟩
  intro A W s v w R B z26 z27; refine el1_1 (Rd.strI z26) fun _ y33 => ?_; obtain rfl := y33; refine el1_1 (Rd.strI z27) fun _ y34 => ?_; obtain rfl := y34
  exact PyProof.Rows.eq_str ⟨by rw [show (x == y) = decide (x = y) from by by_cases h : x = y <;> simp [h]]; exact .bool _, Kp.refl _ _⟩
end
theorem Rd.listI {W : List Addr} {h : Heap} {v : Value} {ds : List V} (x : Rd W h v (.list ds)) : ∃ a vs n, v = .ref a ∧ IsL h a vs n ∧ a ∉ W ∧ Rds W h vs.toList ds := x.inv
theorem Rd.tupI {W : List Addr} {h : Heap} {v : Value} {ds : List V} (x : Rd W h v (.tup ds)) : ∃ a vs n, v = .ref a ∧ IsT h a vs n ∧ a ∉ W ∧ Rds W h vs.toList ds := x.inv
theorem notIn_new {W : List Addr} {s : Shared} (old : ∀ a ∈ W, ∃ o, s.heap.get? a = some o) : s.heap.objs.size ∉ W := fun h => by
  refine el1_1 (old _ h) fun o ho => ?_
  exact absurd (Heap.lt_size ho) (Nat.lt_irrefl _)
theorem Rd.newList {W : List Addr} {s : Shared} {vs : Array Value} {ds : List V} (old : ∀ a ∈ W, ∃ o, s.heap.get? a = some o) (r : Rds W s.heap vs.toList ds) :
    Rd W (s.heap.push { cls := .type "list", data := .seq vs }) (.ref s.heap.objs.size) (.list ds) :=
  .list (IsL.new _ _) (notIn_new old) (r.move fun _ o hb e => ⟨⟨o, Heap.get?_push_of_some _ e, .refl⟩, hb⟩)
theorem Rd.newTup {W : List Addr} {s : Shared} {vs : Array Value} {ds : List V} (old : ∀ a ∈ W, ∃ o, s.heap.get? a = some o) (r : Rds W s.heap vs.toList ds) :
    Rd W (s.heap.push { cls := .type "tuple", data := .seq vs }) (.ref s.heap.objs.size) (.tup ds) :=
  .tup (IsT.new _ _) (notIn_new old) (r.move fun _ o hb e => ⟨⟨o, Heap.get?_push_of_some _ e, .refl⟩, hb⟩)
theorem Op2.addl {xs ys : List V} (h : xs.length + ys.length ≤ sizeLine) : Op2 X k (binaryOp .Add) (.list xs) (.list ys) (.list (xs ++ ys)) := by
  refine ⟨?_⟩
  rintro A W s v w R B hv hw
  refine el3_4 (hv.listI) fun a vs n y35 la na ra => ?_; obtain rfl := y35
  refine el3_4 (hw.listI) fun b ws m y36 lb nb rb => ?_; obtain rfl := y36
  refine P.add_list la lb ⟨?_, Kp.push _ _⟩ (by rw [← Array.length_toList, ← Array.length_toList, ra.length, rb.length]; exact h)
  exact Rd.newList B.old (by rw [Array.toList_append]; exact ra.append rb)
structure Tr (X : Cx) (k : Nat) (gs : Gm) (σ : Sto) (e : Expr) (b : Bool) : Prop where
  run : ∀ A env M W s, Room k A → St X A env gs M W σ s → wpAny (model X.prog X.w) A (isTrue e env (eval e env)) (fun t s' => t = b ∧ Kp X.h0 [] s s') No s
structure Truth (X : Cx) (k : Nat) (d : V) (b : Bool) : Prop where
  run : ∀ A W s v, Room k A → Base X A W s → Rd W s.heap v d → wpAny (model X.prog X.w) A (truthy v) (fun t s' => t = b ∧ Kp X.h0 [] s s') No s
theorem Truth.bool {b : Bool} : Truth X k (.bool b) b := by
  refine ⟨?_⟩
  intro A W s v R B z28; obtain rfl := Rd.boolI z28; exact wpAny_truthy_bool ⟨rfl, Kp.refl _ _⟩
theorem Truth.int {a : Int} : Truth X k (.int a) (decide (a ≠ 0)) := by
  refine ⟨?_⟩
  intro A W s v R B z29; obtain ⟨_, rfl⟩ := Rd.intI z29; exact P.truthy_int ⟨by simp [bne, decide_not]; rfl, Kp.refl _ _⟩
theorem Tr.cmp {op : CmpOp} {a b : V} {t : Bool} (hl : Ev X k gs σ l a) (hr : Ev X k gs σ r b) (h : Op2 X k (compareOp op) a b (.bool t)) (hm : behindInMarks op r = false := by with_unfolding_all rfl) :
    Tr X k gs σ (.Compare l [op] [r] pos) t := by
  refine ⟨?_⟩
  intro A env M W s R S
  refine wpAny_isTrue_Compare1 (wpAny_mono (hl.run A env M W s R S) ?_ (fun _ _ f => f)) hm
  rintro v s1 ⟨hv, k1⟩
  refine wpAny_mono (hr.run A env M W s1 R (S.keep k1)) ?_ (fun _ _ f => f)
  rintro w s2 ⟨hw, k2⟩
  refine wpAny_mono (h.run A W s2 v w R ((S.keep k1).keep k2).toBase (hv.keep0 k2) hw) ?_ (fun _ _ f => f)
  rintro u s3 ⟨hu, k3⟩
  obtain rfl := Rd.boolI hu
  exact wpAny_truthy_bool ⟨rfl, (k1.trans k2).trans k3⟩
theorem Tr.of {e : Expr} {d : V} {t : Bool} (h : Ev X k gs σ e d) (ht : Truth X k d t)
    (he : ∀ env whole, isTrue e env whole = (do let v ← whole; standAt e.pos; holding [v] (truthy v)) := by intro _ _; rfl) : Tr X k gs σ e t := by
  refine ⟨?_⟩
  intro A env M W s R S
  refine wpAny_isTrue_value (wpAny_mono (h.run A env M W s R S) ?_ (fun _ _ f => f)) (he _ _)
  rintro v s1 ⟨hv, k1⟩
  refine wpAny_mono (ht.run A W s1 v R (S.keep k1).toBase hv) ?_ (fun _ _ f => f)
  rintro t s2 ⟨rfl, k2⟩
  exact ⟨rfl, k1.trans k2⟩
theorem Tr.and {a b : Bool} {x y : Expr} (h1 : Tr X k gs σ x a) (h2 : a = true → Tr X k gs σ y b) : Tr X k gs σ (.BoolOp .And [x, y] pos) (a && b) := by
  refine ⟨?_⟩
  intro A env M W s R S
  refine wpAny_isTrue_BoolOp (wpAny_allTrue_And_cons (wpAny_mono (h1.run A env M W s R S) ?_ (fun _ _ f => f)))
  rintro t s1 ⟨rfl, k1⟩
  cases t with
  | false => exact ⟨rfl, k1⟩
  | true =>
    refine wpAny_allTrue_And_cons (wpAny_mono ((h2 rfl).run A env M W s1 R (S.keep k1)) ?_ (fun _ _ f => f))
    rintro t s2 ⟨rfl, k2⟩
    cases t with
    | false => exact ⟨rfl, k1.trans k2⟩
    | true => exact wpAny_allTrue_And_nil ⟨rfl, k1.trans k2⟩
theorem Tr.or {a b : Bool} {x y : Expr} (h1 : Tr X k gs σ x a) (h2 : a = false → Tr X k gs σ y b) : Tr X k gs σ (.BoolOp .Or [x, y] pos) (a || b) := by
  refine ⟨?_⟩
  intro A env M W s R S
  refine wpAny_isTrue_BoolOp (wpAny_allTrue_Or_cons (wpAny_mono (h1.run A env M W s R S) ?_ (fun _ _ f => f)))
  rintro t s1 ⟨rfl, k1⟩
  cases t with
  | true => exact ⟨rfl, k1⟩
  | false =>
    refine wpAny_allTrue_Or_cons (wpAny_mono ((h2 rfl).run A env M W s1 R (S.keep k1)) ?_ (fun _ _ f => f))
    rintro t s2 ⟨rfl, k2⟩
    cases t with
    | true => exact ⟨rfl, k1.trans k2⟩
    | false => exact wpAny_allTrue_Or_nil ⟨rfl, k1.trans k2⟩
theorem Ev.ite {test body orelse : Expr} {b : Bool} {d : V} (ht : Tr X k gs σ test b) (h1 : b = true → Ev X k gs σ body d) (h2 : b = false → Ev X k gs σ orelse d) : Ev X k gs σ (.IfExp test body orelse pos) d := by
  refine ⟨?_⟩
  intro A env M W s R S
  refine wpAny_IfExp (wpAny_mono (ht.run A env M W s R S) ?_ (fun _ _ f => f))
  rintro t s1 ⟨rfl, k1⟩
  cases t with
  | true => exact wpAny_mono ((h1 rfl).run A env M W s1 R (S.keep k1)) (fun v s2 h => ⟨h.1, k1.trans h.2⟩) (fun _ _ f => f)
  | false => exact wpAny_mono ((h2 rfl).run A env M W s1 R (S.keep k1)) (fun v s2 h => ⟨h.1, k1.trans h.2⟩) (fun _ _ f => f)
theorem Ev.and {a b : Bool} {x y : Expr} (h1 : Ev X k gs σ x (.bool a)) (h2 : a = true → Ev X k gs σ y (.bool b)) : Ev X k gs σ (.BoolOp .And [x, y] pos) (.bool (a && b)) := by
  refine ⟨?_⟩
  intro A env M W s R S
  refine wpAny_And2 (wpAny_mono (h1.run A env M W s R S) ?_ (fun _ _ f => f))
  rintro v s1 ⟨hv, k1⟩
  obtain rfl := Rd.boolI hv
  refine wpAny_truthy_bool ?_
  cases a with
  | false => exact ⟨.bool _, k1⟩
  | true => exact wpAny_mono ((h2 rfl).run A env M W s1 R (S.keep k1)) (fun v s2 h => ⟨h.1, k1.trans h.2⟩) (fun _ _ f => f)
theorem Op2.isBool {a b : Bool} : Op2 X k (compareOp .Is) (.bool a) (.bool b) (.bool (decide (a = b))) := by
  refine ⟨?_⟩
  intro A W s v w R B z30 z31; obtain rfl := Rd.boolI z30; obtain rfl := Rd.boolI z31
  refine wpAny_is_plain rfl ⟨?_, Kp.refl _ _⟩
  rw [show ((Value.bool a == Value.bool b) : Bool) = decide (a = b) from by cases a <;> cases b <;> rfl]
  exact .bool _
theorem Op2.isNone : Op2 X k (compareOp .Is) .none .none (.bool true) := by
  refine ⟨?_⟩
  rintro A W s v w R B ⟨⟩ ⟨⟩; exact PySem.is_none ⟨.bool _, Kp.refl _ _⟩
theorem Op2.isNoneInt {a : Int} : Op2 X k (compareOp .Is) (.int a) .none (.bool false) := by
  refine ⟨?_⟩
  intro A W s v w R B z34 z35; obtain ⟨_, rfl⟩ := Rd.intI z34; cases z35; exact PySem.is_none ⟨.bool _, Kp.refl _ _⟩
theorem Op1.neg {a : Int} : Op1 X k (unaryOp .USub) (.int a) (.int (-a)) := by
  refine ⟨?_⟩
  intro A W s v R B z36; obtain ⟨_, rfl⟩ := Rd.intI z36; exact P.neg_int ⟨.int _ _, Kp.toks _ _⟩
theorem Ev.un {op : UnaryOp} {a d : V} (hl : Ev X k gs σ l a) (h : Op1 X k (unaryOp op) a d) : Ev X k gs σ (.UnaryOp op l pos) d := by
  refine ⟨?_⟩
  intro A env M W s R S
  refine wpAny_UnaryOp (wpAny_mono (hl.run A env M W s R S) ?_ (fun _ _ f => f))
  intro v s1 y57; refine el0_2 (y57) fun hv k1 => ?_
  exact wpAny_mono (h.run A W s1 v R (S.keep k1).toBase hv) (fun v s2 h => ⟨h.1, k1.trans h.2⟩) (fun _ _ f => f)
structure Evs (X : Cx) (k : Nat) (gs : Gm) (σ : Sto) (es : List Expr) (ds : List V) : Prop where
  run : ∀ A env M W s pos, Room k A → St X A env gs M W σ s → wpAny (model X.prog X.w) A (spliced (backTo pos (starEach es env))) (fun vs s' => Rds W s'.heap vs ds ∧ Kp X.h0 [] s s') No s
theorem Evs.nil : Evs X k gs σ [] [] := ⟨fun A env M W s pos R S => spliced_nil ⟨.nil, Kp.refl _ _⟩⟩
theorem Evs.cons {e : Expr} {es : List Expr} {d : V} {ds : List V} (h : Ev X k gs σ e d) (hs : Evs X k gs σ es ds)
    (he : ∀ env, starEach (e :: es) env = (false, eval e env) :: starEach es env := by intro _; rfl) : Evs X k gs σ (e :: es) (d :: ds) := by
  refine ⟨?_⟩
  intro A env M W s pos R S
  rw [he]
  show wpAny _ A (spliced ((false, eval e env) :: backTo pos (starEach es env))) _ _ s
  refine spliced_cons (wpAny_mono (h.run A env M W s R S) ?_ (fun _ _ f => f))
  intro v s1 y58; refine el0_2 (y58) fun hv k1 => ?_
  refine wpAny_mono (hs.run A env M W s1 pos R (S.keep k1)) ?_ (fun _ _ f => f)
  intro vs s2 y59; refine el0_2 (y59) fun hvs k2 => ?_
  exact ⟨.cons (hv.keep0 k2) hvs, k1.trans k2⟩
theorem Ev.listD {es : List Expr} {ds : List V} (h : Evs X k gs σ es ds) (hz : ds.length ≤ sizeLine := by first | decide | (simp only [List.length_cons, List.length_nil]; decide)) : Ev X k gs σ (.List es pos) (.list ds) := by
  refine ⟨?_⟩
  intro A env M W s R S
  refine wpAny_List (wpAny_mono (h.run A env M W s pos R S) ?_ (fun _ _ f => f))
  intro vs s1 y60; refine el0_2 (y60) fun hv k1 => ?_
  refine ⟨by rw [hv.length]; exact hz, ?_, k1.trans (Kp.push _ _)⟩
  exact Rd.newList (S.keep k1).old hv
theorem Ev.tupD {es : List Expr} {n : Nat} {ds : List V} (h : Evs X k gs σ es ds) (hz : ds.length ≤ sizeLine := by first | decide | (simp only [List.length_cons, List.length_nil]; decide)) : Ev X k gs σ (.Tuple es n pos) (.tup ds) := by
  refine ⟨?_⟩
  intro A env M W s R S
  refine wpAny_Tuple (wpAny_mono (h.run A env M W s pos R S) ?_ (fun _ _ f => f))
  intro vs s1 y61; refine el0_2 (y61) fun hv k1 => ?_
  refine ⟨by rw [hv.length]; exact hz, ?_, k1.trans (Kp.push _ _)⟩
  exact Rd.newTup (S.keep k1).old hv
theorem Ev.itemL {value slice : Expr} {ds : List V} {i : Int} {d : V} (hv : Ev X k gs σ value (.list ds)) (hi : Ev X k gs σ slice (.int i)) (h0 : 0 ≤ i) (h1 : i < 2 ^ 63) (hd : ds[i.toNat]? = some d)
    (hs : ∀ o j, subscripted slice false o j = operate [o, j] (getItem o j) := by intro _ _; rfl) : Ev X k gs σ (.Subscript value slice pos) d := by
  refine ⟨?_⟩
  intro A env M W s R S
  refine Subscript_ (wpAny_mono (hv.run A env M W s R S) ?_ (fun _ _ f => f))
  intro v s1 y62; refine el0_2 (y62) fun hv k1 => ?_
  refine wpAny_mono (hi.run A env M W s1 R (S.keep k1)) ?_ (fun _ _ f => f)
  intro j s2 y63; refine el0_2 (y63) fun hj k2 => ?_
  refine el1_1 (Rd.intI hj) fun _ y64 => ?_; obtain rfl := y64
  refine el3_4 ((hv.keep0 k2).listI) fun a vs n y65 la na ra => ?_; obtain rfl := y65
  refine el1_2 (ra.get hd) fun x hx rx => ?_
  exact tail_any (IsL.isList la).typeIs slot_list_getitem.lookup (wpAny_getItem_list (IsL.isList la) h0 h1 (by simpa using hx) ⟨rx, k1.trans k2⟩) (hs _ _)
theorem Ev.itemT {value slice : Expr} {ds : List V} {i : Int} {d : V} (hv : Ev X k gs σ value (.tup ds)) (hi : Ev X k gs σ slice (.int i)) (h0 : 0 ≤ i) (h1 : i < 2 ^ 63) (hd : ds[i.toNat]? = some d)
    (hs : ∀ o j, subscripted slice false o j = operate [o, j] (getItem o j) := by intro _ _; rfl) : Ev X k gs σ (.Subscript value slice pos) d := by
  refine ⟨?_⟩
  intro A env M W s R S
  refine Subscript_ (wpAny_mono (hv.run A env M W s R S) ?_ (fun _ _ f => f))
  intro v s1 y66; refine el0_2 (y66) fun hv k1 => ?_
  refine wpAny_mono (hi.run A env M W s1 R (S.keep k1)) ?_ (fun _ _ f => f)
  intro j s2 y67; refine el0_2 (y67) fun hj k2 => ?_
  refine el1_1 (Rd.intI hj) fun _ y68 => ?_; obtain rfl := y68
  refine el3_4 ((hv.keep0 k2).tupI) fun a vs n y69 la na ra => ?_; obtain rfl := y69
  refine el1_2 (ra.get hd) fun x hx rx => ?_
  have hlt : i.toNat < vs.size := by
    have := (List.getElem?_eq_some_iff.mp hx).1
    simpa using this
  refine tail_any ⟨_, la, rfl⟩ F.slot_tuple_getitem.lookup (P.getItem_tuple (k := i.toNat) la (by lia) h1 ?_ (by simpa using hx) ⟨rx, k1.trans k2⟩) (hs _ _)
  unfold seqIndex?
  have h2 : ¬ i < 0 := by lia
  have h3 : (decide (0 ≤ i) && decide (i < (vs.size : Int))) = true := by
    rw [decide_eq_true h0, decide_eq_true (by lia)]; rfl
  simp only [h2, if_false, h3, if_true]
structure XOk (X : Cx) : Prop where
  names : ∃ mg mb, X.h0.Ns mainGlobals mg ∧ X.h0.Ns builtinsNs mb ∧ ∀ g v, (g, v) ∈ X.gl → mg g = some v ∨ (mg g = .none ∧ mb g = some v)
  tabs : X.tab ≠ mainGlobals ∧ X.tab ≠ builtinsNs ∧ X.tab ≠ cStatics
  lim : X.h0.NoLimit
theorem Base.ns {W : List Addr} {s : Shared} {a : Addr} {m : Str → Option Value} (B : Base X A W s) (h : X.h0.Ns a m) (ha : a ≠ X.tab) : s.heap.Ns a m :=
  let ⟨o, es, ep, e, r⟩ := h; ⟨o, es, ep, B.base _ _ ha e, r⟩
theorem Base.lim {W : List Addr} {s : Shared} (B : Base X A W s) (O : XOk X) : s.heap.NoLimit :=
  let ⟨mc, p, q⟩ := O.lim; ⟨mc, B.ns p (Ne.symm O.tabs.2.2), q⟩
theorem Ev.glob {x : Str} {v : Value} (O : XOk X) (hg : x ∈ gs.gs) (hv : (x, v) ∈ X.gl) : Ev X k gs σ (.Name x pos) (.opq v) := by
  refine ⟨?_⟩
  intro A env M W s R S
  refine el2_3 (O.names) fun mg mb h1 h2 h3 => ?_
  have hk := S.gk x hg
  refine Name_function_global S.fn hk.1 ?_ hk.2
  have n1 := S.toBase.ns h1 (Ne.symm O.tabs.1)
  have n2 := S.toBase.ns h2 (Ne.symm O.tabs.2.1)
  rcases h3 x v hv with h | ⟨h, h'⟩
  · exact loadGlobal_global (by rw [S.gl]; exact n1) h ⟨.opq _, Kp.refl _ _⟩
  · exact loadGlobal_builtin (by rw [S.gl]; exact n1) h (by rw [S.bi]; exact n2) h' ⟨.opq _, Kp.refl _ _⟩
structure OpN (X : Cx) (k : Nat) (f : Value) (ds : List V) (d : V) : Prop where
  run : ∀ A W s vs, Room k A → Base X A W s → Rds W s.heap vs ds → wpAny (model X.prog X.w) A (call f vs []) (Out X.h0 W s d) No s
inductive Callable (X : Cx) : Value → Prop
  | no {f : Value} : (∀ a, f ≠ .ref a) → Callable X f
  | fn {a : Addr} {o : Obj} {fd : FuncData} : X.h0.get? a = some o → o.data = .func fd → a ≠ X.tab → Callable X (.ref a)
theorem callWith_go {M : Model} {A : Around} {E : Value → Shared → Prop} {s : Shared} {f : Value} {first : List Value} {args : List (Bool × Sem Value)} {Q : Value → Shared → Prop} (hp : args.any (·.1) = false)
    (h : wpAny M A (evalArgs f true args []) (fun a s₁ => ((∀ a, f ≠ .ref a) ∨ ∃ a o fd, f = .ref a ∧ s₁.heap.get? a = some o ∧ o.data = .func fd) ∧ wpAny M A (call f (first ++ a.pos) a.kw) Q E s₁) E s) :
    wpAny M A (callWith pos f first args []) Q E s := by
  unfold callWith
  refine wpAny_bind (wpAny_holding (wpAny_mono h (fun x s₁ h₁ => wpAny_bind (wpAny_standAt ?_)) fun _ _ x => x))
  have tail : ∀ {t : Sem Value}, wpAny M A t Q E s₁ → wpAny M A (t >>= fun r => holding [r] point >>= fun _ => pure r) Q E s₁ :=
    fun ht => wpAny_bind (wpAny_mono ht (fun r s₂ hr => wpAny_bind (wpAny_holding (wpAny_point (wpAny_pure hr)))) fun _ _ x => x)
  rcases h₁.1 with hf | ⟨a, o, fd, rfl, ho, hd⟩
  · have hk : keeperOf f = pure .machine := by
      cases f with
      | ref a => exact absurd rfl (hf a)
      | _ => rfl
    rw [hk]
    refine wpAny_bind (wpAny_pure ?_)
    simp only [hp, List.any_nil, Bool.or_false]
    exact tail h₁.2
  · simp only [hp, List.any_nil, Bool.or_false]
    refine wpAny_bind (m := keeperOf (.ref a)) ?_
    unfold keeperOf
    refine wpAny_bind (wpAny_load ho ?_)
    rw [hd]
    refine wpAny_pure ?_
    dsimp only
    split
    · exact tail h₁.2
    · exact tail (t := callMarked _ _ _ _) (by unfold callMarked; exact wpAny_keep h₁.2)
theorem any_backTo {env : Env} : ∀ {es : List Expr} {ds : List V}, (∀ e ∈ es, ∀ e' p, e ≠ .Starred e' p) → ((backTo pos (starEach es env)).any (·.1)) = false
  | [], _, _ => rfl
  | e :: es, ds, h => by
    have he : starEach (e :: es) env = (false, eval e env) :: starEach es env := by
      cases e with
      | Starred e' p => exact absurd rfl (h _ (.head _) e' p)
      | _ => rfl
    rw [he]
    show (false || (backTo pos (starEach es env)).any (·.1)) = false
    rw [Bool.false_or]
    exact any_backTo (ds := []) fun x hx => h x (.tail _ hx)
theorem evalArgs_all {M : Model} {A : Around} {E : Value → Shared → Prop} {s : Shared} {f : Value} {args : List (Bool × Sem Value)} {Q : Args → Shared → Prop} (hp : args.any (·.1) = false)
    (h : wpAny M A (spliced args) (fun vs s' => Q ⟨vs, []⟩ s') E s) : wpAny M A (evalArgs f true args []) Q E s := by
  cases args with
  | nil =>
    unfold evalArgs
    show wpAny M A (spliced [] >>= _) Q E s
    refine wpAny_bind (wpAny_mono h (fun vs s' h' => ?_) fun _ _ x => x)
    refine wpAny_bind (wpAny_pure ?_)
    refine wpAny_holding ?_
    exact wpAny_bind (wpAny_pure (wpAny_bind (wpAny_pure (wpAny_pure h'))))
  | cons x r =>
    obtain ⟨b, x⟩ := x
    cases b with
    | true => simp at hp
    | false => exact evalArgs_plain h
noncomputable def Plain (es : List Expr) : Bool := es.all fun e => match e with | .Starred _ _ => false | _ => true
theorem Plain.no {es : List Expr} (h : Plain es = true) : ∀ e ∈ es, ∀ e' p, e ≠ .Starred e' p := by
  intro e he e' p q
  have := List.all_eq_true.mp h e he
  subst q
  simp at this
theorem Ev.call {func : Expr} {es : List Expr} {ds : List V} {f : Value} {d : V} (hf : Ev X k gs σ func (.opq f)) (ha : Evs X k gs σ es ds) (hc : Callable X f) (h : OpN X k f ds d)
    (he : ∀ env, eval (.Call func es [] pos) env = (do callWith pos (← eval func env) [] (backTo pos (starEach es env)) (backToKw pos (keywordEach [] env))) := by intro _; rfl)
    (hp : Plain es = true := by rfl) : Ev X k gs σ (.Call func es [] pos) d := by
  refine ⟨?_⟩
  intro A env M W s R S
  rw [he]
  refine wpAny_bind (wpAny_mono (hf.run A env M W s R S) ?_ (fun _ _ f => f))
  rintro v s1 ⟨hv, k1⟩
  cases hv
  have np := any_backTo (pos := pos) (env := env) (ds := ds) (Plain.no hp)
  refine callWith_go np (evalArgs_all np (wpAny_mono (ha.run A env M W s1 pos R (S.keep k1)) ?_ (fun _ _ f => f)))
  rintro vs s2 ⟨hvs, k2⟩
  have S2 := (S.keep k1).keep k2
  refine ⟨?_, ?_⟩
  · cases hc with
    | no h => exact .inl h
    | fn h1 h2 h3 => exact .inr ⟨_, _, _, rfl, S2.base _ _ h3 h1, h2⟩
  · exact wpAny_mono (h.run A W s2 vs R S2.toBase hvs) (fun v s3 h => ⟨h.1, (k1.trans k2).trans h.2⟩) (fun _ _ f => f)
theorem OpN.lenL {ds : List V} (hz : ds.length < 2 ^ 63) : OpN X k (.builtin "len") [.list ds] (.int ds.length) := by
  refine ⟨?_⟩
  rintro A W s vs R B hv
  refine el1_2 (Rds.i1 hv) fun _ y72 h => ?_; obtain rfl := y72
  refine el3_4 (h.listI) fun a vs n y73 la na ra => ?_; obtain rfl := y73
  have e : vs.size = ds.length := by rw [← ra.length]; simp
  refine call_len_list (IsL.isList la) (by rw [e]; lia) ?_
  rw [e]
  exact ⟨.int _ _, Kp.toks _ _⟩
theorem OpN.lenS {x : Str} (hz : x.length < 2 ^ 63) : OpN X k (.builtin "len") [.str x] (.int x.length) := by
  refine ⟨?_⟩
  rintro A W s vs R B hv
  refine el1_2 (Rds.i1 hv) fun _ y74 h => ?_; obtain rfl := y74
  refine el1_1 (Rd.strI h) fun _ y75 => ?_; obtain rfl := y75
  exact P.len_str (by lia) ⟨.int _ _, Kp.toks _ _⟩
end Mine
end
noncomputable section
namespace Mine
open PySem PySem.W PySem.Calls PyProof.Rows
variable {X : Cx} {A : Around} {k : Nat} {gs : Gm} {σ σ' : Sto} {l r : Expr} {pos : Pos}
inductive Upd (x : Str) (d : V) : Sto → Sto → Prop
  | head {o : Option V} {r : Sto} : Upd x d ((x, o) :: r) ((x, some d) :: r)
  | tail {p : Str × Option V} {r r' : Sto} : Upd x d r r' → Upd x d (p :: r) (p :: r')
theorem Upd.fst {x : Str} {d : V} {a b : Sto} (h : Upd x d a b) : b.map (·.1) = a.map (·.1) := by
  induction h with
  | head => rfl
  | tail _ i => exact congrArg (List.cons _) i
theorem Upd.has {x : Str} {d : V} {a b : Sto} (h : Upd x d a b) : ∃ o, (x, o) ∈ a := by
  induction h with
  | head => exact ⟨_, .head _⟩
  | tail _ i => exact i.imp fun _ q => .tail _ q
theorem fst_in {y : Str} {o : Option V} {a : Sto} (q : (y, o) ∈ a) : y ∈ a.map (·.1) := List.mem_map_of_mem (f := (·.1)) q
theorem in_fst {y : Str} {a : Sto} (q : y ∈ a.map (·.1)) : ∃ o, (y, o) ∈ a := (List.mem_map.mp q).elim fun p h => ⟨p.2, h.2 ▸ h.1⟩
theorem Upd.names {x : Str} {d : V} {a b : Sto} (h : Upd x d a b) (y : Str) (o : Option V) (q : (y, o) ∈ b) : ∃ o', (y, o') ∈ a := in_fst (h.fst ▸ fst_in q)
theorem Upd.get {x : Str} {d : V} {a b : Sto} (q : Upd x d a b) (n : (a.map (·.1)).Nodup) (y : Str) (e : V) (h : (y, some e) ∈ b) : (y = x ∧ e = d) ∨ (y ≠ x ∧ (y, some e) ∈ a) := by
  induction q with
  | head =>
    have n := List.nodup_cons.mp n
    refine (List.mem_cons.mp h).elim (fun q => .inl ⟨congrArg Prod.fst q, Option.some.inj (congrArg Prod.snd q)⟩) fun h => .inr ⟨fun z => n.1 (z ▸ fst_in h), .tail _ h⟩
  | tail q i =>
    have n := List.nodup_cons.mp n
    refine (List.mem_cons.mp h).elim (fun z => q.has.elim fun o ho => .inr ⟨fun w => n.1 (z ▸ w ▸ fst_in ho), z ▸ .head _⟩) fun h => (i n.2 h).imp id fun w => ⟨w.1, .tail _ w.2⟩
inductive Le : Sto → Sto → Prop
  | nil : Le [] []
  | same {p : Str × Option V} {a b : Sto} : Le a b → Le (p :: a) (p :: b)
  | drop {x : Str} {o : Option V} {a b : Sto} : Le a b → Le ((x, o) :: a) ((x, none) :: b)
theorem Le.refl : ∀ a : Sto, Le a a
  | [] => .nil
  | _ :: a => .same (Le.refl a)
theorem Le.fst {a b : Sto} (h : Le a b) : b.map (·.1) = a.map (·.1) := by
  induction h with
  | nil => rfl
  | same _ i => exact congrArg (List.cons _) i
  | drop _ i => exact congrArg (List.cons _) i
theorem Le.get {a b : Sto} (h : Le a b) (y : Str) (e : V) (q : (y, some e) ∈ b) : (y, some e) ∈ a := by
  induction h with
  | nil => exact q
  | same _ i => exact (List.mem_cons.mp q).elim (fun z => z ▸ .head _) fun q => .tail _ (i q)
  | drop _ i => exact (List.mem_cons.mp q).elim (fun z => noS (congrArg Prod.snd z)) fun q => .tail _ (i q)
theorem Le.names {a b : Sto} (h : Le a b) (y : Str) (o : Option V) (q : (y, o) ∈ b) : ∃ o', (y, o') ∈ a := in_fst (h.fst ▸ fst_in q)
section
variable {env : Env} {M W : List Addr} {s : Shared}
theorem St.weak (S : St X A env gs M W σ s) (h : Le σ σ') : St X A env gs M W σ' s :=
  ⟨S.toBase, S.toEnvK, S.sub, S.new, S.ns, S.locM, fun x o q => let ⟨o', q'⟩ := h.names x o q; S.loc x o' q', h.fst ▸ S.nodup, fun x d q => S.vars x d (h.get x d q), S.free, S.cells, S.apart, S.cs, fun x o y d h1 h2 => let ⟨o', q⟩ := h.names x o h1; S.dis x o' y d q h2⟩
theorem St.storeZ {x : Str} {d : V} {v : Value} {A : Around} {E : Value → Shared → Prop} (S : St X A env gs M W σ s) (hv : VarR X M W s.heap v d) (hu : Upd x d σ σ') :
    wpAny (model X.prog X.w) A (storeName env x v) (fun _ s' => (St X A env gs M W σ' s' ∧ Kp X.h0 M s s') ∧ s'.heap.objs.size = s.heap.objs.size) E s := by
  refine el1_1 (hu.has) fun o ho => ?_
  refine el1_1 (S.ns) fun m hm => ?_
  have L := (S.loc x o ho).1
  have key : ∀ (a : Addr) (h' : Heap) (tk : Nat), a ∈ M → Heap.SameBut a s.heap h' → ((∃ o, h'.get? a = some o) ∧ (NF A a ∨ ∃ m, h'.Ns a m)) → (∃ m, h'.Ns env.locals m) → (∀ vs n, ¬ IsL s.heap a vs n) →
      (∀ y w, y ≠ x → Var env s.heap y w → Var env h' y w) → (∀ y w, y ≠ x → FVar env s.heap y w → FVar env h' y w) → Var env h' x v → (∀ n c, env.cells.lookup n = some c → ∃ v, h'.IsCell c v) →
      (St X A env gs M W σ' { s with heap := h', toks := tk } ∧ Kp X.h0 M s { s with heap := h', toks := tk }) ∧ h'.objs.size = s.heap.objs.size := by
    intro a h' tk ha hs he hn hnl hold hfr hnew hc
    have K1 : Kp X.h0 [a] s { s with heap := h', toks := tk } := Kp.of fun b o hb e => (hs.2 b (by simpa using hb)).trans e
    have K : Kp X.h0 M s { s with heap := h', toks := tk } := K1.mono fun b hb => by rw [List.mem_singleton.mp hb]; exact ha
    refine ⟨⟨⟨S.toBase.keep K1 fun b hb => ?_, S.toEnvK, S.sub, S.new, hn, S.locM, fun y q hq => ?_, hu.fst ▸ S.nodup, fun y e hy => ?_, fun y e hy => ?_, fun n c h => ⟨hc n c h, (S.cells n c h).2⟩, S.apart, S.cs, fun x o y d h1 h2 => let ⟨o', q⟩ := hu.names x o h1; S.dis x o' y d q h2⟩, K⟩, hs.1⟩
    · rw [List.mem_singleton.mp hb]; exact ⟨S.new _ ha, he⟩
    · refine el1_1 (hu.names y q hq) fun o' h' => ?_; exact S.loc y o' h'
    · have ka : ∀ b ∈ [a], b ∈ W := fun b hb => by rw [List.mem_singleton.mp hb]; exact S.sub _ ha
      rcases hu.get S.nodup y e hy with ⟨rfl, rfl⟩ | ⟨hne, hm⟩
      · exact ⟨v, hnew, hv.keepH K1.toKh ka fun b hb _ vs n q => hnl vs n (List.mem_singleton.mp hb ▸ q)⟩
      · refine el1_2 (S.vars y e hm) fun w hw hr => ?_
        exact ⟨w, hold y w hne hw, hr.keepH K1.toKh ka fun b hb _ vs n q => hnl vs n (List.mem_singleton.mp hb ▸ q)⟩
    · have ka : ∀ b ∈ [a], b ∈ W := fun b hb => by rw [List.mem_singleton.mp hb]; exact S.sub _ ha
      refine el0_2 (S.free y e hy) fun y1 h1 => ?_; refine el1_2 (y1) fun w hw hr => ?_
      exact ⟨⟨w, hfr y w (S.dis x o y e ho hy) hw, hr.keep K1 ka⟩, h1⟩
  have hp : (env.scope.kind == .class || (env.scope.kind == .module && env.locals != env.globals)) = false := by rw [S.fn]; rfl
  have viaCell : ∀ c, env.kindOf x = some .cell → env.cells.lookup x = some c → c ∈ M → wpAny (model X.prog X.w) A (storeName env x v) (fun _ s' => (St X A env gs M W σ' s' ∧ Kp X.h0 M s s') ∧ s'.heap.objs.size = s.heap.objs.size) E s := by
    intro c hk hl hcM
    refine el0_3 (S.cells x c hl) fun y2 hcW hcL => ?_; refine el1_1 (y2) fun v0 hv0 => ?_
    have nfc : NF A c := by
      refine el1_2 (S.frs) fun l hl' hf => ?_
      intro l' e1 e he q
      rw [hl'] at e1; obtain rfl := Option.some.inj e1
      obtain ⟨_, L, hL, _, m, o, es, n, e', d, _⟩ := hf e he
      rw [q] at hL; obtain rfl := Option.some.inj hL
      refine el1_2 (hv0) fun o2 e2 d2 => ?_
      rw [e'] at e2; obtain rfl := Option.some.inj e2
      rw [d] at d2; cases d2
    refine wpAny_storeName_cell S.fn hk hl hv0 fun h' hi hs => ?_
    refine key c h' s.toks hcM hs ⟨let ⟨o, e, _⟩ := hi; ⟨o, e⟩, .inl nfc⟩ ⟨m, hm.sameBut hs (Ne.symm hcL)⟩ (fun vs n q => by refine el1_2 (hv0) fun o2 e2 d2 => ?_; rw [show s.heap.get? c = _ from q] at e2; obtain rfl := Option.some.inj e2; cases d2) (fun y w hne hw => ?_) (fun y w hne hw => ?_) (.inr ⟨hk, c, hl, hi⟩) (fun n c' h => ?_)
    · rcases hw with ⟨a, m', b, e⟩ | ⟨a, c', b, e⟩
      · exact .inl ⟨a, m', b.sameBut hs (Ne.symm hcL), e⟩
      · exact .inr ⟨a, c', b, e.sameBut hs fun z => hne (S.apart _ _ _ b (z ▸ hl))⟩
    · refine el0_2 (hw) fun a y3 => ?_; refine el1_2 (y3) fun c' b e => ?_
      exact ⟨a, c', b, e.sameBut hs fun z => hne (S.apart _ _ _ b (z ▸ hl))⟩
    · by_cases z : c' = c
      · subst z; exact ⟨_, hi⟩
      · refine el0_2 (S.cells n c' h) fun y4 _ => ?_; refine el1_1 (y4) fun v1 h1 => ?_
        exact ⟨v1, h1.sameBut hs z⟩
  cases L with
  | loc hl =>
    refine wpAny_storeName_local hl hm (fun h' hn hs => ?_) hp
    refine key env.locals h' (s.toks + 1) S.locM hs ⟨let ⟨o, _, _, e, _⟩ := hn; ⟨o, e⟩, .inr ⟨_, hn⟩⟩ ⟨_, hn⟩ (fun vs n q => by refine el3_3 (hm) fun o2 _ _ e2 d2 _ => ?_; rw [show s.heap.get? env.locals = _ from q] at e2; obtain rfl := Option.some.inj e2; cases d2) (fun y w hne hw => ?_) (fun y w hne hw => ?_) (.inl ⟨hl, _, hn, by simp⟩) (fun n c h => ?_)
    · rcases hw with ⟨a, m', b, e⟩ | ⟨a, c, b, e⟩
      · refine .inl ⟨a, _, hn, ?_⟩
        refine el3_4 (hm) fun o1 es1 ep1 g1 d1 _ f1 => ?_
        refine el3_4 (b) fun o2 es2 ep2 g2 d2 _ f2 => ?_
        rw [g1] at g2; obtain rfl := Option.some.inj g2
        rw [d1] at d2; cases d2
        show (if y = x then some v else m y) = some w
        rw [if_neg hne, ← f1 y, f2 y, e]
      · exact .inr ⟨a, c, b, e.sameBut hs (S.cells _ _ b).2.2⟩
    · refine el0_2 (hw) fun a y5 => ?_; refine el1_2 (y5) fun c b e => ?_
      exact ⟨a, c, b, e.sameBut hs (S.cells _ _ b).2.2⟩
    · refine el0_3 (S.cells n c h) fun y6 _ h2 => ?_; refine el1_1 (y6) fun v0 h0 => ?_
      exact ⟨v0, h0.sameBut hs h2⟩
  | cell c hk hl hcM => exact viaCell c hk hl hcM
theorem St.storeV {x : Str} {d : V} {v : Value} {A : Around} {E : Value → Shared → Prop} (S : St X A env gs M W σ s) (hv : VarR X M W s.heap v d) (hu : Upd x d σ σ') :
    wpAny (model X.prog X.w) A (storeName env x v) (fun _ s' => St X A env gs M W σ' s' ∧ Kp X.h0 M s s') E s := wpAny_mono (S.storeZ hv hu) (fun _ _ h => h.1) (fun _ _ h => h)
theorem St.store {x : Str} {d : V} {v : Value} {A : Around} {E : Value → Shared → Prop} (S : St X A env gs M W σ s) (hv : Rd W s.heap v d) (hu : Upd x d σ σ') :
    wpAny (model X.prog X.w) A (storeName env x v) (fun _ s' => St X A env gs M W σ' s' ∧ Kp X.h0 M s s') E s := S.storeV (.data hv) hu
end
structure As (X : Cx) (k : Nat) (gs : Gm) (t : Expr) (d : V) (σ σ' : Sto) : Prop where
  run : ∀ A env M W s v, Room k A → St X A env gs M W σ s → Rd W s.heap v d → wpAny (model X.prog X.w) A (assign t env v) (fun _ s' => St X A env gs M W σ' s' ∧ Kp X.h0 M s s') No s
theorem As.name {x : Str} {d : V} (h : Upd x d σ σ') : As X k gs (.Name x pos) d σ σ' :=
  ⟨fun A env M W s v R S hv => wpAny_assign_Name (S.store hv h)⟩
theorem assign2 {t1 t2 : Expr} {d1 d2 : V} {σ1 σ2 : Sto} (h1 : As X k gs t1 d1 σ σ1) (h2 : As X k gs t2 d2 σ1 σ2) {A : Around} {env : Env} {M W : List Addr} {s : Shared} {vs : List Value} (R : Room k A) (S : St X A env gs M W σ s)
    (hv : Rds W s.heap vs [d1, d2]) : wpAny (model X.prog X.w) A (assignInOrder [assign t1 env, assign t2 env] vs) (fun _ s' => St X A env gs M W σ2 s' ∧ Kp X.h0 M s s') No s := by
  refine el2_3 (Rds.i2 hv) fun _ _ y7 a b => ?_; obtain rfl := y7
  refine wpAny_assignInOrder_more (wpAny_mono (h1.run A env M W s _ R S a) ?_ (fun _ _ f => f))
  intro _ s1 y8; refine el0_2 (y8) fun S1 k1 => ?_
  refine wpAny_assignInOrder_more (wpAny_mono (h2.run A env M W s1 _ R S1 (b.keep k1 S.sub)) ?_ (fun _ _ f => f))
  intro _ s2 y9; refine el0_2 (y9) fun S2 k2 => ?_
  exact wpAny_assignInOrder_none ⟨S2, k1.trans k2⟩
theorem Kp.ext {M : List Addr} {s : Shared} {h' : Heap} (h : Heap.ExtBut s.heap.objs.size s.heap h') : Kp X.h0 M s { s with heap := h' } :=
  Kp.of fun b o _ e => h b o (Nat.ne_of_lt (Heap.lt_size e)) e
theorem As.tup {t1 t2 : Expr} {d1 d2 : V} {σ1 σ2 : Sto} {n : Nat} (h1 : As X k gs t1 d1 σ σ1) (h2 : As X k gs t2 d2 σ1 σ2)
    (he : ∀ env, assignEach [t1, t2] env = [(false, assign t1 env), (false, assign t2 env)] := by intro _; rfl) : As X k gs (.Tuple [t1, t2] n pos) (.tup [d1, d2]) σ σ2 := by
  refine ⟨?_⟩
  intro A env M W s v R S hv
  refine el3_4 (hv.tupI) fun a vs m y10 la na ra => ?_; obtain rfl := y10
  have hz : vs.size = 2 := by have := ra.length; simpa using this
  refine wpAny_assign_Tuple R.handled ⟨_, la, rfl, _, rfl⟩ (by rw [he, hz]; rfl) (by rw [he]; rfl) fun h' hx => ?_
  rw [he]
  have K : Kp X.h0 [] s { s with heap := h' } := Kp.ext hx
  exact wpAny_mono (assign2 h1 h2 R (S.keep K) (ra.keep0 K)) (fun _ s' q => ⟨q.1, K.nil.trans q.2⟩) (fun _ _ f => f)
theorem As.tupL {t1 t2 : Expr} {d1 d2 : V} {σ1 σ2 : Sto} {n : Nat} (h1 : As X k gs t1 d1 σ σ1) (h2 : As X k gs t2 d2 σ1 σ2)
    (he : ∀ env, assignEach [t1, t2] env = [(false, assign t1 env), (false, assign t2 env)] := by intro _; rfl) : As X k gs (.Tuple [t1, t2] n pos) (.list [d1, d2]) σ σ2 := by
  refine ⟨?_⟩
  intro A env M W s v R S hv
  refine el3_4 (hv.listI) fun a vs m y11 la na ra => ?_; obtain rfl := y11
  have hz : vs.size = 2 := by have := ra.length; simpa using this
  rw [arm_assign_Tuple]
  refine wpAny_bind (wpAny_standAt ?_)
  unfold unpack
  rw [he]
  show wpAny _ A (holding [.ref a] (unpackItems (.ref a) 2 none) >>= _) _ _ s
  rw [← hz]
  refine wpAny_bind (wpAny_holding (kun_itemsOf R.handled (IsL.isList la) fun h' hx => ?_))
  have K : Kp X.h0 [] s { s with heap := h' } := Kp.ext hx
  exact wpAny_mono (assign2 h1 h2 R (S.keep K) (ra.keep0 K)) (fun _ s' q => ⟨q.1, K.nil.trans q.2⟩) (fun _ _ f => f)
inductive Res where
  | next (σ : Sto)
  | ret (d : V)
  | brk (σ : Sto)
  | cont (σ : Sto)
inductive RetR (M W : List Addr) (h : Heap) : Value → V → Prop
  | data {v : Value} {d : V} : Rd W h v d → RetR M W h v d
  | own {D : Addr} {ds : List V} {vs : Array Value} {n : Nat} : IsL h D vs n → D ∈ M → Rds W h vs.toList ds → RetR M W h (.ref D) (.list ds)
noncomputable def Hit (X : Cx) (A : Around) (env : Env) (gs : Gm) (M W : List Addr) (s' : Shared) : Res → Flow → Prop
  | .next σ, f => f = .next ∧ St X A env gs M W σ s'
  | .ret d, f => ∃ v, f = .ret v ∧ RetR M W s'.heap v d
  | .brk σ, f => f = .brk ∧ St X A env gs M W σ s'
  | .cont σ, f => f = .cont ∧ St X A env gs M W σ s'
noncomputable abbrev Fin' (X : Cx) (A : Around) (env : Env) (gs : Gm) (M W : List Addr) (s : Shared) (Q : Res → Prop) : Flow → Shared → Prop := fun f s' => Kp X.h0 M s s' ∧ ∃ r, Q r ∧ Hit X A env gs M W s' r f
structure Own (A : Around) (env : Env) : Prop where
  top : ∃ outer, A.frames = some (env :: outer)
  fr : ∃ L, env.frame = some L
structure Es (X : Cx) (k : Nat) (gs : Gm) (σ : Sto) (st : Stmt) (Q : Res → Prop) : Prop where
  run : ∀ A env M W s, Room k A → Own A env → St X A env gs M W σ s → wpAny (model X.prog X.w) A (exec st env) (Fin' X A env gs M W s Q) No s
structure Ex (X : Cx) (k : Nat) (gs : Gm) (σ : Sto) (st : List Stmt) (Q : Res → Prop) : Prop where
  run : ∀ A env M W s, Room k A → Own A env → St X A env gs M W σ s → wpAny (model X.prog X.w) A (execs st env) (Fin' X A env gs M W s Q) No s
noncomputable def Then (X : Cx) (k : Nat) (gs : Gm) (rest : List Stmt) (Q : Res → Prop) : Res → Prop
  | .next σ => Ex X k gs σ rest Q
  | r => Q r
theorem Ex.mono {st : List Stmt} {Q Q' : Res → Prop} (h : Ex X k gs σ st Q) (hq : ∀ r, Q r → Q' r) : Ex X k gs σ st Q' :=
  ⟨fun A env M W s R O S => wpAny_mono (h.run A env M W s R O S) (fun _ _ ⟨a, r, b, c⟩ => ⟨a, r, hq r b, c⟩) (fun _ _ f => f)⟩
theorem Ex.nil {Q : Res → Prop} (h : Q (.next σ)) : Ex X k gs σ [] Q := ⟨fun A env M W s R O S => wpAny_execs_nil ⟨Kp.refl _ _, _, h, rfl, S⟩⟩
theorem Ex.cons {st : Stmt} {rest : List Stmt} {Q : Res → Prop} (h : Es X k gs σ st (Then X k gs rest Q)) : Ex X k gs σ (st :: rest) Q := by
  refine ⟨?_⟩
  intro A env M W s R O S
  refine wpAny_execs_cons (wpAny_mono (h.run A env M W s R O S) ?_ (fun _ _ f => f))
  rintro f s1 ⟨k1, r, hq, hh⟩
  cases r with
  | next σ1 =>
    obtain ⟨rfl, S1⟩ := hh
    exact wpAny_mono (Ex.run hq A env M W s1 R O S1) (fun _ _ ⟨a, b⟩ => ⟨k1.trans a, b⟩) (fun _ _ f => f)
  | ret d =>
    obtain ⟨v, rfl, hv⟩ := hh
    exact ⟨k1, .ret d, hq, v, rfl, hv⟩
  | brk σ1 =>
    obtain ⟨rfl, S1⟩ := hh
    exact ⟨k1, .brk σ1, hq, rfl, S1⟩
  | cont σ1 =>
    obtain ⟨rfl, S1⟩ := hh
    exact ⟨k1, .cont σ1, hq, rfl, S1⟩
theorem Es.asg {x : Str} {p : Pos} {value : Expr} {d : V} {Q : Res → Prop} (hv : Ev X k gs σ value d) (hu : Upd x d σ σ') (hq : Q (.next σ'))
    (hs : ∀ env, swapsWith value (some (.Name x p)) pos.line env = pure false := by intro _; rfl) : Es X k gs σ (.Assign [.Name x p] value pos) Q := by
  refine ⟨?_⟩
  intro A env M W s R O S
  refine wpAny_Assign_Name (wpAny_mono (hv.run A env M W s R S) ?_ (fun _ _ f => f)) (hs env)
  rintro v s1 ⟨hr, k1⟩
  refine wpAny_mono ((S.keep k1).store hr hu) ?_ (fun _ _ f => f)
  rintro _ s2 ⟨S2, k2⟩
  exact ⟨k1.nil.trans k2, _, hq, rfl, S2⟩
theorem Es.asgT {t : Expr} {value : Expr} {d : V} {Q : Res → Prop} (hv : Ev X k gs σ value d) (ha : As X k gs t d σ σ') (hq : Q (.next σ'))
    (hs : ∀ env, swapsWithSole [t] value pos.line env = pure false := by intro _; rfl) (hw : ∀ env, swappedStores [t] value env = pure none := by intro _; rfl) (he : ∀ env, assignEach [t] env = [(false, assign t env)] := by intro _; rfl) :
    Es X k gs σ (.Assign [t] value pos) Q := by
  refine ⟨?_⟩
  intro A env M W s R O S
  refine wpAny_Assign_stores (wpAny_mono (hv.run A env M W s R S) ?_ (fun _ _ f => f)) (hs env) (hw env)
  intro v s1 y20; refine el0_2 (y20) fun hr k1 => ?_
  rw [he]
  refine wpAny_mono (ha.run A env M W s1 v R (S.keep k1) hr) ?_ (fun _ _ f => f)
  intro _ s2 y21; refine el0_2 (y21) fun S2 k2 => ?_
  exact ⟨k1.nil.trans k2, _, hq, rfl, S2⟩
theorem Es.asg2 {t1 t2 : Expr} {value : Expr} {d : V} {σ1 σ2 : Sto} {Q : Res → Prop} (hv : Ev X k gs σ value d) (h1 : As X k gs t1 d σ σ1) (h2 : As X k gs t2 d σ1 σ2) (hq : Q (.next σ2))
    (he : ∀ env, (assignEach [t1, t2] env).map (·.2) = [assign t1 env, assign t2 env] := by intro _; rfl) (hw : ∀ env, swappedStores [t1, t2] value env = pure none := by intro _; rfl) :
    Es X k gs σ (.Assign [t1, t2] value pos) Q := by
  refine ⟨?_⟩
  intro A env M W s R O S
  refine wpAny_Assign_two (wpAny_mono (hv.run A env M W s R S) ?_ (fun _ _ f => f)) (he env) (hw env)
  intro v s1 y22; refine el0_2 (y22) fun hr k1 => ?_
  refine wpAny_mono (h1.run A env M W s1 v R (S.keep k1) hr) ?_ (fun _ _ f => f)
  intro _ s2 y23; refine el0_2 (y23) fun S2 k2 => ?_
  refine wpAny_mono (h2.run A env M W s2 v R S2 (hr.keep k2 S.sub)) ?_ (fun _ _ f => f)
  intro _ s3 y24; refine el0_2 (y24) fun S3 k3 => ?_
  exact ⟨(k1.nil.trans k2).trans k3, _, hq, rfl, S3⟩
theorem Es.asg3 {t1 t2 t3 : Expr} {value : Expr} {d : V} {σ1 σ2 σ3 : Sto} {Q : Res → Prop} (hv : Ev X k gs σ value d) (h1 : As X k gs t1 d σ σ1) (h2 : As X k gs t2 d σ1 σ2) (h3 : As X k gs t3 d σ2 σ3) (hq : Q (.next σ3))
    (he : ∀ env, (assignEach [t1, t2, t3] env).map (·.2) = [assign t1 env, assign t2 env, assign t3 env] := by intro _; rfl) (hw : ∀ env, swappedStores [t1, t2, t3] value env = pure none := by intro _; rfl) :
    Es X k gs σ (.Assign [t1, t2, t3] value pos) Q := by
  refine ⟨?_⟩
  intro A env M W s R O S
  refine wpAny_Assign_three (wpAny_mono (hv.run A env M W s R S) ?_ (fun _ _ f => f)) (he env) (hw env)
  intro v s1 y25; refine el0_2 (y25) fun hr k1 => ?_
  refine wpAny_mono (h1.run A env M W s1 v R (S.keep k1) hr) ?_ (fun _ _ f => f)
  intro _ s2 y26; refine el0_2 (y26) fun S2 k2 => ?_
  refine wpAny_mono (h2.run A env M W s2 v R S2 (hr.keep k2 S.sub)) ?_ (fun _ _ f => f)
  intro _ s3 y27; refine el0_2 (y27) fun S3 k3 => ?_
  refine wpAny_mono (h3.run A env M W s3 v R S3 ((hr.keep k2 S.sub).keep k3 S.sub)) ?_ (fun _ _ f => f)
  intro _ s4 y28; refine el0_2 (y28) fun S4 k4 => ?_
  exact ⟨((k1.nil.trans k2).trans k3).trans k4, _, hq, rfl, S4⟩
theorem Es.aug {x : Str} {p : Pos} {op : Operator} {value : Expr} {a b d : V} {Q : Res → Prop} (ha : (x, some a) ∈ σ) (hv : Ev X k gs σ value b) (ho : Op2 X k (inplaceOp op) a b d) (hu : Upd x d σ σ') (hq : Q (.next σ')) (hd : a.isOwn = false := by rfl) : Es X k gs σ (.AugAssign (.Name x p) op value pos) Q := by
  refine ⟨?_⟩
  intro A env M W s R O S
  refine wpAny_AugAssign_Name (S.load ha hd fun v hr => ?_)
  have k1 := Kp.refl (B := X.h0) [] s
  refine wpAny_mono (hv.run A env M W s R S) ?_ (fun _ _ f => f)
  intro w s2 y29; refine el0_2 (y29) fun hw k2 => ?_
  refine wpAny_mono (ho.run A W s2 v w R (S.keep k2).toBase (hr.keep0 k2) hw) ?_ (fun _ _ f => f)
  intro u s3 y30; refine el0_2 (y30) fun hu' k3 => ?_
  have K := (k1.trans k2).trans k3
  refine wpAny_mono ((S.keep K).store hu' hu) ?_ (fun _ _ f => f)
  intro _ s4 y31; refine el0_2 (y31) fun S4 k4 => ?_
  exact ⟨K.nil.trans k4, _, hq, rfl, S4⟩
theorem Es.ret {e : Expr} {d : V} {Q : Res → Prop} (h : Ev X k gs σ e d) (hq : Q (.ret d)) : Es X k gs σ (.Return (some e) pos) Q := by
  refine ⟨?_⟩
  intro A env M W s R O S
  refine wpAny_Return_some (wpAny_mono (h.run A env M W s R S) ?_ (fun _ _ f => f))
  intro v s1 y32; refine el0_2 (y32) fun hr k1 => ?_
  exact ⟨k1.nil, _, hq, v, rfl, .data hr⟩
theorem Es.brk {Q : Res → Prop} (hq : Q (.brk σ)) : Es X k gs σ (.Break pos) Q := ⟨fun A env M W s R O S => wpAny_Break ⟨Kp.refl _ _, _, hq, rfl, S⟩⟩
theorem Es.ite {test : Expr} {body orelse : List Stmt} {b : Bool} {Q : Res → Prop} (ht : Tr X k gs σ test b) (h1 : b = true → Ex X k gs σ body Q) (h2 : b = false → Ex X k gs σ orelse Q) : Es X k gs σ (.If test body orelse pos) Q := by
  refine ⟨?_⟩
  intro A env M W s R O S
  refine wpAny_If (wpAny_mono (ht.run A env M W s R S) ?_ (fun _ _ f => f))
  rintro t s1 ⟨rfl, k1⟩
  cases t with
  | true => exact wpAny_mono ((h1 rfl).run A env M W s1 R O (S.keep k1)) (fun v s2 h => ⟨k1.nil.trans h.1, h.2⟩) (fun _ _ f => f)
  | false => exact wpAny_mono ((h2 rfl).run A env M W s1 R O (S.keep k1)) (fun v s2 h => ⟨k1.nil.trans h.1, h.2⟩) (fun _ _ f => f)
theorem Es.while {test : Expr} {body : List Stmt} {Q : Res → Prop} (I : Nat → Sto → Prop) (n : Nat) (h0 : ∃ σ', Le σ σ' ∧ I n σ')
    (step : ∀ n σ, I n σ → ∃ b, Tr X k gs σ test b ∧ (b = true → Ex X k gs σ body fun r => match r with
      | .next σ1 | .cont σ1 => ∃ σ2 m, Le σ1 σ2 ∧ m < n ∧ I m σ2
      | .brk σ1 => Q (.next σ1)
      | .ret d => Q (.ret d)) ∧ (b = false → Q (.next σ))) : Es X k gs σ (.While test body [] pos) Q := by
  refine ⟨?_⟩
  intro A env M W s R O S
  refine wpAny_While ?_
  obtain ⟨σ', hl, hi⟩ := h0
  refine codeAny_whileLoop (fun n s1 => Kp X.h0 M s s1 ∧ ∃ σ, I n σ ∧ St X A env gs M W σ s1) ?_ n ⟨Kp.refl _ _, σ', hi, S.weak hl⟩
  rintro n s1 ⟨k1, σ1, hi, S1⟩
  refine el1_3 (step n σ1 hi) fun b ht h1 h2 => ?_
  refine wpAny_mono (ht.run A env M W s1 R S1) ?_ (fun _ _ f => f.elim)
  intro t s2 y35; refine el0_2 (y35) fun y36 k2 => ?_; obtain rfl := y36
  cases t with
  | false =>
    exact wpAny_execs_nil ⟨k1.trans k2.nil, _, h2 rfl, rfl, S1.keep k2⟩
  | true =>
    refine wpAny_mono ((h1 rfl).run A env M W s2 R O (S1.keep k2)) ?_ (fun _ _ f => f.elim)
    intro f s3 y37; refine el0_2 (y37) fun k3 y38 => ?_; refine el1_2 (y38) fun r hq hh => ?_
    have K := (k1.trans k2.nil).trans k3
    cases r with
    | next σ2 =>
      refine el0_2 (hh) fun y39 S3 => ?_; obtain rfl := y39
      obtain ⟨σ3, m, hl, hm, hi'⟩ := hq
      exact ⟨m, hm, K, σ3, hi', S3.weak hl⟩
    | cont σ2 =>
      refine el0_2 (hh) fun y40 S3 => ?_; obtain rfl := y40
      obtain ⟨σ3, m, hl, hm, hi'⟩ := hq
      exact ⟨m, hm, K, σ3, hi', S3.weak hl⟩
    | brk σ2 =>
      refine el0_2 (hh) fun y41 S3 => ?_; obtain rfl := y41
      exact ⟨K, _, hq, rfl, S3⟩
    | ret d =>
      refine el1_2 (hh) fun v y42 hv => ?_; obtain rfl := y42
      exact ⟨K, _, hq, v, rfl, hv⟩
end Mine
end
noncomputable section
namespace Mine
open PySem PySem.W PySem.Calls PyProof.Rows
variable {X : Cx} {A : Around} {k : Nat} {gs : Gm} {σ σ' : Sto} {l r : Expr} {pos : Pos}
structure Itr (X : Cx) (k : Nat) (W : List Addr) (it : Value) (own : List Addr) (items : List V) (P : Nat → Heap → Prop) : Prop where
  sub : ∀ a ∈ own, a ∈ W
  frame : ∀ (M : List Addr) (i : Nat) (h h' : Heap), (∀ a ∈ M, a ∈ W ∧ a ∉ own) → (∀ b o, b ∉ M → h.get? b = some o → ∃ o', h'.get? b = some o' ∧ Loose o o') → P i h → P i h'
  live : ∀ i h, P i h → ∀ a ∈ own, ∃ o, h.get? a = some o
  next : ∀ A i s, Room k A → Base X A W s → P i s.heap → wpAny (model X.prog X.w) A (pyNext it) (fun r s' => Kp X.h0 own s s' ∧
    match items[i]? with
    | some d => ∃ v, r = some v ∧ Rd W s'.heap v d ∧ P (i + 1) s'.heap
    | none => r = none) No s
  go : ∀ A t i s v, Room k A → Base X A W s → P i s.heap → wpAny (model X.prog X.w) A (letOwnedTupleGo t it v) (fun _ s' => Kp X.h0 own s s' ∧ P i s'.heap) No s
  self : ∀ A i s (Q : Value → Shared → Prop) (E : Value → Shared → Prop), Room k A → P i s.heap → Q it s → wpAny (model X.prog X.w) A (pyIter it) Q E s
noncomputable def Its (X : Cx) (k : Nat) (W : List Addr) (s s2 : Shared) (it : Value) (items : List V) : Prop :=
  ∃ (own : List Addr) (P : List Addr → Nat → Heap → Prop), (∀ a ∈ own, s.heap.get? a = none) ∧ ∀ W' : List Addr, (∀ a ∈ own, a ∈ W') → (∀ a ∈ W, a ∈ W') → (∀ a ∈ W', a ∈ own ∨ a ∈ W ∨ s2.heap.get? a = none) → Itr X k W' it own items (P W') ∧ P W' 0 s2.heap
structure Iv (X : Cx) (k : Nat) (gs : Gm) (σ : Sto) (e : Expr) (items : List V) : Prop where
  run : ∀ A env M W s, Room k A → St X A env gs M W σ s → wpAny (model X.prog X.w) A (eval e env) (fun x s1 => Kp X.h0 [] s s1 ∧ wpAny (model X.prog X.w) A (pyIter x) (fun it s2 => Kp X.h0 [] s s2 ∧
    Its X k W s s2 it items) No s1) No s
section
variable {env : Env} {M W : List Addr} {s s' : Shared}
theorem St.keepMH {O : List Addr} (S : St X A env gs M W σ s) (K : Kh X.h0 O s s') (hO : ∀ a ∈ O, a ∈ W ∧ X.h0.get? a = none ∧ (∃ o, s'.heap.get? a = some o) ∧ a ≠ env.locals ∧ (∀ n, env.cells.lookup n ≠ some a) ∧ NF A a ∧ a ∉ M) : St X A env gs M W σ s' := by
  have hL : env.locals ∉ O := fun h => (hO _ h).2.2.2.1 rfl
  have hC : ∀ n c, env.cells.lookup n = some c → c ∉ O := fun n c h q => (hO _ q).2.2.2.2.1 n h
  have kd : ∀ b ∈ O, b ∈ W := fun b h => (hO b h).1
  exact ⟨S.toBase.keepH K fun b h => ⟨(hO b h).2.1, (hO b h).2.2.1, .inl (hO b h).2.2.2.2.2.1⟩, S.toEnvK, S.sub, S.new, let ⟨m, h⟩ := S.ns; ⟨m, K.ns hL h⟩, S.locM, S.loc, S.nodup,
    fun x d h => let ⟨v, hv, hr⟩ := S.vars x d h; ⟨v, hv.keepH K hL hC, hr.keepH K kd fun b h hM _ _ _ => (hO b h).2.2.2.2.2.2 hM⟩, fun x d h => let ⟨⟨v, hv, hr⟩, q⟩ := S.free x d h; ⟨⟨v, hv.keepH K hC, hr.keepH K kd⟩, q⟩,
    fun n c h => let ⟨⟨v, a⟩, b⟩ := S.cells n c h; ⟨⟨v, K.cell (hC n c h) a⟩, b⟩, S.apart, S.cs, S.dis⟩
theorem St.keepM {O : List Addr} (S : St X A env gs M W σ s) (K : Kp X.h0 O s s') (hO : ∀ a ∈ O, a ∈ W ∧ X.h0.get? a = none ∧ (∃ o, s'.heap.get? a = some o) ∧ a ≠ env.locals ∧ (∀ n, env.cells.lookup n ≠ some a) ∧ NF A a ∧ a ∉ M) : St X A env gs M W σ s' := S.keepMH K.toKh hO
theorem St.wide {O : List Addr} (S : St X A env gs M W σ s) (h1 : ∀ a ∈ O, ∃ o, s.heap.get? a = some o) (s0 : Shared) (h2 : ∀ a ∈ O, s0.heap.get? a = none) (S0 : St X A env gs M W σ s0) (K : Kp X.h0 [] s0 s) : St X A env gs M (O ++ W) σ s := by
  have w1 : ∀ b ∈ O ++ W, b ∈ W ∨ s0.heap.get? b = none := fun b hb => (List.mem_append.mp hb).elim (fun h => .inr (h2 b h)) .inl
  have wk : ∀ {v d}, Rd W s0.heap v d → Rd (O ++ W) s.heap v d := fun r => (r.weak w1).keep0 K
  refine ⟨⟨S.base, List.mem_append_right _ S.tabW, fun a ha => (List.mem_append.mp ha).elim (h1 a) (S.old a), S.frs⟩, S.toEnvK, fun a h => List.mem_append_right _ (S.sub a h), S.new, S.ns, S.locM, S.loc, S.nodup, fun x d h => ?_, fun x d h => ?_,
    fun n c h => let ⟨a, b, c'⟩ := S.cells n c h; ⟨a, List.mem_append_right _ b, c'⟩, S.apart, S.cs, S.dis⟩
  · refine el1_2 (S0.vars x d h) fun v a b => ?_; exact ⟨v, a.keepH K.toKh nofun nofun, (b.weak w1).keepH K.toKh nofun nofun⟩
  · refine el0_2 (S0.free x d h) fun y1 c => ?_; refine el1_2 (y1) fun v a b => ?_; exact ⟨⟨v, a.keepH K.toKh nofun, wk b⟩, c⟩
theorem St.keepNH {O : List Addr} (S : St X A env gs M (O ++ W) σ s) (K : Kh X.h0 O s s') (hM : ∀ a ∈ M, a ∈ W) (ht : X.tab ∈ W) (hc : ∀ n c, env.cells.lookup n = some c → c ∈ W)
    (hO : ∀ a ∈ O, a ∉ W ∧ X.h0.get? a = none ∧ NF A a) : St X A env gs M W σ s' := by
  have hL : env.locals ∉ O := fun h => (hO _ h).1 (hM _ S.locM)
  have hC : ∀ n c, env.cells.lookup n = some c → c ∉ O := fun n c h q => (hO _ q).1 (hc n c h)
  have wk : ∀ {v d}, Rd (O ++ W) s.heap v d → Rd W s'.heap v d := fun r => (r.keepH K fun b hb => List.mem_append_left _ hb).weak fun b hb => .inl (List.mem_append_right _ hb)
  refine ⟨⟨fun b o hb e => K.old (fun q => by rw [(hO b q).2.1] at e; exact noN e) (S.base b o hb e) e, ht, fun a ha => K.live (fun q => (hO a q).1 ha) (S.old a (List.mem_append_right _ ha)), ?_⟩,
    S.toEnvK, hM, S.new, let ⟨m, h⟩ := S.ns; ⟨m, K.ns hL h⟩, S.locM, S.loc, S.nodup, fun x d h => let ⟨v, hv, hr⟩ := S.vars x d h; ⟨v, hv.keepH K hL hC, (hr.keepH K (fun b hb => List.mem_append_left _ hb) fun b h q _ _ _ => (hO b h).1 (hM b q)).weak fun b hb => .inl (List.mem_append_right _ hb)⟩, fun x d h => let ⟨⟨v, hv, hr⟩, q⟩ := S.free x d h; ⟨⟨v, hv.keepH K hC, wk hr⟩, q⟩,
    fun n c h => let ⟨⟨v, a⟩, _, b⟩ := S.cells n c h; ⟨⟨v, K.cell (hC n c h) a⟩, hc n c h, b⟩, S.apart, S.cs, S.dis⟩
  refine el1_2 (S.frs) fun l hl hf => ?_
  exact ⟨l, hl, hf.keep K fun b hb => .inl ((hO b hb).2.2 l hl)⟩
theorem St.keepN {O : List Addr} (S : St X A env gs M (O ++ W) σ s) (K : Kp X.h0 O s s') (hM : ∀ a ∈ M, a ∈ W) (ht : X.tab ∈ W) (hc : ∀ n c, env.cells.lookup n = some c → c ∈ W)
    (hO : ∀ a ∈ O, a ∉ W ∧ X.h0.get? a = none ∧ NF A a) : St X A env gs M W σ s' := S.keepNH K.toKh hM ht hc hO
theorem St.narrow {O : List Addr} (S : St X A env gs M (O ++ W) σ s) (hM : ∀ a ∈ M, a ∈ W) (ht : X.tab ∈ W) (hc : ∀ n c, env.cells.lookup n = some c → c ∈ W) : St X A env gs M W σ s := by
  have wk : ∀ {v d}, Rd (O ++ W) s.heap v d → Rd W s.heap v d := fun r => r.weak fun b hb => .inl (List.mem_append_right _ hb)
  exact ⟨⟨S.base, ht, fun a ha => S.old a (List.mem_append_right _ ha), S.frs⟩, S.toEnvK, hM, S.new, S.ns, S.locM, S.loc, S.nodup, fun x d h => let ⟨v, a, b⟩ := S.vars x d h; ⟨v, a, b.weak fun b hb => .inl (List.mem_append_right _ hb)⟩,
    fun x d h => let ⟨⟨v, a, b⟩, c⟩ := S.free x d h; ⟨⟨v, a, wk b⟩, c⟩, fun n c h => let ⟨a, b, c'⟩ := S.cells n c h; ⟨a, hc n c h, c'⟩, S.apart, S.cs, S.dis⟩
end
theorem Es.for {iter target : Expr} {body : List Stmt} {items : List V} {Q : Res → Prop} (hi : Iv X k gs σ iter items) (I : Nat → Sto → Prop) (h0 : ∃ σ', Le σ σ' ∧ I 0 σ')
    (step : ∀ i d σ, items[i]? = some d → I i σ → ∃ σ1, As X k gs target d σ σ1 ∧ Ex X k gs σ1 body fun r => match r with
      | .next σ2 | .cont σ2 => ∃ σ3, Le σ2 σ3 ∧ I (i + 1) σ3
      | .brk σ2 => Q (.next σ2)
      | .ret d => Q (.ret d))
    (done : ∀ σ, I items.length σ → Q (.next σ)) (hs : ∀ env x, foldedSetIterable iter env x = pure x := by intro _ _; rfl) : Es X k gs σ (.For target iter body [] pos) Q := by
  refine ⟨?_⟩
  intro A env M W s R O S
  refine wpAny_For (wpAny_mono (hi.run A env M W s R S) ?_ (fun _ _ f => f)) (hs env)
  rintro x s1 ⟨k1, h1⟩
  refine wpAny_mono h1 ?_ (fun _ _ f => f)
  rintro it s2 ⟨k2, own, P', hfresh, hW⟩
  obtain ⟨T, hP⟩ := hW (own ++ W) (fun a h => List.mem_append_left _ h) (fun a h => List.mem_append_right _ h) fun a h => (List.mem_append.mp h).elim .inl fun q => .inr (.inl q)
  generalize P' (own ++ W) = P at T hP
  have hlive := T.live 0 _ hP
  obtain ⟨σ0, hl0, hI0⟩ := h0
  have S2 : St X A env gs M (own ++ W) σ0 s2 := ((S.keep k2).wide hlive s hfresh S k2).weak hl0
  have nown : ∀ a ∈ own, a ∉ W := fun a h q => by obtain ⟨o, e⟩ := S.old a q; rw [hfresh a h] at e; cases e
  have ownOk : ∀ a ∈ own, X.h0.get? a = none ∧ a ≠ env.locals ∧ (∀ n, env.cells.lookup n ≠ some a) ∧ NF A a ∧ a ∉ M := by
    intro a ha
    refine ⟨?_, fun e => nown a ha (e ▸ S.sub _ S.locM), fun n e => nown a ha (S.cells n a e).2.1, S.nf (hfresh a ha), fun q => nown a ha (S.sub a q)⟩
    cases q : X.h0.get? a with
    | none => rfl
    | some o =>
      have ht : a ≠ X.tab := fun e => nown a ha (e ▸ S.tabW)
      have := S.base a o ht q
      rw [hfresh a ha] at this; cases this
  have fin : ∀ {s'}, Kp X.h0 (own ++ M) s s' → Kp X.h0 M s s' := fun K => K.fresh fun b hb => (List.mem_append.mp hb).elim (fun h => .inr (hfresh b h)) .inl
  have nar : ∀ {σ s'}, St X A env gs M (own ++ W) σ s' → St X A env gs M W σ s' := fun S' => S'.narrow S.sub S.tabW fun n c h => (S.cells n c h).2.1
  refine codeAny_forLoop_any (fun n s' => ∃ i σ, n = items.length + 1 - i ∧ i ≤ items.length ∧ Kp X.h0 (own ++ M) s s' ∧ I i σ ∧ St X A env gs M (own ++ W) σ s' ∧ P i s'.heap) ?_ (items.length + 1) ⟨0, σ0, rfl, Nat.zero_le _, k2.nil, hI0, S2, hP⟩
  rintro n s3 ⟨i, σ3, rfl, hle, K3, hI3, S3, hP3⟩
  refine wpAny_mono (T.next A i s3 R S3.toBase hP3) ?_ (fun _ _ f => f.elim)
  rintro r s4 ⟨k4, hr⟩
  have K4 : Kp X.h0 (own ++ M) s s4 := K3.trans (k4.mono fun b hb => List.mem_append_left _ hb)
  cases hd : items[i]? with
  | none =>
    rw [hd] at hr
    subst hr
    have hi : i = items.length := Nat.le_antisymm hle (List.getElem?_eq_none_iff.mp hd)
    subst hi
    exact wpAny_execs_nil ⟨fin K4, _, done σ3 hI3, rfl, S3.keepN k4 S.sub S.tabW (fun n c h => (S.cells n c h).2.1) fun a ha => ⟨nown a ha, (ownOk a ha).1, (ownOk a ha).2.2.2.1⟩⟩
  | some d =>
    rw [hd] at hr
    obtain ⟨v, rfl, hv, hP4⟩ := hr
    have hlt : i < items.length := (List.getElem?_eq_some_iff.mp hd).1
    have live4 := T.live _ _ hP4
    have S4 : St X A env gs M (own ++ W) σ3 s4 := S3.keepM k4 fun a ha => ⟨T.sub a ha, (ownOk a ha).1, live4 a ha, (ownOk a ha).2⟩
    refine wpAny_mono (T.go A target (i + 1) s4 v R S4.toBase hP4) ?_ (fun _ _ f => f.elim)
    rintro _ s5 ⟨k5, hP5⟩
    have live5 := T.live _ _ hP5
    have S5 : St X A env gs M (own ++ W) σ3 s5 := S4.keepM k5 fun a ha => ⟨T.sub a ha, (ownOk a ha).1, live5 a ha, (ownOk a ha).2⟩
    have K5 : Kp X.h0 (own ++ M) s s5 := K4.trans (k5.mono fun b hb => List.mem_append_left _ hb)
    obtain ⟨σ5, has, hex⟩ := step i d σ3 hd hI3
    refine wpAny_mono (has.run A env M (own ++ W) s5 v R S5 (hv.keep k5 T.sub)) ?_ (fun _ _ f => f.elim)
    rintro _ s6 ⟨S6, k6⟩
    refine wpAny_mono (hex.run A env M (own ++ W) s6 R O S6) ?_ (fun _ _ f => f.elim)
    rintro f s7 ⟨k7, rr, hq, hh⟩
    have K7 : Kp X.h0 (own ++ M) s s7 := K5.trans ((k6.trans k7).mono fun b hb => List.mem_append_right _ hb)
    have hP7 : P (i + 1) s7.heap := T.frame M (i + 1) _ _ (fun a ha => ⟨List.mem_append_right _ (S.sub a ha), fun q => nown a q (S.sub a ha)⟩) (fun b o hb e => let ⟨o', e', q⟩ := (k6.trans k7).heap b o hb e; ⟨o', e', q.loose⟩) hP5
    cases rr with
    | next σ7 =>
      obtain ⟨rfl, S7⟩ := hh
      obtain ⟨σ8, hl, hI⟩ := hq
      exact ⟨items.length + 1 - (i + 1), Nat.sub_lt_sub_left (Nat.lt_succ_of_lt hlt) (Nat.lt_succ_self i), i + 1, σ8, rfl, hlt, K7, hI, S7.weak hl, hP7⟩
    | cont σ7 =>
      obtain ⟨rfl, S7⟩ := hh
      obtain ⟨σ8, hl, hI⟩ := hq
      exact ⟨items.length + 1 - (i + 1), Nat.sub_lt_sub_left (Nat.lt_succ_of_lt hlt) (Nat.lt_succ_self i), i + 1, σ8, rfl, hlt, K7, hI, S7.weak hl, hP7⟩
    | brk σ7 =>
      obtain ⟨rfl, S7⟩ := hh
      exact ⟨fin K7, _, hq, rfl, nar S7⟩
    | ret d =>
      obtain ⟨v, rfl, hv⟩ := hh
      refine ⟨fin K7, _, hq, v, rfl, ?_⟩
      cases hv with
      | data r => exact .data (r.weak fun b hb => .inl (List.mem_append_right _ hb))
      | own l m r => exact .own l m (r.weak fun b hb => .inl (List.mem_append_right _ hb))
section
variable {env : Env} {M W : List Addr} {s s' : Shared} {A : Around}
theorem St.callE {func : Expr} {es : List Expr} {ds : List V} {f : Value} {Q : Value → Shared → Prop} {E : Value → Shared → Prop} (R : Room k A) (S : St X A env gs M W σ s) (hf : Ev X k gs σ func (.opq f)) (ha : Evs X k gs σ es ds) (hc : Callable X f)
    (h : ∀ vs s2, Rds W s2.heap vs ds → Kp X.h0 [] s s2 → wpAny (model X.prog X.w) A (call f vs []) Q E s2)
    (he : ∀ env, eval (.Call func es [] pos) env = (do callWith pos (← eval func env) [] (backTo pos (starEach es env)) (backToKw pos (keywordEach [] env))) := by intro _; rfl)
    (hp : Plain es = true := by rfl) : wpAny (model X.prog X.w) A (eval (.Call func es [] pos) env) Q E s := by
  rw [he]
  refine wpAny_bind (wpAny_mono (hf.run A env M W s R S) ?_ (fun _ _ f => f.elim))
  rintro v s1 ⟨hv, k1⟩
  cases hv
  have np := any_backTo (pos := pos) (env := env) (ds := ds) (Plain.no hp)
  refine callWith_go np (evalArgs_all np (wpAny_mono (ha.run A env M W s1 pos R (S.keep k1)) ?_ (fun _ _ f => f.elim)))
  rintro vs s2 ⟨hvs, k2⟩
  have S2 := (S.keep k1).keep k2
  refine ⟨?_, h vs s2 hvs (k1.trans k2)⟩
  cases hc with
  | no h => exact .inl h
  | fn h1 h2 h3 => exact .inr ⟨_, _, _, rfl, S2.base _ _ h3 h1, h2⟩
end
theorem letGo_any {M : Model} {A : Around} {E : Value → Shared → Prop} {s : Shared} {t : Expr} {I : Addr} {v : Value} {Q : Unit → Shared → Prop} (tail : ∀ a, wpAny M A (letOwnedTupleGo (.Tuple [] 0 ⟨0, 0, 0, 0⟩) (.ref I) (.ref a)) Q E s) (h : Q () s) : wpAny M A (letOwnedTupleGo t (.ref I) v) Q E s := by
  delta letOwnedTupleGo at tail ⊢
  dsimp only at tail
  split
  · cases v with
    | ref a => exact tail a
    | _ => exact wpAny_pure h
  · cases v with
    | ref a => exact tail a
    | _ => exact wpAny_pure h
  · exact wpAny_pure h
theorem letGo_plain {M : Model} {A : Around} {E : Value → Shared → Prop} {s : Shared} {t : Expr} {I : Addr} {v : Value} {o : Obj} {n : String} {Q : Unit → Shared → Prop} (ho : s.heap.get? I = some o) (hc : o.cls = .type n)
    (hn : (["enumerate", "zip", "dict_itemiterator", "dict_reverseitemiterator", "odict_iterator", "itertools.zip_longest", "itertools.pairwise"] : List String).contains n = false) (h : Q () s) : wpAny M A (letOwnedTupleGo t (.ref I) v) Q E s := by
  refine letGo_any (fun a => ?_) h
  delta letOwnedTupleGo
  dsimp only
  refine wpAny_bind (wpAny_load ho ?_)
  rw [hc]
  split
  · rename_i m vs e1 e2
    cases e1
    rw [hn, Bool.false_and, if_neg Bool.false_ne_true]
    exact wpAny_pure h
  · exact wpAny_pure h
theorem Itr.ofWalks {W : List Addr} {I : Addr} {fp wr : List Addr} {n : Nat} {Pw : Nat → Value → Prop} {Sw : Nat → Heap → Prop} {items : List V} {D : Heap → Prop}
    (hW : ∀ A : Around, A.handled = none → Walks X.prog X.w A I fp wr n Pw Sw) (hsub : ∀ a ∈ wr, a ∈ W) (hfp : ∀ a ∈ fp, a ∈ wr ∨ a ∉ W) (hn : n = items.length)
    (hD : ∀ (M : List Addr) h h', (∀ a ∈ M, a ∈ W) → (∀ b o, b ∉ M → h.get? b = some o → ∃ o', h'.get? b = some o' ∧ Loose o o') → D h → D h')
    (hitem : ∀ i v h, i < n → Pw i v → D h → ∃ d, items[i]? = some d ∧ Rd W h v d) (hlive : ∀ i h, Sw i h → ∀ a ∈ wr, ∃ o, h.get? a = some o)
    (hcls : ∀ i h, Sw i h → ∃ o m, h.get? I = some o ∧ o.cls = .type m ∧ (["enumerate", "zip", "dict_itemiterator", "dict_reverseitemiterator", "odict_iterator", "itertools.zip_longest", "itertools.pairwise"] : List String).contains m = false)
    (hnf : ∀ i h, Sw i h → ∀ b ∈ fp, ∀ o, h.get? b = some o → NotD o) :
    Itr X k W (.ref I) wr items (fun i h => Sw i h ∧ D h ∧ i ≤ n) where
  sub := hsub
  frame := fun M i h h' hM hk ⟨a, b, c⟩ => ⟨(hW { handled := none } rfl).frame i h h' a fun x hx o e => (by refine el1_2 (hk x o (fun q => (hfp x hx).elim (hM x q).2 fun z => z (hM x q).1) e) fun o' e' q => ?_; rw [q.eq (hnf i h a x hx o e)] at e'; exact e'), hD M h h' (fun x hx => (hM x hx).1) hk b, c⟩
  live := fun i h ⟨a, _, _⟩ => hlive i h a
  next := fun A i s R B ⟨a, b, c⟩ => by
    have Wk := hW A R.handled
    by_cases hi : i < n
    · refine Wk.item i s _ _ hi a fun v h' tk hp hs hk => ?_
      have K : Kp X.h0 wr s { s with heap := h', toks := tk } := Kp.of hk
      have b' : D h' := hD wr _ _ hsub (fun b o hb e => ⟨o, hk b o hb e, .refl⟩) b
      refine el1_2 (hitem i v h' hi hp b') fun d hd hr => ?_
      refine ⟨K, ?_⟩
      rw [hd]
      exact ⟨v, rfl, hr, hs, b', hi⟩
    · have hi' : i = n := Nat.le_antisymm c (Nat.not_lt.mp hi)
      subst hi'
      refine Wk.done s _ _ a fun h' tk hk => ⟨Kp.of hk, ?_⟩
      rw [List.getElem?_eq_none_iff.mpr (Nat.le_of_eq hn.symm)]
  go := fun A t i s v R B ⟨a, b, c⟩ => by
    refine el2_3 (hcls i _ a) fun o m ho hc hm => ?_
    exact letGo_plain ho hc hm ⟨Kp.refl _ _, a, b, c⟩
  self := fun A i s Q E R ⟨a, b, c⟩ h => (hW A R.handled).self i s Q E a h
theorem data_keep {W : List Addr} {vs : List Value} {ds : List V} (M : List Addr) (h h' : Heap) (hM : ∀ a ∈ M, a ∈ W) (hk : ∀ b o, b ∉ M → h.get? b = some o → ∃ o', h'.get? b = some o' ∧ Loose o o') (r : Rds W h vs ds) : Rds W h' vs ds :=
  r.move fun b o hb e => ⟨hk b o (fun q => hb (hM b q)) e, hb⟩
theorem get_new (h : Heap) : h.get? h.objs.size = none := by
  cases e : h.get? h.objs.size with
  | none => rfl
  | some o => exact absurd (Heap.lt_size e) (Nat.lt_irrefl _)
theorem get_grow {s s' : Shared} (K : Kp X.h0 [] s s') {a : Addr} (h : s'.heap.get? a = Option.none) : s.heap.get? a = Option.none := by
  cases e : s.heap.get? a with
  | none => rfl
  | some o => refine el1_2 (K.heap a o nofun e) fun o' e' _ => ?_; rw [e'] at h; cases h
theorem Iv.list {e : Expr} {ds : List V} (h : Ev X k gs σ e (.list ds)) : Iv X k gs σ e ds := by
  refine ⟨?_⟩
  intro A env M W s R S
  refine wpAny_mono (h.run A env M W s R S) ?_ (fun _ _ f => f)
  intro v s1 y17; refine el0_2 (y17) fun hv k1 => ?_
  refine ⟨k1, ?_⟩
  refine el3_4 (hv.listI) fun a vs n y18 la na ra => ?_; obtain rfl := y18
  have hsz : vs.size = ds.length := by rw [← ra.length]; simp
  refine wpAny_pyIter_list (IsL.isList la) ?_
  have hnew := get_new s1.heap
  have hne : a ≠ s1.heap.objs.size := fun z => by rw [← z] at hnew; exact absurd (hnew.symm.trans la) nofun
  have hax : ∀ W' : List Addr, (∀ c ∈ W', c ∈ [s1.heap.objs.size] ∨ c ∈ W ∨ (s1.heap.push { cls := .type "list_iterator", data := .fields #[.ref a, .int 0 0] }).get? c = Option.none) → a ∉ W' := fun W' h q => by
    rcases h a q with z | z | z
    · exact hne (List.mem_singleton.mp z)
    · exact na z
    · rw [Heap.get?_push_of_some _ la] at z; cases z
  refine ⟨k1.trans (Kp.push _ _), [s1.heap.objs.size], fun W' i h => (h.IsListIter s1.heap.objs.size a i ∧ h.IsList a vs) ∧ Rds W' h vs.toList ds ∧ i ≤ vs.size, fun b hb => by rw [List.mem_singleton.mp hb]; exact get_grow k1 hnew, fun W' w1 w2 w3 => ⟨
    Itr.ofWalks (D := fun h => Rds W' h vs.toList ds) (fun A' hA => Walks.list hA s1.heap.objs.size a hne vs) w1 (fun b hb => ?_) hsz (data_keep) (fun i v h hi hp hd => ?_) (fun i h st b hb => ?_) (fun i h st => ?_) (fun i h st b hb o e => ?_), ?_⟩⟩
  · rcases List.mem_cons.mp hb with z | hb
    · exact .inl (by rw [z]; exact .head _)
    · refine .inr fun q => ?_
      rw [List.mem_singleton.mp hb] at q
      exact hax W' w3 q
  · refine el1_2 (hd.get' (i := i) (v := v) (by simpa using hp)) fun d h1 h2 => ?_
    exact ⟨d, h1, h2⟩
  · rw [List.mem_singleton.mp hb]; refine el0_2 (st) fun y19 _ => ?_; refine el1_2 (y19) fun o ho _ => ?_; exact ⟨o, ho⟩
  · refine el0_2 (st) fun y20 _ => ?_; refine el1_3 (y20) fun o ho hc _ => ?_; exact ⟨o, _, ho, hc, by decide⟩
  · refine el0_2 (st) fun y21 y22 => ?_; refine el1_3 (y21) fun o1 ho1 hc1 hd1 => ?_; refine el1_3 (y22) fun o2 ho2 hc2 y101 => ?_; refine el1_1 (y101) fun n2 hd2 => ?_
    rcases List.mem_cons.mp hb with z | hb
    · rw [z, ho1] at e; obtain rfl := Option.some.inj e; intro es n q; rw [hd1] at q; cases q
    · rw [List.mem_singleton.mp hb, ho2] at e; obtain rfl := Option.some.inj e; intro es n q; rw [hd2] at q; cases q
  · exact ⟨⟨⟨_, Heap.get?_push_size _ rfl, rfl, rfl⟩, (IsL.isList la).push _⟩, (ra.weak fun b hb => (w3 b hb).elim (fun z => .inr (by rw [List.mem_singleton.mp z]; exact hnew)) fun z => z.elim .inl fun q => .inr (get_grow (X := X) (s' := { s1 with heap := s1.heap.push _ }) (Kp.push _ _) q)).keep0 (B := X.h0) (s' := { s1 with heap := s1.heap.push _ }) (Kp.push _ _), Nat.zero_le _⟩
theorem Iv.tup {e : Expr} {ds : List V} (h : Ev X k gs σ e (.tup ds)) : Iv X k gs σ e ds := by
  refine ⟨?_⟩
  intro A env M W s R S
  refine wpAny_mono (h.run A env M W s R S) ?_ (fun _ _ f => f)
  intro v s1 y23; refine el0_2 (y23) fun hv k1 => ?_
  refine ⟨k1, ?_⟩
  refine el3_4 (hv.tupI) fun a vs n y24 la na ra => ?_; obtain rfl := y24
  have hsz : vs.size = ds.length := by rw [← ra.length]; simp
  have hT : s1.heap.IsTuple a vs := ⟨_, la, rfl, _, rfl⟩
  refine wpAny_pyIter_tuple hT ?_
  have hnew := get_new s1.heap
  have hne : a ≠ s1.heap.objs.size := fun z => by rw [← z] at hnew; exact absurd (hnew.symm.trans la) nofun
  have hax : ∀ W' : List Addr, (∀ c ∈ W', c ∈ [s1.heap.objs.size] ∨ c ∈ W ∨ (s1.heap.push { cls := .type "tuple_iterator", data := .fields #[.ref a, .int 0 0] }).get? c = Option.none) → a ∉ W' := fun W' h q => by
    rcases h a q with z | z | z
    · exact hne (List.mem_singleton.mp z)
    · exact na z
    · rw [Heap.get?_push_of_some _ la] at z; cases z
  refine ⟨k1.trans (Kp.push _ _), [s1.heap.objs.size], fun W' i h => (h.IsTupleIter s1.heap.objs.size a i ∧ h.IsTuple a vs) ∧ Rds W' h vs.toList ds ∧ i ≤ vs.size, fun b hb => by rw [List.mem_singleton.mp hb]; exact get_grow k1 hnew, fun W' w1 w2 w3 => ⟨
    Itr.ofWalks (D := fun h => Rds W' h vs.toList ds) (fun A' hA => Walks.tuple hA s1.heap.objs.size a hne vs) w1 (fun b hb => ?_) hsz (data_keep) (fun i v h hi hp hd => ?_) (fun i h st b hb => ?_) (fun i h st => ?_) (fun i h st b hb o e => ?_), ?_⟩⟩
  · rcases List.mem_cons.mp hb with z | hb
    · exact .inl (by rw [z]; exact .head _)
    · refine .inr fun q => ?_
      rw [List.mem_singleton.mp hb] at q
      exact hax W' w3 q
  · refine el1_2 (hd.get' (i := i) (v := v) (by simpa using hp)) fun d h1 h2 => ?_
    exact ⟨d, h1, h2⟩
  · rw [List.mem_singleton.mp hb]; refine el0_2 (st) fun y25 _ => ?_; refine el1_2 (y25) fun o ho _ => ?_; exact ⟨o, ho⟩
  · refine el0_2 (st) fun y26 _ => ?_; refine el1_3 (y26) fun o ho hc _ => ?_; exact ⟨o, _, ho, hc, by decide⟩
  · refine el0_2 (st) fun y27 y28 => ?_; refine el1_3 (y27) fun o1 ho1 hc1 hd1 => ?_; refine el1_3 (y28) fun o2 ho2 hc2 y102 => ?_; refine el1_1 (y102) fun n2 hd2 => ?_
    rcases List.mem_cons.mp hb with z | hb
    · rw [z, ho1] at e; obtain rfl := Option.some.inj e; intro es n q; rw [hd1] at q; cases q
    · rw [List.mem_singleton.mp hb, ho2] at e; obtain rfl := Option.some.inj e; intro es n q; rw [hd2] at q; cases q
  · exact ⟨⟨⟨_, Heap.get?_push_size _ rfl, rfl, rfl⟩, hT.push _⟩, (ra.weak fun b hb => (w3 b hb).elim (fun z => .inr (by rw [List.mem_singleton.mp z]; exact hnew)) fun z => z.elim .inl fun q => .inr (get_grow (X := X) (s' := { s1 with heap := s1.heap.push _ }) (Kp.push _ _) q)).keep0 (B := X.h0) (s' := { s1 with heap := s1.heap.push _ }) (Kp.push _ _), Nat.zero_le _⟩
noncomputable abbrev signs (x : Str) : List V := x.cps.toList.map fun c => V.str ⟨#[c]⟩
theorem Iv.str {e : Expr} {x : Str} (h : Ev X k gs σ e (.str x)) : Iv X k gs σ e (signs x) := by
  refine ⟨?_⟩
  intro A env M W s R S
  refine wpAny_mono (h.run A env M W s R S) ?_ (fun _ _ f => f)
  intro v s1 y29; refine el0_2 (y29) fun hv k1 => ?_
  refine ⟨k1, ?_⟩
  refine el1_1 (Rd.strI hv) fun _ y30 => ?_; obtain rfl := y30
  have hnew := get_new s1.heap
  have go : ∀ (T : String) (hfr : T ≠ "frame") (hcls : (["enumerate", "zip", "dict_itemiterator", "dict_reverseitemiterator", "odict_iterator", "itertools.zip_longest", "itertools.pairwise"] : List String).contains T = false) (t : Tok)
      (hW : ∀ A : Around, A.handled = none → Walks X.prog X.w A s1.heap.objs.size [s1.heap.objs.size] [s1.heap.objs.size] x.cps.size (SignAt x) (fun i h => h.IsStrIter s1.heap.objs.size T x t i)),
      (s1.heap.push { cls := .type T, data := .fields #[.str x t, .int 0 0] }).IsStrIter s1.heap.objs.size T x t 0 →
      Kp X.h0 [] s { s1 with heap := s1.heap.push { cls := .type T, data := .fields #[.str x t, .int 0 0] } } ∧ Its X k W s { s1 with heap := s1.heap.push { cls := .type T, data := .fields #[.str x t, .int 0 0] } } (.ref s1.heap.objs.size) (signs x) := by
    intro T hfr hcls t hW h0
    refine ⟨k1.trans (Kp.push _ _), [s1.heap.objs.size], fun _ i h => h.IsStrIter s1.heap.objs.size T x t i ∧ True ∧ i ≤ x.cps.size, fun b hb => by rw [List.mem_singleton.mp hb]; exact get_grow k1 hnew, fun W' w1 w2 w3 => ⟨
      Itr.ofWalks (D := fun _ => True) hW w1 (fun b hb => .inl hb) (by simp [signs]) (fun _ _ _ _ _ _ => trivial) (fun i v h hi hp _ => ?_) (fun i h st b hb => ?_) (fun i h st => ?_) (fun i h st b hb o e => ?_), ⟨h0, trivial, Nat.zero_le _⟩⟩⟩
    · refine el2_2 (hp) fun c u hc y31 => ?_; obtain rfl := y31
      exact ⟨.str ⟨#[c]⟩, by simp [signs, hc], .str _ _⟩
    · rw [List.mem_singleton.mp hb]; refine el1_2 (st) fun o ho _ => ?_; exact ⟨o, ho⟩
    · refine el1_3 (st) fun o ho hc _ => ?_; exact ⟨o, _, ho, hc, hcls⟩
    · refine el1_3 (st) fun o1 ho1 hc1 hd1 => ?_; rw [List.mem_singleton.mp hb, ho1] at e; obtain rfl := Option.some.inj e; intro es n q; rw [hd1] at q; cases q
  cases ha : x.cps.all (· < 128)
  · exact wpAny_pyIter_wide ha (go _ (by decide) (by decide) _ (fun A' hA => Walks.strWide hA _ x _) ⟨_, Heap.get?_push_size _ rfl, rfl, rfl⟩)
  · exact wpAny_pyIter_ascii ha (go _ (by decide) (by decide) _ (fun A' hA => Walks.strAscii hA _ x _) ⟨_, Heap.get?_push_size _ rfl, rfl, rfl⟩)
noncomputable abbrev upto (a : Int) (n : Nat) : List V := (List.range n).map fun (i : Nat) => V.int (a + (i : Int))
theorem small_one {a b : Int} (ha : -1000000000 ≤ a) (hb : b ≤ 1000000000) (ha' : a ≤ 1000000000) (hb' : -1000000000 ≤ b) : Builtin.Range.small a b 1 = true := by
  unfold Builtin.Range.small
  rw [rangeSize_one]
  simp only [Builtin.Range.rangeFitsLong, Bool.and_eq_true, Bool.or_eq_true, decide_eq_true_eq, beq_iff_eq, show (1 : Int) > 0 by decide, if_true]
  split <;> lia
theorem range_iv {env : Env} {M W : List Addr} {s s1 : Shared} {A : Around} (R : Room k A) (S : St X A env gs M W σ s) (k1 : Kp X.h0 [] s s1) {r : Addr} {a b : Int} {t u v : Tok} {n : Nat} (hr : IsRange s1.heap r a b 1 t u v) (hs : Builtin.Range.small a b 1 = true)
    (hn : (n : Int) = if a < b then b - a else 0) : wpAny (model X.prog X.w) A (pyIter (.ref r)) (fun it s2 => Kp X.h0 [] s s2 ∧ Its X k W s s2 it (upto a n)) No s1 := by
  refine wpAny_pyIter_range hr hs ?_
  have hnew := get_new s1.heap
  refine ⟨k1.trans (Kp.push _ _), [s1.heap.objs.size], fun _ i h => IsRangeIter h s1.heap.objs.size (a + (i : Nat) * 1) ((n : Int) - (i : Nat)) 1 ∧ True ∧ i ≤ n, fun b hb => by rw [List.mem_singleton.mp hb]; exact get_grow k1 hnew, fun W' w1 w2 w3 => ⟨
    Itr.ofWalks (D := fun _ => True) (fun A' hA => Walks.range hA s1.heap.objs.size a 1 n) w1 (fun b hb => .inl hb) (by simp) (fun _ _ _ _ _ _ => trivial) (fun i v h hi hp _ => ?_) (fun i h st b hb => ?_) (fun i h st => ?_) (fun i h st b hb o e => ?_), ⟨?_, trivial, Nat.zero_le _⟩⟩⟩
  · obtain ⟨t, rfl⟩ := hp
    refine ⟨.int (a + (i : Int)), by simp [hi], ?_⟩
    rw [Int.mul_one]
    exact .int _ _
  · rw [List.mem_singleton.mp hb]; exact ⟨_, st⟩
  · exact ⟨_, _, st, rfl, by decide⟩
  · rw [List.mem_singleton.mp hb, show h.get? _ = _ from st] at e; obtain rfl := Option.some.inj e; intro es n q; cases q
  · show IsRangeIter _ _ _ _ _
    have e1 : a + ((0 : Nat) : Int) * 1 = a := by simp
    have e2 : (n : Int) - ((0 : Nat) : Int) = Builtin.Range.rangeSize a b 1 := by rw [rangeSize_one, ← hn]; simp
    rw [e1, e2]
    exact Heap.get?_push_size _ rfl
theorem Kp.pushT {M : List Addr} {s s2 : Shared} (K : Kp X.h0 M s s2) (o : Obj) (tk : Nat) : Kp X.h0 M s { s2 with heap := s2.heap.push o, toks := tk } := K.trans ((Kp.push s2 o).tok tk)
theorem Callable.type {n : String} : Callable X (.type n) := .no fun _ => nofun
theorem Callable.builtin {n : String} : Callable X (.builtin n) := .no fun _ => nofun
theorem Iv.range1 {func e : Expr} {b : Int} {n : Nat} (hf : Ev X k gs σ func (.opq (.type "range"))) (he : Ev X k gs σ e (.int b)) (hn : b = n) (hb : n ≤ 1000000000)
    (he' : ∀ env, eval (.Call func [e] [] pos) env = (do callWith pos (← eval func env) [] (backTo pos (starEach [e] env)) (backToKw pos (keywordEach [] env))) := by intro _; rfl)
    (hp : Plain [e] = true := by rfl) (hst : ∀ env, starEach [e] env = (false, eval e env) :: starEach [] env := by intro _; rfl) : Iv X k gs σ (.Call func [e] [] pos) (upto 0 n) := by
  refine ⟨?_⟩
  intro A env M W s R S
  refine S.callE R hf (Evs.cons he Evs.nil hst) .type (fun vs s2 hvs k2 => ?_) he' hp
  refine el1_2 (Rds.i1 hvs) fun _ y33 h => ?_; obtain rfl := y33
  refine el1_1 (Rd.intI h) fun t y34 => ?_; obtain rfl := y34
  refine call_range_1 ?_
  have K := k2.pushT { cls := .type "range", data := .fields #[.int 0 s2.toks, .int b t, .int 1 (s2.toks + 1)] } (s2.toks + 1 + 1)
  exact ⟨K, range_iv R S K (IsRange.new ..) (small_one (by decide) (by lia) (by decide) (by lia)) (by subst hn; split <;> lia)⟩
theorem Iv.range2 {func e1 e2 : Expr} {a b : Int} {n : Nat} (hf : Ev X k gs σ func (.opq (.type "range"))) (h1 : Ev X k gs σ e1 (.int a)) (h2 : Ev X k gs σ e2 (.int b)) (hn : (n : Int) = if a < b then b - a else 0)
    (ha : -1000000000 ≤ a ∧ a ≤ 1000000000) (hb : -1000000000 ≤ b ∧ b ≤ 1000000000)
    (he' : ∀ env, eval (.Call func [e1, e2] [] pos) env = (do callWith pos (← eval func env) [] (backTo pos (starEach [e1, e2] env)) (backToKw pos (keywordEach [] env))) := by intro _; rfl)
    (hp : Plain [e1, e2] = true := by rfl) (hst : ∀ env, starEach [e1, e2] env = (false, eval e1 env) :: starEach [e2] env := by intro _; rfl) (hst2 : ∀ env, starEach [e2] env = (false, eval e2 env) :: starEach [] env := by intro _; rfl) :
    Iv X k gs σ (.Call func [e1, e2] [] pos) (upto a n) := by
  refine ⟨?_⟩
  intro A env M W s R S
  refine S.callE R hf (Evs.cons h1 (Evs.cons h2 Evs.nil hst2) hst) .type (fun vs s2 hvs k2 => ?_) he' hp
  refine el2_3 (Rds.i2 hvs) fun _ _ y35 h h' => ?_; obtain rfl := y35
  refine el1_1 (Rd.intI h) fun t y36 => ?_; obtain rfl := y36
  refine el1_1 (Rd.intI h') fun u y37 => ?_; obtain rfl := y37
  refine call_range_2 ?_
  have K := k2.pushT { cls := .type "range", data := .fields #[.int a t, .int b u, .int 1 s2.toks] } (s2.toks + 1)
  exact ⟨K, range_iv R S K (IsRange.new ..) (small_one ha.1 hb.2 ha.2 hb.1) hn⟩
end Mine
end
noncomputable section
namespace Mine
open PySem PySem.W PySem.Calls PyProof.Rows
variable {X : Cx} {A : Around} {k : Nat} {gs gi : Gm} {σ σ' : Sto} {l r : Expr} {pos : Pos}
noncomputable def compOk (sc : Scope) (ts gl fr cs ocs : List Str) : Bool :=
  sc.kind == .function && sc.names.all (fun y => y.2 != .local || sc.names.lookup y.1 == some .local) && sc.names.all (fun y => y.2 != .free || ocs.contains y.1) && decide (sc.names.map (·.1)).Nodup &&
  ts.all (fun t => (sc.names.lookup t == some .local || sc.names.lookup t == some .cell) && !(t == ("__debug__" : Str))) && decide ts.Nodup &&
  gl.all (fun g => sc.names.lookup g == some .globalImplicit && !(g == ("__debug__" : Str))) &&
  fr.all (fun y => sc.names.lookup y == some .free && !(y == ("__debug__" : Str)) && !(y == ("__classdict__" : Str))) &&
  cs.all (fun y => sc.names.lookup y == some .free || sc.names.lookup y == some .cell)
structure CompOk (sc : Scope) (ts gl fr cs ocs : List Str) : Prop where
  fn : sc.kind = .function
  loc : ∀ y ∈ sc.names, y.2 = .local → sc.names.lookup y.1 = some .local
  fre : ∀ y ∈ sc.names, y.2 = .free → y.1 ∈ ocs
  keys : (sc.names.map (·.1)).Nodup
  tsk : ∀ t ∈ ts, (sc.names.lookup t = some .local ∨ sc.names.lookup t = some .cell) ∧ (t == ("__debug__" : Str)) = false
  tsn : ts.Nodup
  glk : ∀ g ∈ gl, sc.names.lookup g = some .globalImplicit ∧ (g == ("__debug__" : Str)) = false
  frk : ∀ y ∈ fr, sc.names.lookup y = some .free ∧ (y == ("__debug__" : Str)) = false ∧ (y == ("__classdict__" : Str)) = false
  csk : ∀ y ∈ cs, sc.names.lookup y = some .free ∨ sc.names.lookup y = some .cell
theorem compOk_of {sc : Scope} {ts gl fr cs ocs : List Str} (h : compOk sc ts gl fr cs ocs = true) : CompOk sc ts gl fr cs ocs := by
  simp only [compOk, Bool.and_eq_true, List.all_eq_true, Bool.or_eq_true, beq_iff_eq, bne_iff_ne, ne_eq, Bool.not_eq_true', decide_eq_true_eq, List.contains_iff_mem] at h
  refine el0_2 (h) fun y1 h9 => ?_; refine el0_2 (y1) fun y101 h8 => ?_; refine el0_2 (y101) fun y201 h7 => ?_; obtain ⟨⟨⟨⟨⟨h1, h2⟩, h3⟩, h4⟩, h5⟩, h6⟩ := y201
  exact ⟨h1, fun y hy e => (h2 y hy).resolve_left fun q => q e, fun y hy e => (h3 y hy).resolve_left fun q => q e, h4, fun t ht => h5 t ht, h6, fun g hg => h7 g hg, fun y hy => ⟨(h8 y hy).1.1, (h8 y hy).1.2, (h8 y hy).2⟩, h9⟩
theorem cellsFrom_app : ∀ (names : List (Str × NameKind)) (n : Nat) (a b : List (Str × Addr)), cellsFrom n names (a ++ b) = cellsFrom n names a ++ b
  | [], _, _, _ => rfl
  | (x, kd) :: r, n, a, b => by
    unfold cellsFrom
    split
    · rw [← List.cons_append]; exact cellsFrom_app r (n + 1) _ b
    · exact cellsFrom_app r n a b
theorem cellsFrom_keys : ∀ (names : List (Str × NameKind)) (n : Nat) (acc : List (Str × Addr)) (x : Str) (c : Addr), (x, c) ∈ cellsFrom n names acc → (x, c) ∈ acc ∨ ((x, NameKind.cell) ∈ names ∧ n ≤ c)
  | [], _, _, _, _, h => .inl h
  | (y, kd) :: r, n, acc, x, c, h => by
    unfold cellsFrom at h
    split at h
    · rename_i hk
      rcases cellsFrom_keys r (n + 1) _ x c h with q | ⟨q, q2⟩
      · rcases List.mem_cons.mp q with z | z
        · cases z; rw [beq_iff_eq.mp hk]; exact .inr ⟨.head _, Nat.le_refl _⟩
        · exact .inl z
      · exact .inr ⟨.tail _ q, by (exact Nat.le_of_lt (by assumption))⟩
    · rcases cellsFrom_keys r n acc x c h with q | ⟨q, q2⟩
      · exact .inl q
      · exact .inr ⟨.tail _ q, q2⟩
theorem cellsFrom_has : ∀ (names : List (Str × NameKind)) (n : Nat) (acc : List (Str × Addr)) (x : Str), ((x, NameKind.cell) ∈ names ∨ ∃ c, (x, c) ∈ acc) → ∃ c, (x, c) ∈ cellsFrom n names acc
  | [], _, _, _, h => h.elim (fun z => nomatch z) id
  | (y, kd) :: r, n, acc, x, h => by
    unfold cellsFrom
    split
    · rename_i hk
      refine cellsFrom_has r (n + 1) _ x ?_
      rcases h with h | ⟨c, h⟩
      · rcases List.mem_cons.mp h with z | z
        · cases z; exact .inr ⟨n, .head _⟩
        · exact .inl z
      · exact .inr ⟨c, .tail _ h⟩
    · rename_i hk
      refine cellsFrom_has r n acc x ?_
      rcases h with h | h
      · rcases List.mem_cons.mp h with z | z
        · cases z; exact absurd rfl hk
        · exact .inl z
      · exact .inr h
theorem lookup_of_mem {α : Type} : ∀ {l : List (Str × α)} {x : Str} {c : α}, (x, c) ∈ l → ∃ c', l.lookup x = some c'
  | (y, d) :: r, x, c, h => by
    rw [List.lookup_cons]
    cases hb : x == y with
    | true => exact ⟨d, rfl⟩
    | false =>
      rcases List.mem_cons.mp h with z | z
      · cases z; simp at hb
      · exact lookup_of_mem z
theorem nodup_lookup {α : Type} : ∀ {l : List (Str × α)} {x : Str} {c : α}, (l.map (·.1)).Nodup → (x, c) ∈ l → l.lookup x = some c
  | (y, d) :: r, x, c, n, h => by
    rw [List.map_cons, List.nodup_cons] at n
    rw [List.lookup_cons]
    cases hb : x == y with
    | true =>
      rcases List.mem_cons.mp h with z | z
      · cases z; rfl
      · exact absurd (by rw [← beq_iff_eq.mp hb]; exact List.mem_map_of_mem (f := (·.1)) z) n.1
    | false =>
      rcases List.mem_cons.mp h with z | z
      · cases z; simp at hb
      · exact nodup_lookup n.2 z
theorem closureFor_ok {sc : Scope} {env : Env} (h : ∀ y ∈ sc.names, y.2 = .free → ∃ c, env.cells.lookup y.1 = some c) :
    ∃ cl, closureFor sc env = pure cl ∧ (∀ x c, (x, c) ∈ cl → env.cells.lookup x = some c ∧ (x, NameKind.free) ∈ sc.names) ∧ ∀ y ∈ sc.names, y.2 = .free → ∃ c, (y.1, c) ∈ cl := by
  have key : ∀ (names : List (Str × NameKind)) (acc : List (Str × Addr)) (f : Str × NameKind → List (Str × Addr) → Sem (ForInStep (List (Str × Addr)))),
      (∀ y cs, f y cs = if (y.2 == .free) = true then (do let c ← cellOf env y.1; pure (.yield ((y.1, c) :: cs))) else pure (.yield cs)) → (∀ y ∈ names, y.2 = .free → ∃ c, env.cells.lookup y.1 = some c) →
      ∃ cl, forIn names acc f = pure cl ∧ (∀ x c, (x, c) ∈ cl → (x, c) ∈ acc ∨ (env.cells.lookup x = some c ∧ (x, NameKind.free) ∈ names)) ∧ (∀ y, y ∈ acc → y ∈ cl) ∧ ∀ y ∈ names, y.2 = .free → ∃ c, (y.1, c) ∈ cl := by
    intro names
    induction names with
    | nil => intro acc f _ _; exact ⟨acc, by rw [List.forIn_nil], fun x c h => .inl h, fun _ h => h, fun _ h => nomatch h⟩
    | cons y r ih =>
      intro acc f hf hn
      obtain ⟨x, kd⟩ := y
      by_cases hk : (kd == NameKind.free) = true
      · have hkd : kd = .free := beq_iff_eq.mp hk
        refine el1_1 (hn (x, kd) (.head _) hkd) fun c hc => ?_
        have hc' : cellOf env x = pure c := by unfold cellOf; rw [show env.cells.lookup x = some c from hc]
        refine el1_4 (ih ((x, c) :: acc) f hf fun z hz => hn z (.tail _ hz)) fun cl e1 e2 e3 e4 => ?_
        refine ⟨cl, ?_, fun z d hd => ?_, fun z hz => e3 z (.tail _ hz), fun z hz q => ?_⟩
        · rw [List.forIn_cons, hf]
          simp only [hk, if_true, hc', pure_bind]
          exact e1
        · rcases e2 z d hd with q | ⟨q, q2⟩
          · rcases List.mem_cons.mp q with w | w
            · cases w; exact .inr ⟨hc, by rw [hkd]; exact .head _⟩
            · exact .inl w
          · exact .inr ⟨q, .tail _ q2⟩
        · rcases List.mem_cons.mp hz with w | w
          · subst w; exact ⟨c, e3 _ (.head _)⟩
          · exact e4 z w q
      · refine el1_4 (ih acc f hf fun z hz => hn z (.tail _ hz)) fun cl e1 e2 e3 e4 => ?_
        refine ⟨cl, ?_, fun z d hd => ?_, e3, fun z hz q => ?_⟩
        · rw [List.forIn_cons, hf]
          simp only [hk]
          exact e1
        · rcases e2 z d hd with q | ⟨q, q2⟩
          · exact .inl q
          · exact .inr ⟨q, .tail _ q2⟩
        · rcases List.mem_cons.mp hz with w | w
          · subst w; exact absurd (by have q' : kd = .free := q; rw [q']; rfl) hk
          · exact e4 z w q
  refine el1_4 (key sc.names [] (fun y cs => if (y.2 == .free) = true then (do let c ← cellOf env y.1; pure (.yield ((y.1, c) :: cs))) else pure (.yield cs)) (fun _ _ => rfl) h) fun cl e1 e2 _ e4 => ?_
  refine ⟨cl, ?_, fun x c hc => (e2 x c hc).resolve_left (fun q => nomatch q), e4⟩
  unfold closureFor
  rw [← e1]
  exact bind_pure _
theorem relabel_look {sc : Scope} {env : Env} {x : Str} {kd : NameKind} (h : sc.names.lookup x = some kd) : (relabel sc env).names.lookup x = some kd ∨ (kd = .free ∧ (relabel sc env).names.lookup x = some .cell) := by
  have key : ∀ (names : List (Str × NameKind)), names.lookup x = some kd →
      (names.map fun (n, k) => if (k == NameKind.free && env.scope.kind == .function && env.kindOf n == some .cell) then (n, NameKind.cell) else (n, k)).lookup x = some kd ∨
      (kd = .free ∧ (names.map fun (n, k) => if (k == NameKind.free && env.scope.kind == .function && env.kindOf n == some .cell) then (n, NameKind.cell) else (n, k)).lookup x = some .cell) := by
    intro names
    induction names with
    | nil => intro h; cases h
    | cons y r ih =>
      intro h
      obtain ⟨n, kn⟩ := y
      show List.lookup x ((if (kn == NameKind.free && env.scope.kind == .function && env.kindOf n == some .cell) = true then (n, NameKind.cell) else (n, kn)) :: _) = _ ∨
        (_ ∧ List.lookup x ((if (kn == NameKind.free && env.scope.kind == .function && env.kindOf n == some .cell) = true then (n, NameKind.cell) else (n, kn)) :: _) = _)
      cases hx : x == n with
      | true =>
        simp only [List.lookup_cons, hx] at h
        cases h
        by_cases hc : (kd == NameKind.free && env.scope.kind == .function && env.kindOf n == some .cell) = true
        · rw [if_pos hc]
          simp only [Bool.and_eq_true, beq_iff_eq] at hc
          exact .inr ⟨hc.1.1, by simp only [List.lookup_cons, hx]⟩
        · rw [if_neg hc]
          exact .inl (by simp only [List.lookup_cons, hx])
      | false =>
        simp only [List.lookup_cons, hx] at h
        by_cases hc : (kn == NameKind.free && env.scope.kind == .function && env.kindOf n == some .cell) = true
        · rw [if_pos hc]
          simp only [List.lookup_cons, hx]; exact ih h
        · rw [if_neg hc]
          simp only [List.lookup_cons, hx]; exact ih h
  exact key sc.names h
section
variable {env : Env} {M W : List Addr} {s : Shared}
noncomputable abbrev dictObj : Obj := { cls := .type "dict", data := .dict #[] }
noncomputable abbrev compE (sc : Scope) (C : Addr) (cl : List (Str × Addr)) (env : Env) : Env := { newEnv sc C env.globals (cellsFrom (C + 1) sc.names cl) env.qual none .none (some env) builtinsNs with scope := relabel sc env }
theorem comp_env (S : St X A env gs M W σ s) {sc : Scope} {ts : List Str} (hok : compOk sc ts gi.gs (gi.fr.map (·.1)) gi.cs gs.cs = true) (hfr : ∀ y d, (y, d) ∈ gi.fr → ((y, some d) ∈ σ ∧ d.isOwn = false) ∨ (y, d) ∈ gs.fr) :
    ∃ cl, closureFor sc env = pure cl ∧ ∀ (s2 : Shared) (O : List Addr), Kp X.h0 [] s s2 → (∀ a ∈ O, s.heap.get? a = none ∧ ∃ o, s2.heap.get? a = some o) →
      ∃ Mi, (∀ a ∈ Mi, s2.heap.get? a = none) ∧ (∀ n c, (compE sc s2.heap.objs.size cl env).cells.lookup n = some c → c ∈ Mi ∨ c ∈ W) ∧ s2.heap.objs.size ∈ Mi ∧ St X A (compE sc s2.heap.objs.size cl env) gi Mi (Mi ++ (O ++ W)) (ts.map fun t => (t, none)) { s2 with heap := pushCells (s2.heap.push dictObj) sc.names } := by
  have O := compOk_of hok
  have hcs : ∀ x ∈ gs.cs, ∃ c, env.cells.lookup x = some c := fun x hx => (S.cs x hx).2
  refine el1_3 (closureFor_ok (sc := sc) (env := env) fun y hy hk => hcs _ (O.fre y hy hk)) fun cl e1 e2 e3 => ?_
  refine ⟨cl, e1, fun s2 OO K hOO => ?_⟩
  have hC := get_new s2.heap
  have hsz : (s2.heap.push dictObj).objs.size = s2.heap.objs.size + 1 := Heap.size_push ..
  have ok := cellsFrom_ok sc.names (s2.heap.push dictObj) (s2.heap.objs.size + 1) [] ⟨fun _ _ hm => (nomatch hm), List.Pairwise.nil⟩ (by rw [hsz]; exact Nat.le_refl _)
  rw [hsz] at ok
  have happ : cellsFrom (s2.heap.objs.size + 1) sc.names cl = cellsFrom (s2.heap.objs.size + 1) sc.names [] ++ cl := by
    have := cellsFrom_app sc.names (s2.heap.objs.size + 1) [] cl
    simpa using this
  have up : ∀ b o, s2.heap.get? b = some o → (pushCells (s2.heap.push dictObj) sc.names).get? b = some o := fun b o e => pushCells_keeps _ _ _ _ (Heap.get?_push_of_some _ e)
  have K2 : Kp X.h0 [] s2 { s2 with heap := pushCells (s2.heap.push dictObj) sc.names } := Kp.of fun b o _ e => up b o e
  have K3 := K.trans K2
  have newA : ∀ x c, (x, c) ∈ cellsFrom (s2.heap.objs.size + 1) sc.names [] → s2.heap.get? c = none ∧ s2.heap.objs.size < c ∧ (x, NameKind.cell) ∈ sc.names := fun x c h => by
    rcases cellsFrom_keys _ _ _ _ _ h with q | ⟨q1, q2⟩
    · cases q
    · refine ⟨?_, q2, q1⟩
      cases e : s2.heap.get? c with
      | none => rfl
      | some o => exact absurd (Heap.lt_size e) (Nat.not_lt.mpr (Nat.le_of_succ_le q2))
  have oldC : ∀ x c, (x, c) ∈ cl → (∃ o, s.heap.get? c = some o) ∧ env.cells.lookup x = some c := fun x c h => by
    refine el0_2 (e2 x c h) fun q1 q2 => ?_
    refine el0_2 (S.cells x c q1) fun y2 _ => ?_; refine el2_2 (y2) fun v o ho _ => ?_
    exact ⟨⟨o, ho⟩, q1⟩
  have lookNew : ∀ x c, (cellsFrom (s2.heap.objs.size + 1) sc.names cl).lookup x = some c → ((x, c) ∈ cellsFrom (s2.heap.objs.size + 1) sc.names [] ∧ sc.names.lookup x = some .cell) ∨ (env.cells.lookup x = some c ∧ sc.names.lookup x = some .free) := fun x c h => by
    have hm := mem_of_lookup h
    rw [happ] at hm
    rcases List.mem_append.mp hm with q | q
    · exact .inl ⟨q, nodup_lookup O.keys (newA x c q).2.2⟩
    · exact .inr ⟨(oldC x c q).2, nodup_lookup O.keys (e2 x c q).2⟩
  have lookFree : ∀ x, sc.names.lookup x = some .free → ∃ c, (cellsFrom (s2.heap.objs.size + 1) sc.names cl).lookup x = some c ∧ env.cells.lookup x = some c := fun x h => by
    refine el1_1 (e3 (x, .free) (mem_of_lookup h) rfl) fun c hc => ?_
    refine el1_1 (lookup_of_mem (by rw [happ]; exact List.mem_append_right _ hc : (x, c) ∈ cellsFrom (s2.heap.objs.size + 1) sc.names cl)) fun c' hc' => ?_
    refine ⟨c', hc', ?_⟩
    rcases lookNew x c' hc' with q | q
    · rw [h] at q; cases q.2
    · exact q.1
  have lookCell : ∀ x, sc.names.lookup x = some .cell → ∃ c, (cellsFrom (s2.heap.objs.size + 1) sc.names cl).lookup x = some c ∧ (x, c) ∈ cellsFrom (s2.heap.objs.size + 1) sc.names [] := fun x h => by
    refine el1_1 (cellsFrom_has sc.names (s2.heap.objs.size + 1) [] x (.inl (mem_of_lookup h))) fun c hc => ?_
    refine el1_1 (lookup_of_mem (by rw [happ]; exact List.mem_append_left _ hc : (x, c) ∈ cellsFrom (s2.heap.objs.size + 1) sc.names cl)) fun c' hc' => ?_
    refine ⟨c', hc', ?_⟩
    rcases lookNew x c' hc' with q | q
    · exact q.1
    · rw [h] at q; cases q.2
  have kindOf : ∀ x, (compE sc s2.heap.objs.size cl env).kindOf x = (relabel sc env).names.lookup x := fun x => rfl
  let Mi : List Addr := s2.heap.objs.size :: (cellsFrom (s2.heap.objs.size + 1) sc.names []).map (·.2)
  have hMi : ∀ a ∈ Mi, s2.heap.get? a = none := fun a ha => by
    rcases List.mem_cons.mp ha with z | z
    · rw [z]; exact hC
    · refine el1_2 (List.mem_map.mp z) fun p hp y3 => ?_; obtain rfl := y3
      exact (newA p.1 p.2 hp).1
  have hMi3 : ∀ a ∈ Mi, ∃ o, (pushCells (s2.heap.push dictObj) sc.names).get? a = some o := fun a ha => by
    rcases List.mem_cons.mp ha with z | z
    · rw [z]; exact ⟨_, pushCells_keeps _ _ _ _ (Heap.get?_push_size _ rfl)⟩
    · refine el1_2 (List.mem_map.mp z) fun p hp y4 => ?_; obtain rfl := y4
      refine el0_2 (ok.empty p.1 p.2 hp) fun y5 _ => ?_; refine el1_2 (y5) fun o ho _ => ?_
      exact ⟨o, ho⟩
  have wk : ∀ {v d}, Rd W s.heap v d → Rd (Mi ++ (OO ++ W)) (pushCells (s2.heap.push dictObj) sc.names) v d := fun r =>
    (r.weak (W' := Mi ++ (OO ++ W)) fun b hb => by
      rcases List.mem_append.mp hb with q | q
      · exact .inr (get_grow K (hMi b q))
      · rcases List.mem_append.mp q with q | q
        · exact .inr (hOO b q).1
        · exact .inl q).keep0 (s' := { s2 with heap := pushCells (s2.heap.push dictObj) sc.names }) K3
  have kold := S.toBase.keep0 K3
  refine ⟨Mi, hMi, fun n c h => ?_, .head _, ⟨⟨kold.base, List.mem_append_right _ (List.mem_append_right _ S.tabW), fun a ha => ?_, kold.frs⟩, ⟨O.fn, S.gl, S.bi, fun g hg => ?_⟩, fun a ha => List.mem_append_left _ ha, fun a ha => ?_,
    ⟨_, (Heap.Ns.new s2.heap (.type "dict")).keeps (pushCells_keeps _ _)⟩, .head _, fun x o hx => ?_, ?_, fun x d hx => ?_, fun x d hx => ?_, fun n c h => ?_, fun n n' c h h' => ?_, fun x hx => ?_, fun x o y d hx hy => ?_⟩⟩
  · have h' : (cellsFrom (s2.heap.objs.size + 1) sc.names cl).lookup n = some c := h
    rcases lookNew n c h' with ⟨q, _⟩ | ⟨q, _⟩
    · exact .inl (List.mem_cons_of_mem _ (List.mem_map_of_mem (f := (·.2)) q))
    · exact .inr (S.cells n c q).2.1
  · rcases List.mem_append.mp ha with q | q
    · exact hMi3 a q
    · rcases List.mem_append.mp q with q | q
      · refine el1_1 ((hOO a q).2) fun o ho => ?_; exact ⟨o, up a o ho⟩
      · exact kold.old a q
  · refine el0_2 (O.glk g hg) fun h1 h2 => ?_
    refine ⟨?_, h2⟩
    rcases relabel_look (env := env) h1 with q | ⟨q, _⟩
    · exact q
    · cases q
  · cases q : X.h0.get? a with
    | none => rfl
    | some o =>
      have hn := get_grow K (hMi a ha)
      by_cases ht : a = X.tab
      · refine el1_1 (S.old _ S.tabW) fun o' h' => ?_
        rw [← ht, hn] at h'; exact noN h'
      · rw [S.base a o ht q] at hn; cases hn
  · refine el1_2 (List.mem_map.mp hx) fun t ht e => ?_
    cases e
    refine el0_2 (O.tsk x ht) fun h1 h2 => ?_
    refine ⟨?_, h2⟩
    rcases h1 with h1 | h1
    · rcases relabel_look (env := env) h1 with q | ⟨q, _⟩
      · exact .loc q
      · cases q
    · refine el1_2 (lookCell x h1) fun c hc hm => ?_
      rcases relabel_look (env := env) h1 with q | ⟨q, _⟩
      · exact .cell c q hc (List.mem_cons_of_mem _ (List.mem_map_of_mem (f := (·.2)) hm))
      · cases q
  · rw [List.map_map]
    show (ts.map fun t => t).Nodup
    rw [List.map_id']
    exact O.tsn
  · refine el1_2 (List.mem_map.mp hx) fun t _ e => ?_
    cases e
  · refine el0_3 (O.frk x (List.mem_map_of_mem (f := (·.1)) hx)) fun h1 h2 h3 => ?_
    refine el1_2 (lookFree x h1) fun c hc hc' => ?_
    refine ⟨?_, h2, h3⟩
    have hkind : (compE sc s2.heap.objs.size cl env).kindOf x = some .free ∨ (compE sc s2.heap.objs.size cl env).kindOf x = some .cell := by
      rcases relabel_look (env := env) h1 with q | ⟨_, q⟩
      · exact .inl q
      · exact .inr q
    have hcs' := S.cs x (O.fre (x, .free) (mem_of_lookup h1) rfl)
    have fin : ∀ v, s.heap.IsCell c (some v) → Rd W s.heap v d → ∃ v, FVar (compE sc s2.heap.objs.size cl env) (pushCells (s2.heap.push dictObj) sc.names) x v ∧ Rd (Mi ++ (OO ++ W)) (pushCells (s2.heap.push dictObj) sc.names) v d :=
      fun v h4 h5 => ⟨v, ⟨hkind, c, hc, K3.cell nofun h4⟩, wk h5⟩
    rcases hfr x d hx with ⟨q, ho⟩ | q
    · refine el1_2 (S.vars x d q) fun v hv hr' => ?_
      have hr := hr'.rd ho
      rcases hv with ⟨a, _⟩ | ⟨a, c2, b, e⟩
      · rcases hcs'.1 with z | z <;> rw [a] at z <;> cases z
      · rw [hc'] at b; obtain rfl := Option.some.inj b
        exact fin v e hr
    · refine el0_2 (S.free x d q) fun y6 _ => ?_; refine el1_2 (y6) fun v y102 hr => ?_; refine el0_2 (y102) fun a y202 => ?_; obtain ⟨c2, b, e⟩ := y202
      rw [hc'] at b; obtain rfl := Option.some.inj b
      exact fin v e hr
  · have h' : (cellsFrom (s2.heap.objs.size + 1) sc.names cl).lookup n = some c := h
    rcases lookNew n c h' with ⟨q, _⟩ | ⟨q, _⟩
    · exact ⟨⟨none, (ok.empty n c q).1⟩, List.mem_append_left _ (List.mem_cons_of_mem _ (List.mem_map_of_mem (f := (·.2)) q)), Nat.ne_of_gt (newA n c q).2.1⟩
    · refine el0_3 (S.cells n c q) fun y7 b _ => ?_; refine el1_1 (y7) fun v a => ?_
      refine ⟨⟨v, K3.cell nofun a⟩, List.mem_append_right _ (List.mem_append_right _ b), fun z => ?_⟩
      refine el1_2 (a) fun o ho _ => ?_
      have hz : c = s2.heap.objs.size := z
      have := get_grow K hC
      rw [← hz, ho] at this; cases this
  · have h1 : (cellsFrom (s2.heap.objs.size + 1) sc.names cl).lookup n = some c := h
    have h2 : (cellsFrom (s2.heap.objs.size + 1) sc.names cl).lookup n' = some c := h'
    have cross : ∀ x y, (x, c) ∈ cellsFrom (s2.heap.objs.size + 1) sc.names [] → env.cells.lookup y = some c → False := fun x y q1 q2 => by
      refine el0_2 (S.cells y c q2) fun y8 _ => ?_; refine el2_2 (y8) fun v o ho _ => ?_
      have := get_grow K (newA x c q1).1
      rw [ho] at this; cases this
    rcases lookNew n c h1 with ⟨q1, _⟩ | ⟨q1, _⟩ <;> rcases lookNew n' c h2 with ⟨q2, _⟩ | ⟨q2, _⟩
    · exact name_of_addr ok.apart q1 q2
    · exact (cross _ _ q1 q2).elim
    · exact (cross _ _ q2 q1).elim
    · exact S.apart _ _ _ q1 q2
  · rcases O.csk x hx with h1 | h1
    · refine el1_2 (lookFree x h1) fun c hc _ => ?_
      refine ⟨?_, c, hc⟩
      rcases relabel_look (env := env) h1 with q | ⟨_, q⟩
      · exact .inr q
      · exact .inl q
    · refine el1_2 (lookCell x h1) fun c hc _ => ?_
      refine ⟨?_, c, hc⟩
      rcases relabel_look (env := env) h1 with q | ⟨q, _⟩
      · exact .inl q
      · cases q
  · refine el1_2 (List.mem_map.mp hx) fun t ht e => ?_
    cases e
    intro z
    subst z
    have h1 := (O.tsk _ ht).1
    have h2 := (O.frk _ (List.mem_map_of_mem (f := (·.1)) hy)).1
    rcases h1 with h1 | h1 <;> rw [h2] at h1 <;> cases h1
end
end Mine
end
noncomputable section
namespace Mine
open PySem PySem.W PySem.Calls PyProof.Rows
variable {X : Cx} {A : Around} {k : Nat} {gs gi : Gm} {σ σ' : Sto} {l r : Expr} {pos : Pos}
theorem plain_keep {B : Heap} {M : List Addr} {s s' : Shared} {D : Addr} {its : Array Value} (K : Kh B M s s') (h : D ∉ M) (l : s.heap.PlainList D its) : s'.heap.PlainList D its := let ⟨n, e⟩ := l; ⟨n, K.get h e nofun⟩
theorem nfe_some {M : Model} {A : Around} {E : Value → Shared → Prop} {s : Shared} {scope : Scope} {globals bi : Addr} {cl : List (Str × Addr)} {qual : Str} {code : Value} {env : Env} {fn : Option Addr} {Q : Env → Shared → Prop}
    (h : Q (newEnv scope s.heap.objs.size globals (cellsFrom (s.heap.objs.size + 1) scope.names cl) qual fn code (some env) bi) { s with heap := pushCells (s.heap.push dictObj) scope.names }) :
    wpAny M A (newFunctionEnv scope globals cl [] qual fn code (some env) bi) Q E s := by
  simp only [newFunctionEnv, Option.isSome_some, if_true]
  refine wpAny_bind (wpAny_alloc ?_)
  refine wpAny_bind (wpAny_layCells _ (fun name kind cells => by cases hkc : kind == NameKind.cell <;> simp) _ _ _ _ ?_)
  rw [show ({ s with heap := s.heap.push { cls := .type "dict", data := .dict #[] } } : Shared).heap.objs.size = s.heap.objs.size + 1 from Heap.size_push ..]
  refine wpAny_bind ?_
  rw [List.forIn_nil]
  exact wpAny_pure (wpAny_pure h)
structure Trs (X : Cx) (k : Nat) (gs : Gm) (σ : Sto) (ifs : List Expr) (b : Bool) : Prop where
  run : ∀ A env M W s, Room k A → St X A env gs M W σ s →
    wpAny (model X.prog X.w) A (forIn ifs true fun c r => if r = true then do let ok ← isTrue c env (eval c env); pure (ForInStep.yield ok) else pure (ForInStep.yield r)) (fun t s' => t = b ∧ Kp X.h0 [] s s') No s
theorem Trs.nil : Trs X k gs σ [] true := ⟨fun A env M W s R S => wpAny_tests_nil ⟨rfl, Kp.refl _ _⟩⟩
theorem Trs.one {c : Expr} {b : Bool} (h : Tr X k gs σ c b) : Trs X k gs σ [c] b := ⟨fun A env M W s R S => wpAny_tests_one (h.run A env M W s R S)⟩
noncomputable def Step {α : Type} (X : Cx) (k : Nat) (gi : Gm) (σ0 : Sto) (target elt : Expr) (ifs : List Expr) (xs : List α) (a : α → V) (F : α → Option V) : Prop :=
  ∀ x ∈ xs, ∃ σ1, As X k gi target (a x) σ0 σ1 ∧ Le σ1 σ0 ∧ Trs X k gi σ1 ifs (F x).isSome ∧ ∀ y, F x = some y → Ev X k gi σ1 elt y
theorem filterMap_take_succ {α β : Type} (F : α → Option β) (l : List α) (i : Nat) (v : α) (h : l[i]? = some v) : (l.take (i + 1)).filterMap F = (l.take i).filterMap F ++ (F v).toList := by
  rw [List.take_add_one, h, List.filterMap_append]
  cases hp : F v <;> simp [hp]
section
variable {env : Env} {M W : List Addr} {s : Shared} {A : Around} {α : Type} {xs : List α} {a : α → V} {F : α → Option V}
structure Blk (X : Cx) (W Mi : List Addr) (C : Addr) (s s5 : Shared) : Prop where
  kp : Kp X.h0 [] s s5
  cm : C ∈ Mi
  ns : ∃ m, s5.heap.Ns C m
  new : ∀ b ∈ Mi, s.heap.get? b = none ∧ (∃ o, s5.heap.get? b = some o) ∧ X.h0.get? b = none
theorem comp_loop {elt target iter : Expr} {ifs : List Expr} {sc : Scope} {it : Value} {s2 : Shared} {R : Result → Shared → Prop}
    (hR : Room k A) {cenv : Env} {D : Addr} {Mi own : List Addr} {σ0 : Sto} {P : Nat → Heap → Prop} (S : St X A env gs M W σ s) (K2 : Kp X.h0 [] s s2)
    (T : Itr X k (Mi ++ ((own ++ [D]) ++ W)) it own (xs.map a) P) (hP : P 0 s2.heap) (hz : xs.length ≤ sizeLine) (hMi : ∀ b ∈ Mi, s.heap.get? b = none ∧ b ∉ own ∧ b ≠ D) (hown : ∀ b ∈ own, s.heap.get? b = none) (hD : s.heap.get? D = none) (hDo : D ∉ own)
    (hc : ∀ n c, cenv.cells.lookup n = some c → c ∈ Mi ∨ c ∈ W) (hCm : cenv.locals ∈ Mi) (Si : St X A cenv gi Mi (Mi ++ ((own ++ [D]) ++ W)) σ0 s2) (hacc : s2.heap.PlainList D #[])
    (hst : Step X k gi σ0 target elt ifs xs a F)
    (h : ∀ s5, Blk X W Mi cenv.locals s s5 → Rd (Mi ++ W) s5.heap (.ref D) (.list (xs.filterMap F)) → R (.ok .next) s5) :
    codeAny (model X.prog X.w) A (.compLoop (.ListComp elt [⟨target, iter, ifs, 0⟩] sc pos) 0 it (.ref D) cenv) R s2 := by
  have oldW : ∀ b ∈ W, ∃ o, s.heap.get? b = some o := S.old
  have DW : D ∉ W := fun q => by obtain ⟨o, e⟩ := oldW _ q; rw [hD] at e; exact noN e
  have oW : ∀ b ∈ own, b ∉ W := fun b hb q => by obtain ⟨o, e⟩ := oldW _ q; rw [hown b hb] at e; exact noN e
  have h0n : ∀ b, s.heap.get? b = none → X.h0.get? b = none := fun b hb => by
    cases q : X.h0.get? b with
    | none => rfl
    | some o =>
      have ht : b ≠ X.tab := fun z => by obtain ⟨o, e⟩ := oldW _ S.tabW; rw [← z, hb] at e; exact noN e
      rw [S.base b o ht q] at hb; cases hb
  have ownOk : ∀ {s' : Shared}, (∀ b ∈ own, ∃ o, s'.heap.get? b = some o) → ∀ b ∈ own, b ∈ Mi ++ ((own ++ [D]) ++ W) ∧ X.h0.get? b = none ∧ (∃ o, s'.heap.get? b = some o) ∧ b ≠ cenv.locals ∧ (∀ n, cenv.cells.lookup n ≠ some b) ∧ NF A b ∧ b ∉ Mi := fun hl b hb =>
    ⟨T.sub b hb, h0n b (hown b hb), hl b hb, fun z => (hMi _ hCm).2.1 (z ▸ hb), fun n z => (hc n b z).elim (fun q => (hMi _ q).2.1 hb) (oW b hb), S.nf (hown b hb), fun q => (hMi _ q).2.1 hb⟩
  have DOk : ∀ {s' : Shared}, (∃ o, s'.heap.get? D = some o) → ∀ b ∈ [D], b ∈ Mi ++ ((own ++ [D]) ++ W) ∧ X.h0.get? b = none ∧ (∃ o, s'.heap.get? b = some o) ∧ b ≠ cenv.locals ∧ (∀ n, cenv.cells.lookup n ≠ some b) ∧ NF A b ∧ b ∉ Mi := fun hl b hb => by
    rw [List.mem_singleton.mp hb]
    exact ⟨List.mem_append_right _ (List.mem_append_left _ (List.mem_append_right _ (.head _))), h0n _ hD, hl, fun z => (hMi _ hCm).2.2 z.symm, fun n z => (hc n D z).elim (fun q => (hMi _ q).2.2 rfl) DW, S.nf hD, fun q => (hMi _ q).2.2 rfl⟩
  refine codeAny_loop rfl (fun n s' => ∃ i ys, n = xs.length + 1 - i ∧ i ≤ xs.length ∧ Kp X.h0 (Mi ++ (own ++ [D])) s2 s' ∧ St X A cenv gi Mi (Mi ++ ((own ++ [D]) ++ W)) σ0 s' ∧ P i s'.heap ∧ s'.heap.PlainList D ys ∧ Rds (Mi ++ ((own ++ [D]) ++ W)) s'.heap ys.toList ((xs.take i).filterMap F)) ?_
    (xs.length + 1) ⟨0, #[], rfl, Nat.zero_le _, Kp.refl _ _, Si, hP, hacc, .nil⟩
  rintro n s3 ⟨i, ys, rfl, hi, K3, S3, hP3, hl3, hr3⟩
  show wpAny _ A ((compTurn (.ListComp elt [⟨target, iter, ifs, 0⟩] sc pos) 0 it (.ref D) cenv).onRaise (fun x => do noteFrame x cenv; theTreesLotGoes x)) _ _ s3
  refine wpAny_noted ?_
  rw [compTurn_list]
  refine wpAny_bind (wpAny_standAt (wpAny_bind (wpAny_mono (T.next A i s3 hR S3.toBase hP3) ?_ (fun _ _ f => f.elim))))
  rintro r s4 ⟨k4, hr⟩
  have mo : ∀ b ∈ own, b ∈ Mi ++ (own ++ [D]) := fun b hb => List.mem_append_right _ (List.mem_append_left _ hb)
  have mD : ∀ b ∈ [D], b ∈ Mi ++ (own ++ [D]) := fun b hb => List.mem_append_right _ (List.mem_append_right _ hb)
  have mM : ∀ b ∈ Mi, b ∈ Mi ++ (own ++ [D]) := fun b hb => List.mem_append_left _ hb
  have K4 := K3.trans (k4.mono mo)
  have l4 : s4.heap.PlainList D ys := plain_keep k4.toKh hDo hl3
  cases hx : xs[i]? with
  | none =>
    have hi' : xs.length ≤ i := List.getElem?_eq_none_iff.mp hx
    rw [show (xs.map a)[i]? = none by simp [hx]] at hr
    subst hr
    have hfull : xs.take i = xs := List.take_of_length_le hi'
    rw [hfull] at hr3
    have hr4 := hr3.keep k4 T.sub
    obtain ⟨n4, e4⟩ := l4
    have DM : D ∉ Mi ++ W := fun q => (List.mem_append.mp q).elim (fun z => (hMi D z).2.2 rfl) DW
    refine wpAny_pure (h s4 ⟨(K2.nil.trans K4).fresh fun b hb => .inr ?_, hCm, ?_, fun b hb => ⟨(hMi b hb).1, ?_, h0n b (hMi b hb).1⟩⟩ (.list e4 DM (hr4.weak fun b hb => .inl ?_)))
    · rcases List.mem_append.mp hb with q | q
      · exact (hMi b q).1
      · rcases List.mem_append.mp q with q | q
        · exact hown b q
        · rw [List.mem_singleton.mp q]; exact hD
    · obtain ⟨m, h⟩ := S3.ns
      exact ⟨m, k4.ns (fun z => (hMi _ hCm).2.1 z) h⟩
    · exact k4.live (hMi b hb).2.1 (S3.old b (List.mem_append_left _ hb))
    · rcases List.mem_append.mp hb with q | q
      · exact List.mem_append_left _ q
      · exact List.mem_append_right _ (List.mem_append_right _ q)
  | some x =>
    rw [show (xs.map a)[i]? = some (a x) by simp [hx]] at hr
    obtain ⟨v, rfl, hv, hP4⟩ := hr
    have hlt : i < xs.length := (List.getElem?_eq_some_iff.mp hx).1
    have hmem : x ∈ xs := List.mem_of_getElem? hx
    have S4 := S3.keepM k4 (ownOk (T.live _ _ hP4))
    refine wpAny_bind (wpAny_mono (T.go A target (i + 1) s4 v hR S4.toBase hP4) ?_ (fun _ _ f => f.elim))
    rintro _ s5 ⟨k5, hP5⟩
    have S5 := S4.keepM k5 (ownOk (T.live _ _ hP5))
    have K5 := K4.trans (k5.mono mo)
    have l5 : s5.heap.PlainList D ys := plain_keep k5.toKh hDo l4
    obtain ⟨σ1, has, hle, hts, hel⟩ := hst x hmem
    refine wpAny_bind (wpAny_mono (has.run A cenv Mi _ s5 v hR S5 (hv.keep k5 T.sub)) ?_ (fun _ _ f => f.elim))
    rintro _ s6 ⟨S6, k6⟩
    have K6 := K5.trans (k6.mono mM)
    have DMi : D ∉ Mi := fun z => (hMi D z).2.2 rfl
    have l6 : s6.heap.PlainList D ys := plain_keep k6.toKh DMi l5
    have frameM : ∀ (j : Nat) (s s' : Shared), Kh X.h0 Mi s s' → P j s.heap → P j s'.heap := fun j s s' hk hp =>
      T.frame Mi j _ _ (fun b hb => ⟨List.mem_append_left _ hb, (hMi b hb).2.1⟩) (fun b o hb e => let ⟨o', e', q⟩ := hk.heap b o hb e; ⟨o', e', q.loose⟩) hp
    have hP6 := frameM _ _ _ k6.toKh hP5
    refine wpAny_bind (wpAny_mono (hts.run A cenv Mi _ s6 hR S6) ?_ (fun _ _ f => f.elim))
    rintro ok s7 ⟨rfl, k7⟩
    have S7 := S6.keep k7
    have K7 := K6.trans k7.nil
    have l7 : s7.heap.PlainList D ys := plain_keep k7.toKh nofun l6
    have hP7 := frameM _ _ _ k7.toKh.nil hP6
    have hr7 := (((hr3.keep k4 T.sub).keep k5 T.sub).keep k6 S5.sub).keep0 k7
    cases hF : F x with
    | none =>
      refine wpAny_pure ⟨rfl, xs.length + 1 - (i + 1), Nat.sub_lt_sub_left (Nat.lt_succ_of_lt hlt) (Nat.lt_succ_self i), i + 1, ys, rfl, hlt, K7, S7.weak hle, hP7, l7, ?_⟩
      rw [filterMap_take_succ F xs i x hx, hF]
      simpa using hr7
    | some y =>
      refine wpAny_bind (wpAny_bind (wpAny_mono ((hel y hF).run A cenv Mi _ s7 hR S7) ?_ (fun _ _ f => f.elim)))
      rintro u s8 ⟨hu, k8⟩
      have S8 := S7.keep k8
      have K8 := K7.trans k8.nil
      have l8 : s8.heap.PlainList D ys := plain_keep k8.toKh nofun l7
      have hP8 := frameM _ _ _ k8.toKh.nil hP7
      have hr8 := hr7.keep0 k8
      have hys : ys.size ≤ sizeLine := by
        have e1 := hr8.length
        have e2 : ((xs.take i).filterMap F).length ≤ (xs.take i).length := List.length_filterMap_le _ _
        have e3 : (xs.take i).length ≤ xs.length := by rw [List.length_take]; lia
        have e4 : ys.toList.length = ys.size := by simp
        lia
      refine wpAny_bind (wpAny_list_append_plain (hsz := hys) l8 fun h9 l9 hs9 => ?_)
      have k9 : Kp X.h0 [D] s8 { s8 with heap := h9 } := Kp.of fun b o hb e => (hs9.2 b (by simpa using hb)).trans e
      have S9 := S8.keepM k9 (DOk (let ⟨n, e⟩ := l9; ⟨_, e⟩))
      have subD : ∀ b ∈ [D], b ∈ Mi ++ ((own ++ [D]) ++ W) := fun b hb => by
        rw [List.mem_singleton.mp hb]
        exact List.mem_append_right _ (List.mem_append_left _ (List.mem_append_right _ (.head _)))
      have hP9 : P (i + 1) h9 := T.frame [D] (i + 1) _ _ (fun b hb => ⟨subD b hb, by rw [List.mem_singleton.mp hb]; exact hDo⟩) (fun b o hb e => let ⟨o', e', q⟩ := k9.heap b o hb e; ⟨o', e', q.loose⟩) hP8
      refine wpAny_pure (wpAny_pure ⟨rfl, xs.length + 1 - (i + 1), Nat.sub_lt_sub_left (Nat.lt_succ_of_lt hlt) (Nat.lt_succ_self i), i + 1, ys.push u, rfl, hlt, K8.trans (k9.mono mD), S9.weak hle, hP9, l9, ?_⟩)
      rw [filterMap_take_succ F xs i x hx, hF, Array.toList_push]
      exact (hr8.keep k9 subD).append (.cons (hu.keep k9 subD) .nil)
theorem comp_go {elt target iter : Expr} {ifs : List Expr} {sc : Scope} {ts : List Str} {p0 : Pos} {E : Value → Shared → Prop} {use : Option (Value → Sem Unit)} {Q : Value → Shared → Prop}
    (R : Room k A) (S : St X A env gs M W σ s) (hi : Iv X k gs σ iter (xs.map a)) (hok : compOk sc ts gi.gs (gi.fr.map (·.1)) gi.cs gs.cs = true) (hfr : ∀ y d, (y, d) ∈ gi.fr → ((y, some d) ∈ σ ∧ d.isOwn = false) ∨ (y, d) ∈ gs.fr)
    (hz : xs.length ≤ sizeLine) (hst : Step X k gi (ts.map fun t => (t, none)) target elt ifs xs a F)
    (h : ∀ C Mi D s5, Blk X W Mi C s s5 → Rd (Mi ++ W) s5.heap (.ref D) (.list (xs.filterMap F)) → compPost (model X.prog X.w) A E use Q (.ref D) C (.ok .next) s5)
    (hs : ∀ x, foldedSetIterable iter env x = pure x := by intro _; rfl) :
    wpAny (model X.prog X.w) A (comprehension (.ListComp elt [⟨target, iter, ifs, 0⟩] sc pos) sc env p0 (newList []) false (eval iter env) use) Q E s := by
  have O := compOk_of hok
  refine el1_2 (comp_env (gi := gi) S hok hfr) fun cl hcl hce => ?_
  refine wpAny_comprehension_free rfl hs hcl O.fn O.loc (wpAny_mono (hi.run A env M W s R S) ?_ (fun _ _ f => f.elim))
  intro x s1 y10; refine el0_2 (y10) fun k1 h1 => ?_
  refine wpAny_mono h1 ?_ (fun _ _ f => f.elim)
  intro it s2 y11; refine el0_2 (y11) fun k2 y12 => ?_; refine el2_2 (y12) fun own P hown hits => ?_
  refine wpAny_newObj_type (nfe_some ?_)
  have hD2 := get_new s2.heap
  have hD : s.heap.get? s2.heap.objs.size = none := get_grow k2 hD2
  generalize hs3 : ({ s2 with heap := s2.heap.push { cls := .type "list", dict := none, data := .seq ([] : List Value).toArray } } : Shared) = s3
  have k23 : Kp X.h0 [] s2 s3 := by subst hs3; exact Kp.push _ _
  have e3 : s3.heap.get? s2.heap.objs.size = some { cls := .type "list", dict := none, data := .seq #[] } := by subst hs3; exact Heap.get?_push_size _ rfl
  have k3 := k2.trans k23
  have hP2 : ∀ b ∈ own, ∃ o, s2.heap.get? b = some o := by
    refine el0_2 (hits (own ++ W) (fun b h => List.mem_append_left _ h) (fun b h => List.mem_append_right _ h) (fun b h => (List.mem_append.mp h).elim .inl fun q => .inr (.inl q))) fun T0 hP0 => ?_
    exact T0.live _ _ hP0
  have hDo : s2.heap.objs.size ∉ own := fun q => by refine el1_1 (hP2 _ q) fun o e => ?_; rw [hD2] at e; exact noN e
  obtain ⟨Mi, hMi, hc, hCm, Si⟩ := hce s3 (own ++ [s2.heap.objs.size]) k3 fun b hb => by
    rcases List.mem_append.mp hb with q | q
    · exact ⟨hown b q, k23.live nofun (hP2 b q)⟩
    · rw [List.mem_singleton.mp q]; exact ⟨hD, _, e3⟩
  have hMi2 : ∀ b ∈ Mi, s2.heap.get? b = none := fun b hb => get_grow k23 (hMi b hb)
  generalize hs4 : ({ s3 with heap := pushCells (s3.heap.push dictObj) sc.names } : Shared) = s4 at Si ⊢
  have k34 : Kp X.h0 [] s3 s4 := by subst hs4; exact Kp.of fun b o _ e => pushCells_keeps _ _ _ _ (Heap.get?_push_of_some _ e)
  obtain ⟨T, hP⟩ := hits (Mi ++ ((own ++ [s2.heap.objs.size]) ++ W)) (fun b h => List.mem_append_right _ (List.mem_append_left _ (List.mem_append_left _ h))) (fun b h => List.mem_append_right _ (List.mem_append_right _ h)) fun b h => by
    rcases List.mem_append.mp h with q | q
    · exact .inr (.inr (hMi2 b q))
    · rcases List.mem_append.mp q with q | q
      · rcases List.mem_append.mp q with q | q
        · exact .inl q
        · rw [List.mem_singleton.mp q]; exact .inr (.inr hD2)
      · exact .inr (.inl q)
  have hP4 := T.frame [] 0 _ s4.heap (fun b hb => nomatch hb) (fun b o _ e => let ⟨o', e', q⟩ := (k23.trans k34).heap b o nofun e; ⟨o', e', q.loose⟩) hP
  have hMi4 : ∀ b ∈ Mi, s.heap.get? b = none ∧ b ∉ own ∧ b ≠ s2.heap.objs.size := by
    intro b hb
    refine ⟨get_grow k2 (hMi2 b hb), fun q => ?_, fun q => ?_⟩
    · refine el1_1 (hP2 b q) fun o e => ?_
      rw [hMi2 b hb] at e; exact noN e
    · have := hMi b hb
      rw [q, e3] at this; cases this
  have loop := comp_loop (ifs := ifs) (elt := elt) (iter := iter) (sc := sc) (pos := pos) (σ0 := ts.map fun t => (t, none)) R S (k3.trans k34) T hP4 hz hMi4 hown hD hDo hc hCm Si
    ⟨0, k34.get nofun e3 nofun⟩ hst (R := fun r s' => compPost (model X.prog X.w) A E use Q (.ref s2.heap.objs.size) s3.heap.objs.size r s') fun s5 B r => h _ _ _ s5 B r
  subst hs4
  subst hs3
  refine codeAny_compStart_list ?_ ?_
  · exact loop
  · exact T.self A 0 _ _ _ R hP4 loop
end
section
variable {α : Type} {xs : List α} {a : α → V} {F : α → Option V} {elt target iter : Expr} {ifs : List Expr} {sc : Scope} {ts : List Str}
theorem Ev.comp (gi : Gm) (ts : List Str) (xs : List α) (a : α → V) (F : α → Option V) (hi : Iv X k gs σ iter (xs.map a)) (hst : Step X k gi (ts.map fun t => (t, Option.none)) target elt ifs xs a F)
    (hok : compOk sc ts gi.gs (gi.fr.map (·.1)) gi.cs gs.cs = true) (hfr : ∀ y d, (y, d) ∈ gi.fr → ((y, some d) ∈ σ ∧ d.isOwn = false) ∨ (y, d) ∈ gs.fr)
    (hz : xs.length ≤ sizeLine) (hs : ∀ env x, foldedSetIterable iter env x = pure x := by intro _ _; rfl) : Ev X k gs σ (.ListComp elt [⟨target, iter, ifs, 0⟩] sc pos) (.list (xs.filterMap F)) := by
  refine ⟨?_⟩
  intro A env M W s R S
  rw [eval_ListComp]
  refine comp_go (use := Option.none) (gi := gi) (ts := ts) R S hi hok hfr hz hst ?_ (hs env)
  intro C Mi D s5 B r
  refine el1_1 (B.ns) fun m hm => ?_
  refine ⟨m, hm, fun h' hh => ?_⟩
  have k1 : Kp X.h0 [C] s5 { s5 with heap := h' } := Kp.of fun b o hb e => (hh.2 b (by simpa using hb)).trans e
  have r1 := (r.keep k1 fun b hb => List.mem_append_left _ (by rw [List.mem_singleton.mp hb]; exact B.cm)).weak (W' := W) fun b hb => .inl (List.mem_append_right _ hb)
  exact ⟨r1, (B.kp.nil.trans k1).fresh fun b hb => .inr (by rw [List.mem_singleton.mp hb]; exact (B.new _ B.cm).1)⟩
theorem Es.asgC (gi : Gm) (ts : List Str) (xs : List α) (a : α → V) (F : α → Option V) {x : Str} {p : Pos} {Q : Res → Prop} {cp : Pos} (hi : Iv X k gs σ iter (xs.map a)) (hst : Step X k gi (ts.map fun t => (t, none)) target elt ifs xs a F) (hu : Upd x (.list (xs.filterMap F)) σ σ') (hq : Q (.next σ'))
    (hok : compOk sc ts gi.gs (gi.fr.map (·.1)) gi.cs gs.cs = true) (hfr : ∀ y d, (y, d) ∈ gi.fr → ((y, some d) ∈ σ ∧ d.isOwn = false) ∨ (y, d) ∈ gs.fr)
    (hz : xs.length ≤ sizeLine) (hs : ∀ env x, foldedSetIterable iter env x = pure x := by intro _ _; rfl)
    (hw : ∀ env, ∃ b, swapsWith (.ListComp elt [⟨target, iter, ifs, 0⟩] sc cp) (some (.Name x p)) pos.line env = pure b := by intro _; exact ⟨_, rfl⟩) :
    Es X k gs σ (.Assign [.Name x p] (.ListComp elt [⟨target, iter, ifs, 0⟩] sc cp) pos) Q := by
  refine ⟨?_⟩
  intro A env M W s R Ow S
  obtain ⟨b, hb⟩ := hw env
  cases b with
  | false =>
    refine wpAny_Assign_Name (wpAny_mono ((Ev.comp gi ts xs a F hi hst hok hfr hz hs).run A env M W s R S) ?_ (fun _ _ f => f)) hb
    rintro v s1 ⟨hr, k1⟩
    refine wpAny_mono ((S.keep k1).store hr hu) ?_ (fun _ _ f => f)
    rintro _ s2 ⟨S2, k2⟩
    exact ⟨k1.nil.trans k2, _, hq, rfl, S2⟩
  | true =>
    rw [exec_Assign_Name_used _ _ _ _ hb]
    refine wpAny_bind (wpAny_standAt (wpAny_bind ?_))
    show wpAny _ A (do let _ ← comprehension (.ListComp elt [⟨target, iter, ifs, 0⟩] sc cp) sc env _ (newList []) false (eval iter env) (some (assign (.Name x p) env))) _ _ s
    refine wpAny_bind (wpAny_mono (comp_go (use := some (assign (.Name x p) env)) (Q := fun _ s' => Fin' X A env gs M W s Q .next s') (gi := gi) (ts := ts) R S hi hok hfr hz hst ?_ (hs env)) (fun _ s' hq => wpAny_pure (wpAny_pure hq)) fun _ _ e => e)
    intro C Mi D s5 B r
    have S5 : St X A env gs M (Mi ++ W) σ s5 := (S.keep B.kp).wide (fun b hb => (B.new b hb).2.1) s (fun b hb => (B.new b hb).1) S B.kp
    show wpAny _ A (assign (.Name x p) env (.ref D)) _ _ _
    refine wpAny_mono ((As.name hu).run A env M (Mi ++ W) s5 _ R S5 r) ?_ (fun _ _ f => f.elim)
    rintro _ s6 ⟨S6, k6⟩
    have nW : ∀ b ∈ Mi, b ∉ W := fun b hb q => by obtain ⟨o, e⟩ := S.old b q; rw [(B.new b hb).1] at e; exact noN e
    obtain ⟨m, hm⟩ := B.ns
    refine ⟨m, k6.ns (fun q => nW _ B.cm (S.sub _ q)) hm, fun h' hh => ?_⟩
    have k7 : Kp X.h0 [C] s6 { s6 with heap := h' } := Kp.of fun b o hb e => (hh.2 b (by simpa using hb)).trans e
    have k7' : Kp X.h0 Mi s6 { s6 with heap := h' } := k7.mono fun b hb => by rw [List.mem_singleton.mp hb]; exact B.cm
    have S7 : St X A env gs M W σ' { s6 with heap := h' } := S6.keepN k7' S.sub S.tabW (fun n c hc => (S.cells n c hc).2.1) fun b hb => ⟨nW b hb, (B.new b hb).2.2, S.nf (B.new b hb).1⟩
    have K : Kp X.h0 (M ++ Mi) s { s6 with heap := h' } := (B.kp.nil.trans (k6.mono fun b hb => List.mem_append_left _ hb)).trans (k7'.mono fun b hb => List.mem_append_right _ hb)
    exact ⟨K.fresh fun b hb => (List.mem_append.mp hb).elim .inl fun q => .inr (B.new b q).1, _, hq, rfl, S7⟩
end
end Mine
end
noncomputable section
namespace Mine
open PySem PySem.W PySem.Calls PyProof.Rows
variable {X : Cx} {A : Around} {k : Nat} {gs gi : Gm} {σ σ' : Sto} {l r : Expr} {pos : Pos}
structure FnAt (X : Cx) (a : Addr) (fd : FuncData) : Prop where
  obj : ∃ o, X.h0.get? a = some o ∧ o.data = .func fd
  ne : a ≠ X.tab
  gl : fd.globals = mainGlobals
  bi : fd.builtins = builtinsNs
  clo : fd.closure = []
  code : ∃ c, fd.code = .ref c ∧ c ≠ X.tab
  crec : X.h0.CodeRec fd.code fd.qualname
theorem FnAt.callable {a : Addr} {fd : FuncData} (F : FnAt X a fd) : Callable X (.ref a) := let ⟨o, h1, h2⟩ := F.obj; .fn h1 h2 F.ne
noncomputable def fnOk (sc : Scope) (ns ls gl cs : List Str) : Bool :=
  sc.kind == .function && !sc.isCoroutine && !sc.isGenerator && (ns ++ ls).all (fun t => (sc.names.lookup t == some .local || sc.names.lookup t == some .cell) && !(t == ("__debug__" : Str))) && decide (ns ++ ls).Nodup &&
  gl.all (fun g => sc.names.lookup g == some .globalImplicit && !(g == ("__debug__" : Str))) && cs.all (fun y => sc.names.lookup y == some .cell)
structure FnOk0 (sc : Scope) (ns ls gl cs : List Str) : Prop where
  fn : sc.kind = .function
  co : sc.isCoroutine = false
  nsk : ∀ t ∈ ns ++ ls, (sc.names.lookup t = some .local ∨ sc.names.lookup t = some .cell) ∧ (t == ("__debug__" : Str)) = false
  nsn : (ns ++ ls).Nodup
  glk : ∀ g ∈ gl, sc.names.lookup g = some .globalImplicit ∧ (g == ("__debug__" : Str)) = false
  csk : ∀ y ∈ cs, sc.names.lookup y = some .cell
structure FnOk (sc : Scope) (ns ls gl cs : List Str) : Prop extends FnOk0 sc ns ls gl cs where
  ge : sc.isGenerator = false
theorem fnOk_of {sc : Scope} {ns ls gl cs : List Str} (h : fnOk sc ns ls gl cs = true) : FnOk sc ns ls gl cs := by
  simp only [fnOk, Bool.and_eq_true, List.all_eq_true, Bool.or_eq_true, beq_iff_eq, Bool.not_eq_true', decide_eq_true_eq] at h
  refine el0_2 (h) fun y1 h7 => ?_; refine el0_2 (y1) fun y101 h6 => ?_; refine el0_2 (y101) fun y201 h5 => ?_; obtain ⟨⟨⟨h1, h2⟩, h3⟩, h4⟩ := y201
  exact ⟨⟨h1, h2, fun t ht => h4 t ht, h5, fun g hg => h6 g hg, fun y hy => h7 y hy⟩, h3⟩
theorem bindL_keep {kd : Str → Option NameKind} : ∀ {binds : List (Str × Value)} {m : Str → Option Value} {x : Str}, x ∉ binds.map (·.1) → bindL kd binds m x = m x
  | [], _, _, _ => rfl
  | (n, v) :: r, m, x, h => by
    unfold bindL
    rw [bindL_keep fun q => h (by simp at q ⊢; exact .inr q)]
    split
    · have : x ≠ n := fun q => h (by simp [q])
      simp [this]
    · rfl
theorem bindC_keep {kd : Str → Option NameKind} : ∀ {binds : List (Str × Value)} {m : Str → Option Value} {x : Str}, x ∉ binds.map (·.1) → bindC kd binds m x = m x
  | [], _, _, _ => rfl
  | (n, v) :: r, m, x, h => by
    unfold bindC
    rw [bindC_keep fun q => h (by simp at q ⊢; exact .inr q)]
    split
    · rfl
    · have : x ≠ n := fun q => h (by simp [q])
      simp [this]
theorem bindL_at {kd : Str → Option NameKind} {binds : List (Str × Value)} {m : Str → Option Value} {x : Str} {v : Value} (hn : (binds.map (·.1)).Nodup) (h : (x, v) ∈ binds) (hk : kd x = some .local) : bindL kd binds m x = some v := by
  induction binds generalizing m with
  | nil => exact noM h
  | cons p r i =>
    have hn := List.nodup_cons.mp hn
    unfold bindL
    refine (List.mem_cons.mp h).elim (fun q => ?_) fun q => i hn.2 q
    subst q
    rw [bindL_keep hn.1, if_pos hk]; simp
theorem bindC_at {kd : Str → Option NameKind} {binds : List (Str × Value)} {m : Str → Option Value} {x : Str} {v : Value} (hn : (binds.map (·.1)).Nodup) (h : (x, v) ∈ binds) (hk : kd x = some .cell) : bindC kd binds m x = some v := by
  induction binds generalizing m with
  | nil => exact noM h
  | cons p r i =>
    have hn := List.nodup_cons.mp hn
    unfold bindC
    refine (List.mem_cons.mp h).elim (fun q => ?_) fun q => i hn.2 q
    subst q
    rw [bindC_keep hn.1, if_neg (by rw [hk]; decide)]; simp
theorem rds_mem {W : List Addr} {h : Heap} {ns : List Str} {vs : List Value} {ds : List V} {x : Str} {d : V} (r : Rds W h vs ds) (q : (x, d) ∈ ns.zip ds) : ∃ v, (x, v) ∈ ns.zip vs ∧ Rd W h v d := by
  induction ns generalizing vs ds with
  | nil => exact noM q
  | cons n ns i => exact r.ind (P := fun vs ds => Rds W h vs ds → (x, d) ∈ (n :: ns).zip ds → ∃ v, (x, v) ∈ (n :: ns).zip vs ∧ Rd W h v d) (fun _ q => noM q) (fun {v _ _ _} a r _ _ q => (List.mem_cons.mp q).elim (fun z => by obtain ⟨rfl, rfl⟩ := Prod.mk.inj z; exact ⟨v, .head _, a⟩) fun z => (i r z).imp fun _ y => ⟨.tail _ y.1, y.2⟩) r q
noncomputable abbrev fnSto (ns ls : List Str) (ds : List V) : Sto := (ns.zip (ds.map some)) ++ ls.map fun x => (x, none)
theorem call_env0 {a : Addr} {fd : FuncData} {W : List Addr} {s s1 : Shared} {ns ls gl cs : List Str} {vs : List Value} {ds : List V} (F : FnAt X a fd) (B : Base X A W s) (O : FnOk0 fd.scope ns ls gl cs) (hl : ns.length = ds.length) (rd : Rds W s.heap vs ds)
    (hin : InCallC s (callEnvC fd s.heap.objs.size a).locals (bindL (callEnvC fd s.heap.objs.size a).kindOf (ns.zip vs) fun _ => none) (callEnvC fd s.heap.objs.size a).cells (bindC (callEnvC fd s.heap.objs.size a).kindOf (ns.zip vs) fun _ => none) s1) :
    Kp X.h0 [] s s1 ∧ ∃ M, (∀ b ∈ M, s.heap.get? b = none) ∧ St X (A.deeper (callEnvC fd s.heap.objs.size a)) (callEnvC fd s.heap.objs.size a) ⟨gl, [], cs⟩ M (M ++ W) (fnSto ns ls ds) s1 ∧ ∀ n c, (callEnvC fd s.heap.objs.size a).cells.lookup n = some c → c ∈ M := by
  have hlen : vs.length = ns.length := by rw [rd.length, hl]
  have hfst : (ns.zip vs).map (·.1) = ns := List.map_fst_zip (Nat.le_of_eq hlen.symm)
  have hnd : ns.Nodup := (List.nodup_append.mp O.nsn).1
  have K : Kp X.h0 [] s s1 := by
    refine el2_1 (hin.toInCall.same) fun h' tk y2 => ?_; obtain rfl := y2
    exact Kp.of fun b o _ e => hin.toInCall.keep b o e
  refine ⟨K, ?_⟩
  let cells := (callEnvC fd s.heap.objs.size a).cells
  have hcells : cells = cellsFrom (s.heap.objs.size + 1) fd.scope.names [] := rfl
  let M : List Addr := s.heap.objs.size :: cells.filterMap fun y => cells.lookup y.1
  have inM : ∀ n c, cells.lookup n = some c → c ∈ M := fun n c h => List.mem_cons_of_mem _ (List.mem_filterMap.mpr ⟨(n, c), mem_of_lookup h, h⟩)
  have newc : ∀ n c, cells.lookup n = some c → s.heap.get? c = none ∧ s.heap.objs.size < c := fun n c h => by
    have h1 : s.heap.objs.size < c := hin.above n c (mem_of_lookup h)
    refine ⟨?_, h1⟩
    cases e : s.heap.get? c with
    | none => rfl
    | some o => exact absurd (Heap.lt_size e) (Nat.not_lt.mpr (Nat.le_of_lt h1))
  have hM : ∀ b ∈ M, s.heap.get? b = none := fun b hb => by
    rcases List.mem_cons.mp hb with z | z
    · rw [z]; exact get_new _
    · refine el1_2 (List.mem_filterMap.mp z) fun y _ hy => ?_
      exact (newc _ _ hy).1
  have hM1 : ∀ b ∈ M, ∃ o, s1.heap.get? b = some o := fun b hb => by
    rcases List.mem_cons.mp hb with z | z
    · refine el3_2 (hin.toInCall.ns) fun o _ _ e _ => ?_
      rw [z]; exact ⟨o, e⟩
    · refine el1_2 (List.mem_filterMap.mp z) fun y _ hy => ?_
      refine el1_2 (hin.cell _ _ hy) fun o e _ => ?_
      exact ⟨o, e⟩
  have wk : ∀ {v d}, Rd W s.heap v d → Rd (M ++ W) s1.heap v d := fun r => (r.weak (W' := M ++ W) fun b hb => (List.mem_append.mp hb).elim (fun z => .inr (hM b z)) .inl).keep0 K
  have look : ∀ x, fd.scope.names.lookup x = some .cell → ∃ c, cells.lookup x = some c := fun x h => by
    refine el1_1 (cellsFrom_has fd.scope.names (s.heap.objs.size + 1) [] x (.inl (mem_of_lookup h))) fun c hc => ?_
    exact lookup_of_mem hc
  have place : ∀ x, fd.scope.names.lookup x = some .local ∨ fd.scope.names.lookup x = some .cell → Loc (callEnvC fd s.heap.objs.size a) M x := fun x h => by
    rcases h with h | h
    · exact .loc h
    · refine el1_1 (look x h) fun c hc => ?_
      exact .cell c h hc (inM x c hc)
  have memσ : ∀ x o, (x, o) ∈ fnSto ns ls ds → x ∈ ns ++ ls := fun x o h => by
    rcases List.mem_append.mp h with q | q
    · exact List.mem_append_left _ (List.of_mem_zip q).1
    · refine el1_2 (List.mem_map.mp q) fun y hy e => ?_
      cases e
      exact List.mem_append_right _ hy
  refine ⟨M, hM, ⟨⟨(B.keep0 K).base, List.mem_append_right _ B.tabW, fun b hb => ?_, ?_⟩, ⟨O.fn, F.gl, F.bi, fun g hg => O.glk g hg⟩, fun b hb => List.mem_append_left _ hb, fun b hb => ?_, ⟨_, hin.toInCall.ns⟩, .head _, fun x o hx => ?_, ?_, fun x d hx => ?_, fun x d hx => (nomatch hx),
    fun n c h => ?_, fun n n' c h h' => name_of_addr hin.apart (mem_of_lookup h) (mem_of_lookup h'), fun x hx => ?_, fun x o y d _ hy => (nomatch hy)⟩, inM⟩
  · rcases List.mem_append.mp hb with q | q
    · exact hM1 b q
    · exact K.live nofun (B.old b q)
  · refine el1_2 ((B.keep0 K).frs) fun l hl' hf => ?_
    refine ⟨_, Around.frames_deeper hl', fun e he => ?_⟩
    rcases List.mem_cons.mp he with rfl | he
    · refine ⟨by show fd.scope.kind ≠ _; rw [O.fn]; decide, s.heap.objs.size, rfl, ⟨?_, fun q => ?_⟩, _, hin.toInCall.ns⟩
      · cases q : X.h0.get? s.heap.objs.size with
        | none => rfl
        | some o =>
          by_cases ht : s.heap.objs.size = X.tab
          · refine el1_1 (B.old _ B.tabW) fun o' h' => ?_
            rw [← ht, get_new] at h'; exact noN h'
          · have := B.base _ o ht q
            rw [get_new] at this; exact noN this
      · refine el1_1 (B.old _ B.tabW) fun o' h' => ?_
        rw [← q, get_new] at h'; exact noN h'
    · exact hf e he
  · cases q : X.h0.get? b with
    | none => rfl
    | some o =>
      have hn := hM b hb
      by_cases ht : b = X.tab
      · refine el1_1 (B.old _ B.tabW) fun o' h' => ?_
        rw [← ht, hn] at h'; exact noN h'
      · rw [B.base b o ht q] at hn; cases hn
  · refine el0_2 (O.nsk x (memσ x o hx)) fun h1 h2 => ?_
    exact ⟨place x h1, h2⟩
  · have : (fnSto ns ls ds).map (·.1) = ns ++ ls := by
      rw [List.map_append, List.map_fst_zip (by rw [List.length_map, hl]; exact Nat.le_refl _), List.map_map]
      congr 1
      exact List.map_id' _
    rw [this]; exact O.nsn
  · have hx' : (x, d) ∈ ns.zip ds := by
      rcases List.mem_append.mp hx with q | q
      · rw [List.zip_map_right] at q
        refine el1_2 (List.mem_map.mp q) fun y hy e => ?_
        cases e; exact hy
      · refine el1_2 (List.mem_map.mp q) fun y hy e => ?_
        cases e
    refine el1_2 (rds_mem rd hx') fun v hv hr => ?_
    refine ⟨v, ?_, .data (wk hr)⟩
    have h1 := (O.nsk x (List.mem_append_left _ (List.of_mem_zip hx').1)).1
    rcases h1 with h1 | h1
    · exact .inl ⟨h1, _, hin.toInCall.ns, bindL_at (by rw [hfst]; exact hnd) hv h1⟩
    · refine el1_1 (look x h1) fun c hc => ?_
      have := hin.cell x c hc
      rw [bindC_at (by rw [hfst]; exact hnd) hv h1] at this
      exact .inr ⟨h1, c, hc, this⟩
  · exact ⟨⟨_, hin.cell n c h⟩, List.mem_append_left _ (inM n c h), Nat.ne_of_gt (newc n c h).2⟩
  · refine el1_1 (look x (O.csk x hx)) fun c hc => ?_
    exact ⟨.inl (O.csk x hx), c, hc⟩
theorem call_env {a : Addr} {fd : FuncData} {W : List Addr} {s s1 : Shared} {ns ls gl cs : List Str} {vs : List Value} {ds : List V} (F : FnAt X a fd) (B : Base X A W s) (hok : fnOk fd.scope ns ls gl cs = true) (hl : ns.length = ds.length) (rd : Rds W s.heap vs ds)
    (hin : InCallC s (callEnvC fd s.heap.objs.size a).locals (bindL (callEnvC fd s.heap.objs.size a).kindOf (ns.zip vs) fun _ => none) (callEnvC fd s.heap.objs.size a).cells (bindC (callEnvC fd s.heap.objs.size a).kindOf (ns.zip vs) fun _ => none) s1) :
    Kp X.h0 [] s s1 ∧ ∃ M, (∀ b ∈ M, s.heap.get? b = none) ∧ St X (A.deeper (callEnvC fd s.heap.objs.size a)) (callEnvC fd s.heap.objs.size a) ⟨gl, [], cs⟩ M (M ++ W) (fnSto ns ls ds) s1 :=
  let ⟨a, M, b, c, _⟩ := call_env0 F B (fnOk_of hok).toFnOk0 hl rd hin; ⟨a, M, b, c⟩
theorem Kp.inner {M : List Addr} {s s1 s2 : Shared} (K : Kp X.h0 [] s s1) (K2 : Kp X.h0 M s1 s2) (h : ∀ b ∈ M, s.heap.get? b = none) : Kp X.h0 [] s s2 := (K.nil.trans K2).fresh fun b hb => .inr (h b hb)
noncomputable abbrev Rets (d : V) : Res → Prop
  | .ret e => e = d
  | .next _ => d = .none
  | _ => False
theorem OpN.fn {a : Addr} {fd : FuncData} {ns ls gl cs : List Str} {ds0 ds : List V} {d : V} {body : List Stmt} (O : XOk X) (F : FnAt X a fd)
    (hb : ∀ A W s vs, Base X A W s → Rds W s.heap vs ds0 → ∃ vs', BindsTo s fd ⟨vs, []⟩ (ns.zip vs') ∧ Rds W s.heap vs' ds)
    (hbody : fd.body = .stmts body) (hok : fnOk fd.scope ns ls gl cs = true) (hl : ns.length = ds.length)
    (h : Ex X k ⟨gl, [], cs⟩ (fnSto ns ls ds) body (Rets d)) : OpN X (k + 1) (.ref a) ds0 d := by
  refine ⟨?_⟩
  intro A W s vs R B rd
  have Ok := fnOk_of hok
  obtain ⟨o, ho, hd⟩ := F.obj
  obtain ⟨c, hc, hct⟩ := F.code
  have hcd : s.heap.CodeRec fd.code fd.qualname := by
    have := F.crec
    rw [hc] at this ⊢
    obtain ⟨c', o', vs', t, e1, e2, e3, e4⟩ := this
    obtain rfl := Value.ref.inj e1
    exact ⟨c, o', vs', t, rfl, B.base _ _ hct e2, e3, e4⟩
  obtain ⟨vs', hbt, rd'⟩ := hb A W s vs B rd
  refine wpAny_call ?_
  refine codeAny_call_function (by have := R.depth; omega) (B.base _ _ F.ne ho) hd Ok.co Ok.ge hbody hcd (hbt _ _ _ _ ?_)
  rw [F.clo]
  have hlen : vs'.length = ns.length := by rw [rd'.length, hl]
  refine wpAny_newFunctionEnv_cells Ok.fn (fun x hx => ?_) fun env he s1 x => ?_
  · obtain ⟨h1, _⟩ := Ok.nsk x.1 (List.mem_append_left _ (List.of_mem_zip (a := x.1) (b := x.2) hx).1)
    rcases h1 with h1 | h1
    · exact .inl h1
    · obtain ⟨c, hc⟩ := cellsFrom_has fd.scope.names (s.heap.objs.size + 1) [] x.1 (.inl (mem_of_lookup h1))
      obtain ⟨c', hc'⟩ := lookup_of_mem hc
      exact .inr ⟨h1, by rw [hc']; rfl⟩
  · subst he
    obtain ⟨K1, M, hM, S1⟩ := call_env F B hok hl rd' x
    refine ⟨(B.keep0 K1).lim O, codeAny_func ?_⟩
    refine wpAny_mono (h.run _ _ M (M ++ W) s1 (R.deeper _) ⟨let ⟨l, hl, _⟩ := B.frs; ⟨l, Around.frames_deeper hl⟩, ⟨_, rfl⟩⟩ S1) ?_ (fun _ _ f => f.elim)
    rintro f s2 ⟨k2, r, hq, hh⟩
    have K2 : Kp X.h0 [] s s2 := K1.inner k2 hM
    cases r with
    | ret e =>
      obtain ⟨v, rfl, hv⟩ := hh
      have e1 : e = d := hq
      subst e1
      cases hv with
      | data r => exact ⟨r.weak fun b hb => .inl (List.mem_append_right _ hb), K2⟩
      | own l m r => exact ⟨.list l (fun q => by obtain ⟨o, e⟩ := B.old _ q; rw [hM _ m] at e; exact noN e) (r.weak fun b hb => .inl (List.mem_append_right _ hb)), K2⟩
    | next σ2 =>
      obtain ⟨rfl, S2⟩ := hh
      have e1 : d = .none := hq
      subst e1
      exact ⟨.none, K2⟩
    | brk σ2 => exact hq.elim
    | cont σ2 => exact hq.elim
end Mine
end
noncomputable section
namespace Mine
open PySem PySem.W PySem.Calls PyProof.Rows
variable {X : Cx} {A : Around} {k : Nat} {gs gi : Gm} {σ σ' : Sto} {l r : Expr} {pos : Pos}
noncomputable abbrev txt (l : List Nat) : Str := ⟨l.toArray⟩
noncomputable abbrev T (l : List Nat) : V := .str (txt l)
theorem txt_append (a b : List Nat) : txt a ++ txt b = txt (a ++ b) := by
  show Str.mk (a.toArray ++ b.toArray) = _
  simp
theorem txt_length (a : List Nat) : (txt a).length = a.length := by
  show (a.toArray).size = _
  simp
theorem txt_inj {a b : List Nat} : (txt a = txt b) ↔ a = b := by
  constructor
  · intro h
    have : a.toArray = b.toArray := congrArg Str.cps h
    simpa using this
  · intro h; rw [h]
theorem Ev.txt {i : Str} {n : Nat} {p : Pos} (l : List Nat) (h : i = Mine.txt l := by with_unfolding_all rfl) : Ev X k gs σ (.Constant (.str i) n p) (T l) := h ▸ Ev.str
theorem Op2.addt {a b : List Nat} (h : a.length + b.length ≤ sizeLine) : Op2 X k (binaryOp .Add) (T a) (T b) (T (a ++ b)) := by
  have := Op2.adds (X := X) (k := k) (x := Mine.txt a) (y := Mine.txt b) (by rw [txt_append, txt_length, List.length_append]; exact h)
  rwa [txt_append] at this
theorem foldl_rep (c : Nat) : ∀ (n : Nat) (acc : Array Nat), (List.replicate n #[c]).foldl (· ++ ·) acc = acc ++ (List.replicate n c).toArray
  | 0, acc => by simp
  | n + 1, acc => by
    rw [List.replicate_succ, List.foldl_cons, foldl_rep c n, List.replicate_succ]
    apply Array.ext'
    simp
theorem mul_one_sign (c : Nat) (n : Int) : Txt.mul ⟨#[c]⟩ n = txt (List.replicate n.toNat c) := by
  unfold Txt.mul
  by_cases h : n < 1
  · rw [if_pos h]
    have : n.toNat = 0 := by lia
    rw [this]; rfl
  · rw [if_neg h]
    split
    · rename_i h1
      have : n = 1 := by
        rcases Bool.or_eq_true _ _ ▸ h1 with q | q
        · exact beq_iff_eq.mp q
        · have this : ((1 : Nat) == 0) = true := q
          cases this
      subst this; rfl
    · show Str.mk _ = Str.mk _
      rw [foldl_rep]
      simp
theorem Op2.mulc {c : Nat} {n : Int} (h0 : -(2 ^ 62 : Int) ≤ n) (h1 : n ≤ 16777216) : Op2 X k (binaryOp .Mult) (T [c]) (.int n) (T (List.replicate n.toNat c)) := by
  refine ⟨?_⟩
  intro A W s v w R B z0 z1; obtain ⟨_, rfl⟩ := Rd.strI z0; obtain ⟨_, rfl⟩ := Rd.intI z1
  refine SB.mul (mulOk_of 1 16777216 (Nat.le_refl 1) (by lia) (by lia) (Nat.le_refl _) (by decide)) fun t' k => ?_
  show Out _ _ _ _ (.str (Txt.mul ⟨#[c]⟩ n) t') _
  rw [mul_one_sign]
  exact ⟨.str _ _, Kp.toks _ _⟩
theorem Op2.eqt {a b : List Nat} : Op2 X k (compareOp .Eq) (T a) (T b) (.bool (decide (a = b))) := by
  have := Op2.eqs (X := X) (k := k) (x := txt a) (y := txt b)
  rwa [show decide (txt a = txt b) = decide (a = b) from decide_eq_decide.mpr txt_inj] at this
structure MethS (name : Str) (id : String) : Prop where
  slot : Slot "str" name id
  ty : typeOf (.builtin id) = pure (.type "method_descriptor")
theorem MethS.join : MethS "join" "str.join" := ⟨F.slot_str_join, F.type_str_join⟩
theorem MethS.split : MethS "split" "str.split" := ⟨F.slot_str_split, F.type_str_split⟩
theorem Ev.meth {o : Expr} {es : List Expr} {ds : List V} {name : Str} {id : String} {apos : Pos} {x : Str} {d : V} (m : MethS name id) (ho : Ev X k gs σ o (.str x)) (ha : Evs X k gs σ es ds) (h : OpN X k (.builtin id) (.str x :: ds) d)
    (hb : ∀ env, attributeBase o name env (eval o env) = eval o env := by intro _; rfl)
    (hf : ∀ env, ((backTo pos (starEach es env)).all (fun x => !x.1) && (backToKw pos (keywordEach [] env)).all (fun x => x.1.isSome)
      && decide (es.length + ([] : List Keyword).length + (if ([] : List Keyword).isEmpty then 0 else 1) < 30)) = true := by intro _; rfl)
    (hl : (apos.endLine == pos.line) = true := by rfl) (hp : Plain es = true := by rfl) : Ev X k gs σ (.Call (.Attribute o name apos) es [] pos) d := by
  refine ⟨?_⟩
  intro A env M W s R S
  refine wpAny_Call_method (hb env) (hf env) hl F.plainAttrs_str m.slot m.ty (wpAny_mono (ho.run A env M W s R S) ?_ (fun _ _ f => f))
  rintro v s1 ⟨hv, k1⟩
  obtain ⟨_, rfl⟩ := Rd.strI hv
  refine ⟨typeIs_str _ _ _, (fun _ e => nomatch e), ?_⟩
  have np := any_backTo (pos := pos) (env := env) (ds := ds) (Plain.no hp)
  refine callWith_go np (evalArgs_all np (wpAny_mono (ha.run A env M W s1 pos R (S.keep k1)) ?_ (fun _ _ f => f)))
  rintro vs s2 ⟨hvs, k2⟩
  refine ⟨.inl (fun _ => nofun), ?_⟩
  exact wpAny_mono (h.run A W s2 _ R ((S.keep k1).keep k2).toBase (.cons (.str _ _) hvs)) (fun v s3 h => ⟨h.1, (k1.trans k2).trans h.2⟩) (fun _ _ f => f)
theorem rds_strs {W : List Addr} {h : Heap} {vs : List Value} {ls : List (List Nat)} (r : Rds W h vs (ls.map T)) : ∃ l : List (Str × Tok), vs = strValues l ∧ l.map (·.1) = ls.map txt := by
  induction ls generalizing vs with
  | nil => exact ⟨[], r.nilI, rfl⟩
  | cons x ls i =>
    refine el2_3 (r.consI) fun v r' e a r => ?_
    exact a.strI.elim fun t y => (i r).elim fun l z => ⟨(txt x, t) :: l, by rw [e, y, z.1]; rfl, congrArg (List.cons _) z.2⟩
theorem foldl_glue (sep : List Nat) : ∀ (ls : List (List Nat)) (acc : List Nat), (ls.map txt).foldl (fun acc p => acc ++ (txt sep).cps ++ p.cps) acc.toArray = (acc ++ (ls.map fun x => sep ++ x).flatten).toArray
  | [], acc => by simp
  | x :: ls, acc => by
    rw [List.map_cons, List.foldl_cons]
    have : acc.toArray ++ (txt sep).cps ++ (txt x).cps = (acc ++ sep ++ x).toArray := by simp
    rw [this, foldl_glue sep ls]
    simp
noncomputable def glue (sep : List Nat) : List (List Nat) → List Nat
  | [] => []
  | x :: ls => x ++ (ls.map fun x => sep ++ x).flatten
theorem join_txt (sep : List Nat) (ls : List (List Nat)) : Txt.join (txt sep) (ls.map txt) = txt (glue sep ls) := by
  cases ls with
  | nil => rfl
  | cons x ls =>
    show Str.mk ((ls.map txt).foldl _ (txt x).cps) = _
    exact congrArg Str.mk (foldl_glue sep ls x)
theorem OpN.join {sep : List Nat} {ls : List (List Nat)} (h : (ls.map (·.length)).sum + ls.length * sep.length ≤ 16777216) : OpN X k (.builtin "str.join") [T sep, .list (ls.map T)] (T (glue sep ls)) := by
  refine ⟨?_⟩
  rintro A W s vs R B hv
  refine el2_3 (Rds.i2 hv) fun _ _ y7 a b => ?_; obtain rfl := y7
  refine el1_1 (Rd.strI a) fun _ y8 => ?_; obtain rfl := y8
  refine el3_4 (b.listI) fun p vs n y9 la na ra => ?_; obtain rfl := y9
  refine el1_2 (rds_strs ra) fun l e1 e2 => ?_
  refine SC.join (l := l) (texts := ls.map txt) ?_ e2 ?_ fun t' k => ?_
  · rw [← e1]; simpa using IsL.isList la
  · unfold JoinOk
    rw [StrLaws.joinTotal]
    have e3 : (ls.map txt).map (·.length) = ls.map (·.length) := by
      rw [List.map_map]; exact List.map_congr_left fun x _ => txt_length x
    rw [e3, List.length_map, txt_length]
    have e : (2 : Nat) ^ 24 = 16777216 := by decide
    unfold Builtin.Str.tooLong sizeLine
    rw [decide_eq_false (by (exact Nat.not_lt_of_le (by assumption)))]; rfl
  · rw [join_txt]
    exact ⟨.str _ _, Kp.toks _ _⟩
theorem glue_nil (ls : List (List Nat)) : glue [] ls = ls.flatten := by
  cases ls with
  | nil => rfl
  | cons x ls => simp [glue]
end Mine
end
noncomputable section
namespace Mine
open PySem PySem.W PySem.Calls PyProof.Rows
variable {X : Cx} {A : Around} {k : Nat} {gs gi : Gm} {σ σ' : Sto} {l r : Expr} {pos : Pos}
noncomputable abbrev N (n : Nat) : V := .int (n : Int)
noncomputable abbrev natsV (l : List Nat) : V := .list (l.map N)
theorem Op2.addN {a b : Nat} : Op2 X k (binaryOp .Add) (N a) (N b) (N (a + b)) := by
  have := Op2.add (X := X) (k := k) (a := (a : Int)) (b := (b : Int))
  rwa [← Int.natCast_add] at this
theorem Op2.subN {a b : Nat} (h : b ≤ a) : Op2 X k (binaryOp .Sub) (N a) (N b) (N (a - b)) := by
  have := Op2.sub (X := X) (k := k) (a := (a : Int)) (b := (b : Int))
  rwa [← Int.ofNat_sub h] at this
theorem Op2.mulN {a b : Nat} (ha : a < 2 ^ 62) : Op2 X k (binaryOp .Mult) (N a) (N b) (N (a * b)) := by
  have := Op2.mul (X := X) (k := k) (a := (a : Int)) (b := (b : Int)) (by omega)
  rwa [← Int.natCast_mul] at this
theorem Op2.modN {a b : Nat} (hb : 0 < b) : Op2 X k (binaryOp .Mod) (N a) (N b) (N (a % b)) := by
  have := Op2.mod (X := X) (k := k) (a := (a : Int)) (b := (b : Int)) (by lia)
  rwa [Int.fmod_eq_emod_of_nonneg _ (Int.natCast_nonneg b), ← Int.natCast_emod] at this
theorem Op2.divN {a b : Nat} (hb : 0 < b) (hs : b < 1073741824) : Op2 X k (binaryOp .FloorDiv) (N a) (N b) (N (a / b)) := by
  have := Op2.fdiv (X := X) (k := k) (a := (a : Int)) (b := (b : Int)) (by lia) (by assumption)
  rwa [Int.fdiv_eq_ediv_of_nonneg _ (Int.natCast_nonneg b), ← Int.natCast_ediv] at this
theorem Op2.powN {a b : Nat} (hb : b ≤ 1000000) (ha : a < 2 ^ 64) : Op2 X k (binaryOp .Pow) (N a) (N b) (N (a ^ b)) := by
  have := Op2.pow (X := X) (k := k) (a := (a : Int)) (b := (b : Int)) (by (exact Int.ofNat_nonneg _)) (by lia) (by assumption)
  rwa [Int.toNat_natCast, ← Int.natCast_pow] at this
theorem Op2.ltN {a b : Nat} : Op2 X k (compareOp .Lt) (N a) (N b) (.bool (decide (a < b))) := by
  have := Op2.lt (X := X) (k := k) (a := (a : Int)) (b := (b : Int))
  rwa [show decide ((a : Int) < (b : Int)) = decide (a < b) from decide_eq_decide.mpr Int.ofNat_lt] at this
theorem Op2.leN {a b : Nat} : Op2 X k (compareOp .LtE) (N a) (N b) (.bool (decide (a ≤ b))) := by
  have := Op2.le (X := X) (k := k) (a := (a : Int)) (b := (b : Int))
  rwa [show decide ((a : Int) ≤ (b : Int)) = decide (a ≤ b) from decide_eq_decide.mpr Int.ofNat_le] at this
theorem Op2.gtN {a b : Nat} : Op2 X k (compareOp .Gt) (N a) (N b) (.bool (decide (b < a))) := by
  have := Op2.gt (X := X) (k := k) (a := (a : Int)) (b := (b : Int))
  rwa [show decide ((a : Int) > (b : Int)) = decide (b < a) from decide_eq_decide.mpr Int.ofNat_lt] at this
theorem Op2.geN {a b : Nat} : Op2 X k (compareOp .GtE) (N a) (N b) (.bool (decide (b ≤ a))) := by
  have := Op2.ge (X := X) (k := k) (a := (a : Int)) (b := (b : Int))
  rwa [show decide ((a : Int) ≥ (b : Int)) = decide (b ≤ a) from decide_eq_decide.mpr Int.ofNat_le] at this
theorem Op2.eqN {a b : Nat} : Op2 X k (compareOp .Eq) (N a) (N b) (.bool (decide (a = b))) := by
  have := Op2.eqi (X := X) (k := k) (a := (a : Int)) (b := (b : Int))
  rwa [show decide ((a : Int) = (b : Int)) = decide (a = b) from decide_eq_decide.mpr Int.ofNat_inj] at this
theorem Op2.neN {a b : Nat} : Op2 X k (compareOp .NotEq) (N a) (N b) (.bool (decide (a ≠ b))) := by
  have := Op2.nei (X := X) (k := k) (a := (a : Int)) (b := (b : Int))
  rwa [show decide ((a : Int) ≠ (b : Int)) = decide (a ≠ b) from decide_eq_decide.mpr (by lia)] at this
theorem Ev.natc {i : Int} {u : Nat} {p : Pos} (n : Nat) (h : i = (n : Int) := by rfl) : Ev X k gs σ (.Constant (.int i) u p) (N n) := h ▸ Ev.int
theorem Truth.nat {a : Nat} : Truth X k (N a) (decide (a ≠ 0)) := by
  have := Truth.int (X := X) (k := k) (a := (a : Int))
  rwa [show decide ((a : Int) ≠ 0) = decide (a ≠ 0) from decide_eq_decide.mpr (by lia)] at this
inductive Evp (X : Cx) (k : Nat) (gs : Gm) (σ : Sto) : Option Expr → Option Int → Prop
  | none : Evp X k gs σ none none
  | some {e : Expr} {i : Int} : Ev X k gs σ e (.int i) → Evp X k gs σ (some e) (some i)
theorem Evp.run {e : Option Expr} {i : Option Int} (h : Evp X k gs σ e i) {A : Around} {env : Env} {M W : List Addr} {s : Shared} (R : Room k A) (S : St X A env gs M W σ s) :
    wpAny (model X.prog X.w) A (evalPart e env) (fun v s' => IsPart v i ∧ Kp X.h0 [] s s') No s := by
  cases h with
  | none => exact wpAny_pure ⟨.none, Kp.refl _ _⟩
  | some h =>
    refine wpAny_mono (h.run A env M W s R S) ?_ (fun _ _ f => f)
    rintro v s1 ⟨hv, k1⟩
    obtain ⟨_, rfl⟩ := Rd.intI hv
    exact ⟨.int _ _, k1⟩
noncomputable def pickL {α : Type} (ds : List α) (lo hi st : Option Int) : List α := (sliceRange (sliceBounds lo hi st ds.length).1 (sliceBounds lo hi st ds.length).2.1 (sliceBounds lo hi st ds.length).2.2).filterMap (ds[·]?)
theorem rds_pick {W : List Addr} {h : Heap} {vs : List Value} {ds : List V} (r : Rds W h vs ds) : ∀ is : List Nat, Rds W h (is.filterMap (vs[·]?)) (is.filterMap (ds[·]?))
  | [] => .nil
  | i :: is => by
    rw [List.filterMap_cons, List.filterMap_cons]
    cases hd : ds[i]? with
    | none =>
      have : vs[i]? = none := by rw [List.getElem?_eq_none_iff, r.length]; exact List.getElem?_eq_none_iff.mp hd
      rw [this]; exact rds_pick r is
    | some d =>
      refine el1_2 (r.get hd) fun v hv rv => ?_
      rw [hv]; exact .cons rv (rds_pick r is)
theorem pickL_map {α β : Type} (f : α → β) (ds : List α) (lo hi st : Option Int) : pickL (ds.map f) lo hi st = (pickL ds lo hi st).map f := by
  unfold pickL
  rw [List.length_map, List.map_filterMap]
  congr 1
  funext i
  rw [List.getElem?_map]
theorem Ev.sliceL {value : Expr} {lower upper step : Option Expr} {p : Pos} {ds : List V} {lo hi st : Option Int} (hv : Ev X k gs σ value (.list ds)) (hl : Evp X k gs σ lower lo) (hu : Evp X k gs σ upper hi) (hst : Evp X k gs σ step st) (h0 : st ≠ some 0)
    (hz : ds.length ≤ sizeLine)
    (hs : ∀ o j, ∃ ops, subscripted (.Slice lower upper step p) false o j = operate ops (getItem o j) := by intro _ _; exact ⟨_, rfl⟩) : Ev X k gs σ (.Subscript value (.Slice lower upper step p) pos) (.list (pickL ds lo hi st)) := by
  refine ⟨?_⟩
  intro A env M W s R S
  refine Subscript_ (wpAny_mono (hv.run A env M W s R S) ?_ (fun _ _ f => f))
  intro v s1 y3; refine el0_2 (y3) fun hv k1 => ?_
  have S1 := S.keep k1
  refine wpAny_Slice (wpAny_mono (hl.run R S1) ?_ (fun _ _ f => f))
  intro vl s2 y4; refine el0_2 (y4) fun pl k2 => ?_
  refine wpAny_mono (hu.run R (S1.keep k2)) ?_ (fun _ _ f => f)
  intro vu s3 y5; refine el0_2 (y5) fun pu k3 => ?_
  refine wpAny_mono (hst.run R ((S1.keep k2).keep k3)) ?_ (fun _ _ f => f)
  intro vst s4 y6; refine el0_2 (y6) fun ps k4 => ?_
  have k5 : Kp X.h0 [] s4 { s4 with heap := s4.heap.push { cls := .type "slice", data := .fields #[vl, vu, vst] } } := Kp.push _ _
  refine el3_4 (((((hv.keep0 k2).keep0 k3).keep0 k4).keep0 k5).listI) fun a vs n y7 la na ra => ?_; obtain rfl := y7
  have hsz : vs.size = ds.length := by rw [← ra.length]; simp
  refine el1_1 (hs (.ref a) (.ref s4.heap.objs.size)) fun ops hops => ?_
  refine tail_any (IsL.isList la).typeIs slot_list_getitem.lookup (wpAny_getItem_list_slice (IsL.isList la) (Heap.IsSliceOf.new _ _ _ _) pl pu ps h0 ?_ (by rw [hsz]; exact hz)) hops
  have K := (((k1.trans k2).trans k3).trans k4).trans k5
  refine ⟨Rd.newList (S.keep K).old ?_, K.trans (Kp.push _ _)⟩
  unfold slicePick pickL
  rw [hsz]
  have e : (fun x : Nat => vs[x]?) = fun x => vs.toList[x]? := by funext i; simp
  rw [List.toList_toArray, e]
  exact rds_pick ra _
theorem pick_plain {α : Type} (ds : List α) (lo hi : Option Int) : pickL ds lo hi none = (ds.drop (lo.elim 0 (clipAt ds.length))).take (hi.elim ds.length (clipAt ds.length) - lo.elim 0 (clipAt ds.length)) := by
  unfold pickL
  rw [sliceBounds_plain]
  simp only [sliceRange_one]
  have := pick_run ds.toArray (lo.elim 0 (clipAt ds.length)) (hi.elim ds.length (clipAt ds.length) - lo.elim 0 (clipAt ds.length))
  simpa using this
theorem pick_from {α : Type} (ds : List α) (a : Nat) : pickL ds (some (a : Int)) none none = ds.drop a := by
  rw [pick_plain]
  simp only [Option.elim, clipAt_nat]
  rcases Nat.le_total a ds.length with h | h
  · rw [Nat.min_eq_left h, List.take_of_length_le (by simp)]
  · rw [Nat.min_eq_right h, List.drop_of_length_le (Nat.le_refl _), List.drop_of_length_le h]; simp
theorem pick_upto {α : Type} (ds : List α) (b : Nat) : pickL ds none (some (b : Int)) none = ds.take b := by
  rw [pick_plain]
  simp only [Option.elim, clipAt_nat, List.drop_zero, Nat.sub_zero]
  rcases Nat.le_total b ds.length with h | h
  · rw [Nat.min_eq_left h]
  · rw [Nat.min_eq_right h, List.take_of_length_le (Nat.le_refl _), List.take_of_length_le h]
theorem pick_run' {α : Type} (ds : List α) (a b : Nat) : pickL ds (some (a : Int)) (some (b : Int)) none = (ds.drop a).take (b - a) := by
  rw [pick_plain]
  simp only [Option.elim, clipAt_nat]
  rcases Nat.le_total a ds.length with h | h
  · rw [Nat.min_eq_left h]
    rcases Nat.le_total b ds.length with h' | h'
    · rw [Nat.min_eq_left h']
    · rw [Nat.min_eq_right h', List.take_of_length_le (by simp), List.take_of_length_le (by simp; omega)]
  · rw [Nat.min_eq_right h, List.drop_of_length_le (Nat.le_refl _), List.drop_of_length_le h]; simp
theorem pick_butLast {α : Type} (ds : List α) : pickL ds none (some (-1)) none = ds.dropLast := by
  rw [pick_plain]
  have := clipAt_neg ds.length 1 (Nat.le_refl _)
  simp only [Option.elim, List.drop_zero, Nat.sub_zero, show (-1 : Int) = -((1 : Nat) : Int) from rfl, this]
  exact (List.dropLast_eq_take).symm
theorem pick_last {α : Type} (ds : List α) : pickL ds (some (-1)) none none = ds.drop (ds.length - 1) := by
  rw [pick_plain]
  have := clipAt_neg ds.length 1 (Nat.le_refl _)
  simp only [Option.elim, show (-1 : Int) = -((1 : Nat) : Int) from rfl, this]
  rw [List.take_of_length_le (by simp)]
theorem range_up : ∀ n ≤ 3, sliceRange (sliceBounds none none (some (-1)) n).1 (sliceBounds none none (some (-1)) n).2.1 (sliceBounds none none (some (-1)) n).2.2 = (List.range n).reverse := by decide +kernel
theorem range_upTail : ∀ n ≤ 3, sliceRange (sliceBounds none (some 0) (some (-1)) n).1 (sliceBounds none (some 0) (some (-1)) n).2.1 (sliceBounds none (some 0) (some (-1)) n).2.2 = ((List.range n).drop 1).reverse := by decide +kernel
theorem pick_rev {α : Type} (ds : List α) (h : ds.length ≤ 3) : pickL ds none none (some (-1)) = ds.reverse := by
  unfold pickL
  rw [range_up _ h]
  match ds, h with
  | [], _ => rfl
  | [a], _ => rfl
  | [a, b], _ => rfl
  | [a, b, c], _ => rfl
theorem pick_revTail {α : Type} (ds : List α) (h : ds.length ≤ 3) : pickL ds none (some 0) (some (-1)) = (ds.drop 1).reverse := by
  unfold pickL
  rw [range_upTail _ h]
  match ds, h with
  | [], _ => rfl
  | [a], _ => rfl
  | [a, b], _ => rfl
  | [a, b, c], _ => rfl
theorem rds_nums {W : List Addr} {h : Heap} {vs : List Value} {ns : List Int} (r : Rds W h vs (ns.map V.int)) : ∃ xs : List (Int × Tok), vs = xs.map (fun p => Value.int p.1 p.2) ∧ xs.map (·.1) = ns := by
  induction ns generalizing vs with
  | nil => exact ⟨[], r.nilI, rfl⟩
  | cons n ns i =>
    refine el2_3 (r.consI) fun v r' e a r => ?_
    exact a.intI.elim fun t y => (i r).elim fun xs z => ⟨(n, t) :: xs, by rw [e, y, z.1]; rfl, congrArg (List.cons _) z.2⟩
theorem rds_items {W : List Addr} {h : Heap} {vs : Array Value} {ns : List Int} (r : Rds W h vs.toList (ns.map V.int)) : ∃ xs : Array (Int × Tok), vs = intItems xs ∧ xs.toList.map (·.1) = ns := by
  refine el1_2 (rds_nums r) fun xs h1 h2 => ?_
  refine ⟨xs.toArray, ?_, by simpa using h2⟩
  apply Array.ext'
  rw [h1]
  simp [intItems]
theorem OpN.sum {ns : List Int} : OpN X k (.builtin "sum") [intsV ns] (.int ns.sum) := by
  refine ⟨?_⟩
  rintro A W s vs R B hv
  refine el1_2 (Rds.i1 hv) fun _ y9 b => ?_; obtain rfl := y9
  refine el3_4 (b.listI) fun p vs n y10 la na ra => ?_; obtain rfl := y10
  refine el1_2 (rds_items ra) fun xs y11 hx => ?_; obtain rfl := y11
  refine call_sum_walkG (iter_intList (IsL.isList la) fun s₂ e st hfp hlI => ?_)
  subst e
  refine ⟨_, _, _, _, _, _, numAt xs, rfl, Walks.list (A := A.in1) R.handled _ p hlI (intItems xs), st, hfp, (fun _ _ => intItems_at), fun h' tk t' hk => ?_⟩
  have e1 : (intItems xs).size = ns.length := by rw [← hx]; simp [intItems]
  rw [e1, preSum_eq, hx, List.take_length]
  exact ⟨.int _ _, Kp.of fun b o _ e => old_kept hk b o e⟩
theorem OpN.sumN {ns : List Nat} : OpN X k (.builtin "sum") [natsV ns] (N ns.sum) := by
  have h := OpN.sum (X := X) (k := k) (ns := ns.map fun n : Nat => (n : Int))
  have e0 : intsV (ns.map fun n : Nat => (n : Int)) = natsV ns := by show V.list _ = V.list _; rw [List.map_map]; rfl
  rw [e0] at h
  have e : ∀ l : List Nat, (l.map fun n : Nat => (n : Int)).sum = ((l.sum : Nat) : Int) := fun l => by
    induction l with
    | nil => rfl
    | cons a l ih => simp [ih]
  rw [e] at h
  exact h
theorem OpN.max2 {a b : Int} : OpN X k (.builtin "max") [.int a, .int b] (.int (max a b)) := by
  refine ⟨?_⟩
  rintro A W s vs R B hv
  refine el2_3 (Rds.i2 hv) fun _ _ y12 x y => ?_; obtain rfl := y12
  refine el1_1 (Rd.intI x) fun _ y13 => ?_; obtain rfl := y13; refine el1_1 (Rd.intI y) fun _ y14 => ?_; obtain rfl := y14
  refine max_two_ints R.handled fun h' tk hk => ?_
  have K : Kp X.h0 [] s { s with heap := h', toks := tk } := Kp.of fun b o _ e => hk b o e
  by_cases h : b > a
  · rw [if_pos h, Int.max_eq_right (Int.le_of_lt h)]; exact ⟨.int _ _, K⟩
  · rw [if_neg h, Int.max_eq_left (Int.not_lt.mp h)]; exact ⟨.int _ _, K⟩
theorem OpN.maxL {ns : List Int} {m : Int} (hm : m ∈ ns) (hle : ∀ a ∈ ns, a ≤ m) : OpN X k (.builtin "max") [intsV ns] (.int m) := by
  refine ⟨?_⟩
  rintro A W s vs R B hv
  refine el1_2 (Rds.i1 hv) fun _ y15 b => ?_; obtain rfl := y15
  refine el3_4 (b.listI) fun p vs n y16 la na ra => ?_; obtain rfl := y16
  refine el1_2 (rds_items ra) fun xs y17 hx => ?_; obtain rfl := y17
  have hsz : xs.size = ns.length := by rw [← hx]; simp
  have hpos : 0 < xs.size := by rw [hsz]; exact List.length_pos_of_mem hm
  refine max_intList R.handled (IsL.isList la) hpos fun v h' tk hv hk => ?_
  have K : Kp X.h0 [] s { s with heap := h', toks := tk } := Kp.of fun b o _ e => hk b o e
  refine el0_2 (argBest_gt (numAt xs) (xs.size - 1)) fun h1 h2 => ?_
  refine el1_1 (intItems_at hv) fun t y18 => ?_; obtain rfl := y18
  have e1 : ∀ i, i < xs.size → ns[i]? = some (numAt xs i) := fun i hi => by
    rw [← hx]
    simp [numAt, hi]
  have hlt : argBest (fun i j => decide (numAt xs i > numAt xs j)) (xs.size - 1) < xs.size := by omega
  have a1 : numAt xs (argBest (fun i j => decide (numAt xs i > numAt xs j)) (xs.size - 1)) ≤ m := hle _ (List.mem_of_getElem? (e1 _ hlt))
  refine el1_1 (List.mem_iff_getElem.mp hm) fun i y19 => ?_; obtain ⟨hi, hi'⟩ := y19
  have a2 : m ≤ numAt xs (argBest (fun i j => decide (numAt xs i > numAt xs j)) (xs.size - 1)) := by
    have := h2 i (by omega)
    have e2 := e1 i (by omega)
    rw [List.getElem?_eq_getElem hi, hi'] at e2
    rw [Option.some.inj e2]; exact this
  rw [Int.le_antisymm a1 a2]
  exact ⟨.int _ _, K⟩
theorem OpN.tupleL {ds : List V} (hz : ds.length ≤ sizeLine) : OpN X k (.type "tuple") [.list ds] (.tup ds) := by
  refine ⟨?_⟩
  rintro A W s vs R B hv
  refine el1_2 (Rds.i1 hv) fun _ y20 b => ?_; obtain rfl := y20
  refine el3_4 (b.listI) fun p vs n y21 la na ra => ?_; obtain rfl := y21
  refine call_tuple_list (IsL.isList la) (fun h' hk => ?_) (by have := ra.length; simp at this; lia)
  have K : Kp X.h0 [] s { s with heap := h' } := Kp.of fun b o _ e => hk b o e
  exact ⟨Rd.newTup (s := { s with heap := h' }) (B.keep0 K).old (ra.keep0 K), K.trans (Kp.push _ _)⟩
structure Eqb {α : Type} (n : Nat) (a : α → V) (p : α → PyData) (ok : α → Prop) : Prop where
  rd : ∀ x W h v, Rd W h v (a x) → ∃ as, Reads h v (p x) as
  lay : ∀ x, ok x → (p x).canLay0 = true ∧ (p x).depth ≤ n
  eq : ∀ x y, PyData.eqv (p x) (p y) = true ↔ x = y
noncomputable abbrev Any {α : Type} (_ : α) : Prop := True
noncomputable abbrev Asc (l : List Nat) : Prop := ∀ c ∈ l, c < 128
theorem Eqb.nat : Eqb 0 N (fun n => PyData.int n) Any := ⟨fun x W h v r => by refine el1_1 (Rd.intI r) fun _ y23 => ?_; obtain rfl := y23; exact ⟨_, .int _ _⟩, fun x _ => ⟨rfl, Nat.le_refl _⟩, fun x y => by
  show ((x : Int) == (y : Int)) = true ↔ _
  rw [beq_iff_eq]; lia⟩
theorem Eqb.bool : Eqb 0 V.bool PyData.bool Any := ⟨fun x W h v r => by obtain rfl := Rd.boolI r; exact ⟨_, .bool _⟩, fun x _ => ⟨rfl, Nat.le_refl _⟩, fun x y => by show (x == y) = true ↔ _; exact beq_iff_eq⟩
theorem Eqb.txt : Eqb 0 T (fun l => PyData.str (txt l)) Asc := ⟨fun x W h v r => by refine el1_1 (Rd.strI r) fun _ y24 => ?_; obtain rfl := y24; exact ⟨_, .str _ _⟩, fun x hx => ⟨by
    show PyData.strOk (Mine.txt x) = true
    unfold PyData.strOk
    simp only [List.all_toArray, List.all_eq_true, decide_eq_true_eq]
    intro c hc
    have := hx c hc
    lia, Nat.le_refl _⟩, fun x y => by show (Mine.txt x == Mine.txt y) = true ↔ _; rw [beq_iff_eq, txt_inj]⟩
theorem Eqb.list {α : Type} {n : Nat} {a : α → V} {p : α → PyData} {ok : α → Prop} (E : Eqb n a p ok) : Eqb (n + 1) (fun xs : List α => .list (xs.map a)) (fun xs => .list (xs.map p)) (fun xs => ∀ x ∈ xs, ok x) := by
  refine ⟨fun xs W h v r => ?_, fun xs hok => ?_, fun xs ys => ?_⟩
  · refine el3_4 (r.listI) fun ad vs m y25 la na ra => ?_; obtain rfl := y25
    have key : ∀ (vs : List Value) (xs : List α), Rds W h vs (xs.map a) → ∃ as, ReadsAll h vs (xs.map p) as := by
      intro vs xs
      induction xs generalizing vs with
      | nil => intro r; obtain rfl := Rds.nilI r; exact ⟨_, .nil⟩
      | cons x xs ih =>
        intro r
        cases r with | cons r1 r2 =>
        refine el1_1 (E.rd _ _ _ _ r1) fun as h1 => ?_
        refine el1_1 (ih _ r2) fun bs h2 => ?_
        exact ⟨_, .cons h1 h2⟩
    refine el1_1 (key _ _ ra) fun as h1 => ?_
    exact ⟨_, .list la rfl rfl h1⟩
  · have key : ∀ xs : List α, (∀ x ∈ xs, ok x) → PyData.canLayAll0 (xs.map p) = true ∧ PyData.depthAll (xs.map p) ≤ n := by
      intro xs
      induction xs with
      | nil => intro _; exact ⟨rfl, Nat.zero_le _⟩
      | cons x xs ih =>
        intro hok
        refine el0_2 (E.lay x (hok x (.head _))) fun h1 h2 => ?_
        refine el0_2 (ih fun z hz => hok z (.tail _ hz)) fun h3 h4 => ?_
        refine ⟨?_, Nat.max_le.mpr ⟨h2, h4⟩⟩
        show (PyData.canLay0 (p x) && PyData.canLayAll0 (xs.map p)) = true
        rw [h1, h3]; rfl
    exact ⟨(key xs hok).1, Nat.succ_le_succ (key xs hok).2⟩
  · show PyData.eqvAll _ _ = true ↔ _
    induction xs generalizing ys with
    | nil =>
      cases ys with
      | nil => exact ⟨fun _ => rfl, fun _ => rfl⟩
      | cons y ys => exact ⟨fun h => (by cases h), fun h => (by cases h)⟩
    | cons x xs ih =>
      cases ys with
      | nil => exact ⟨fun h => (by cases h), fun h => (by cases h)⟩
      | cons y ys =>
        show (PyData.eqv (p x) (p y) && PyData.eqvAll (xs.map p) (ys.map p)) = true ↔ _
        rw [Bool.and_eq_true, E.eq x y, ih ys, List.cons.injEq]
theorem Eqb.pair {α β : Type} {n m : Nat} {a : α → V} {p : α → PyData} {b : β → V} {q : β → PyData} {ok : α → Prop} {ok' : β → Prop} (E : Eqb n a p ok) (F : Eqb m b q ok') :
    Eqb (max n m + 1) (fun x : α × β => .tup [a x.1, b x.2]) (fun x => .tuple [p x.1, q x.2]) (fun x => ok x.1 ∧ ok' x.2) := by
  refine ⟨fun x W h v r => ?_, fun x hok => ?_, fun x y => ?_⟩
  · refine el3_4 (r.tupI) fun ad vs k y26 la na ra => ?_; obtain rfl := y26
    generalize hv : vs.toList = vl at ra
    refine el2_3 (Rds.i2 ra) fun _ _ y27 r1 r2 => ?_; obtain rfl := y27
    refine el1_1 (E.rd _ _ _ _ r1) fun as h1 => ?_
    refine el1_1 (F.rd _ _ _ _ r2) fun bs h2 => ?_
    have ha := ReadsAll.cons h1 (.cons h2 .nil)
    rw [← hv] at ha
    exact ⟨_, .tuple la rfl rfl ha⟩
  · refine el0_2 (E.lay x.1 hok.1) fun h1 h2 => ?_
    refine el0_2 (F.lay x.2 hok.2) fun h3 h4 => ?_
    constructor
    · show (PyData.canLay0 (p x.1) && (PyData.canLay0 (q x.2) && true)) = true
      rw [h1, h3]; rfl
    · show max (p x.1).depth (max (q x.2).depth 0) + 1 ≤ _
      lia
  · show (PyData.eqv (p x.1) (p y.1) && (PyData.eqv (q x.2) (q y.2) && true)) = true ↔ _
    rw [Bool.and_true, Bool.and_eq_true, E.eq, F.eq]
    exact ⟨fun h => Prod.ext h.1 h.2, fun h => by rw [h]; exact ⟨rfl, rfl⟩⟩
theorem Eqb.triple {α β γ : Type} {n m l : Nat} {a : α → V} {p : α → PyData} {b : β → V} {q : β → PyData} {c : γ → V} {r : γ → PyData} {ok : α → Prop} {ok' : β → Prop} {ok2 : γ → Prop} (E : Eqb n a p ok) (F : Eqb m b q ok') (G : Eqb l c r ok2) :
    Eqb (max n (max m l) + 1) (fun x : α × β × γ => .tup [a x.1, b x.2.1, c x.2.2]) (fun x => .tuple [p x.1, q x.2.1, r x.2.2]) (fun x => ok x.1 ∧ ok' x.2.1 ∧ ok2 x.2.2) := by
  refine ⟨fun x W h v rr => ?_, fun x hok => ?_, fun x y => ?_⟩
  · refine el3_4 (rr.tupI) fun ad vs k y28 la na ra => ?_; obtain rfl := y28
    generalize hv : vs.toList = vl at ra
    refine el3_4 (Rds.i3 ra) fun _ _ _ y29 r1 r2 r3 => ?_; obtain rfl := y29
    refine el1_1 (E.rd _ _ _ _ r1) fun as h1 => ?_
    refine el1_1 (F.rd _ _ _ _ r2) fun bs h2 => ?_
    refine el1_1 (G.rd _ _ _ _ r3) fun cs h3 => ?_
    have ha := ReadsAll.cons h1 (.cons h2 (.cons h3 .nil))
    rw [← hv] at ha
    exact ⟨_, .tuple la rfl rfl ha⟩
  · refine el0_2 (E.lay x.1 hok.1) fun h1 h2 => ?_
    refine el0_2 (F.lay x.2.1 hok.2.1) fun h3 h4 => ?_
    refine el0_2 (G.lay x.2.2 hok.2.2) fun h5 h6 => ?_
    constructor
    · show (PyData.canLay0 (p x.1) && (PyData.canLay0 (q x.2.1) && (PyData.canLay0 (r x.2.2) && true))) = true
      rw [h1, h3, h5]; rfl
    · show max (p x.1).depth (max (q x.2.1).depth (max (r x.2.2).depth 0)) + 1 ≤ _
      omega
  · show (PyData.eqv (p x.1) (p y.1) && (PyData.eqv (q x.2.1) (q y.2.1) && (PyData.eqv (r x.2.2) (r y.2.2) && true))) = true ↔ _
    rw [Bool.and_true, Bool.and_eq_true, Bool.and_eq_true, E.eq, F.eq, G.eq]
    exact ⟨fun h => Prod.ext h.1 (Prod.ext h.2.1 h.2.2), fun h => by rw [h]; exact ⟨rfl, rfl, rfl⟩⟩
theorem Eqb.tups {α : Type} {n : Nat} {a : α → V} {p : α → PyData} {ok : α → Prop} (E : Eqb n a p ok) : Eqb (n + 1) (fun xs : List α => .tup (xs.map a)) (fun xs => .tuple (xs.map p)) (fun xs => ∀ x ∈ xs, ok x) := by
  refine ⟨fun xs W h v r => ?_, fun xs hok => E.list.lay xs hok, fun xs ys => E.list.eq xs ys |> fun h => ⟨fun q => h.mp q, fun q => h.mpr q⟩⟩
  · refine el3_4 (r.tupI) fun ad vs m y30 la na ra => ?_; obtain rfl := y30
    have key : ∀ (vs : List Value) (xs : List α), Rds W h vs (xs.map a) → ∃ as, ReadsAll h vs (xs.map p) as := by
      intro vs xs
      induction xs generalizing vs with
      | nil => intro r; obtain rfl := Rds.nilI r; exact ⟨_, .nil⟩
      | cons x xs ih =>
        intro r
        cases r with | cons r1 r2 =>
        refine el1_1 (E.rd _ _ _ _ r1) fun as h1 => ?_
        refine el1_1 (ih _ r2) fun bs h2 => ?_
        exact ⟨_, .cons h1 h2⟩
    refine el1_1 (key _ _ ra) fun as h1 => ?_
    exact ⟨_, .tuple la rfl rfl h1⟩
theorem Eqb.shaped {α : Type} {n : Nat} {a : α → V} {p : α → PyData} {ok : α → Prop} (E : Eqb n a p ok) (hn : n ≤ 64) (z : α) (hz : ok z) : PySem.SeqAt.shaped (p z) = true := by
  refine el0_2 (E.lay z hz) fun h1 h2 => ?_
  unfold PySem.SeqAt.shaped
  rw [h1, decide_eq_true (Nat.le_trans h2 hn)]; rfl
theorem Op2.eqd {α : Type} [DecidableEq α] {n : Nat} {a : α → V} {p : α → PyData} {ok : α → Prop} (E : Eqb n a p ok) (x y : α) (hx : ok x) (hy : ok y) (hn : n ≤ 64 := by decide) : Op2 X k (compareOp .Eq) (a x) (a y) (.bool (decide (x = y))) := by
  refine ⟨?_⟩
  rintro A W s v w R B hv hw
  refine el1_1 (E.rd _ _ _ _ hv) fun as ra => ?_
  refine el1_1 (E.rd _ _ _ _ hw) fun bs rb => ?_
  refine PySem.SeqAt.compareEq_shaped ra rb (E.shaped hn x hx) (E.shaped hn y hy) (by have := R.units; lia) ⟨?_, Kp.refl _ _⟩
  rw [show PyData.eqv (p x) (p y) = decide (x = y) from by rw [Bool.eq_iff_iff, E.eq, decide_eq_true_iff]]
  exact .bool _
theorem Op2.ned {α : Type} [DecidableEq α] {n : Nat} {a : α → V} {p : α → PyData} {ok : α → Prop} (E : Eqb n a p ok) (x y : α) (hx : ok x) (hy : ok y) (hn : n ≤ 64 := by decide) : Op2 X k (compareOp .NotEq) (a x) (a y) (.bool (decide (x ≠ y))) := by
  refine ⟨?_⟩
  rintro A W s v w R B hv hw
  refine el1_1 (E.rd _ _ _ _ hv) fun as ra => ?_
  refine el1_1 (E.rd _ _ _ _ hw) fun bs rb => ?_
  refine PySem.SeqAt.compareNe_shaped ra rb (E.shaped hn x hx) (E.shaped hn y hy) (by have := R.units; lia) ⟨?_, Kp.refl _ _⟩
  rw [show (!PyData.eqv (p x) (p y)) = decide (x ≠ y) from by
    have : PyData.eqv (p x) (p y) = decide (x = y) := by rw [Bool.eq_iff_iff, E.eq, decide_eq_true_iff]
    rw [this, decide_not]]
  exact .bool _
end Mine
end
noncomputable section
namespace Mine
open PySem PySem.W PySem.Calls PyProof.Rows
variable {X : Cx} {A : Around} {k : Nat} {gs gi : Gm} {σ σ' : Sto} {l r : Expr} {pos : Pos}
inductive Look (σ : Sto) (fr0 : List (Str × V)) : List Str → List V → Prop
  | nil : Look σ fr0 [] []
  | s {y : Str} {d : V} {ns : List Str} {ds : List V} (h : (y, some d) ∈ σ) (r : Look σ fr0 ns ds) (hd : d.isOwn = false := by rfl) : Look σ fr0 (y :: ns) (d :: ds)
  | f {y : Str} {d : V} {ns : List Str} {ds : List V} : (y, d) ∈ fr0 → Look σ fr0 ns ds → Look σ fr0 (y :: ns) (d :: ds)
theorem Look.all {fr0 : List (Str × V)} {ns : List Str} {ds : List V} (h : Look σ fr0 ns ds) (y : Str) (d : V) (q : (y, d) ∈ ns.zip ds) : ((y, some d) ∈ σ ∧ d.isOwn = false) ∨ (y, d) ∈ fr0 := by
  induction h with
  | nil => exact noM q
  | s a _ hd i => exact (List.mem_cons.mp q).elim (fun z => by obtain ⟨rfl, rfl⟩ := Prod.mk.inj z; exact .inl ⟨a, hd⟩) i
  | f a _ i => exact (List.mem_cons.mp q).elim (fun z => .inr (by rw [z]; exact a)) i
theorem Look.fst {fr0 : List (Str × V)} {ns : List Str} {ds : List V} (h : Look σ fr0 ns ds) : (ns.zip ds).map (·.1) = ns := by
  induction h with
  | nil => rfl
  | s _ _ _ i => exact congrArg (List.cons _) i
  | f _ _ i => exact congrArg (List.cons _) i
section
variable {α β : Type} {elt target iter : Expr} {ifs : List Expr} {sc : Scope} {g0 ocs : List Str} {fr0 : List (Str × V)}
noncomputable abbrev inG (g frn : List Str) (ds : List V) (c : List Str) : Gm := ⟨g, frn.zip ds, c⟩
noncomputable abbrev inS (ts : List Str) : Sto := ts.map fun t => (t, none)
theorem Ev.compF (g frn : List Str) (ds : List V) (c ts : List Str) (xs : List α) (a : α → V) (F : α → Option β) (b : β → V) (hi : Iv X k ⟨g0, fr0, ocs⟩ σ iter (xs.map a)) (hf : Look σ fr0 frn ds)
    (hst : ∀ x ∈ xs, ∃ σ1, As X k (inG g frn ds c) target (a x) (inS ts) σ1 ∧ Le σ1 (inS ts) ∧ Trs X k (inG g frn ds c) σ1 ifs (F x).isSome ∧ ∀ y, F x = some y → Ev X k (inG g frn ds c) σ1 elt (b y))
    (hz : xs.length ≤ 16777216)
    (hok : compOk sc ts g frn c ocs = true := by decide +kernel) (hs : ∀ env x, foldedSetIterable iter env x = pure x := by intro _ _; rfl) :
    Ev X k ⟨g0, fr0, ocs⟩ σ (.ListComp elt [⟨target, iter, ifs, 0⟩] sc pos) (.list ((xs.filterMap F).map b)) := by
  rw [List.map_filterMap]
  refine Ev.comp (inG g frn ds c) ts xs a (fun x => (F x).map b) hi (fun x hx => ?_) (by rw [hf.fst]; exact hok) hf.all hz hs
  obtain ⟨σ1, h1, h2, h3, h4⟩ := hst x hx
  refine ⟨σ1, h1, h2, by simpa using h3, fun y hy => ?_⟩
  have hy' : (F x).map b = some y := hy
  cases hF : F x with
  | none => rw [hF] at hy'; exact noN hy'
  | some z => rw [hF] at hy'; obtain rfl := Option.some.inj hy'; exact h4 z hF
theorem Ev.compM (g frn : List Str) (ds : List V) (c ts : List Str) (xs : List α) (a : α → V) (F : α → β) (b : β → V) (hi : Iv X k ⟨g0, fr0, ocs⟩ σ iter (xs.map a)) (hf : Look σ fr0 frn ds)
    (hst : ∀ x ∈ xs, ∃ σ1, As X k (inG g frn ds c) target (a x) (inS ts) σ1 ∧ Le σ1 (inS ts) ∧ Ev X k (inG g frn ds c) σ1 elt (b (F x)))
    (hz : xs.length ≤ 16777216)
    (hok : compOk sc ts g frn c ocs = true := by decide +kernel) (hs : ∀ env x, foldedSetIterable iter env x = pure x := by intro _ _; rfl) :
    Ev X k ⟨g0, fr0, ocs⟩ σ (.ListComp elt [⟨target, iter, [], 0⟩] sc pos) (.list ((xs.map F).map b)) := by
  have e : xs.map F = xs.filterMap (some ∘ F) := by rw [List.filterMap_eq_map]
  rw [e]
  refine Ev.compF g frn ds c ts xs a (some ∘ F) b hi hf (fun x hx => ?_) hz hok hs
  obtain ⟨σ1, h1, h2, h3⟩ := hst x hx
  exact ⟨σ1, h1, h2, Trs.nil, fun y hy => by obtain rfl := Option.some.inj hy; exact h3⟩
theorem Es.asgF {x : Str} {p cp : Pos} {Q : Res → Prop} (g frn : List Str) (ds : List V) (c ts : List Str) (xs : List α) (a : α → V) (F : α → Option β) (b : β → V) (hi : Iv X k ⟨g0, fr0, ocs⟩ σ iter (xs.map a)) (hf : Look σ fr0 frn ds)
    (hst : ∀ x ∈ xs, ∃ σ1, As X k (inG g frn ds c) target (a x) (inS ts) σ1 ∧ Le σ1 (inS ts) ∧ Trs X k (inG g frn ds c) σ1 ifs (F x).isSome ∧ ∀ y, F x = some y → Ev X k (inG g frn ds c) σ1 elt (b y))
    (hz : xs.length ≤ 16777216) (hu : Upd x (.list ((xs.filterMap F).map b)) σ σ') (hq : Q (.next σ'))
    (hok : compOk sc ts g frn c ocs = true := by decide +kernel) (hs : ∀ env x, foldedSetIterable iter env x = pure x := by intro _ _; rfl)
    (hw : ∀ env, ∃ b, swapsWith (.ListComp elt [⟨target, iter, ifs, 0⟩] sc cp) (some (.Name x p)) pos.line env = pure b := by intro _; exact ⟨_, rfl⟩) :
    Es X k ⟨g0, fr0, ocs⟩ σ (.Assign [.Name x p] (.ListComp elt [⟨target, iter, ifs, 0⟩] sc cp) pos) Q := by
  rw [List.map_filterMap] at hu
  refine Es.asgC (inG g frn ds c) ts xs a (fun x => (F x).map b) hi (fun x hx => ?_) hu hq (by rw [hf.fst]; exact hok) hf.all hz hs hw
  obtain ⟨σ1, h1, h2, h3, h4⟩ := hst x hx
  refine ⟨σ1, h1, h2, by simpa using h3, fun y hy => ?_⟩
  have hy' : (F x).map b = some y := hy
  cases hF : F x with
  | none => rw [hF] at hy'; exact noN hy'
  | some z => rw [hF] at hy'; obtain rfl := Option.some.inj hy'; exact h4 z hF
theorem Es.asgM {x : Str} {p cp : Pos} {Q : Res → Prop} (g frn : List Str) (ds : List V) (c ts : List Str) (xs : List α) (a : α → V) (F : α → β) (b : β → V) (hi : Iv X k ⟨g0, fr0, ocs⟩ σ iter (xs.map a)) (hf : Look σ fr0 frn ds)
    (hst : ∀ x ∈ xs, ∃ σ1, As X k (inG g frn ds c) target (a x) (inS ts) σ1 ∧ Le σ1 (inS ts) ∧ Ev X k (inG g frn ds c) σ1 elt (b (F x)))
    (hz : xs.length ≤ 16777216) (hu : Upd x (.list ((xs.map F).map b)) σ σ') (hq : Q (.next σ'))
    (hok : compOk sc ts g frn c ocs = true := by decide +kernel) (hs : ∀ env x, foldedSetIterable iter env x = pure x := by intro _ _; rfl)
    (hw : ∀ env, ∃ b, swapsWith (.ListComp elt [⟨target, iter, [], 0⟩] sc cp) (some (.Name x p)) pos.line env = pure b := by intro _; exact ⟨_, rfl⟩) :
    Es X k ⟨g0, fr0, ocs⟩ σ (.Assign [.Name x p] (.ListComp elt [⟨target, iter, [], 0⟩] sc cp) pos) Q := by
  have e : xs.map F = xs.filterMap (some ∘ F) := by rw [List.filterMap_eq_map]
  rw [e] at hu
  refine Es.asgF g frn ds c ts xs a (some ∘ F) b hi hf (fun x hx => ?_) hz hu hq hok hs hw
  obtain ⟨σ1, h1, h2, h3⟩ := hst x hx
  exact ⟨σ1, h1, h2, Trs.nil, fun y hy => by obtain rfl := Option.some.inj hy; exact h3⟩
end
section
variable {α β : Type} {elt target iter : Expr} {ifs : List Expr} {sc : Scope} {g0 ocs : List Str} {fr0 : List (Str × V)}
theorem Ev.compP (g frn : List Str) (ds : List V) (c ts : List Str) (xs : List α) (a : α → V) (q : α → Bool) (b : α → V) (hi : Iv X k ⟨g0, fr0, ocs⟩ σ iter (xs.map a)) (hf : Look σ fr0 frn ds)
    (hst : ∀ x ∈ xs, ∃ σ1, As X k (inG g frn ds c) target (a x) (inS ts) σ1 ∧ Le σ1 (inS ts) ∧ Trs X k (inG g frn ds c) σ1 ifs (q x) ∧ (q x = true → Ev X k (inG g frn ds c) σ1 elt (b x)))
    (hz : xs.length ≤ 16777216)
    (hok : compOk sc ts g frn c ocs = true := by decide +kernel) (hs : ∀ env x, foldedSetIterable iter env x = pure x := by intro _ _; rfl) :
    Ev X k ⟨g0, fr0, ocs⟩ σ (.ListComp elt [⟨target, iter, ifs, 0⟩] sc pos) (.list ((xs.filter q).map b)) := by
  rw [← List.filterMap_eq_filter]
  refine Ev.compF g frn ds c ts xs a (Option.guard (fun x => q x)) b hi hf (fun x hx => ?_) hz hok hs
  obtain ⟨σ1, h1, h2, h3, h4⟩ := hst x hx
  refine ⟨σ1, h1, h2, by simpa using h3, fun y hy => ?_⟩
  rw [Option.guard_eq_some_iff] at hy
  obtain ⟨rfl, hy⟩ := hy
  exact h4 hy
theorem Es.asgP {x : Str} {p cp : Pos} {Q : Res → Prop} (g frn : List Str) (ds : List V) (c ts : List Str) (xs : List α) (a : α → V) (q : α → Bool) (b : α → V) (hi : Iv X k ⟨g0, fr0, ocs⟩ σ iter (xs.map a)) (hf : Look σ fr0 frn ds)
    (hst : ∀ x ∈ xs, ∃ σ1, As X k (inG g frn ds c) target (a x) (inS ts) σ1 ∧ Le σ1 (inS ts) ∧ Trs X k (inG g frn ds c) σ1 ifs (q x) ∧ (q x = true → Ev X k (inG g frn ds c) σ1 elt (b x)))
    (hz : xs.length ≤ 16777216) (hu : Upd x (.list ((xs.filter q).map b)) σ σ') (hq : Q (.next σ'))
    (hok : compOk sc ts g frn c ocs = true := by decide +kernel) (hs : ∀ env x, foldedSetIterable iter env x = pure x := by intro _ _; rfl)
    (hw : ∀ env, ∃ b, swapsWith (.ListComp elt [⟨target, iter, ifs, 0⟩] sc cp) (some (.Name x p)) pos.line env = pure b := by intro _; exact ⟨_, rfl⟩) :
    Es X k ⟨g0, fr0, ocs⟩ σ (.Assign [.Name x p] (.ListComp elt [⟨target, iter, ifs, 0⟩] sc cp) pos) Q := by
  rw [← List.filterMap_eq_filter] at hu
  refine Es.asgF g frn ds c ts xs a (Option.guard (fun x => q x)) b hi hf (fun x hx => ?_) hz hu hq hok hs hw
  obtain ⟨σ1, h1, h2, h3, h4⟩ := hst x hx
  refine ⟨σ1, h1, h2, by simpa using h3, fun y hy => ?_⟩
  rw [Option.guard_eq_some_iff] at hy
  obtain ⟨rfl, hy⟩ := hy
  exact h4 hy
end
section
variable {α : Type} {f : α → V} {l : List α} {value lower upper : Expr} {p p2 p3 : Pos}
theorem Ev.upto {b : Nat} (hv : Ev X k gs σ value (.list (l.map f))) (hu : Ev X k gs σ upper (N b)) (hz : l.length ≤ 16777216 := by omega)
    (hs : ∀ o j, ∃ ops, subscripted (.Slice none (some upper) none p) false o j = operate ops (getItem o j) := by intro _ _; exact ⟨_, rfl⟩) : Ev X k gs σ (.Subscript value (.Slice none (some upper) none p) pos) (.list ((l.take b).map f)) := by
  have := Ev.sliceL (pos := pos) (p := p) hv .none (.some hu) .none (by decide) (by rw [List.length_map]; exact hz) hs
  rwa [pick_upto, ← List.map_take] at this
theorem Ev.from {b : Nat} (hv : Ev X k gs σ value (.list (l.map f))) (hu : Ev X k gs σ lower (N b)) (hz : l.length ≤ 16777216 := by omega)
    (hs : ∀ o j, ∃ ops, subscripted (.Slice (some lower) none none p) false o j = operate ops (getItem o j) := by intro _ _; exact ⟨_, rfl⟩) : Ev X k gs σ (.Subscript value (.Slice (some lower) none none p) pos) (.list ((l.drop b).map f)) := by
  have := Ev.sliceL (pos := pos) (p := p) hv (.some hu) .none .none (by decide) (by rw [List.length_map]; exact hz) hs
  rwa [pick_from, ← List.map_drop] at this
theorem Ev.minus {n : Nat} : Ev X k gs σ (.UnaryOp .USub (.Constant (.int 1) n p) p2) (.int (-1)) := Ev.un Ev.int Op1.neg
theorem Ev.butLast {n : Nat} (hv : Ev X k gs σ value (.list (l.map f))) (hz : l.length ≤ 16777216 := by omega)
    (hs : ∀ o j, ∃ ops, subscripted (.Slice none (some (.UnaryOp .USub (.Constant (.int 1) n p2) p3)) none p) false o j = operate ops (getItem o j) := by intro _ _; exact ⟨_, rfl⟩) : Ev X k gs σ (.Subscript value (.Slice none (some (.UnaryOp .USub (.Constant (.int 1) n p2) p3)) none p) pos) (.list (l.dropLast.map f)) := by
  have := Ev.sliceL (pos := pos) (p := p) hv .none (.some (Ev.minus (p := p2) (p2 := p3) (n := n))) .none (by decide) (by rw [List.length_map]; exact hz) hs
  rwa [pick_butLast, ← List.map_dropLast] at this
theorem Ev.last {n : Nat} (hv : Ev X k gs σ value (.list (l.map f))) (hz : l.length ≤ 16777216 := by omega)
    (hs : ∀ o j, ∃ ops, subscripted (.Slice (some (.UnaryOp .USub (.Constant (.int 1) n p2) p3)) none none p) false o j = operate ops (getItem o j) := by intro _ _; exact ⟨_, rfl⟩) : Ev X k gs σ (.Subscript value (.Slice (some (.UnaryOp .USub (.Constant (.int 1) n p2) p3)) none none p) pos) (.list ((l.drop (l.length - 1)).map f)) := by
  have := Ev.sliceL (pos := pos) (p := p) hv (.some (Ev.minus (p := p2) (p2 := p3) (n := n))) .none .none (by decide) (by rw [List.length_map]; exact hz) hs
  rwa [pick_last, List.length_map, ← List.map_drop] at this
theorem Ev.rev {n : Nat} (hv : Ev X k gs σ value (.list (l.map f))) (hz : l.length ≤ 3)
    (hs : ∀ o j, ∃ ops, subscripted (.Slice none none (some (.UnaryOp .USub (.Constant (.int 1) n p2) p3)) p) false o j = operate ops (getItem o j) := by intro _ _; exact ⟨_, rfl⟩) : Ev X k gs σ (.Subscript value (.Slice none none (some (.UnaryOp .USub (.Constant (.int 1) n p2) p3)) p) pos) (.list (l.reverse.map f)) := by
  have e : sizeLine = 16777216 := by decide
  have := Ev.sliceL (pos := pos) (p := p) hv .none .none (.some (Ev.minus (p := p2) (p2 := p3) (n := n))) (by decide) (by rw [List.length_map]; lia) hs
  rwa [pick_rev _ (by rw [List.length_map]; exact hz), ← List.map_reverse] at this
theorem Ev.revTail {n m : Nat} {p4 : Pos} (hv : Ev X k gs σ value (.list (l.map f))) (hz : l.length ≤ 3)
    (hs : ∀ o j, ∃ ops, subscripted (.Slice none (some (.Constant (.int 0) m p4)) (some (.UnaryOp .USub (.Constant (.int 1) n p2) p3)) p) false o j = operate ops (getItem o j) := by intro _ _; exact ⟨_, rfl⟩) :
    Ev X k gs σ (.Subscript value (.Slice none (some (.Constant (.int 0) m p4)) (some (.UnaryOp .USub (.Constant (.int 1) n p2) p3)) p) pos) (.list ((l.drop 1).reverse.map f)) := by
  have e : sizeLine = 16777216 := by decide
  have := Ev.sliceL (pos := pos) (p := p) hv .none (.some Ev.int) (.some (Ev.minus (p := p2) (p2 := p3) (n := n))) (by decide) (by rw [List.length_map]; lia) hs
  rwa [pick_revTail _ (by rw [List.length_map]; exact hz), ← List.map_drop, ← List.map_reverse] at this
theorem Op2.addm {xs ys : List α} (h : xs.length + ys.length ≤ 16777216 := by omega) : Op2 X k (binaryOp .Add) (.list (xs.map f)) (.list (ys.map f)) (.list ((xs ++ ys).map f)) := by
  have e : sizeLine = 16777216 := by decide
  rw [List.map_append]
  exact Op2.addl (by rw [List.length_map, List.length_map]; assumption)
end
theorem OpN.lenN {α : Type} {f : α → V} {l : List α} (hz : l.length < 2 ^ 63) : OpN X k (.builtin "len") [.list (l.map f)] (N l.length) := by
  have := OpN.lenL (X := X) (k := k) (ds := l.map f) (by rw [List.length_map]; exact hz)
  rwa [List.length_map] at this
theorem Ev.n0 {x : Str} {d : V} {r : Sto} (hd : d.isOwn = false := by rfl) : Ev X k gs ((x, some d) :: r) (.Name x pos) d := Ev.name (.head _) hd
theorem u0 {x : Str} {d : V} {o : Option V} {r : Sto} : Upd x d ((x, o) :: r) ((x, some d) :: r) := .head
theorem a0 {x : Str} {d : V} {o : Option V} {r : Sto} : As X k gs (.Name x pos) d ((x, o) :: r) ((x, some d) :: r) := As.name u0
theorem Ev.n1 {x : Str} {d : V} {p0 : Str × Option V} {r : Sto} (hd : d.isOwn = false := by rfl) : Ev X k gs (p0 :: (x, some d) :: r) (.Name x pos) d := Ev.name (.tail _ (.head _)) hd
theorem u1 {x : Str} {d : V} {o : Option V} {p0 : Str × Option V} {r : Sto} : Upd x d (p0 :: (x, o) :: r) (p0 :: (x, some d) :: r) := .tail (.head)
theorem a1 {x : Str} {d : V} {o : Option V} {p0 : Str × Option V} {r : Sto} : As X k gs (.Name x pos) d (p0 :: (x, o) :: r) (p0 :: (x, some d) :: r) := As.name u1
theorem Ev.n2 {x : Str} {d : V} {p0 p1 : Str × Option V} {r : Sto} (hd : d.isOwn = false := by rfl) : Ev X k gs (p0 :: p1 :: (x, some d) :: r) (.Name x pos) d := Ev.name (.tail _ (.tail _ (.head _))) hd
theorem u2 {x : Str} {d : V} {o : Option V} {p0 p1 : Str × Option V} {r : Sto} : Upd x d (p0 :: p1 :: (x, o) :: r) (p0 :: p1 :: (x, some d) :: r) := .tail (.tail (.head))
theorem a2 {x : Str} {d : V} {o : Option V} {p0 p1 : Str × Option V} {r : Sto} : As X k gs (.Name x pos) d (p0 :: p1 :: (x, o) :: r) (p0 :: p1 :: (x, some d) :: r) := As.name u2
theorem Ev.n3 {x : Str} {d : V} {p0 p1 p2 : Str × Option V} {r : Sto} (hd : d.isOwn = false := by rfl) : Ev X k gs (p0 :: p1 :: p2 :: (x, some d) :: r) (.Name x pos) d := Ev.name (.tail _ (.tail _ (.tail _ (.head _)))) hd
theorem u3 {x : Str} {d : V} {o : Option V} {p0 p1 p2 : Str × Option V} {r : Sto} : Upd x d (p0 :: p1 :: p2 :: (x, o) :: r) (p0 :: p1 :: p2 :: (x, some d) :: r) := .tail (.tail (.tail (.head)))
theorem a3 {x : Str} {d : V} {o : Option V} {p0 p1 p2 : Str × Option V} {r : Sto} : As X k gs (.Name x pos) d (p0 :: p1 :: p2 :: (x, o) :: r) (p0 :: p1 :: p2 :: (x, some d) :: r) := As.name u3
theorem Ev.n4 {x : Str} {d : V} {p0 p1 p2 p3 : Str × Option V} {r : Sto} (hd : d.isOwn = false := by rfl) : Ev X k gs (p0 :: p1 :: p2 :: p3 :: (x, some d) :: r) (.Name x pos) d := Ev.name (.tail _ (.tail _ (.tail _ (.tail _ (.head _))))) hd
theorem u4 {x : Str} {d : V} {o : Option V} {p0 p1 p2 p3 : Str × Option V} {r : Sto} : Upd x d (p0 :: p1 :: p2 :: p3 :: (x, o) :: r) (p0 :: p1 :: p2 :: p3 :: (x, some d) :: r) := .tail (.tail (.tail (.tail (.head))))
theorem a4 {x : Str} {d : V} {o : Option V} {p0 p1 p2 p3 : Str × Option V} {r : Sto} : As X k gs (.Name x pos) d (p0 :: p1 :: p2 :: p3 :: (x, o) :: r) (p0 :: p1 :: p2 :: p3 :: (x, some d) :: r) := As.name u4
theorem Ev.n5 {x : Str} {d : V} {p0 p1 p2 p3 p4 : Str × Option V} {r : Sto} (hd : d.isOwn = false := by rfl) : Ev X k gs (p0 :: p1 :: p2 :: p3 :: p4 :: (x, some d) :: r) (.Name x pos) d := Ev.name (.tail _ (.tail _ (.tail _ (.tail _ (.tail _ (.head _)))))) hd
theorem u5 {x : Str} {d : V} {o : Option V} {p0 p1 p2 p3 p4 : Str × Option V} {r : Sto} : Upd x d (p0 :: p1 :: p2 :: p3 :: p4 :: (x, o) :: r) (p0 :: p1 :: p2 :: p3 :: p4 :: (x, some d) :: r) := .tail (.tail (.tail (.tail (.tail (.head)))))
theorem a5 {x : Str} {d : V} {o : Option V} {p0 p1 p2 p3 p4 : Str × Option V} {r : Sto} : As X k gs (.Name x pos) d (p0 :: p1 :: p2 :: p3 :: p4 :: (x, o) :: r) (p0 :: p1 :: p2 :: p3 :: p4 :: (x, some d) :: r) := As.name u5
theorem Ev.n6 {x : Str} {d : V} {p0 p1 p2 p3 p4 p5 : Str × Option V} {r : Sto} (hd : d.isOwn = false := by rfl) : Ev X k gs (p0 :: p1 :: p2 :: p3 :: p4 :: p5 :: (x, some d) :: r) (.Name x pos) d := Ev.name (.tail _ (.tail _ (.tail _ (.tail _ (.tail _ (.tail _ (.head _))))))) hd
theorem u6 {x : Str} {d : V} {o : Option V} {p0 p1 p2 p3 p4 p5 : Str × Option V} {r : Sto} : Upd x d (p0 :: p1 :: p2 :: p3 :: p4 :: p5 :: (x, o) :: r) (p0 :: p1 :: p2 :: p3 :: p4 :: p5 :: (x, some d) :: r) := .tail (.tail (.tail (.tail (.tail (.tail (.head))))))
theorem a6 {x : Str} {d : V} {o : Option V} {p0 p1 p2 p3 p4 p5 : Str × Option V} {r : Sto} : As X k gs (.Name x pos) d (p0 :: p1 :: p2 :: p3 :: p4 :: p5 :: (x, o) :: r) (p0 :: p1 :: p2 :: p3 :: p4 :: p5 :: (x, some d) :: r) := As.name u6
theorem Ev.n7 {x : Str} {d : V} {p0 p1 p2 p3 p4 p5 p6 : Str × Option V} {r : Sto} (hd : d.isOwn = false := by rfl) : Ev X k gs (p0 :: p1 :: p2 :: p3 :: p4 :: p5 :: p6 :: (x, some d) :: r) (.Name x pos) d := Ev.name (.tail _ (.tail _ (.tail _ (.tail _ (.tail _ (.tail _ (.tail _ (.head _)))))))) hd
theorem u7 {x : Str} {d : V} {o : Option V} {p0 p1 p2 p3 p4 p5 p6 : Str × Option V} {r : Sto} : Upd x d (p0 :: p1 :: p2 :: p3 :: p4 :: p5 :: p6 :: (x, o) :: r) (p0 :: p1 :: p2 :: p3 :: p4 :: p5 :: p6 :: (x, some d) :: r) := .tail (.tail (.tail (.tail (.tail (.tail (.tail (.head)))))))
theorem a7 {x : Str} {d : V} {o : Option V} {p0 p1 p2 p3 p4 p5 p6 : Str × Option V} {r : Sto} : As X k gs (.Name x pos) d (p0 :: p1 :: p2 :: p3 :: p4 :: p5 :: p6 :: (x, o) :: r) (p0 :: p1 :: p2 :: p3 :: p4 :: p5 :: p6 :: (x, some d) :: r) := As.name u7
theorem Ev.n8 {x : Str} {d : V} {p0 p1 p2 p3 p4 p5 p6 p7 : Str × Option V} {r : Sto} (hd : d.isOwn = false := by rfl) : Ev X k gs (p0 :: p1 :: p2 :: p3 :: p4 :: p5 :: p6 :: p7 :: (x, some d) :: r) (.Name x pos) d := Ev.name (.tail _ (.tail _ (.tail _ (.tail _ (.tail _ (.tail _ (.tail _ (.tail _ (.head _))))))))) hd
theorem u8 {x : Str} {d : V} {o : Option V} {p0 p1 p2 p3 p4 p5 p6 p7 : Str × Option V} {r : Sto} : Upd x d (p0 :: p1 :: p2 :: p3 :: p4 :: p5 :: p6 :: p7 :: (x, o) :: r) (p0 :: p1 :: p2 :: p3 :: p4 :: p5 :: p6 :: p7 :: (x, some d) :: r) := .tail (.tail (.tail (.tail (.tail (.tail (.tail (.tail (.head))))))))
theorem a8 {x : Str} {d : V} {o : Option V} {p0 p1 p2 p3 p4 p5 p6 p7 : Str × Option V} {r : Sto} : As X k gs (.Name x pos) d (p0 :: p1 :: p2 :: p3 :: p4 :: p5 :: p6 :: p7 :: (x, o) :: r) (p0 :: p1 :: p2 :: p3 :: p4 :: p5 :: p6 :: p7 :: (x, some d) :: r) := As.name u8
theorem Ev.n9 {x : Str} {d : V} {p0 p1 p2 p3 p4 p5 p6 p7 p8 : Str × Option V} {r : Sto} (hd : d.isOwn = false := by rfl) : Ev X k gs (p0 :: p1 :: p2 :: p3 :: p4 :: p5 :: p6 :: p7 :: p8 :: (x, some d) :: r) (.Name x pos) d := Ev.name (.tail _ (.tail _ (.tail _ (.tail _ (.tail _ (.tail _ (.tail _ (.tail _ (.tail _ (.head _)))))))))) hd
theorem u9 {x : Str} {d : V} {o : Option V} {p0 p1 p2 p3 p4 p5 p6 p7 p8 : Str × Option V} {r : Sto} : Upd x d (p0 :: p1 :: p2 :: p3 :: p4 :: p5 :: p6 :: p7 :: p8 :: (x, o) :: r) (p0 :: p1 :: p2 :: p3 :: p4 :: p5 :: p6 :: p7 :: p8 :: (x, some d) :: r) := .tail (.tail (.tail (.tail (.tail (.tail (.tail (.tail (.tail (.head)))))))))
theorem Ev.n10 {x : Str} {d : V} {p0 p1 p2 p3 p4 p5 p6 p7 p8 p9 : Str × Option V} {r : Sto} (hd : d.isOwn = false := by rfl) : Ev X k gs (p0 :: p1 :: p2 :: p3 :: p4 :: p5 :: p6 :: p7 :: p8 :: p9 :: (x, some d) :: r) (.Name x pos) d := Ev.name (.tail _ (.tail _ (.tail _ (.tail _ (.tail _ (.tail _ (.tail _ (.tail _ (.tail _ (.tail _ (.head _))))))))))) hd
theorem u10 {x : Str} {d : V} {o : Option V} {p0 p1 p2 p3 p4 p5 p6 p7 p8 p9 : Str × Option V} {r : Sto} : Upd x d (p0 :: p1 :: p2 :: p3 :: p4 :: p5 :: p6 :: p7 :: p8 :: p9 :: (x, o) :: r) (p0 :: p1 :: p2 :: p3 :: p4 :: p5 :: p6 :: p7 :: p8 :: p9 :: (x, some d) :: r) := .tail (.tail (.tail (.tail (.tail (.tail (.tail (.tail (.tail (.tail (.head))))))))))
theorem Ev.n11 {x : Str} {d : V} {p0 p1 p2 p3 p4 p5 p6 p7 p8 p9 p10 : Str × Option V} {r : Sto} (hd : d.isOwn = false := by rfl) : Ev X k gs (p0 :: p1 :: p2 :: p3 :: p4 :: p5 :: p6 :: p7 :: p8 :: p9 :: p10 :: (x, some d) :: r) (.Name x pos) d := Ev.name (.tail _ (.tail _ (.tail _ (.tail _ (.tail _ (.tail _ (.tail _ (.tail _ (.tail _ (.tail _ (.tail _ (.head _)))))))))))) hd
theorem u11 {x : Str} {d : V} {o : Option V} {p0 p1 p2 p3 p4 p5 p6 p7 p8 p9 p10 : Str × Option V} {r : Sto} : Upd x d (p0 :: p1 :: p2 :: p3 :: p4 :: p5 :: p6 :: p7 :: p8 :: p9 :: p10 :: (x, o) :: r) (p0 :: p1 :: p2 :: p3 :: p4 :: p5 :: p6 :: p7 :: p8 :: p9 :: p10 :: (x, some d) :: r) := .tail (.tail (.tail (.tail (.tail (.tail (.tail (.tail (.tail (.tail (.tail (.head)))))))))))
theorem Ev.n12 {x : Str} {d : V} {p0 p1 p2 p3 p4 p5 p6 p7 p8 p9 p10 p11 : Str × Option V} {r : Sto} (hd : d.isOwn = false := by rfl) : Ev X k gs (p0 :: p1 :: p2 :: p3 :: p4 :: p5 :: p6 :: p7 :: p8 :: p9 :: p10 :: p11 :: (x, some d) :: r) (.Name x pos) d := Ev.name (.tail _ (.tail _ (.tail _ (.tail _ (.tail _ (.tail _ (.tail _ (.tail _ (.tail _ (.tail _ (.tail _ (.tail _ (.head _))))))))))))) hd
theorem u12 {x : Str} {d : V} {o : Option V} {p0 p1 p2 p3 p4 p5 p6 p7 p8 p9 p10 p11 : Str × Option V} {r : Sto} : Upd x d (p0 :: p1 :: p2 :: p3 :: p4 :: p5 :: p6 :: p7 :: p8 :: p9 :: p10 :: p11 :: (x, o) :: r) (p0 :: p1 :: p2 :: p3 :: p4 :: p5 :: p6 :: p7 :: p8 :: p9 :: p10 :: p11 :: (x, some d) :: r) := .tail (.tail (.tail (.tail (.tail (.tail (.tail (.tail (.tail (.tail (.tail (.tail (.head))))))))))))
theorem Ev.n13 {x : Str} {d : V} {p0 p1 p2 p3 p4 p5 p6 p7 p8 p9 p10 p11 p12 : Str × Option V} {r : Sto} (hd : d.isOwn = false := by rfl) : Ev X k gs (p0 :: p1 :: p2 :: p3 :: p4 :: p5 :: p6 :: p7 :: p8 :: p9 :: p10 :: p11 :: p12 :: (x, some d) :: r) (.Name x pos) d := Ev.name (.tail _ (.tail _ (.tail _ (.tail _ (.tail _ (.tail _ (.tail _ (.tail _ (.tail _ (.tail _ (.tail _ (.tail _ (.tail _ (.head _)))))))))))))) hd
theorem u13 {x : Str} {d : V} {o : Option V} {p0 p1 p2 p3 p4 p5 p6 p7 p8 p9 p10 p11 p12 : Str × Option V} {r : Sto} : Upd x d (p0 :: p1 :: p2 :: p3 :: p4 :: p5 :: p6 :: p7 :: p8 :: p9 :: p10 :: p11 :: p12 :: (x, o) :: r) (p0 :: p1 :: p2 :: p3 :: p4 :: p5 :: p6 :: p7 :: p8 :: p9 :: p10 :: p11 :: p12 :: (x, some d) :: r) := .tail (.tail (.tail (.tail (.tail (.tail (.tail (.tail (.tail (.tail (.tail (.tail (.tail (.head)))))))))))))
theorem a13 {x : Str} {d : V} {o : Option V} {p0 p1 p2 p3 p4 p5 p6 p7 p8 p9 p10 p11 p12 : Str × Option V} {r : Sto} : As X k gs (.Name x pos) d (p0 :: p1 :: p2 :: p3 :: p4 :: p5 :: p6 :: p7 :: p8 :: p9 :: p10 :: p11 :: p12 :: (x, o) :: r) (p0 :: p1 :: p2 :: p3 :: p4 :: p5 :: p6 :: p7 :: p8 :: p9 :: p10 :: p11 :: p12 :: (x, some d) :: r) := As.name u13
theorem Ev.n14 {x : Str} {d : V} {p0 p1 p2 p3 p4 p5 p6 p7 p8 p9 p10 p11 p12 p13 : Str × Option V} {r : Sto} (hd : d.isOwn = false := by rfl) : Ev X k gs (p0 :: p1 :: p2 :: p3 :: p4 :: p5 :: p6 :: p7 :: p8 :: p9 :: p10 :: p11 :: p12 :: p13 :: (x, some d) :: r) (.Name x pos) d := Ev.name (.tail _ (.tail _ (.tail _ (.tail _ (.tail _ (.tail _ (.tail _ (.tail _ (.tail _ (.tail _ (.tail _ (.tail _ (.tail _ (.tail _ (.head _))))))))))))))) hd
theorem u14 {x : Str} {d : V} {o : Option V} {p0 p1 p2 p3 p4 p5 p6 p7 p8 p9 p10 p11 p12 p13 : Str × Option V} {r : Sto} : Upd x d (p0 :: p1 :: p2 :: p3 :: p4 :: p5 :: p6 :: p7 :: p8 :: p9 :: p10 :: p11 :: p12 :: p13 :: (x, o) :: r) (p0 :: p1 :: p2 :: p3 :: p4 :: p5 :: p6 :: p7 :: p8 :: p9 :: p10 :: p11 :: p12 :: p13 :: (x, some d) :: r) := .tail (.tail (.tail (.tail (.tail (.tail (.tail (.tail (.tail (.tail (.tail (.tail (.tail (.tail (.head))))))))))))))
theorem a14 {x : Str} {d : V} {o : Option V} {p0 p1 p2 p3 p4 p5 p6 p7 p8 p9 p10 p11 p12 p13 : Str × Option V} {r : Sto} : As X k gs (.Name x pos) d (p0 :: p1 :: p2 :: p3 :: p4 :: p5 :: p6 :: p7 :: p8 :: p9 :: p10 :: p11 :: p12 :: p13 :: (x, o) :: r) (p0 :: p1 :: p2 :: p3 :: p4 :: p5 :: p6 :: p7 :: p8 :: p9 :: p10 :: p11 :: p12 :: p13 :: (x, some d) :: r) := As.name u14
theorem Ev.n15 {x : Str} {d : V} {p0 p1 p2 p3 p4 p5 p6 p7 p8 p9 p10 p11 p12 p13 p14 : Str × Option V} {r : Sto} (hd : d.isOwn = false := by rfl) : Ev X k gs (p0 :: p1 :: p2 :: p3 :: p4 :: p5 :: p6 :: p7 :: p8 :: p9 :: p10 :: p11 :: p12 :: p13 :: p14 :: (x, some d) :: r) (.Name x pos) d := Ev.name (.tail _ (.tail _ (.tail _ (.tail _ (.tail _ (.tail _ (.tail _ (.tail _ (.tail _ (.tail _ (.tail _ (.tail _ (.tail _ (.tail _ (.tail _ (.head _)))))))))))))))) hd
theorem u15 {x : Str} {d : V} {o : Option V} {p0 p1 p2 p3 p4 p5 p6 p7 p8 p9 p10 p11 p12 p13 p14 : Str × Option V} {r : Sto} : Upd x d (p0 :: p1 :: p2 :: p3 :: p4 :: p5 :: p6 :: p7 :: p8 :: p9 :: p10 :: p11 :: p12 :: p13 :: p14 :: (x, o) :: r) (p0 :: p1 :: p2 :: p3 :: p4 :: p5 :: p6 :: p7 :: p8 :: p9 :: p10 :: p11 :: p12 :: p13 :: p14 :: (x, some d) :: r) := .tail (.tail (.tail (.tail (.tail (.tail (.tail (.tail (.tail (.tail (.tail (.tail (.tail (.tail (.tail (.head)))))))))))))))
theorem Ev.n16 {x : Str} {d : V} {p0 p1 p2 p3 p4 p5 p6 p7 p8 p9 p10 p11 p12 p13 p14 p15 : Str × Option V} {r : Sto} (hd : d.isOwn = false := by rfl) : Ev X k gs (p0 :: p1 :: p2 :: p3 :: p4 :: p5 :: p6 :: p7 :: p8 :: p9 :: p10 :: p11 :: p12 :: p13 :: p14 :: p15 :: (x, some d) :: r) (.Name x pos) d := Ev.name (.tail _ (.tail _ (.tail _ (.tail _ (.tail _ (.tail _ (.tail _ (.tail _ (.tail _ (.tail _ (.tail _ (.tail _ (.tail _ (.tail _ (.tail _ (.tail _ (.head _))))))))))))))))) hd
theorem u16 {x : Str} {d : V} {o : Option V} {p0 p1 p2 p3 p4 p5 p6 p7 p8 p9 p10 p11 p12 p13 p14 p15 : Str × Option V} {r : Sto} : Upd x d (p0 :: p1 :: p2 :: p3 :: p4 :: p5 :: p6 :: p7 :: p8 :: p9 :: p10 :: p11 :: p12 :: p13 :: p14 :: p15 :: (x, o) :: r) (p0 :: p1 :: p2 :: p3 :: p4 :: p5 :: p6 :: p7 :: p8 :: p9 :: p10 :: p11 :: p12 :: p13 :: p14 :: p15 :: (x, some d) :: r) := .tail (.tail (.tail (.tail (.tail (.tail (.tail (.tail (.tail (.tail (.tail (.tail (.tail (.tail (.tail (.tail (.head))))))))))))))))
theorem Ev.f0 {x : Str} {d : V} {g c : List Str} {r : List (Str × V)} : Ev X k ⟨g, (x, d) :: r, c⟩ σ (.Name x pos) d := Ev.fname (.head _)
theorem Ev.f1 {x : Str} {d : V} {g c : List Str} {p0 : Str × V} {r : List (Str × V)} : Ev X k ⟨g, p0 :: (x, d) :: r, c⟩ σ (.Name x pos) d := Ev.fname (.tail _ (.head _))
theorem Ev.f2 {x : Str} {d : V} {g c : List Str} {p0 p1 : Str × V} {r : List (Str × V)} : Ev X k ⟨g, p0 :: p1 :: (x, d) :: r, c⟩ σ (.Name x pos) d := Ev.fname (.tail _ (.tail _ (.head _)))
end Mine
end
noncomputable section
namespace Mine
open PySem PySem.W PySem.Calls PyProof.Rows
variable {X : Cx} {k : Nat} {gs gi : Gm} {σ σ' : Sto} {l r : Expr} {pos : Pos}
noncomputable def stm (i : Nat) : Stmt := PySem.Challenge.pw_rs0161_01.main.body.getD i (.Pass ⟨0, 0, 0, 0⟩)
noncomputable def bodyS : Stmt → List Stmt | .FunctionDef _ _ b .. => b | .ClassDef _ _ _ b .. => b | _ => []
noncomputable def scopeS : Stmt → Scope | .FunctionDef _ _ _ _ _ _ sc .. => sc | _ => ⟨.function, [], false, false, []⟩
noncomputable def paramsS : Stmt → Arguments | .FunctionDef _ a .. => a | _ => ⟨[], [], none, [], [], none, []⟩
noncomputable def fdS (st : Stmt) (name qual : Str) (dV kV doc pm : Value) (an : Option Addr) (cd ct : Value) : FuncData := ⟨name, qual, paramsS st, .stmts (bodyS st), scopeS st, mainGlobals, [], dV, kV, doc, pm, an, cd, ct, builtinsNs⟩
noncomputable def PFn (X : Cx) (a : Addr) (st : Stmt) : Prop := ∃ name qual kV doc pm an cd ct, FnAt X a (fdS st name qual .none kV doc pm an cd ct)
theorem PFn.callable {a : Addr} {st : Stmt} (P : PFn X a st) : Callable X (.ref a) := let ⟨_, _, _, _, _, _, _, _, F⟩ := P; F.callable
theorem OpN.pfn {a : Addr} {st : Stmt} {ds : List V} {d : V} (ns ls gl cs : List Str) (O : XOk X) (P : PFn X a st)
    (hok : fnOk (scopeS st) ns ls gl cs = true) (hl : ns.length = ds.length)
    (hb : ∀ name qual kV doc pm an cd ct (vs : List Value), vs.length = ns.length → bindArgs (fdS st name qual .none kV doc pm an cd ct) ⟨vs, []⟩ = pure (ns.zip vs))
    (h : Ex X k ⟨gl, [], cs⟩ (fnSto ns ls ds) (bodyS st) (Rets d)) : OpN X (k + 1) (.ref a) ds d := by
  refine el7_1 (P) fun name qual kV doc pm an cd y1 => ?_; refine el1_1 (y1) fun ct F => ?_
  refine OpN.fn (ns := ns) (ls := ls) (gl := gl) (cs := cs) O F (fun A W s vs B rd => ⟨vs, BindsTo.of_eq (hb _ _ _ _ _ _ _ _ vs (by rw [rd.length, hl])), rd⟩) rfl hok hl h
theorem lenS {vs : List Value} {n : Nat} (h : vs.length = n + 1) : ∃ a r, vs = a :: r ∧ r.length = n := by
  cases vs with
  | nil => exact Nat.noConfusion h
  | cons a r => exact ⟨a, r, rfl, Nat.succ.inj h⟩
theorem len1 {vs : List Value} (h : vs.length = 1) : ∃ a, vs = [a] := (lenS h).elim fun a x => x.elim fun _ y => ⟨a, List.eq_nil_of_length_eq_zero y.2 ▸ y.1⟩
theorem len2 {vs : List Value} (h : vs.length = 2) : ∃ a b, vs = [a, b] := (lenS h).elim fun a x => x.elim fun _ y => (len1 y.2).elim fun b z => ⟨a, b, z ▸ y.1⟩
theorem len3 {vs : List Value} (h : vs.length = 3) : ∃ a b c, vs = [a, b, c] := (lenS h).elim fun a x => x.elim fun _ y => (len2 y.2).elim fun b z => z.elim fun c z => ⟨a, b, c, z ▸ y.1⟩
theorem len4 {vs : List Value} (h : vs.length = 4) : ∃ a b c d, vs = [a, b, c, d] := (lenS h).elim fun a x => x.elim fun _ y => (len3 y.2).elim fun b z => z.elim fun c z => z.elim fun d z => ⟨a, b, c, d, z ▸ y.1⟩
set_option genInjectivity false in
structure Ad where
  (lead leads text stand left cut typed words grouping strip bright bleft ws : Addr)
noncomputable abbrev Gv (X : Cx) (g : Str) (v : Value) : Prop := (g, v) ∈ X.gl
structure PX (X : Cx) (D : Ad) : Prop extends XOk X where
  range : Gv X "range" (Value.type "range")
  len : Gv X "len" (Value.builtin "len")
  sum : Gv X "sum" (Value.builtin "sum")
  max : Gv X "max" (Value.builtin "max")
  list : Gv X "list" (Value.type "list")
  tuple : Gv X "tuple" (Value.type "tuple")
  zip : Gv X "zip" (Value.type "zip")
  enumerate : Gv X "enumerate" (Value.type "enumerate")
  str : Gv X "str" (Value.type "str")
  valueError : Gv X "ValueError" (Value.type "ValueError")
  indexError : Gv X "IndexError" (Value.type "IndexError")
  lead : Gv X "_law_lead" (Value.ref D.lead)
  leads : Gv X "_law_leads" (Value.ref D.leads)
  text : Gv X "_law_text" (Value.ref D.text)
  stand : Gv X "_law_stand" (Value.ref D.stand)
  left : Gv X "_law_left" (Value.ref D.left)
  cut : Gv X "_law_cut" (Value.ref D.cut)
  typed : Gv X "_law_typed" (Value.ref D.typed)
  words : Gv X "_law_words" (Value.ref D.words)
  grouping : Gv X "_grouping_intervals" (Value.ref D.grouping)
  strip : Gv X "_strip_padding" (Value.ref D.strip)
  bright : Gv X "bisect_right" (Value.ref D.bright)
  bleft : Gv X "bisect_left" (Value.ref D.bleft)
  ws : Gv X "Whitespace" (Value.ref D.ws)
  pLead : PFn X D.lead (stm 10)
  pLeads : PFn X D.leads (stm 11)
  pText : PFn X D.text (stm 12)
  pStand : PFn X D.stand (stm 13)
  pLeft : PFn X D.left (stm 14)
  pCut : PFn X D.cut (stm 15)
  pTyped : PFn X D.typed (stm 16)
  pWords : PFn X D.words (stm 17)
  pStrip : PFn X D.strip (stm 8)
  pGroup : PFn X D.grouping (stm 7)
  charMax : ∃ t, Gv X "CHAR_MAX" (Value.int 127 t)
theorem Op2.mulcN {c n : Nat} (h1 : n ≤ 16777216) : Op2 X k (binaryOp .Mult) (T [c]) (N n) (T (List.replicate n c)) := by
  have := Op2.mulc (X := X) (k := k) (c := c) (n := (n : Int)) (by (exact Int.ofNat_nonneg _)) (by lia)
  rwa [Int.toNat_natCast] at this
theorem Ev.itemN {value slice : Expr} {ds : List V} {i : Nat} {d : V} (hv : Ev X k gs σ value (.list ds)) (hi : Ev X k gs σ slice (N i)) (hd : ds[i]? = some d) (h1 : i < 2 ^ 62 := by lia)
    (hs : ∀ o j, subscripted slice false o j = operate [o, j] (getItem o j) := by intro _ _; rfl) : Ev X k gs σ (.Subscript value slice pos) d :=
  Ev.itemL hv hi (by (exact Int.ofNat_nonneg _)) (by lia) (by rwa [Int.toNat_natCast]) hs
theorem Iv.rangeN {func e : Expr} {n : Nat} (hf : Ev X k gs σ func (.opq (.type "range"))) (he : Ev X k gs σ e (N n)) (hb : n ≤ 1000000000)
    (he' : ∀ env, eval (.Call func [e] [] pos) env = (do callWith pos (← eval func env) [] (backTo pos (starEach [e] env)) (backToKw pos (keywordEach [] env))) := by intro _; rfl)
    (hp : Plain [e] = true := by rfl) (hst : ∀ env, starEach [e] env = (false, eval e env) :: starEach [] env := by intro _; rfl) : Iv X k gs σ (.Call func [e] [] pos) ((List.range n).map N) := by
  have := Iv.range1 (pos := pos) hf he rfl hb he' hp hst
  have e : upto 0 n = (List.range n).map N := List.map_congr_left fun i _ => by show V.int (0 + (i : Int)) = V.int i; rw [Int.zero_add]
  rwa [e] at this
noncomputable def leadText (runs : List Nat) (blanks : Nat) : List Nat := (runs.map fun r => List.replicate r 32 ++ [9]).flatten ++ List.replicate blanks 32
structure Lead (runs : List Nat) (blanks : Nat) : Prop where
  len : runs.length ≤ 3
  run : ∀ r ∈ runs, r ≤ 4
  blanks : blanks ≤ 3
theorem Lead.flat {runs : List Nat} (h : ∀ r ∈ runs, r ≤ 4) : (runs.map fun r => List.replicate r 32 ++ [9]).flatten.length ≤ runs.length * 5 := by
  induction runs with
  | nil => exact Nat.zero_le _
  | cons a l ih =>
    have := h a (.head _)
    have := ih fun r hr => h r (.tail _ hr)
    simp only [List.map_cons, List.flatten_cons, List.length_append, List.length_cons, List.length_replicate, List.length_nil]
    lia
theorem Lead.size {runs : List Nat} {blanks : Nat} (h : Lead runs blanks) : (leadText runs blanks).length ≤ 18 := by
  have h1 := Lead.flat h.run
  have h2 := h.len
  have h3 := h.blanks
  unfold leadText
  rw [List.length_append, List.length_replicate]
  lia
theorem text_ok {D : Ad} {runs : List Nat} {blanks : Nat} (P : PX X D) (L : Lead runs blanks) : OpN X (k + 1) (.ref D.text) [natsV runs, N blanks] (T (leadText runs blanks)) := by
  refine OpN.pfn ["runs", "blanks"] [] [] [] P.toXOk P.pText (by decide +kernel) rfl (fun name qual kV doc pm an cd ct vs h => ?_) ?_
  · refine el2_1 (len2 h) fun a b y2 => ?_; obtain rfl := y2
    rfl
  have sz : sizeLine = 16777216 := by decide
  have hl := L.len
  have hb := L.blanks
  have hfl := Lead.flat L.run
  have hj : ((runs.map fun r => List.replicate r 32 ++ [9]).map (·.length)).sum + (runs.map fun r => List.replicate r 32 ++ [9]).length * ([] : List Nat).length ≤ 16777216 := by
    rw [List.length_flatten] at hfl
    simp only [List.length_nil, Nat.mul_zero, Nat.add_zero]
    show ((runs.map fun r => List.replicate r 32 ++ [9]).map List.length).sum ≤ _
    lia
  refine Ex.cons (Es.ret (d := T (glue [] (runs.map fun r => List.replicate r 32 ++ [9]) ++ List.replicate blanks 32)) ?_ (by rw [glue_nil]; rfl))
  refine Ev.bin (Ev.meth MethS.join (Ev.txt []) (Evs.cons (Ev.compM [] [] [] [] ["run"] runs N (fun r => List.replicate r 32 ++ [9]) T (Iv.list Ev.n0) .nil (fun r hr => ⟨_, a0, .drop .nil, ?_⟩) (by lia)) Evs.nil) (OpN.join hj))
    (Ev.bin (Ev.txt [32]) Ev.n1 (Op2.mulcN (by lia))) (Op2.addt (by rw [List.length_replicate, glue_nil]; lia))
  · have := L.run r hr
    exact Ev.bin (Ev.bin (Ev.txt [32]) Ev.n0 (Op2.mulcN (by lia))) (Ev.txt [9]) (Op2.addt (by rw [List.length_replicate]; simp only [List.length_cons, List.length_nil]; lia))
noncomputable def leadLen (n : Nat) : Nat := [1, 2, 3, 2, 1, 3, 2, 0].getD (n % 8) 0
noncomputable def leadRuns (n : Nat) : List Nat := (List.range (leadLen n)).map fun p => n / 8 / 5 ^ p % 5
noncomputable def leadBlanks (n : Nat) : Nat := n / 1000 % 3
theorem leadLen_le (n : Nat) : leadLen n ≤ 3 := by
  unfold leadLen
  exact (show ∀ m, m < 8 → [1, 2, 3, 2, 1, 3, 2, 0].getD m 0 ≤ 3 by decide) (n % 8) (Nat.mod_lt _ (by decide))
theorem lead_ok {D : Ad} {n : Nat} (P : PX X D) : OpN X (k + 1) (.ref D.lead) [N n] (.tup [natsV (leadRuns n), N (leadBlanks n)]) := by
  refine OpN.pfn ["number"] [] ["range"] ["number"] P.toXOk P.pLead (by decide +kernel) rfl (fun name qual kV doc pm an cd ct vs h => ?_) ?_
  · refine el1_1 (len1 h) fun a y3 => ?_; obtain rfl := y3
    rfl
  refine Ex.cons (Es.ret (d := .tup [natsV (leadRuns n), N (leadBlanks n)]) ?_ rfl)
  refine Ev.tupD (Evs.cons (Ev.compM [] ["number"] [N n] [] ["place"] (List.range (leadLen n)) N (fun p => n / 8 / 5 ^ p % 5) N
    (Iv.rangeN (Ev.glob P.toXOk (.head _) P.range) (Ev.itemN (Ev.listD (Evs.cons (Ev.natc 1) (Evs.cons (Ev.natc 2) (Evs.cons (Ev.natc 3) (Evs.cons (Ev.natc 2) (Evs.cons (Ev.natc 1) (Evs.cons (Ev.natc 3) (Evs.cons (Ev.natc 2) (Evs.cons (Ev.natc 0) Evs.nil)))))))))
      (Ev.bin Ev.n0 (Ev.natc 8) (Op2.modN (by decide))) ?_ ?_) ?_) (.s (.head _) .nil) (fun p hp => ⟨_, a0, .drop .nil, ?_⟩) ?_)
    (Evs.cons (Ev.bin (Ev.bin Ev.n0 (Ev.natc 1000) (Op2.divN (by decide) (by decide))) (Ev.natc 3) (Op2.modN (by decide))) Evs.nil))
  · have h8 : n % 8 < 8 := Nat.mod_lt _ (by decide)
    unfold leadLen
    generalize n % 8 = m at h8
    match m, h8 with
    | 0, _ => rfl
    | 1, _ => rfl
    | 2, _ => rfl
    | 3, _ => rfl
    | 4, _ => rfl
    | 5, _ => rfl
    | 6, _ => rfl
    | 7, _ => rfl
  · lia
  · have := leadLen_le n; lia
  · have hp' : p < 3 := Nat.lt_of_lt_of_le (List.mem_range.mp hp) (leadLen_le n)
    have h5 : 0 < 5 ^ p ∧ 5 ^ p < 1073741824 := by
      match p, hp' with
      | 0, _ => decide
      | 1, _ => decide
      | 2, _ => decide
    exact Ev.bin (Ev.bin (Ev.bin Ev.f0 (Ev.natc 8) (Op2.divN (by decide) (by decide))) (Ev.bin (Ev.natc 5) Ev.n0 (Op2.powN (by lia) (by decide))) (Op2.divN h5.1 h5.2)) (Ev.natc 5) (Op2.modN (by decide))
  · rw [List.length_range]; have := leadLen_le n; lia
noncomputable def leadOf (n : Nat) : List Nat × Nat := (leadRuns n, leadBlanks n)
noncomputable abbrev leadV (l : List Nat × Nat) : V := .tup [natsV l.1, N l.2]
noncomputable def leadsOf (a b : Nat) : (List Nat × Nat) × (List Nat × Nat) :=
  (leadOf a, if b % 4 = 0 then leadOf (b / 4) else if b % 4 = 1 then ((leadRuns a).reverse, leadBlanks a) else if b % 4 = 2 then (leadRuns a, leadBlanks a + 1) else ((leadRuns a).take 1 ++ ((leadRuns a).drop 1).reverse, leadBlanks a))
theorem leadRuns_len (n : Nat) : (leadRuns n).length ≤ 3 := by unfold leadRuns; rw [List.length_map, List.length_range]; exact leadLen_le n
theorem leads_ok {D : Ad} {a b : Nat} (P : PX X D) : OpN X (k + 2) (.ref D.leads) [N a, N b] (.list [leadV (leadsOf a b).1, leadV (leadsOf a b).2]) := by
  refine OpN.pfn ["first", "second"] ["runs", "blanks"] ["_law_lead"] [] P.toXOk P.pLeads (by decide +kernel) rfl (fun name qual kV doc pm an cd ct vs h => ?_) ?_
  · refine el2_1 (len2 h) fun a b y4 => ?_; obtain rfl := y4
    rfl
  have hl := leadRuns_len a
  have hL : leadV (leadsOf a b).1 = .tup [natsV (leadRuns a), N (leadBlanks a)] := rfl
  rw [hL]
  refine Ex.cons (Es.asgT (Ev.call (Ev.glob P.toXOk (.head _) P.lead) (Evs.cons Ev.n0 Evs.nil) P.pLead.callable (lead_ok P)) (As.tup a2 a3) ?_)
  have h4 : b % 4 < 4 := Nat.mod_lt _ (by decide)
  refine Ex.cons (Es.ret (d := .list [leadV (leadsOf a b).1, leadV (leadsOf a b).2]) (Ev.listD (Evs.cons (Ev.tupD (Evs.cons Ev.n2 (Evs.cons Ev.n3 Evs.nil))) (Evs.cons (Ev.itemN (Ev.listD (Evs.cons (Ev.call (Ev.glob P.toXOk (.head _) P.lead) (Evs.cons (Ev.bin Ev.n1 (Ev.natc 4) (Op2.divN (by decide) (by decide))) Evs.nil) P.pLead.callable (lead_ok P))
    (Evs.cons (Ev.tupD (Evs.cons (Ev.rev Ev.n2 hl) (Evs.cons Ev.n3 Evs.nil)))
    (Evs.cons (Ev.tupD (Evs.cons Ev.n2 (Evs.cons (Ev.bin Ev.n3 (Ev.natc 1) Op2.addN) Evs.nil)))
    (Evs.cons (Ev.tupD (Evs.cons (Ev.bin (Ev.upto Ev.n2 (Ev.natc 1)) (Ev.revTail Ev.n2 hl) (Op2.addm ?_)) (Evs.cons Ev.n3 Evs.nil))) Evs.nil)))))
    (Ev.bin Ev.n1 (Ev.natc 4) (Op2.modN (by decide))) ?_ (by omega)) Evs.nil))) rfl)
  · rw [List.length_take, List.length_reverse, List.length_drop]; omega
  · unfold leadsOf
    generalize b % 4 = m at h4
    match m, h4 with
    | 0, _ => rfl
    | 1, _ => rfl
    | 2, _ => rfl
    | 3, _ => rfl
end Mine
end
noncomputable section
namespace Mine
open PySem PySem.W PySem.Calls PyProof.Rows
variable {X : Cx} {k : Nat} {gs gi : Gm} {σ σ' : Sto} {l r : Expr} {pos : Pos}
noncomputable def stopsOf (free : List Nat) : List Nat := (List.range free.length).map fun c => (free.take (c + 1)).sum
noncomputable def standStep (free : List Nat) (last c run : Nat) : Nat := match (stopsOf free).filter (fun s => decide (c + run < s)) with
  | s :: _ => s
  | [] => free.sum + last * ((c + run - free.sum) / last + 1)
noncomputable def stand (runs : List Nat) (blanks : Nat) (free : List Nat) (last : Nat) : Nat := runs.foldl (standStep free last) 0 + blanks
theorem stops_none {free : List Nat} {c : Nat} (h : (stopsOf free).filter (fun s => decide (c < s)) = []) : free.sum ≤ c := by
  rw [List.filter_eq_nil_iff] at h
  cases hl : free.length with
  | zero => rw [List.length_eq_zero_iff.mp hl]; exact Nat.zero_le _
  | succ n =>
    have := h free.sum (List.mem_map.mpr ⟨n, List.mem_range.mpr (by (exact Nat.le_of_eq (Eq.symm (by assumption)))), by rw [List.take_of_length_le (by (exact Nat.le_of_eq (by assumption)))]⟩)
    simpa using this
theorem stand_ok {D : Ad} {runs : List Nat} {blanks : Nat} {free : List Nat} {last : Nat} (P : PX X D) (hr : runs.length ≤ 100) (hf : free.length ≤ 100) (h0 : 0 < last) (h1 : last < 1073741824) :
    OpN X (k + 1) (.ref D.stand) [natsV runs, N blanks, natsV free, N last] (N (stand runs blanks free last)) := by
  refine OpN.pfn ["runs", "blanks", "free", "last"] ["column", "run", "stops", "past"] ["range", "len", "sum"] ["free", "column"] P.toXOk P.pStand (by decide +kernel) rfl (fun name qual kV doc pm an cd ct vs h => ?_) ?_
  · refine el4_1 (len4 h) fun a b c d y1 => ?_; obtain rfl := y1
    rfl
  refine Ex.cons (Es.asg (Ev.natc 0) u4 ?_)
  refine Ex.cons (Es.for (items := runs.map N) (Iv.list Ev.n0) (fun i σ => σ = ([("runs", some (natsV runs)), ("blanks", some (N blanks)), ("free", some (natsV free)), ("last", some (N last)), ("column", some (N ((runs.take i).foldl (standStep free last) 0))), ("run", none), ("stops", none), ("past", none)] : Sto))
    ⟨_, Le.refl _, rfl⟩ (fun i d σ hd hI => ?_) (fun σ hI => ?_))
  · subst hI
    obtain ⟨run, hrun, rfl⟩ : ∃ run, runs[i]? = some run ∧ N run = d := by simpa using hd
    generalize hc : (runs.take i).foldl (standStep free last) 0 = c
    have hc' : (runs.take (i + 1)).foldl (standStep free last) 0 = standStep free last c run := by
      rw [List.take_add_one, hrun, List.foldl_append, hc]; rfl
    refine ⟨_, a5, ?_⟩
    refine Ex.cons (Es.asg (Ev.bin Ev.n4 Ev.n5 Op2.addN) u4 ?_)
    have hsum : OpN X k (.builtin "sum") [natsV free] (N free.sum) := OpN.sumN
    refine Ex.cons (Es.asgP [] ["column"] [N (c + run)] [] ["stop"] (stopsOf free) N (fun s => decide (c + run < s)) N
      (Iv.list (Ev.compM ["sum"] ["free"] [natsV free] [] ["count"] (List.range free.length) N (fun c => (free.take (c + 1)).sum) N
        (Iv.rangeN (Ev.glob P.toXOk (.head _) P.range) (Ev.call (Ev.glob P.toXOk (.tail _ (.head _)) P.len) (Evs.cons Ev.n2 Evs.nil) .builtin ?_) (by omega)) (.s (.tail _ (.tail _ (.head _))) .nil) (fun x hx => ⟨_, a0, .drop .nil, ?_⟩) ?_))
      (.s (.tail _ (.tail _ (.tail _ (.tail _ (.head _))))) .nil) (fun x hx => ⟨_, a0, .drop .nil, Trs.one (Tr.cmp Ev.n0 Ev.f0 Op2.gtN), fun _ => Ev.n0⟩) ?_ u6 ?_)
    · exact OpN.lenN (by omega)
    · exact Ev.call (Ev.glob P.toXOk (.head _) P.sum) (Evs.cons (Ev.upto Ev.f0 (Ev.bin Ev.n0 (Ev.natc 1) Op2.addN)) Evs.nil) .builtin OpN.sumN
    · rw [List.length_range]; omega
    · unfold stopsOf; rw [List.length_map, List.length_range]; omega
    refine Ex.cons (Es.asg (Ev.bin (Ev.name (.tail _ (.tail _ (.tail _ (.tail _ (.head _)))))) (Ev.call (Ev.glob P.toXOk (.tail _ (.tail _ (.head _))) P.sum) (Evs.cons Ev.n2 Evs.nil) .builtin hsum) Op2.sub) u7 ?_)
    have hstep : ∀ (e1 : (stopsOf free).filter (fun s => decide (c + run < s)) = []), (((c + run : Nat) : Int) - (free.sum : Int)) = ((c + run - free.sum : Nat) : Int) := fun e1 => by
      have := stops_none e1; omega
    refine Ex.cons (Es.asg (d := N (standStep free last c run)) (Ev.ite (b := decide ((stopsOf free).filter (fun s => decide (c + run < s)) ≠ [])) (Tr.cmp Ev.n6 (Ev.listD Evs.nil) (Op2.ned Eqb.nat.list _ [] (fun _ _ => trivial) (fun _ _ => trivial))) (fun hb => ?_) (fun hb => ?_)) u4 ?_)
    · have hb' := of_decide_eq_true hb
      cases hs : (stopsOf free).filter (fun s => decide (c + run < s)) with
      | nil => exact absurd hs hb'
      | cons s ss =>
        have e : standStep free last c run = s := by unfold standStep; rw [hs]
        rw [e]
        exact Ev.itemN Ev.n6 (Ev.natc 0) rfl
    · have hs := Decidable.of_not_not (of_decide_eq_false hb)
      have e : standStep free last c run = free.sum + last * ((c + run - free.sum) / last + 1) := by unfold standStep; rw [hs]
      rw [e, hstep hs]
      exact Ev.bin (Ev.call (Ev.glob P.toXOk (.tail _ (.tail _ (.head _))) P.sum) (Evs.cons Ev.n2 Evs.nil) .builtin hsum) (Ev.bin Ev.n3 (Ev.bin (Ev.bin Ev.n7 Ev.n3 (Op2.divN h0 h1)) (Ev.natc 1) Op2.addN) (Op2.mulN (by omega))) Op2.addN
    exact Ex.nil ⟨_, .same (.same (.same (.same (.same (.drop (.drop (.drop .nil))))))), by rw [hc']⟩
  · subst hI
    rw [List.length_map, List.take_length]
    exact Ex.cons (Es.ret (Ev.bin Ev.n4 Ev.n1 Op2.addN) rfl)
end Mine
end
noncomputable section
namespace Mine
open PySem PySem.W PySem.Calls PyProof.Rows
variable {X : Cx} {k : Nat} {gs gi : Gm} {σ σ' : Sto} {l r : Expr} {pos : Pos}
structure Ls where
  runs : List Nat
  blanks : Nat
  ground : Nat
noncomputable def leftGo : List Nat → Ls → Ls
  | [], st => st
  | size :: rest, ⟨[], b, g⟩ => if b < size then ⟨[], b, g⟩ else leftGo rest ⟨[], b - size, g + size⟩
  | size :: rest, ⟨r :: rs, b, g⟩ => leftGo rest ⟨if r < size then rs else (r - size) :: rs, b, g + size⟩
theorem leftGo_lead : ∀ (free : List Nat) (st : Ls), Lead st.runs st.blanks → Lead (leftGo free st).runs (leftGo free st).blanks
  | [], st, h => h
  | size :: rest, ⟨[], b, g⟩, h => by
    unfold leftGo
    split
    · exact h
    · exact leftGo_lead rest _ ⟨h.len, h.run, by have := h.blanks; simp only at this ⊢; (exact Nat.le_trans (Nat.sub_le _ _) (by assumption))⟩
  | size :: rest, ⟨r :: rs, b, g⟩, h => by
    unfold leftGo
    refine leftGo_lead rest _ ⟨?_, ?_, h.blanks⟩
    · have := h.len
      simp only [List.length_cons] at this ⊢
      split
      · (exact Nat.le_of_lt (by assumption))
      · simp only [List.length_cons]; assumption
    · intro x hx
      have h1 := h.run
      simp only at hx h1
      split at hx
      · exact h1 x (.tail _ hx)
      · rcases List.mem_cons.mp hx with rfl | hx
        · have := h1 r (.head _); (exact Nat.le_trans (Nat.sub_le _ _) (by assumption))
        · exact h1 x (.tail _ hx)
theorem left_ok {D : Ad} {runs : List Nat} {blanks : Nat} {free : List Nat} (P : PX X D) (L : Lead runs blanks) :
    OpN X (k + 2) (.ref D.left) [natsV runs, N blanks, natsV free] (.tup [T (leadText (leftGo free ⟨runs, blanks, 0⟩).runs (leftGo free ⟨runs, blanks, 0⟩).blanks), N (leftGo free ⟨runs, blanks, 0⟩).ground]) := by
  refine OpN.pfn ["runs", "blanks", "free"] ["ground", "size"] ["_law_text"] [] P.toXOk P.pLeft (by decide +kernel) rfl (fun name qual kV doc pm an cd ct vs h => ?_) ?_
  · obtain ⟨a, b, c, rfl⟩ := len3 h
    rfl
  refine Ex.cons (Es.asg (Ev.natc 0) u3 ?_)
  generalize hres : leftGo free ⟨runs, blanks, 0⟩ = res
  have hrl : Lead res.runs res.blanks := hres ▸ leftGo_lead free _ L
  have fin : ∀ o : Option V, Ex X (k + 1) ⟨["_law_text"], [], []⟩ ([("runs", some (natsV res.runs)), ("blanks", some (N res.blanks)), ("free", some (natsV free)), ("ground", some (N res.ground)), ("size", o)] : Sto) ((bodyS (stm 14)).drop 2)
      (Rets (.tup [T (leadText res.runs res.blanks), N res.ground])) := fun o => Ex.cons (Es.ret (Ev.tupD (Evs.cons (Ev.call (Ev.glob P.toXOk (.head _) P.text) (Evs.cons Ev.n0 (Evs.cons Ev.n1 Evs.nil)) P.pText.callable (text_ok P hrl)) (Evs.cons Ev.n3 Evs.nil))) rfl)
  refine Ex.cons (Es.for (items := free.map N) (Iv.list Ev.n2) (fun i σ => ∃ st : Ls, Lead st.runs st.blanks ∧ leftGo (free.drop i) st = res ∧ ∃ o, σ = ([("runs", some (natsV st.runs)), ("blanks", some (N st.blanks)), ("free", some (natsV free)), ("ground", some (N st.ground)), ("size", o)] : Sto))
    ⟨_, Le.refl _, ⟨runs, blanks, 0⟩, L, hres, _, rfl⟩ (fun i d σ hd hI => ?_) (fun σ hI => ?_))
  · obtain ⟨st, hL, hst, o, rfl⟩ := hI
    obtain ⟨size, hsz, rfl⟩ : ∃ size, free[i]? = some size ∧ N size = d := by simpa using hd
    have hdr : free.drop i = size :: free.drop (i + 1) := (List.drop_eq_getElem?_toList_append (l := free) (i := i)).trans (by rw [hsz]; rfl)
    rw [hdr] at hst
    refine ⟨_, a4, ?_⟩
    obtain ⟨rs, b, g⟩ := st
    have h100 : rs.length ≤ 3 := hL.len
    have hbl : b ≤ 3 := hL.blanks
    have h0 : ∀ x ∈ ([] : List Nat), Any x := fun _ _ => trivial
    have hAny : ∀ x ∈ rs, Any x := fun _ _ => trivial
    refine Ex.cons (Es.ite (Tr.and (Tr.cmp Ev.n0 (Ev.listD Evs.nil) (Op2.eqd Eqb.nat.list rs [] hAny h0)) (fun _ => Tr.cmp Ev.n1 Ev.n4 Op2.ltN)) (fun hb => ?_) (fun hb => ?_))
    · rw [Bool.and_eq_true, decide_eq_true_iff, decide_eq_true_iff] at hb
      obtain ⟨rfl, hb⟩ := hb
      have e : res = ⟨[], b, g⟩ := by rw [← hst]; unfold leftGo; rw [if_pos hb]
      refine Ex.cons (Es.brk ?_)
      have := fin (some (N size))
      rw [e] at this ⊢
      exact this
    refine Ex.nil ?_
    refine Ex.cons (Es.asg (Ev.bin Ev.n3 Ev.n4 Op2.addN) u3 ?_)
    cases rs with
    | nil =>
      have hb' : ¬ b < size := by simpa using hb
      refine Ex.cons (Es.asg (d := N (b - size)) (Ev.ite (Tr.cmp Ev.n0 (Ev.listD Evs.nil) (Op2.eqd Eqb.nat.list [] [] h0 h0)) (fun _ => Ev.bin Ev.n1 Ev.n4 (Op2.subN (Nat.not_lt.mp hb'))) (fun h => by simp at h)) u1 ?_)
      refine Ex.cons (Es.asg (d := natsV []) (Ev.ite (b := true) (Tr.or (a := true) (b := false) (Tr.cmp Ev.n0 (Ev.listD Evs.nil) (Op2.eqd Eqb.nat.list [] [] h0 h0)) (fun h => by simp at h)) (fun _ => Ev.from (l := []) Ev.n0 (Ev.natc 1)) (fun h => by simp at h)) u0 ?_)
      refine Ex.nil ⟨_, Le.refl _, ⟨[], b - size, g + size⟩, ⟨hL.len, hL.run, ?_⟩, ?_, _, rfl⟩
      · show b - size ≤ 3; (exact Nat.le_trans (Nat.sub_le _ _) (by assumption))
      · rw [← hst, leftGo, if_neg hb']
    | cons r rs =>
      have hrun := hL.run
      refine Ex.cons (Es.asg (d := N b) (Ev.ite (Tr.cmp Ev.n0 (Ev.listD Evs.nil) (Op2.eqd Eqb.nat.list (r :: rs) [] hAny h0)) (fun h => by simp at h) (fun _ => Ev.n1)) u1 ?_)
      refine Ex.cons (Es.asg (d := natsV (if r < size then rs else (r - size) :: rs)) (Ev.ite (b := decide (r < size)) ?_ (fun h => ?_) (fun h => ?_)) u0 ?_)
      · rw [show decide (r < size) = (decide (r :: rs = []) || decide (r < size)) by simp]
        exact Tr.or (Tr.cmp Ev.n0 (Ev.listD Evs.nil) (Op2.eqd Eqb.nat.list (r :: rs) [] hAny h0)) (fun h => Tr.cmp (Ev.itemN Ev.n0 (Ev.natc 0) rfl) Ev.n4 Op2.ltN)
      · rw [if_pos (of_decide_eq_true h)]
        exact Ev.from (l := r :: rs) Ev.n0 (Ev.natc 1)
      · rw [if_neg (of_decide_eq_false h)]
        have h' := of_decide_eq_false h
        exact Ev.bin (Ev.listD (Evs.cons (Ev.bin (Ev.itemN Ev.n0 (Ev.natc 0) rfl) Ev.n4 (Op2.subN (by (exact Nat.le_of_not_lt (by assumption))))) Evs.nil)) (Ev.from (l := r :: rs) Ev.n0 (Ev.natc 1)) (Op2.addm (xs := [r - size]) (f := N) (by simp only [List.length_cons, List.length_nil, List.drop_succ_cons, List.drop_zero] at h100 ⊢; omega))
      · have hl2 := leftGo_lead [size] ⟨r :: rs, b, g⟩ hL
        simp only [leftGo] at hl2
        refine Ex.nil ⟨_, Le.refl _, ⟨if r < size then rs else (r - size) :: rs, b, g + size⟩, hl2, ?_, _, rfl⟩
        rw [← hst, leftGo]
  · obtain ⟨st, hL, hst, o, rfl⟩ := hI
    rw [List.length_map, List.drop_length] at hst
    subst hst
    exact fin o
end Mine
end
noncomputable section
namespace Mine
open PySem PySem.W PySem.Calls PyProof.Rows
variable {X : Cx} {A : Around} {k : Nat} {gs gi : Gm} {σ σ' : Sto} {l r : Expr} {pos : Pos}
structure Fl (H : Heap) (M : List Addr) (s0 : Shared) (cls : String) (msg : Option Str) (nt : Bool) (v : Value) (s : Shared) : Prop where
  kp : Kp H M s0 s
  live : ∀ b ∈ M, ∃ o, s.heap.get? b = some o
  ex : ∃ e oe vs, v = .ref e ∧ s0.heap.get? e = none ∧ s.heap.get? e = some oe ∧ oe.cls = .type cls ∧ oe.data = .fields vs ∧ vs.size = 6 ∧
    (∀ m, msg = some m → ∃ T0 n tok, vs[0]? = some (.ref T0) ∧ IsT s.heap T0 #[.str m tok] n ∧ s0.heap.get? T0 = none) ∧
    ((nt = false ∧ vs[1]? = some .none) ∨ ∃ T oT ts, vs[1]? = some (.ref T) ∧ T ≠ e ∧ s0.heap.get? T = none ∧ s.heap.get? T = some oT ∧ oT.data = .fields ts ∧ 3 < ts.size)
section
variable {H : Heap} {M : List Addr} {s0 s1 s : Shared} {cls : String} {msg : Option Str} {nt : Bool} {v : Value}
theorem Kh.none {s s' : Shared} {b : Addr} (K : Kh H M s s') (hb : b ∉ M) (h : s'.heap.get? b = Option.none) : s.heap.get? b = Option.none := by
  cases e : s.heap.get? b with
  | none => rfl
  | some o => refine el1_2 (K.heap b o hb e) fun o' e' _ => ?_; rw [e'] at h; cases h
theorem Fl.weak (x : Fl H M s0 cls msg nt v s) : Fl H M s0 cls msg false v s := by
  obtain ⟨k, lv, e, oe, vs, h1, h2, h3, h4, h5, h6, h7, h8⟩ := x
  refine ⟨k, lv, e, oe, vs, h1, h2, h3, h4, h5, h6, h7, ?_⟩
  rcases h8 with ⟨_, q⟩ | q
  · exact .inl ⟨rfl, q⟩
  · exact .inr q
theorem Fl.back {M' : List Addr} (K : Kp H M' s0 s1) (x : Fl H M s1 cls msg nt v s) (hM : ∀ b ∈ M, b ∈ M' ∨ s0.heap.get? b = Option.none) (hold : ∀ b ∈ M', ∃ o, s1.heap.get? b = some o) : Fl H M' s0 cls msg nt v s := by
  obtain ⟨k, lv, e, oe, vs, h1, h2, h3, h4, h5, h6, h7, h8⟩ := x
  have back : ∀ {b}, s1.heap.get? b = Option.none → s0.heap.get? b = Option.none := fun {b} hb => K.none (fun q => by refine el1_1 (hold b q) fun o e => ?_; rw [hb] at e; exact noN e) hb
  have K2 : Kp H (M' ++ M) s0 s := (K.mono fun b hb => List.mem_append_left _ hb).trans (k.mono fun b hb => List.mem_append_right _ hb)
  refine ⟨K2.fresh fun b hb => (List.mem_append.mp hb).elim .inl (hM b), fun b hb => (Decidable.em (b ∈ M)).elim (lv b) fun q => k.live q (hold b hb), e, oe, vs, h1, back h2, h3, h4, h5, h6, fun m hm => ?_, ?_⟩
  · refine el3_3 (h7 m hm) fun T0 n tok a b c => ?_
    exact ⟨T0, n, tok, a, b, back c⟩
  · rcases h8 with q | ⟨T, oT, ts, a, b, c, d⟩
    · exact .inl q
    · exact .inr ⟨T, oT, ts, a, b, back c, d⟩
theorem Fl.back0 (K : Kp H [] s0 s1) (x : Fl H [] s1 cls msg nt v s) : Fl H [] s0 cls msg nt v s := x.back K (fun _ h => nomatch h) (fun _ h => nomatch h)
theorem Fl.new {e : Addr} {t : Str} {tok : Tok} {h' : Heap} {tk : Nat} (x : Heap.MadeExc s.heap h' e cls [.str t tok]) : Fl H [] s cls (some t) false (.ref e) { s with heap := h', toks := tk } := by
  refine el1_3 (x.there) fun T0 h1 h2 h3 => ?_
  refine ⟨Kp.of fun b o _ q => x.keeps b o q, fun _ h => (nomatch h), e, _, _, rfl, x.new, h1, rfl, rfl, rfl, fun m hm => ?_, .inl ⟨rfl, rfl⟩⟩
  obtain rfl := Option.some.inj hm
  exact ⟨T0, 0, tok, rfl, h3, h2⟩
theorem Fl.new0 {e : Addr} {h' : Heap} {tk : Nat} (x : Heap.NewExc s.heap h' e cls) : Fl H [] s cls Option.none false (.ref e) { s with heap := h', toks := tk } := by
  refine el2_3 (x.there) fun ob t h1 h2 h3 => ?_
  exact ⟨Kp.of fun b o _ q => x.keeps b o q, fun _ h => (nomatch h), e, _, _, rfl, x.new, h1, h2, h3, rfl, fun m hm => (nomatch hm), .inl ⟨rfl, rfl⟩⟩
end
theorem Frs.fun {h : Heap} : ∀ {l : List Env}, Frs X h l → h.FunFrames X.h0 l
  | [], _ => trivial
  | env :: l, F => by
    obtain ⟨hk, L, hf, hn, m, o, es, n, e, d, _⟩ := F env (.head _)
    exact ⟨hk, ⟨L, o, hf, hn.1, e, fun vs q => by rw [d] at q; cases q⟩, Frs.fun fun e he => F e (.tail _ he)⟩
section
variable {Md : Model} {M : List Addr} {s0 s : Shared} {cls : String} {msg : Option Str} {nt : Bool} {v : Value} {env : Env} {outer : List Env} {L : Addr} {E : Value → Shared → Prop} {Q : Unit → Shared → Prop}
theorem entry_step {e : Addr} {oe : Obj} {vs : Array Value} {head : Value} {hadNext : Bool} (hfr : A.frames = some (env :: outer)) (hf : env.frame = some L) (F : Frs X s.heap (env :: outer)) (he : s.heap.get? e = some oe) (hd : oe.data = .fields vs) (hsz : vs.size = 6)
    (h : ∀ (s1 : Shared) (T : Addr) (oT : Obj) (ts : Array Value), Kp X.h0 [e] s s1 → s.heap.get? T = none → s1.heap.get? T = some oT → oT.data = .fields ts → 3 < ts.size → s1.heap.get? e = some (Obj.mapFields (·.setIfInBounds 1 (.ref T)) oe) → Q () s1) :
    wpAny Md A (do let a ← frameOf env; let pl ← entryPlaceOf L hadNext; let b ← EntryCells.newEntry head a .none (rawInt L) .none pl; setField (.ref e) 1 b) Q E s := by
  refine wpAny_bind (wpAny_frameOf_fun hfr F.fun hf fun h₁ hs₁ => ?_)
  have k1 : Kp X.h0 [] s { s with heap := h₁ } := by
    refine ⟨⟨fun b o _ q => ?_, rfl, rfl⟩, fun _ _ q => q, id⟩
    by_cases hb : b ∈ (env :: outer).filterMap (·.frame)
    · refine el1_1 (hs₁.2.2 b o q) fun sl q' => ?_
      refine el1_2 (List.mem_filterMap.mp hb) fun e1 he1 hb1 => ?_
      obtain ⟨_, L1, hL1, hn1, m1, o1, es1, n1, g1, d1, _⟩ := F e1 he1
      rw [hb1] at hL1; obtain rfl := Option.some.inj hL1
      rw [q] at g1; obtain rfl := Option.some.inj g1
      exact ⟨_, q', .inr ⟨⟨es1, n1, d1⟩, hn1.1, sl, rfl⟩⟩
    · exact ⟨o, (hs₁.2.1 b hb).trans q, .refl⟩
  have he₁ := k1.get nofun he (by intro es n q; rw [hd] at q; cases q)
  refine wpAny_bind (wpAny_entryPlaceOf fun pl hpl => ?_)
  unfold EntryCells.newEntry newFields
  refine wpAny_bind (wpAny_newObj_type ?_ (hpl.sizeOk5 _ _ _ _ _))
  have he₂ := Heap.get?_push_of_some (h := h₁) { cls := .type "traceback", dict := none, data := .fields ([head, .ref L, .none, rawInt L, .none] ++ (if pl.isEmpty then List.replicate 6 Value.none else pl)).toArray } he₁
  refine wpAny_setField he₂ hd (by lia) ?_
  have hTe : h₁.objs.size ≠ e := Nat.ne_of_gt (Heap.lt_size he₁)
  have hd₃ := Obj.data_mapFields hd (·.setIfInBounds 1 (Value.ref h₁.objs.size))
  have hT := (Heap.get?_update_other (h₁.push { cls := .type "traceback", dict := none, data := .fields ([head, .ref L, .none, rawInt L, .none] ++ (if pl.isEmpty then List.replicate 6 Value.none else pl)).toArray })
    (Obj.mapFields (·.setIfInBounds 1 (Value.ref h₁.objs.size))) (Ne.symm hTe)).trans (Heap.get?_push_size h₁ rfl)
  refine h _ h₁.objs.size _ _ (k1.nil.trans ?_) (get_grow k1 (get_new h₁)) hT rfl ?_ (Heap.get?_update_self _ he₂ (Obj.isFreed_of_fields hd₃))
  · exact Kp.of (s := { s with heap := h₁ }) fun b o hb q => by
      rw [Heap.get?_update_other _ _ (fun z => hb (by rw [z]; exact .head _))]
      exact Heap.get?_push_of_some _ q
  · simp only [List.size_toArray, List.length_append, List.length_cons, List.length_nil]; lia
theorem field1_set {oe : Obj} {vs : Array Value} {T : Addr} (hd : oe.data = .fields vs) (hsz : vs.size = 6) : (Obj.mapFields (·.setIfInBounds 1 (.ref T)) oe).data = .fields (vs.setIfInBounds 1 (.ref T)) ∧ (vs.setIfInBounds 1 (.ref T)).size = 6 ∧ (vs.setIfInBounds 1 (.ref T))[1]? = some (.ref T) ∧ (vs.setIfInBounds 1 (.ref T))[0]? = vs[0]? := by
  refine ⟨Obj.data_mapFields hd _, by simp [hsz], by simp [hsz], by simp⟩
theorem Frs.nf {h : Heap} {l : List Env} (F : Frs X h l) {b : Addr} {o : Obj} {ws : Array Value} (hb : h.get? b = some o) (hw : o.data = .fields ws) : ∀ e ∈ l, e.frame ≠ some b := fun e1 he1 q => by
  obtain ⟨_, L1, hL1, _, m, o1, es, n, g, d, _⟩ := F e1 he1
  rw [q] at hL1; obtain rfl := Option.some.inj hL1
  rw [hb] at g; obtain rfl := Option.some.inj g
  rw [hw] at d; cases d
theorem cls_mapFields' (f : Array Value → Array Value) (o : Obj) : (Obj.mapFields f o).cls = o.cls := Obj.cls_mapFields _ _
theorem Fl.set {e T : Addr} {oe oT : Obj} {vs ts : Array Value} {s1 : Shared} (k : Kp X.h0 M s0 s) (lv : ∀ b ∈ M, ∃ o, s.heap.get? b = some o) (h2 : s0.heap.get? e = Option.none) (h3 : s.heap.get? e = some oe) (h4 : oe.cls = .type cls) (h5 : oe.data = .fields vs) (h6 : vs.size = 6)
    (h7 : ∀ m, msg = some m → ∃ T0 n tok, vs[0]? = some (.ref T0) ∧ IsT s.heap T0 #[.str m tok] n ∧ s0.heap.get? T0 = Option.none)
    (k1 : Kp X.h0 [e] s s1) (hTn : s.heap.get? T = Option.none) (hT : s1.heap.get? T = some oT) (hdT : oT.data = .fields ts) (hsT : 3 < ts.size) (he1 : s1.heap.get? e = some (Obj.mapFields (·.setIfInBounds 1 (.ref T)) oe)) :
    Fl X.h0 M s0 cls msg true (.ref e) s1 := by
  refine el0_4 (field1_set (T := T) h5 h6) fun g1 g2 g3 g4 => ?_
  have hTe : T ≠ e := fun q => by rw [q, h3] at hTn; cases hTn
  have hT0 : s0.heap.get? T = Option.none := k.none (fun hm => by refine el1_1 (lv T hm) fun o q => ?_; rw [hTn] at q; exact noN q) hTn
  have eM : ∀ b ∈ M, b = e ∨ b ∉ [e] := fun b _ => by by_cases q : b = e; exact .inl q; exact .inr (by simpa using q)
  have K : Kp X.h0 (M ++ [e]) s0 s1 := (k.mono fun b hb => List.mem_append_left _ hb).trans (k1.mono fun b hb => List.mem_append_right _ hb)
  refine ⟨K.fresh fun b hb => (List.mem_append.mp hb).elim .inl fun q => .inr (by rw [List.mem_singleton.mp q]; exact h2), fun b hb => ?_, e, _, _, rfl, h2, he1, by rw [cls_mapFields']; exact h4, g1, g2, fun m hm => ?_, .inr ⟨T, oT, ts, g3, hTe, hT0, hT, hdT, hsT⟩⟩
  · rcases eM b hb with rfl | q
    · exact ⟨_, he1⟩
    · exact k1.live q (lv b hb)
  · refine el3_3 (h7 m hm) fun T0 n tok a b c => ?_
    refine ⟨T0, n, tok, g4.trans a, k1.get (fun q => ?_) b nofun, c⟩
    have b' : s.heap.get? T0 = _ := b
    rw [List.mem_singleton.mp q, h3] at b'
    obtain rfl := Option.some.inj b'; cases h5
theorem Fl.note (hfr : A.frames = some (env :: outer)) (hf : env.frame = some L) (F : Frs X s.heap (env :: outer)) (x : Fl X.h0 M s0 cls msg nt v s)
    (hQ : ∀ s', Fl X.h0 M s0 cls msg true v s' → Frs X s'.heap (env :: outer) → Q () s') : wpAny Md A (noteFrame v env) Q E s := by
  obtain ⟨k, lv, e, oe, vs, rfl, h2, h3, h4, h5, h6, h7, h8⟩ := x
  unfold noteFrame
  simp only [hf]
  rcases h8 with ⟨rfl, h1⟩ | ⟨T, oT, ts, h1, hTe, hT0, hT, hdT, hsT⟩
  · refine wpAny_bind (wpAny_field h3 h5 h1 ?_)
    rw [if_neg (by decide)]
    refine entry_step (X := X) hfr hf F h3 h5 h6 fun s1 T oT ts k1 hTn hT hdT hsT he1 => ?_
    exact hQ s1 (Fl.set k lv h2 h3 h4 h5 h6 h7 k1 hTn hT hdT hsT he1) (F.keep k1.toKh fun b hb => .inl (by rw [List.mem_singleton.mp hb]; exact F.nf h3 h5))
  · refine wpAny_bind (wpAny_field h3 h5 h1 ?_)
    rw [if_pos (show (Value.ref T != Value.none) = true from by simp)]
    have h3' : ts[3]? = some ts[3] := Array.getElem?_eq_getElem hsT
    refine wpAny_bind (wpAny_field hT hdT h3' ?_)
    by_cases hq : (ts[3] == rawInt L) = true
    · rw [if_pos hq]
      exact wpAny_pure (hQ s ⟨k, lv, e, oe, vs, rfl, h2, h3, h4, h5, h6, h7, .inr ⟨T, oT, ts, h1, hTe, hT0, hT, hdT, hsT⟩⟩ F)
    · rw [if_neg hq]
      refine wpAny_bind (wpAny_setField hT hdT hsT ?_)
      have kT : Kp X.h0 [T] s { s with heap := s.heap.update T (Obj.mapFields (·.setIfInBounds 3 Value.none)) } := Kp.of fun b o hb q => (Heap.get?_update_other _ _ (fun z => hb (by rw [z]; exact .head _))).trans q
      have FT := F.keep kT.toKh fun b hb => .inl (by rw [List.mem_singleton.mp hb]; exact F.nf hT hdT)
      have h3T := kT.get (fun q => hTe (List.mem_singleton.mp q).symm) h3 (by intro es n q; rw [h5] at q; cases q)
      have hTT := Heap.get?_update_self (Obj.mapFields (·.setIfInBounds 3 Value.none)) hT (Obj.isFreed_of_fields (Obj.data_mapFields hdT _))
      have lvT : ∀ b ∈ M, ∃ o, (s.heap.update T (Obj.mapFields (·.setIfInBounds 3 Value.none))).get? b = some o := fun b hb => by
        by_cases q : b = T
        · subst q; exact ⟨_, hTT⟩
        · exact kT.live (by simpa using q) (lv b hb)
      have KT : Kp X.h0 M s0 { s with heap := s.heap.update T (Obj.mapFields (·.setIfInBounds 3 Value.none)) } :=
        ((k.mono fun b hb => List.mem_append_left [T] hb).trans (kT.mono fun b hb => List.mem_append_right _ hb)).fresh fun b hb => (List.mem_append.mp hb).elim .inl fun q => .inr (by rw [List.mem_singleton.mp q]; exact hT0)
      have h7T : ∀ m, msg = some m → ∃ T0 n tok, vs[0]? = some (.ref T0) ∧ IsT (s.heap.update T (Obj.mapFields (·.setIfInBounds 3 Value.none))) T0 #[.str m tok] n ∧ s0.heap.get? T0 = Option.none := fun m hm => by
        refine el3_3 (h7 m hm) fun T0 n tok a b c => ?_
        refine ⟨T0, n, tok, a, kT.get (fun q => ?_) b nofun, c⟩
        have b' : s.heap.get? T0 = _ := b
        rw [List.mem_singleton.mp q, hT] at b'
        obtain rfl := Option.some.inj b'; cases hdT
      refine entry_step (X := X) hfr hf FT h3T h5 h6 fun s1 T2 oT2 ts2 k1 hTn2 hT2 hdT2 hsT2 he1 => ?_
      exact hQ s1 (Fl.set KT lvT h2 h3T h4 h5 h6 h7T k1 hTn2 hT2 hdT2 hsT2 he1) (FT.keep k1.toKh fun b hb => .inl (by rw [List.mem_singleton.mp hb]; exact FT.nf h3T h5))
theorem Fl.flight (F : Frs X s.heap outer) (x : Fl X.h0 M s0 cls msg true v s) (fr : Option Addr) (hQ : ∀ s', Fl X.h0 M s0 cls msg true v s' → Frs X s'.heap outer → Q () s') : wpAny Md A (setFlight v fr) Q E s := by
  obtain ⟨k, lv, e, oe, vs, rfl, h2, h3, h4, h5, h6, h7, h8⟩ := x
  rcases h8 with ⟨q, _⟩ | ⟨T, oT, ts, h1, hTe, hT0, hT, hdT, hsT⟩
  · cases q
  unfold setFlight
  refine wpAny_bind (wpAny_field h3 h5 h1 ?_)
  rw [if_pos (show (Value.ref T != Value.none) = true from by simp)]
  generalize (fr.elim Value.none fun f => rawInt f) = z
  refine wpAny_setField hT hdT hsT ?_
  have kT : Kp X.h0 [T] s { s with heap := s.heap.update T (Obj.mapFields (·.setIfInBounds 3 z)) } := Kp.of fun b o hb q => (Heap.get?_update_other _ _ (fun z => hb (by rw [z]; exact .head _))).trans q
  have FT := F.keep kT.toKh fun b hb => .inl (by rw [List.mem_singleton.mp hb]; exact F.nf hT hdT)
  have h3T := kT.get (fun q => hTe (List.mem_singleton.mp q).symm) h3 (by intro es n q; rw [h5] at q; cases q)
  have hTT := Heap.get?_update_self (Obj.mapFields (·.setIfInBounds 3 z)) hT (Obj.isFreed_of_fields (Obj.data_mapFields hdT _))
  refine hQ _ ⟨((k.mono fun b hb => List.mem_append_left [T] hb).trans (kT.mono fun b hb => List.mem_append_right _ hb)).fresh fun b hb => (List.mem_append.mp hb).elim .inl fun q => .inr (by rw [List.mem_singleton.mp q]; exact hT0), fun b hb => ?_,
    e, oe, vs, rfl, h2, h3T, h4, h5, h6, fun m hm => ?_, .inr ⟨T, _, _, h1, hTe, hT0, hTT, Obj.data_mapFields hdT _, by simpa using hsT⟩⟩ FT
  · by_cases q : b = T
    · subst q; exact ⟨_, hTT⟩
    · exact kT.live (by simpa using q) (lv b hb)
  · refine el3_3 (h7 m hm) fun T0 n tok a b c => ?_
    refine ⟨T0, n, tok, a, kT.get (fun q => ?_) b nofun, c⟩
    have b' : s.heap.get? T0 = _ := b
    rw [List.mem_singleton.mp q, hT] at b'
    obtain rfl := Option.some.inj b'; cases hdT
theorem Fl.leave (hfr : A.frames = some (env :: outer)) (hf : env.frame = some L) (F : Frs X s.heap (env :: outer)) (x : Fl X.h0 M s0 cls msg nt v s)
    (hQ : ∀ s', Fl X.h0 M s0 cls msg true v s' → Frs X s'.heap (env :: outer) → Q () s') : wpAny Md A (leaving env v) Q E s := by
  unfold leaving
  exact wpAny_bind (x.note hfr hf F fun s1 x1 F1 => x1.flight F1 Option.none hQ)
theorem Fl.cameBack {E' : Value → Shared → Prop} (F : Frs X s.heap outer) (x : Fl X.h0 M s0 cls msg true v s) (hQ : ∀ s', Fl X.h0 M s0 cls msg true v s' → Frs X s'.heap outer → E' v s') : cameBackBy Md A env E' v s := by
  unfold cameBackBy
  obtain ⟨k, lv, e, oe, vs, rfl, h2, h3, h4, h5, h6, h7, h8⟩ := id x
  rcases h8 with ⟨q, _⟩ | ⟨T, oT, ts, h1, hTe, hT0, hT, hdT, hsT⟩
  · cases q
  refine wpAny_bind (wpAny_field h3 h5 h1 ?_)
  rw [if_neg (by simp)]
  exact x.flight F _ hQ
end
end Mine
end
noncomputable section
namespace Mine
open PySem PySem.W PySem.Calls PyProof.Rows
variable {X : Cx} {A : Around} {k : Nat} {gs gi : Gm} {σ σ' : Sto} {l r : Expr} {pos : Pos} {cls : String} {msg : Option Str}
noncomputable def Er (X : Cx) (A : Around) (M : List Addr) (s0 : Shared) (cls : String) (msg : Option Str) (v : Value) (s : Shared) : Prop :=
  Fl X.h0 M s0 cls msg false v s ∧ ∃ l, A.frames = some l ∧ Frs X s.heap l
noncomputable abbrev Never {α : Type} : α → Shared → Prop := fun _ _ => False
theorem Er.back {M M' : List Addr} {s0 s1 s : Shared} {v : Value} (K : Kp X.h0 M' s0 s1) (x : Er X A M s1 cls msg v s) (hM : ∀ b ∈ M, b ∈ M' ∨ s0.heap.get? b = Option.none) (hold : ∀ b ∈ M', ∃ o, s1.heap.get? b = some o) : Er X A M' s0 cls msg v s :=
  ⟨x.1.back K hM hold, x.2⟩
theorem Er.back0 {s0 s1 s : Shared} {v : Value} (K : Kp X.h0 [] s0 s1) (x : Er X A [] s1 cls msg v s) : Er X A [] s0 cls msg v s := ⟨x.1.back0 K, x.2⟩
structure EvR (X : Cx) (k : Nat) (gs : Gm) (σ : Sto) (e : Expr) (cls : String) (msg : Option Str) : Prop where
  run : ∀ A env M W s, Room k A → St X A env gs M W σ s → wpAny (model X.prog X.w) A (eval e env) Never (Er X A [] s cls msg) s
structure TrR (X : Cx) (k : Nat) (gs : Gm) (σ : Sto) (e : Expr) (cls : String) (msg : Option Str) : Prop where
  run : ∀ A env M W s, Room k A → St X A env gs M W σ s → wpAny (model X.prog X.w) A (isTrue e env (eval e env)) Never (Er X A [] s cls msg) s
structure EsR (X : Cx) (k : Nat) (gs : Gm) (σ : Sto) (st : Stmt) (cls : String) (msg : Option Str) : Prop where
  run : ∀ A env M W s, Room k A → Own A env → St X A env gs M W σ s → wpAny (model X.prog X.w) A (exec st env) Never (Er X A M s cls msg) s
structure ExR (X : Cx) (k : Nat) (gs : Gm) (σ : Sto) (st : List Stmt) (cls : String) (msg : Option Str) : Prop where
  run : ∀ A env M W s, Room k A → Own A env → St X A env gs M W σ s → wpAny (model X.prog X.w) A (execs st env) Never (Er X A M s cls msg) s
structure ExR0 (X : Cx) (k : Nat) (gs : Gm) (σ : Sto) (st : List Stmt) (cls : String) (msg : Option Str) : Prop where
  run : ∀ A env M W s, Room k A → St X A env gs M W σ s → wpAny (model X.prog X.w) A (execs st env) Never (Er X A [] s cls msg) s
structure OpE (X : Cx) (k : Nat) (f : Value) (ds : List V) (cls : String) (msg : Option Str) : Prop where
  run : ∀ A W s vs, Room k A → Base X A W s → Rds W s.heap vs ds → wpAny (model X.prog X.w) A (call f vs []) Never (Er X A [] s cls msg) s
theorem TrR.cmpL {op : CmpOp} (hl : EvR X k gs σ l cls msg) (hm : behindInMarks op r = false := by with_unfolding_all rfl) : TrR X k gs σ (.Compare l [op] [r] pos) cls msg :=
  ⟨fun A env M W s R S => wpAny_isTrue_Compare1 (wpAny_mono (hl.run A env M W s R S) (fun _ _ f => f.elim) (fun _ _ h => h)) hm⟩
theorem TrR.and2 {x y : Expr} (h1 : Tr X k gs σ x true) (h2 : TrR X k gs σ y cls msg) : TrR X k gs σ (.BoolOp .And [x, y] pos) cls msg := by
  refine ⟨?_⟩
  intro A env M W s R S
  refine wpAny_isTrue_BoolOp (wpAny_allTrue_And_cons (wpAny_mono (h1.run A env M W s R S) ?_ (fun _ _ f => f.elim)))
  rintro t s1 ⟨rfl, k1⟩
  exact wpAny_allTrue_And_cons (wpAny_mono (h2.run A env M W s1 R (S.keep k1)) (fun _ _ f => f.elim) (fun v s2 h => h.back0 k1))
theorem EvR.call {func : Expr} {es : List Expr} {ds : List V} {f : Value} (hf : Ev X k gs σ func (.opq f)) (ha : Evs X k gs σ es ds) (hc : Callable X f) (h : OpE X k f ds cls msg)
    (he : ∀ env, eval (.Call func es [] pos) env = (do callWith pos (← eval func env) [] (backTo pos (starEach es env)) (backToKw pos (keywordEach [] env))) := by intro _; rfl)
    (hp : Plain es = true := by rfl) : EvR X k gs σ (.Call func es [] pos) cls msg := by
  refine ⟨?_⟩
  intro A env M W s R S
  exact S.callE R hf ha hc (fun vs s2 hvs k2 => wpAny_mono (h.run A W s2 vs R (S.keep k2).toBase hvs) (fun _ _ f => f.elim) (fun v s3 h => h.back0 k2)) he hp
theorem EvR.itemS {value slice : Expr} {x : List Nat} {i : Nat} (hv : Ev X k gs σ value (T x)) (hi : Ev X k gs σ slice (N i)) (h0 : x.length ≤ i) (h1 : i < 2 ^ 62)
    (hs : ∀ o j, subscripted slice false o j = operate [o, j] (getItem o j) := by intro _ _; rfl) : EvR X k gs σ (.Subscript value slice pos) "IndexError" Option.none := by
  refine ⟨?_⟩
  intro A env M W s R S
  refine Subscript_ (wpAny_mono (hv.run A env M W s R S) ?_ (fun _ _ f => f.elim))
  rintro v s1 ⟨hv, k1⟩
  obtain ⟨_, rfl⟩ := Rd.strI hv
  refine wpAny_mono (hi.run A env M W s1 R (S.keep k1)) ?_ (fun _ _ f => f.elim)
  rintro j s2 ⟨hj, k2⟩
  obtain ⟨_, rfl⟩ := Rd.intI hj
  have K := k1.trans k2
  have hr' : (decide ((i : Int) < -(2 ^ 63 : Int)) || decide ((i : Int) ≥ 2 ^ 63)) = false := by
    rw [decide_eq_false (by lia), decide_eq_false (by lia)]; rfl
  have hout : (i : Int) < -((txt x).length : Int) ∨ ((txt x).length : Int) ≤ (i : Int) := by rw [txt_length]; lia
  refine tail_any (typeIs_str _ _ _) F.slot_str_getitem.lookup (getItem_meets (typeIs_str s2 _ _) (by decide) F.slot_str_getitem F.entry_str_getitem (F.args_str_getitem_2 _ _)
      (raises_str_getitem (txt x) i _ _ hr' (by rw [seqIndex_none hout]; rfl)) ⟨R.handled, fun h' tk e hx => ?_⟩) (hs _ _)
  have y := Fl.new0 (H := X.h0) (tk := tk) hx
  exact ⟨y.back0 K, (((S.keep K).toBase.keep0 y.kp)).frs⟩
theorem ExR.of {st : Stmt} {rest : List Stmt} (h : EsR X k gs σ st cls msg) : ExR X k gs σ (st :: rest) cls msg :=
  ⟨fun A env M W s R O S => wpAny_execs_cons (wpAny_mono (h.run A env M W s R O S) (fun _ _ f => f.elim) (fun _ _ h => h))⟩
theorem ExR.cons {st : Stmt} {rest : List Stmt} (h : Es X k gs σ st fun r => ∃ σ1, r = .next σ1 ∧ ExR X k gs σ1 rest cls msg) : ExR X k gs σ (st :: rest) cls msg := by
  refine ⟨?_⟩
  intro A env M W s R O S
  refine wpAny_execs_cons (wpAny_mono (h.run A env M W s R O S) ?_ (fun _ _ f => f.elim))
  rintro f s1 ⟨k1, r, ⟨σ1, rfl, hq⟩, rfl, S1⟩
  exact wpAny_mono (hq.run A env M W s1 R O S1) (fun _ _ f => f.elim) (fun v s2 x => x.back k1 (fun b hb => .inl hb) fun b hb => S1.old b (S1.sub b hb))
theorem ExR.asg {x : Str} {p : Pos} {value : Expr} {d : V} {rest : List Stmt} (hv : Ev X k gs σ value d) (hu : Upd x d σ σ') (hq : ExR X k gs σ' rest cls msg)
    (hs : ∀ env, swapsWith value (some (.Name x p)) pos.line env = pure false := by intro _; rfl) : ExR X k gs σ (.Assign [.Name x p] value pos :: rest) cls msg := .cons (Es.asg hv hu ⟨_, rfl, hq⟩ hs)
theorem ExR0.asg {x : Str} {p : Pos} {value : Expr} {rest : List Stmt} (hv : EvR X k gs σ value cls msg)
    (hs : ∀ env, swapsWith value (some (.Name x p)) pos.line env = pure false := by intro _; rfl) : ExR0 X k gs σ (.Assign [.Name x p] value pos :: rest) cls msg :=
  ⟨fun A env M W s R S => wpAny_execs_cons (wpAny_Assign_Name (wpAny_mono (hv.run A env M W s R S) (fun _ _ f => f.elim) (fun _ _ h => h)) (hs env))⟩
theorem EsR.while {test : Expr} {body : List Stmt} (I : Nat → Sto → Prop) (n : Nat) (h0 : ∃ σ', Le σ σ' ∧ I n σ')
    (step : ∀ n σ, I n σ → TrR X k gs σ test cls msg ∨ (Tr X k gs σ test true ∧ Ex X k gs σ body fun r => ∃ σ1, (r = .next σ1 ∨ r = .cont σ1) ∧ ∃ σ2 m, Le σ1 σ2 ∧ m < n ∧ I m σ2)) : EsR X k gs σ (.While test body [] pos) cls msg := by
  refine ⟨?_⟩
  intro A env M W s R O S
  refine wpAny_While ?_
  obtain ⟨outer, hfr⟩ := O.top
  obtain ⟨L, hf⟩ := O.fr
  obtain ⟨σ', hl, hi⟩ := h0
  refine codeAny_whileLoop (fun n s1 => Kp X.h0 M s s1 ∧ ∃ σ, I n σ ∧ St X A env gs M W σ s1) ?_ n ⟨Kp.refl _ _, σ', hi, S.weak hl⟩
  rintro n s1 ⟨k1, σ1, hi, S1⟩
  rcases step n σ1 hi with ht | ⟨ht, hb⟩
  · refine wpAny_mono (ht.run A env M W s1 R S1) (fun _ _ f => f.elim) ?_
    rintro v s2 ⟨x, l, hl, F⟩
    rw [hfr] at hl; obtain rfl := Option.some.inj hl
    refine (x.back k1 (fun b hb => nomatch hb) fun b hb => S1.old b (S1.sub b hb)).note hfr hf F fun s3 x3 F3 => ?_
    exact x3.cameBack F3 fun s4 x4 F4 => ⟨x4.weak, _, hfr, F4⟩
  · refine wpAny_mono (ht.run A env M W s1 R S1) ?_ (fun _ _ f => f.elim)
    rintro t s2 ⟨rfl, k2⟩
    refine wpAny_mono (hb.run A env M W s2 R O (S1.keep k2)) ?_ (fun _ _ f => f.elim)
    rintro f s3 ⟨k3, r, ⟨σ3, hr, σ4, m, hle, hm, hI⟩, hh⟩
    have K := (k1.trans k2.nil).trans k3
    rcases hr with rfl | rfl <;> obtain ⟨rfl, S3⟩ := hh <;> exact ⟨m, hm, K, σ4, hI, S3.weak hle⟩
theorem EsR.iteT {test : Expr} {body orelse : List Stmt} (ht : Tr X k gs σ test true) (h1 : ExR X k gs σ body cls msg) : EsR X k gs σ (.If test body orelse pos) cls msg := by
  refine ⟨?_⟩
  intro A env M W s R O S
  refine wpAny_If (wpAny_mono (ht.run A env M W s R S) ?_ (fun _ _ f => f.elim))
  rintro t s1 ⟨rfl, k1⟩
  exact wpAny_mono (h1.run A env M W s1 R O (S.keep k1)) (fun _ _ f => f.elim) (fun v s2 x => x.back k1.nil (fun b hb => .inl hb) fun b hb => (S.keep k1).old b (S.sub b hb))
theorem EsR.raise {x : Str} {np cpos : Pos} {e : Expr} {t : Str} (hn : Ev X k gs σ (.Name x np) (.opq (.type "ValueError"))) (he : Ev X k gs σ e (.str t)) (hst : ∀ env, starEach [e] env = (false, eval e env) :: starEach [] env := by intro _; rfl) :
    EsR X k gs σ (.Raise (some (.Call (.Name x np) [e] [] cpos)) none pos) "ValueError" (some t) := by
  refine ⟨?_⟩
  intro A env M W s R O S
  refine Raise_madeB PySem.F.excCall_ValueError PySem.F.excRaise_ValueError R.handled (wpAny_mono (hn.run A env M W s R S) ?_ (fun _ _ f => f.elim)) (hst env) rfl
  rintro v s1 ⟨hv, k1⟩
  cases hv
  refine ⟨rfl, wpAny_mono ((Evs.cons he Evs.nil hst).run A env M W s1 cpos R (S.keep k1)) ?_ (fun _ _ f => f.elim)⟩
  rintro vs s2 ⟨hvs, k2⟩
  obtain ⟨_, rfl, a⟩ := Rds.i1 hvs
  obtain ⟨tok, rfl⟩ := Rd.strI a
  refine ⟨by show 1 ≤ sizeLine; decide, fun h' e hx => ?_⟩
  have y := Fl.new (H := X.h0) (tk := s2.toks) hx
  have K := k1.trans k2
  exact ⟨y.back (K.nil (M := M)) (fun b hb => nomatch hb) (fun b hb => (S.keep K).old b (S.sub b hb)), ((S.keep K).toBase.keep0 y.kp).frs⟩
theorem OpE.fn {a : Addr} {fd : FuncData} {ns ls gl cs : List Str} {ds0 ds : List V} {body : List Stmt} (O : XOk X) (F : FnAt X a fd)
    (hb : ∀ A W s vs, Base X A W s → Rds W s.heap vs ds0 → ∃ vs', BindsTo s fd ⟨vs, []⟩ (ns.zip vs') ∧ Rds W s.heap vs' ds)
    (hbody : fd.body = .stmts body) (hok : fnOk fd.scope ns ls gl cs = true) (hl : ns.length = ds.length)
    (h : ExR X k ⟨gl, [], cs⟩ (fnSto ns ls ds) body cls msg) : OpE X (k + 1) (.ref a) ds0 cls msg := by
  refine ⟨?_⟩
  intro A W s vs R B rd
  have Ok := fnOk_of hok
  refine el1_2 (F.obj) fun o ho hd => ?_
  refine el1_2 (F.code) fun c hc hct => ?_
  have hcd : s.heap.CodeRec fd.code fd.qualname := by
    have := F.crec
    rw [hc] at this ⊢
    refine el4_4 (this) fun c' o' vs' t e1 e2 e3 e4 => ?_
    obtain rfl := Value.ref.inj e1
    exact ⟨c, o', vs', t, rfl, B.base _ _ hct e2, e3, e4⟩
  refine el1_2 (hb A W s vs B rd) fun vs' hbt rd' => ?_
  refine wpAny_call ?_
  refine codeAny_call_function (by have := R.depth; lia) (B.base _ _ F.ne ho) hd Ok.co Ok.ge hbody hcd (hbt _ _ _ _ ?_)
  rw [F.clo]
  refine wpAny_newFunctionEnv_cells Ok.fn (fun x hx => ?_) fun env he s1 x => ?_
  · refine el0_2 (Ok.nsk x.1 (List.mem_append_left _ (List.of_mem_zip (a := x.1) (b := x.2) hx).1)) fun h1 _ => ?_
    rcases h1 with h1 | h1
    · exact .inl h1
    · refine el1_1 (cellsFrom_has fd.scope.names (s.heap.objs.size + 1) [] x.1 (.inl (mem_of_lookup h1))) fun c hc => ?_
      refine el1_1 (lookup_of_mem hc) fun c' hc' => ?_
      exact .inr ⟨h1, by rw [hc']; rfl⟩
  · subst he
    refine el0_2 (call_env F B hok hl rd' x) fun K1 y18 => ?_; refine el1_2 (y18) fun M hM S1 => ?_
    refine el1_2 (B.frs) fun lo hlo _ => ?_
    refine ⟨(B.keep0 K1).lim O, codeAny_func ?_⟩
    refine wpAny_mono (h.run _ _ M (M ++ W) s1 (R.deeper _) ⟨⟨lo, Around.frames_deeper hlo⟩, ⟨_, rfl⟩⟩ S1) (fun _ _ f => f.elim) ?_
    intro v s2 y19; refine el0_2 (y19) fun x2 y20 => ?_; refine el1_2 (y20) fun l2 hl2 F2 => ?_
    have hl2' := hl2
    rw [Around.frames_deeper hlo] at hl2'; obtain rfl := Option.some.inj hl2'
    refine x2.leave (Around.frames_deeper hlo) rfl F2 fun s3 x3 F3 => ?_
    exact ⟨(x3.back K1 (fun b hb => .inr (hM b hb)) fun b hb => nomatch hb).weak, lo, hlo, fun e he => F3 e (.tail _ he)⟩
theorem glob_at {A' : Around} {env : Env} {M W : List Addr} {s : Shared} {x : Str} {v : Value} {Q : Value → Shared → Prop} {E : Value → Shared → Prop} (O : XOk X) (hg : x ∈ gs.gs) (hv : (x, v) ∈ X.gl) (S : St X A env gs M W σ s) (h : Q v s) :
    wpAny (model X.prog X.w) A' (eval (.Name x pos) env) Q E s := by
  refine el2_3 (O.names) fun mg mb h1 h2 h3 => ?_
  have hk := S.gk x hg
  refine Name_function_global S.fn hk.1 ?_ hk.2
  have n1 := S.toBase.ns h1 (Ne.symm O.tabs.1)
  have n2 := S.toBase.ns h2 (Ne.symm O.tabs.2.1)
  rcases h3 x v hv with q | ⟨q, q'⟩
  · exact loadGlobal_global (by rw [S.gl]; exact n1) q h
  · exact loadGlobal_builtin (by rw [S.gl]; exact n1) q (by rw [S.bi]; exact n2) q' h
theorem Es.tryOk {body : List Stmt} {h₀ : ExceptHandler} {hs : List ExceptHandler} {Q : Res → Prop} (h : Ex X k gs σ body Q) : Es X k gs σ (.Try body (h₀ :: hs) [] [] pos) Q := by
  refine ⟨?_⟩
  intro A env M W s R Ow S
  refine wpAny_Try_except (wpAny_mono (h.run A env M W s R Ow S) ?_ (fun _ _ f => f.elim))
  rintro f s1 h1
  cases f with
  | next => exact wpAny_execs_nil h1
  | brk => exact h1
  | cont => exact h1
  | ret v => exact h1
theorem Es.tryBreak {body : List Stmt} {x : Str} {np hp bp : Pos} {Q : Res → Prop} (O : XOk X) (h : ExR0 X k gs σ body "IndexError" Option.none) (hg : x ∈ gs.gs) (hv : (x, .type "IndexError") ∈ X.gl) (hq : Q (.brk σ)) :
    Es X k gs σ (.Try body [.ExceptHandler (some (.Name x np)) none [.Break bp] hp] [] [] pos) Q := by
  refine ⟨?_⟩
  intro A env M W s R Ow S
  refine el1_1 (Ow.top) fun outer hfr => ?_
  refine el1_1 (Ow.fr) fun L hf => ?_
  refine wpAny_Try_except (wpAny_mono (h.run A env M W s R S) (fun _ _ f => f.elim) ?_)
  intro v s1 y21; refine el0_2 (y21) fun x1 y22 => ?_; refine el1_2 (y22) fun l1 hl1 F1 => ?_
  rw [hfr] at hl1; obtain rfl := Option.some.inj hl1
  refine x1.note hfr hf F1 fun s2 x2 F2 => x2.flight F2 Option.none fun s3 x3 F3 => ?_
  obtain ⟨k3, lv3, e, oe, vs, rfl, h2, h3, h4, h5, h6, h7, h8⟩ := id x3
  have S3 := S.keep k3
  refine wpAny_handleBy_builtin (X := "IndexError") (T := "IndexError") (b := true) (isSubtype_of_subB (by decide +kernel)) (isSubtype_of_subB (by decide +kernel)) (isSubtype_of_subB (by decide +kernel)) (glob_at O hg hv S3 ⟨rfl, ⟨oe, h3, h4⟩, ?_⟩)
  rw [if_pos rfl]
  refine x3.flight F3 Option.none fun s4 x4 F4 => ?_
  refine wpAny_execs_cons (wpAny_Break ?_)
  exact ⟨x4.kp.nil, _, hq, rfl, S.keep x4.kp⟩
end Mine
end
noncomputable section
namespace Mine
open PySem PySem.W PySem.Calls PyProof.Rows
variable {X : Cx} {A : Around} {k : Nat} {gs gi : Gm} {σ σ' : Sto} {l r : Expr} {pos : Pos}
noncomputable def posn (c : Nat) : Nat → List Nat → List Nat
  | _, [] => []
  | i, a :: r => if a = c then i :: posn c (i + 1) r else posn c (i + 1) r
noncomputable def splitC (c : Nat) : List Nat → List (List Nat)
  | [] => [[]]
  | a :: r => if a = c then [] :: splitC c r else match splitC c r with
    | [] => [[a]]
    | p :: ps => (a :: p) :: ps
theorem subAt1 (x : List Nat) (c i : Nat) : Builtin.Str.subAt (txt x) (txt [c]) i = decide (x[i]? = some c) := by
  unfold Builtin.Str.subAt
  show ((x.toArray.extract i (i + 1)) == [c].toArray) = _
  rw [Bool.eq_iff_iff, beq_iff_eq, decide_eq_true_iff]
  by_cases h : i < x.length
  · have e : x.toArray.extract i (i + 1) = #[x[i]] := by
      apply Array.ext
      · simp; lia
      · intro j h1 h2
        have : j = 0 := by simpa using h2
        subst this; simp
    rw [e, List.getElem?_eq_getElem h]
    simp
  · have e : x.toArray.extract i (i + 1) = #[] := by
      apply Array.eq_empty_of_size_eq_zero; simp; lia
    rw [e, List.getElem?_eq_none (by (exact Nat.le_of_not_lt (by assumption)))]
    simp
theorem occ_take (x : List Nat) (c hi limit : Nat) (hh : hi = x.length) : ∀ (n a : Nat) (acc : Array Nat) (free : Nat), free ≤ a → acc.size ≤ limit →
    (forIn (List.range' a n) (acc, free) (StrLaws.occBody (txt x) (txt [c]) hi limit)).run.fst.toList = acc.toList ++ ((List.range' a n).filter fun i => decide (x[i]? = some c)).take (limit - acc.size)
  | 0, a, acc, free, h1, h2 => by simp
  | n + 1, a, acc, free, h1, h2 => by
    rw [List.range'_succ, List.forIn_cons, List.filter_cons]
    have e1 : (txt [c]).length = 1 := rfl
    unfold StrLaws.occBody
    rw [subAt1, e1]
    by_cases hx : x[a]? = some c
    · have hlt : a < x.length := (List.getElem?_eq_some_iff.mp hx).1
      by_cases hl : acc.size < limit
      · rw [if_pos ⟨⟨⟨hl, h1⟩, by lia⟩, decide_eq_true hx⟩]
        show (forIn (List.range' (a + 1) n) (acc.push a, a + 1) (StrLaws.occBody (txt x) (txt [c]) hi limit)).run.fst.toList = _
        rw [occ_take x c hi limit hh n (a + 1) (acc.push a) (a + 1) (Nat.le_refl _) (by simp; assumption), if_pos (decide_eq_true hx)]
        rw [Array.toList_push, Array.size_push]
        have e2 : limit - acc.size = (limit - (acc.size + 1)) + 1 := by lia
        rw [e2, List.take_succ_cons]
        simp
      · rw [if_neg (fun q => hl q.1.1.1)]
        show (forIn (List.range' (a + 1) n) (acc, free) (StrLaws.occBody (txt x) (txt [c]) hi limit)).run.fst.toList = _
        rw [occ_take x c hi limit hh n (a + 1) acc free (by (exact Nat.le_succ_of_le (by assumption))) h2]
        have e2 : limit - acc.size = 0 := by lia
        rw [e2]; simp
    · rw [if_neg (fun q => hx (of_decide_eq_true q.2)), if_neg (by simpa using hx)]
      show (forIn (List.range' (a + 1) n) (acc, free) (StrLaws.occBody (txt x) (txt [c]) hi limit)).run.fst.toList = _
      exact occ_take x c hi limit hh n (a + 1) acc free (by (exact Nat.le_succ_of_le (by assumption))) h2
theorem posn_filter (c : Nat) (w : List Nat) : ∀ (x pre : List Nat), w = pre ++ x → ((List.range' pre.length x.length).filter fun i => decide (w[i]? = some c)) = posn c pre.length x
  | [], pre, h => rfl
  | a :: x, pre, h => by
    rw [List.length_cons, List.range'_succ, List.filter_cons]
    have e : w[pre.length]? = some a := by rw [h]; simp
    have ih := posn_filter c w x (pre ++ [a]) (by rw [h]; simp)
    rw [List.length_append, List.length_cons, List.length_nil] at ih
    rw [e]
    unfold posn
    by_cases hc : a = c
    · subst hc
      simp only [decide_true, if_true]
      rw [ih]
    · rw [if_neg (by simpa using hc), if_neg hc, ih]
theorem occ_posn (x : List Nat) (c limit : Nat) : Builtin.Str.occurrences (txt x) (txt [c]) 0 (txt x).length limit = (posn c 0 x).take limit := by
  rw [StrLaws.occ_eq, txt_length, occ_take x c x.length limit rfl _ 0 #[] 0 (Nat.le_refl _) (Nat.zero_le _)]
  have h1 : ∀ i ∈ [x.length], (fun i => decide (x[i]? = some c)) i = false := by simp
  have e : List.range' 0 (x.length + 1 - 0) = List.range' 0 x.length ++ [x.length] := by
    rw [Nat.sub_zero, List.range'_1_concat, Nat.zero_add]
  rw [e, List.filter_append]
  have := posn_filter c x x [] rfl
  simp only [List.length_nil] at this
  rw [this]
  simp
theorem posn_length (c : Nat) : ∀ (i : Nat) (x : List Nat), (posn c i x).length ≤ x.length
  | _, [] => Nat.le_refl _
  | i, a :: r => by
    unfold posn
    split
    · simp only [List.length_cons]; have := posn_length c (i + 1) r; (exact Nat.lt_succ_of_le (by assumption))
    · simp only [List.length_cons]; have := posn_length c (i + 1) r; (exact Nat.le_succ_of_le (by assumption))
theorem posn_nil {c : Nat} : ∀ {i : Nat} {x : List Nat}, posn c i x = [] ↔ c ∉ x
  | _, [] => by simp [posn]
  | i, a :: r => by
    unfold posn
    split
    · rename_i h; subst h; simp
    · rename_i h
      rw [posn_nil]
      simp [h, Ne.symm h]
theorem contains_txt (x : List Nat) (c : Nat) : Txt.contains (txt x) (txt [c]) = decide (c ∈ x) := by
  unfold Txt.contains
  rw [occ_posn]
  cases h : posn c 0 x with
  | nil => simp [posn_nil.mp h]
  | cons a b =>
    have : ¬ c ∉ x := fun q => by rw [posn_nil.mpr q] at h; cases h
    simp only [List.take_succ_cons, List.take_zero, List.isEmpty_cons, Bool.not_false]
    rw [decide_eq_true (Decidable.of_not_not this)]
theorem Op2.inS {c : Nat} {x : List Nat} : Op2 X k (compareOp .In) (T [c]) (T x) (.bool (decide (c ∈ x))) := by
  refine ⟨?_⟩
  intro A W s v w R B z0 z1; obtain ⟨_, rfl⟩ := Rd.strI z0; obtain ⟨_, rfl⟩ := Rd.strI z1
  refine P.in_str ?_
  rw [← contains_txt]
  exact ⟨.bool _, Kp.refl _ _⟩
theorem splitC_ne {c : Nat} : ∀ x : List Nat, ∃ p ps, splitC c x = p :: ps
  | [] => ⟨[], [], rfl⟩
  | a :: r => by
    unfold splitC
    split
    · exact ⟨_, _, rfl⟩
    · split
      · exact ⟨_, _, rfl⟩
      · exact ⟨_, _, rfl⟩
theorem strSub_txt (w : List Nat) (i j : Nat) : Builtin.Str.strSub (txt w) i j = txt ((w.drop i).take (j - i)) := by
  show Str.mk (w.toArray.extract i j) = Str.mk _
  congr 1
  apply Array.ext'
  simp [List.extract_eq_take_drop]
theorem parts_at (c : Nat) (w : List Nat) : ∀ (x pre : List Nat) (st : Nat) (p : List Nat) (ps : List (List Nat)), w = pre ++ x → st ≤ pre.length → splitC c x = p :: ps →
    ((st :: (posn c pre.length x).map (· + 1)).zip (posn c pre.length x ++ [w.length])).map (fun p => Builtin.Str.strSub (txt w) p.1 p.2) = ((pre.drop st ++ p) :: ps).map txt
  | [], pre, st, p, ps, h, hst, hs => by
    cases hs
    simp only [posn, List.map_nil, List.nil_append, List.zip_cons_cons, List.zip_nil_left, List.map_cons, List.append_nil] at h ⊢
    subst h
    rw [strSub_txt, List.take_of_length_le (by simp)]
  | a :: x, pre, st, p, ps, h, hst, hs => by
    refine el2_1 (splitC_ne (c := c) x) fun q qs hq => ?_
    have ih0 := fun st => parts_at c w x (pre ++ [a]) st q qs (by rw [h]; simp)
    have hl : (pre ++ [a]).length = pre.length + 1 := by simp
    rw [hl] at ih0
    unfold splitC at hs
    unfold posn
    by_cases hc : a = c
    · rw [if_pos hc] at hs
      rw [if_pos hc]
      cases hs
      have ih := ih0 (pre.length + 1) (Nat.le_refl _) hq
      have : (pre ++ [a]).drop (pre.length + 1) = [] := by rw [List.drop_eq_nil_iff]; simp
      rw [this, List.nil_append, ← hq] at ih
      simp only [List.map_cons, List.cons_append, List.zip_cons_cons] at ih ⊢
      rw [ih, strSub_txt, h]
      congr 2
      rw [List.drop_append_of_le_length hst, List.take_append_of_le_length (by simp), List.take_of_length_le (by simp), List.append_nil]
    · rw [if_neg hc] at hs
      rw [if_neg hc]
      rw [hq] at hs
      cases hs
      rw [ih0 st (by (exact Nat.le_succ_of_le (by assumption))) hq, List.drop_append_of_le_length hst, List.append_assoc]
      rfl
theorem split_txt (x : List Nat) (c : Nat) (hx : x ≠ []) (ha : Asc x) (hc : c < 128) : Txt.split (txt x) (txt [c]) = (splitC c x).map txt := by
  have k1 : ∀ l : List Nat, Asc l → Builtin.Str.strKind (txt l) = 1 := fun l hl => by
    unfold Builtin.Str.strKind
    rw [if_pos]
    simp only [List.all_toArray, List.all_eq_true, decide_eq_true_eq]
    intro y hy; have := hl y hy; lia
  have e1 : (decide ((txt x).length < (txt [c]).length) || decide (Builtin.Str.strKind (txt x) < Builtin.Str.strKind (txt [c]))) = false := by
    rw [k1 x ha, k1 [c] (fun y hy => by rw [List.mem_singleton.mp hy]; exact hc), txt_length, txt_length]
    have : 0 < x.length := List.length_pos_iff.mpr hx
    rw [decide_eq_false (by simp only [List.length_cons, List.length_nil]; (exact Nat.not_lt_of_le (by assumption))), decide_eq_false (by decide)]; rfl
  refine el2_1 (splitC_ne (c := c) x) fun q qs hq => ?_
  have hp := parts_at c x x [] 0 q qs rfl (Nat.zero_le _) hq
  have ho : Builtin.Str.occurrences (txt x) (txt [c]) 0 (txt x).length ((txt x).length + 1) = posn c 0 x := by
    rw [occ_posn, List.take_of_length_le]
    rw [txt_length]
    exact Nat.le_succ_of_le (posn_length c 0 x)
  unfold Txt.split
  rw [e1, if_neg Bool.false_ne_true, ho]
  by_cases he : (posn c 0 x).isEmpty = true
  · rw [if_pos he]
    have hn := List.isEmpty_iff.mp he
    rw [List.length_nil, hn] at hp
    rw [hq]
    simp only [List.map_nil, List.nil_append, List.zip_cons_cons, List.zip_nil_left, List.map_cons, List.drop_nil] at hp ⊢
    rw [strSub_txt, List.drop_zero, Nat.sub_zero, List.take_of_length_le (Nat.le_refl _)] at hp
    exact hp
  · rw [if_neg he]
    unfold Builtin.Str.partsBetween
    rw [hq, txt_length x, txt_length [c]]
    simpa using hp
theorem OpN.split {x : List Nat} {c : Nat} (hx : x ≠ []) (ha : Asc x) (hc : c < 128) (hz : x.length ≤ 1000000) : OpN X k (.builtin "str.split") [T x, T [c]] (.list ((splitC c x).map T)) := by
  refine ⟨?_⟩
  rintro A W s vs R B hv
  refine el2_3 (Rds.i2 hv) fun _ _ y5 a b => ?_; obtain rfl := y5
  refine el1_1 (Rd.strI a) fun t1 y6 => ?_; obtain rfl := y6; refine el1_1 (Rd.strI b) fun t2 y7 => ?_; obtain rfl := y7
  have hs := split_txt x c hx ha hc
  have rds : ∀ (h : Heap) (l : List (Str × Tok)) (ls : List (List Nat)), l.map (·.1) = ls.map txt → Rds W h (strValues l) (ls.map T) := by
    intro h l
    induction l with
    | nil => intro ls e; cases ls with | nil => exact .nil | cons _ _ => cases e
    | cons p l ih =>
      intro ls e
      cases ls with
      | nil => cases e
      | cons y ls =>
        simp only [List.map_cons, List.cons.injEq] at e
        refine .cons ?_ (ih ls e.2)
        show Rd W h (.str p.1 p.2) _
        rw [e.1]; exact .str _ _
  have key : ∀ (l : List (Str × Tok)) (tk : Nat), l.map (·.1) = (splitC c x).map txt → Out X.h0 W s (.list ((splitC c x).map T)) (.ref s.heap.objs.size) { s with toks := tk, heap := s.heap.push { cls := .type "list", data := .seq (strValues l).toArray } } := by
    intro l tk e
    have K : Kp X.h0 [] s { s with toks := tk, heap := s.heap.push { cls := .type "list", data := .seq (strValues l).toArray } } := (Kp.push s _).tok tk
    exact ⟨Rd.newList B.old (rds _ l _ e), K⟩
  have hyl : ((txt [c]).length == 0) = false := rfl
  have sz : sizeLine = 16777216 := by decide
  cases h1 : (decide ((txt x).length < (txt [c]).length) || decide (Builtin.Str.strKind (txt x) < Builtin.Str.strKind (txt [c])))
  · cases hf : (Builtin.Str.occurrences (txt x) (txt [c]) 0 (txt x).length ((txt x).length + 1)).isEmpty
    · have e2 : Builtin.Str.partsBetween (txt x) (Builtin.Str.occurrences (txt x) (txt [c]) 0 (txt x).length ((txt x).length + 1)) (txt [c]).length = (splitC c x).map txt := by
        rw [← hs]; unfold Txt.split; rw [h1, hf]; rfl
      refine call_meets F.slot_str_split (typeIs_str _ _ _) F.entry_str_split (F.args_str_split_2 _ _) (meets_str_split_sep _ _ t1 t2 h1 hyl hf (by rw [txt_length]; lia) ?_) ?_
      · rw [e2, List.length_map]
        have hlen : ∀ y : List Nat, (splitC c y).length ≤ y.length + 1 := by
          intro y
          induction y with
          | nil => exact Nat.le_refl _
          | cons a r ih =>
            unfold splitC
            split
            · simp only [List.length_cons]; (exact Nat.lt_succ_of_le (by assumption))
            · refine el2_1 (splitC_ne (c := c) r) fun q qs hq => ?_
              rw [hq] at ih ⊢
              simp only [List.length_cons] at ih ⊢; (exact Nat.le_succ_of_le (by assumption))
        have := hlen x
        lia
      · rw [strsFrom_eq]
        exact key _ _ ((numbered_texts _ _).trans e2)
    · refine call_meets F.slot_str_split (typeIs_str _ _ _) F.entry_str_split (F.args_str_split_2 _ _) (meets_str_split_not_found _ _ t1 t2 h1 hyl hf) ?_
      exact key [(txt x, t1)] s.toks (by rw [← hs]; unfold Txt.split; rw [h1, hf]; rfl)
  · refine call_meets F.slot_str_split (typeIs_str _ _ _) F.entry_str_split (F.args_str_split_2 _ _) (meets_str_split_cannot_occur _ _ t1 t2 h1) ?_
    exact key [(txt x, t1)] s.toks (by rw [← hs]; unfold Txt.split; rw [h1]; rfl)
theorem Ev.itemS {value slice : Expr} {x : List Nat} {i c : Nat} (hv : Ev X k gs σ value (T x)) (hi : Ev X k gs σ slice (N i)) (hc : x[i]? = some c) (h1 : x.length < 2 ^ 62)
    (hs : ∀ o j, subscripted slice false o j = operate [o, j] (getItem o j) := by intro _ _; rfl) : Ev X k gs σ (.Subscript value slice pos) (T [c]) := by
  refine ⟨?_⟩
  intro A env M W s R S
  refine Subscript_ (wpAny_mono (hv.run A env M W s R S) ?_ (fun _ _ f => f.elim))
  intro v s1 y8; refine el0_2 (y8) fun hv k1 => ?_
  refine el1_1 (Rd.strI hv) fun _ y9 => ?_; obtain rfl := y9
  refine wpAny_mono (hi.run A env M W s1 R (S.keep k1)) ?_ (fun _ _ f => f.elim)
  intro j s2 y10; refine el0_2 (y10) fun hj k2 => ?_
  refine el1_1 (Rd.intI hj) fun _ y11 => ?_; obtain rfl := y11
  have hlt := (List.getElem?_eq_some_iff.mp hc).1
  refine tail_any (typeIs_str _ _ _) F.slot_str_getitem.lookup (P.getItem_str (c := c) (by rw [decide_eq_false (by lia), decide_eq_false (by lia)]; rfl) ?_ ⟨.str _ _, (k1.trans k2).trans (Kp.toks _ _)⟩) (hs _ _)
  unfold seqIndex?
  have h2 : ¬ (i : Int) < 0 := by lia
  have h3 : (decide (0 ≤ (i : Int)) && decide ((i : Int) < ((Mine.txt x).length : Int))) = true := by
    rw [decide_eq_true (by lia), decide_eq_true (by rw [txt_length]; lia)]; rfl
  simp only [h2, if_false]
  rw [if_pos (by simpa [txt_length] using hlt)]
  simpa using hc
theorem Ev.sliceS {value : Expr} {lower upper : Option Expr} {p : Pos} {x : List Nat} {lo hi : Option Int} (hv : Ev X k gs σ value (T x)) (hl : Evp X k gs σ lower lo) (hu : Evp X k gs σ upper hi) (hz : x.length ≤ 1000000)
    (ht : ∀ o r, letTemporaryGo value o r = pure () := by intro _ _; rfl) : Ev X k gs σ (.Subscript value (.Slice lower upper none p) pos) (T (pickL x lo hi none)) := by
  refine ⟨?_⟩
  intro A env M W s R S
  refine wpAny_Subscript_str_slice (wpAny_mono (hv.run A env M W s R S) ?_ (fun _ _ f => f.elim)) ht
  rintro v s1 ⟨hv, k1⟩
  obtain ⟨t, rfl⟩ := Rd.strI hv
  have S1 := S.keep k1
  refine wpAny_mono (hl.run R S1) ?_ (fun _ _ f => f.elim)
  rintro vl s2 ⟨pl, k2⟩
  refine wpAny_mono (hu.run R (S1.keep k2)) ?_ (fun _ _ f => f.elim)
  rintro vu s3 ⟨pu, k3⟩
  have part : ∀ {v : Value} {i : Option Int}, IsPart v i → ∃ q : Option (Int × Tok), v = partValue q ∧ q.map (·.1) = i := fun h => by
    cases h with
    | none => exact ⟨none, rfl, rfl⟩
    | int i t => exact ⟨some (i, t), rfl, rfl⟩
  obtain ⟨ql, rfl, rfl⟩ := part pl
  obtain ⟨qu, rfl, rfl⟩ := part pu
  refine ⟨Mine.txt x, t, ql, qu, rfl, rfl, rfl, ?_⟩
  have K := (k1.trans k2).trans k3
  have e1 : (slicePicked (Mine.txt x) ql qu none).filterMap ((Mine.txt x).cps[·]?) = pickL x (ql.map (·.1)) (qu.map (·.1)) none := by
    unfold slicePicked pickL
    rw [txt_length]
    have : Builtin.Str.strSliceIndices (ql.map (·.1)) (qu.map (·.1)) 1 x.length = sliceRange (sliceBounds (ql.map (·.1)) (qu.map (·.1)) none x.length).1 (sliceBounds (ql.map (·.1)) (qu.map (·.1)) none x.length).2.1 (sliceBounds (ql.map (·.1)) (qu.map (·.1)) none x.length).2.2 := by
      cases ql <;> cases qu <;> rfl
    show (Builtin.Str.strSliceIndices (ql.map (·.1)) (qu.map (·.1)) 1 x.length).filterMap _ = _
    rw [this]
    congr 1
    funext i
    simp
  unfold sliceMade
  have hple : (pickL x (ql.map (·.1)) (qu.map (·.1)) none).length ≤ x.length := by
    rw [pick_plain, List.length_take, List.length_drop]; lia
  split
  · rename_i hcond
    have hlen : (slicePicked (Mine.txt x) ql qu none).length = (Mine.txt x).length := by
      rw [Bool.and_eq_true] at hcond
      exact beq_iff_eq.mp hcond.2
    have : pickL x (ql.map (·.1)) (qu.map (·.1)) none = x := by
      rw [pick_plain]
      have h2 : (slicePicked (Mine.txt x) ql qu none).length = (qu.map (·.1)).elim x.length (clipAt x.length) - (ql.map (·.1)).elim 0 (clipAt x.length) := by
        unfold slicePicked
        rw [txt_length]
        have : Builtin.Str.strSliceIndices (ql.map (·.1)) (qu.map (·.1)) 1 x.length = sliceRange (sliceBounds (ql.map (·.1)) (qu.map (·.1)) none x.length).1 (sliceBounds (ql.map (·.1)) (qu.map (·.1)) none x.length).2.1 (sliceBounds (ql.map (·.1)) (qu.map (·.1)) none x.length).2.2 := by
          cases ql <;> cases qu <;> rfl
        show (Builtin.Str.strSliceIndices (ql.map (·.1)) (qu.map (·.1)) 1 x.length).length = _
        rw [this, sliceBounds_plain]
        simp only [sliceRange_one, List.length_map, List.length_range]
      rw [hlen, txt_length] at h2
      have hc : ∀ i, clipAt x.length i ≤ x.length := fun i => by
        have := clipAt_cast x.length i
        lia
      have h3 : (qu.map (·.1)).elim x.length (clipAt x.length) ≤ x.length := by
        cases qu with
        | none => exact Nat.le_refl _
        | some q => exact hc _
      generalize (qu.map (·.1)).elim x.length (clipAt x.length) = b at h2 h3 ⊢
      generalize (ql.map (·.1)).elim 0 (clipAt x.length) = a at h2 ⊢
      rw [← h2]
      by_cases hx0 : x.length = 0
      · rw [List.length_eq_zero_iff.mp hx0]; simp
      · have h4 : a = 0 := by lia
        rw [h4, List.drop_zero, List.take_of_length_le (Nat.le_refl _)]
    rw [this]
    exact ⟨.str _ _, K.trans (Kp.push _ _)⟩
  · refine ⟨?_, ?_, ?_⟩
    · rw [e1]
      show (Mine.txt _).length ≤ _
      rw [txt_length]
      have e : sizeLine = 16777216 := by decide
      lia
    · rw [e1]; exact .str _ _
    · exact (K.trans (Kp.push _ _)).tok _
end Mine
end
noncomputable section
namespace Mine
open PySem PySem.W PySem.Calls PyProof.Rows
variable {X : Cx} {A : Around} {k : Nat} {gs gi : Gm} {σ σ' τ : Sto} {l r : Expr} {pos : Pos}
inductive View (D : Addr) : Sto → Sto → Prop
  | own {x : Str} {ds : List V} {a : Sto} (h : ∀ y d, (y, some d) ∈ a → d.isOwn = false) : View D ((x, some (.own D ds)) :: a) ((x, some (.list ds)) :: a)
  | same {p : Str × Option V} {a b : Sto} (h : View D a b) (hp : ∀ d, p.2 = some d → d.isOwn = false) : View D (p :: a) (p :: b)
theorem View.fst {D : Addr} {a b : Sto} (h : View D a b) : b.map (·.1) = a.map (·.1) := by
  induction h with
  | own _ => rfl
  | same _ _ i => exact congrArg (List.cons _) i
theorem View.get {D : Addr} {a b : Sto} (h : View D a b) (y : Str) (d : V) (q : (y, some d) ∈ b) : ((y, some d) ∈ a ∧ d.isOwn = false) ∨ ∃ ds, (y, some (.own D ds)) ∈ a ∧ d = .list ds := by
  induction h with
  | own h => exact (List.mem_cons.mp q).elim (fun z => by obtain ⟨rfl, e⟩ := Prod.mk.inj z; exact .inr ⟨_, .head _, Option.some.inj e⟩) fun z => .inl ⟨.tail _ z, h y d z⟩
  | same h hp i => exact (List.mem_cons.mp q).elim (fun z => .inl ⟨z ▸ .head _, hp d (z ▸ rfl)⟩) fun z => (i z).imp (fun w => ⟨.tail _ w.1, w.2⟩) fun w => w.imp fun _ w => ⟨.tail _ w.1, w.2⟩
theorem View.has {D : Addr} {a b : Sto} (h : View D a b) : ∃ x ds, (x, some (.own D ds)) ∈ a := by
  induction h with
  | own _ => exact ⟨_, _, .head _⟩
  | same _ _ i => exact i.imp fun _ q => q.imp fun _ q => .tail _ q
theorem View.names {D : Addr} {a b : Sto} (h : View D a b) (y : Str) (o : Option V) (q : (y, o) ∈ b) : ∃ o', (y, o') ∈ a := in_fst (h.fst ▸ fst_in q)
section
variable {env : Env} {M W : List Addr} {s : Shared}
theorem St.kinds {x : Str} {D : Addr} {ds : List V} (S : St X A env gs M W σ s) (h : (x, some (.own D ds)) ∈ σ) : (∃ vs n, IsL s.heap D vs n ∧ Rds W s.heap vs.toList ds) ∧ D ∈ M ∧ X.h0.get? D = none ∧ D ≠ X.tab ∧ env.locals ≠ D ∧ (∀ n c, env.cells.lookup n = some c → c ≠ D) ∧ NF A D ∧ Var env s.heap x (.ref D) := by
  refine el1_2 (S.vars x _ h) fun v hv hr => ?_
  cases hr with
  | data r => have := r.notOwn; cases this
  | own l m hn r =>
    refine ⟨⟨_, _, l, r⟩, m, hn.1, hn.2, ?_, fun n c hc e => ?_, ?_, hv⟩
    · intro e
      refine el4_3 (S.ns) fun _ o es n e2 d2 _ => ?_
      rw [e, show s.heap.get? D = _ from l] at e2; obtain rfl := Option.some.inj e2; cases d2
    · refine el0_2 (S.cells n c hc) fun y2 _ => ?_; refine el2_2 (y2) fun _ o e2 d2 => ?_
      rw [e, show s.heap.get? D = _ from l] at e2; obtain rfl := Option.some.inj e2; cases d2
    · refine el1_2 (S.frs) fun lf hl hf => ?_
      intro l' hl' e he q
      rw [hl] at hl'; obtain rfl := Option.some.inj hl'
      obtain ⟨_, L, hL, _, _, o, _, _, e2, d2, _⟩ := hf e he
      rw [q] at hL; obtain rfl := Option.some.inj hL
      rw [show s.heap.get? D = _ from l] at e2; obtain rfl := Option.some.inj e2; cases d2
theorem St.view {D : Addr} (S : St X A env gs M W σ s) (hv : View D σ τ) : St X A env gs (M.filter (· != D)) (W.filter (· != D)) τ s := by
  refine el2_1 (hv.has) fun x0 ds0 h0 => ?_
  refine el0_8 (S.kinds h0) fun _ hM hn ht hL hC _ _ => ?_
  have inW : ∀ {b}, b ∈ W.filter (· != D) → b ∈ W := fun h => (List.mem_filter.mp h).1
  have wk : ∀ b ∈ W.filter (· != D), b ∈ W ∨ s.heap.get? b = none := fun b hb => .inl (inW hb)
  refine ⟨⟨S.base, List.mem_filter.mpr ⟨S.tabW, by simpa using Ne.symm ht⟩, fun a ha => S.old a (inW ha), S.frs⟩, S.toEnvK, fun a ha => List.mem_filter.mpr ⟨S.sub a (List.mem_filter.mp ha).1, (List.mem_filter.mp ha).2⟩, fun a ha => S.new a (List.mem_filter.mp ha).1, S.ns,
    List.mem_filter.mpr ⟨S.locM, by simpa using hL⟩, fun y o hy => ?_, hv.fst ▸ S.nodup, fun y d hy => ?_, fun y d hy => ?_, fun n c hc => ?_, S.apart, S.cs, fun y o z d h1 h2 => let ⟨o', q⟩ := hv.names y o h1; S.dis y o' z d q h2⟩
  · refine el1_1 (hv.names y o hy) fun o' q => ?_
    refine el0_2 (S.loc y o' q) fun l hd => ?_
    refine ⟨?_, hd⟩
    cases l with
    | loc h => exact .loc h
    | cell c h1 h2 h3 => exact .cell c h1 h2 (List.mem_filter.mpr ⟨h3, by simpa using hC _ _ h2⟩)
  · rcases hv.get y d hy with ⟨q, ho⟩ | ⟨ds, q, rfl⟩
    · refine el1_2 (S.vars y d q) fun v a b => ?_
      exact ⟨v, a, .data ((b.rd ho).weak wk)⟩
    · refine el0_8 (S.kinds q) fun y3 _ _ _ _ _ _ hvar => ?_; refine el2_2 (y3) fun vs n l r => ?_
      exact ⟨_, hvar, .data (.list l (fun h => by simp at h) (r.weak wk))⟩
  · refine el0_2 (S.free y d hy) fun y4 c => ?_; refine el1_2 (y4) fun v a b => ?_
    exact ⟨⟨v, a, b.weak wk⟩, c⟩
  · refine el0_3 (S.cells n c hc) fun a b c' => ?_
    exact ⟨a, List.mem_filter.mpr ⟨b, by simpa using hC _ _ hc⟩, c'⟩
end
theorem Rd.scalar {W W' : List Addr} {h : Heap} {v : Value} {d : V} (r : Rd W h v d) (hd : d.scalar = true) : Rd W' h v d := by
  cases r <;> first | exact .none | exact .bool _ | exact .int _ _ | exact .str _ _ | cases hd
theorem Ev.view {D : Addr} {e : Expr} {d : V} (hv : View D σ τ) (he : Ev X k gs τ e d) (hd : d.scalar = true := by rfl) : Ev X k gs σ e d := by
  refine ⟨?_⟩
  intro A env M W s R S
  exact wpAny_mono (he.run A env _ _ s R (S.view hv)) (fun v s1 h => ⟨h.1.scalar hd, h.2⟩) (fun _ _ f => f)
theorem Tr.view {D : Addr} {e : Expr} {b : Bool} (hv : View D σ τ) (he : Tr X k gs τ e b) : Tr X k gs σ e b := by
  refine ⟨?_⟩
  intro A env M W s R S
  exact he.run A env _ _ s R (S.view hv)
theorem Es.retOwn {x : Str} {p : Pos} {D : Addr} {ds : List V} {Q : Res → Prop} (h : (x, some (.own D ds)) ∈ σ) (hq : Q (.ret (.list ds))) : Es X k gs σ (.Return (some (.Name x p)) pos) Q := by
  refine ⟨?_⟩
  intro A env M W s R O S
  refine el0_8 (S.kinds h) fun y5 hM _ _ _ _ _ hvar => ?_; refine el2_2 (y5) fun vs n l r => ?_
  have fin : Fin' X A env gs M W s Q (.ret (.ref D)) s := ⟨Kp.refl _ _, _, hq, _, rfl, .own l hM r⟩
  refine wpAny_Return_some (wpAny_Name ?_ (S.loc x _ h).2)
  rcases hvar with ⟨hk, m, hn, hm⟩ | ⟨hk, c, hc, hi⟩
  · exact wpAny_loadName_local S.fn hk hn hm fin
  · exact wpAny_loadName_cell S.fn hk hc hi fin
theorem Ex.newOwn {x : Str} {p p2 : Pos} {rest : List Stmt} {σ' : Addr → Sto} {Q : Res → Prop} (hu : ∀ D, Upd x (.own D []) σ (σ' D)) (h : ∀ D, Ex X k gs (σ' D) rest Q) (hQ : ∀ r, Q r → ∃ d, r = .ret d) :
    Ex X k gs σ (.Assign [.Name x p] (.List [] p2) pos :: rest) Q := by
  refine ⟨?_⟩
  intro A env M W s R O S
  refine wpAny_execs_cons (wpAny_Assign_Name (wpAny_List (spliced_nil ⟨Nat.zero_le _, ?_⟩)) rfl)
  have hD := get_new s.heap
  generalize hs1 : ({ s with heap := s.heap.push { cls := .type "list", data := .seq ([] : List Value).toArray } } : Shared) = s1
  have k1 : Kp X.h0 [] s s1 := by subst hs1; exact Kp.push _ _
  have e1 : IsL s1.heap s.heap.objs.size #[] 0 := by subst hs1; exact Heap.get?_push_size _ rfl
  generalize s.heap.objs.size = D at hD e1
  have hDW : D ∉ W := fun q => by obtain ⟨o, e⟩ := S.old D q; rw [hD] at e; exact noN e
  have h0 : X.h0.get? D = none := by
    cases q : X.h0.get? D with
    | none => rfl
    | some o =>
      have ht : D ≠ X.tab := fun z => hDW (z ▸ S.tabW)
      rw [S.base D o ht q] at hD; cases hD
  have w1 : ∀ b ∈ D :: W, b ∈ W ∨ s.heap.get? b = none := fun b hb => (List.mem_cons.mp hb).elim (fun z => .inr (z ▸ hD)) .inl
  have S1 : St X A env gs (D :: M) (D :: W) σ s1 := by
    have S0 := S.keep k1
    refine ⟨⟨S0.base, .tail _ S.tabW, fun a ha => ?_, S0.frs⟩, S.toEnvK, fun a ha => ?_, fun a ha => ?_, S0.ns, .tail _ S.locM, fun y o hy => ?_, S.nodup, fun y d hy => ?_, fun y d hy => ?_, fun n c hc => let ⟨a, b, c'⟩ := S0.cells n c hc; ⟨a, .tail _ b, c'⟩, S.apart, S.cs, S.dis⟩
    · rcases List.mem_cons.mp ha with z | z
      · exact ⟨_, z ▸ e1⟩
      · exact S0.old a z
    · rcases List.mem_cons.mp ha with z | z
      · exact z ▸ .head _
      · exact .tail _ (S.sub a z)
    · rcases List.mem_cons.mp ha with z | z
      · exact z ▸ h0
      · exact S.new a z
    · obtain ⟨l, hd⟩ := S.loc y o hy
      refine ⟨?_, hd⟩
      cases l with
      | loc h => exact .loc h
      | cell c h1 h2 h3 => exact .cell c h1 h2 (.tail _ h3)
    · obtain ⟨v, a, b⟩ := S.vars y d hy
      refine ⟨v, a.keepH k1.toKh nofun nofun, ?_⟩
      have b1 := (b.weak w1).keepH k1.toKh nofun nofun
      cases b1 with
      | data r => exact .data r
      | own l m hn r => exact .own l (.tail _ m) hn r
    · obtain ⟨⟨v, a, b⟩, c⟩ := S.free y d hy
      exact ⟨⟨v, a.keepH k1.toKh nofun, (b.weak w1).keep0 k1⟩, c⟩
  refine wpAny_mono (S1.storeV (E := No) (.own e1 (.head _) ⟨h0, fun z => hDW (z ▸ S.tabW)⟩ .nil) (hu D)) ?_ (fun _ _ f => False.elim f)
  rintro _ s2 ⟨S2, k2⟩
  refine wpAny_mono ((h D).run A env (D :: M) (D :: W) s2 R O S2) ?_ (fun _ _ f => f)
  rintro f s3 ⟨k3, r, hq, hh⟩
  have K : Kp X.h0 M s s3 := ((k1.nil.trans k2).trans k3).fresh fun b hb => (List.mem_cons.mp hb).elim (fun z => .inr (z ▸ hD)) .inl
  obtain ⟨d, rfl⟩ := hQ r hq
  obtain ⟨v, rfl, hr⟩ := hh
  refine ⟨K, _, hq, v, rfl, ?_⟩
  have w2 : ∀ b ∈ W, b ∈ D :: W ∨ s3.heap.get? b = none := fun b hb => .inl (.tail _ hb)
  cases hr with
  | data r => exact .data (r.weak w2)
  | own l m r =>
    rcases List.mem_cons.mp m with z | z
    · subst z; exact .data (.list l hDW (r.weak w2))
    · exact .own l z (r.weak w2)
theorem Es.append {x : Str} {p apos p2 : Pos} {e : Expr} {D : Addr} {ds : List V} {d : V} {Q : Res → Prop} (h : (x, some (.own D ds)) ∈ σ) (hes : Evs X k gs σ [e] [d]) (hu : Upd x (.own D (ds ++ [d])) σ σ')
    (h1 : ∀ y d', (y, some d') ∈ σ → y ≠ x → d'.isOwn = false) (hlen : ds.length ≤ sizeLine) (hq : Q (.next σ')) 
    (hb : ∀ env, attributeBase (.Name x p) "append" env (eval (.Name x p) env) = eval (.Name x p) env := by intro _; rfl)
    (hf : ∀ env, ((backTo p2 (starEach [e] env)).all (fun x => !x.1) && (backToKw p2 (keywordEach [] env)).all (fun x => x.1.isSome)
      && decide ([e].length + ([] : List Keyword).length + (if ([] : List Keyword).isEmpty then 0 else 1) < 30)) = true := by intro _; rfl)
    (hs : ∀ env, swapsWith (.Call (.Attribute (.Name x p) "append" apos) [e] [] p2) none pos.line env = pure false := by intro _; rfl)
    (hl : (apos.endLine == p2.line) = true := by rfl) (hp : Plain [e] = true := by rfl) : Es X k gs σ (.Expr (.Call (.Attribute (.Name x p) "append" apos) [e] [] p2) pos) Q := by
  refine ⟨?_⟩
  intro A env M W s R O S
  refine el0_8 (S.kinds h) fun y12 hM hn ht hL hC hNF hvar => ?_; refine el2_2 (y12) fun vs n l r => ?_
  have hi : interactive env = false := by unfold interactive; rw [S.fn]; rfl
  refine wpAny_Expr (wpAny_Call_method (T := "list") (id := "list.append") (hb env) (hf env) hl F.plainAttrs_list F.slot_list_append F.type_list_append ?_) hi (hs env)
  have fin : s.TypeIs (.ref D) "list" ∧ (∀ a, (.ref D : Value) = .ref a → ∃ ob, s.heap.get? a = some ob ∧ ob.dict = none) ∧
      wpAny (model X.prog X.w) A (callWith p2 (.builtin "list.append") [.ref D] (backTo p2 (starEach [e] env)) []) (fun v s' => match v with | .ref _ => False | _ => Fin' X A env gs M W s Q .next s') No s := by
    refine ⟨⟨_, l, rfl⟩, fun a q => by obtain rfl := Value.ref.inj q; exact ⟨_, l, rfl⟩, ?_⟩
    have np := any_backTo (pos := p2) (env := env) (ds := [d]) (Plain.no hp)
    refine callWith_go np (evalArgs_all np (wpAny_mono (hes.run A env M W s p2 R S) ?_ (fun _ _ f => f)))
    intro vs' s2 y13; refine el0_2 (y13) fun hvs k2 => ?_
    refine ⟨.inl (fun _ => nofun), ?_⟩
    cases hvs with
    | cons a b =>
    obtain rfl := Rds.nilI b
    rename_i v
    have l2 : IsL s2.heap D vs n := k2.get nofun l nofun
    refine wpAny_list_append_plain ⟨n, l2⟩ (fun h' hl' hs => ?_) (by have := r.length; rw [Array.length_toList] at this; omega)
    have S2 := S.keep k2
    have r2 := r.keep0 k2
    refine el1_1 (hl') fun n' l3 => ?_
    have K1 : Kp X.h0 [D] s2 { s2 with heap := h' } := Kp.of fun b o hb e => (hs.2 b (by simpa using hb)).trans e
    have ka : ∀ b ∈ [D], b ∈ W := fun b hb => by rw [List.mem_singleton.mp hb]; exact S.sub _ hM
    have kL : env.locals ∉ [D] := fun q => hL (List.mem_singleton.mp q)
    have kC : ∀ n c, env.cells.lookup n = some c → c ∉ [D] := fun n c hc q => hC n c hc (List.mem_singleton.mp q)
    refine ⟨k2.nil.trans (K1.mono fun b hb => by rw [List.mem_singleton.mp hb]; exact hM), .next σ', hq, rfl, ?_⟩
    refine ⟨S2.toBase.keep K1 fun b hb => ?_, S2.toEnvK, S2.sub, S2.new, let ⟨m, q⟩ := S2.ns; ⟨m, K1.ns kL q⟩, S2.locM, fun y q hq => ?_, hu.fst ▸ S.nodup, fun y d' hy => ?_, fun y d' hy => ?_, fun n c hc => let ⟨⟨v, a⟩, b⟩ := S2.cells n c hc; ⟨⟨v, K1.cell (kC _ _ hc) a⟩, b⟩, S2.apart, S2.cs, fun x o y d h1 h2 => let ⟨o', q⟩ := hu.names x o h1; S2.dis x o' y d q h2⟩
    · rw [List.mem_singleton.mp hb]; exact ⟨hn, ⟨_, l3⟩, .inl hNF⟩
    · refine el1_1 (hu.names y q hq) fun o' h' => ?_; exact S2.loc y o' h'
    · rcases hu.get S.nodup y d' hy with ⟨rfl, rfl⟩ | ⟨hne, hm⟩
      · refine ⟨.ref D, (hvar.keepH k2.toKh nofun nofun).keepH K1.toKh kL kC, .own l3 hM ⟨hn, ht⟩ ?_⟩
        rw [Array.toList_push]
        exact (r2.append (.cons a .nil)).keepH K1.toKh ka
      · refine el1_2 (S2.vars y d' hm) fun w hw hr => ?_
        exact ⟨w, hw.keepH K1.toKh kL kC, .data ((hr.rd (h1 y d' hm hne)).keepH K1.toKh ka)⟩
    · refine el0_2 (S2.free y d' hy) fun y14 c => ?_; refine el1_2 (y14) fun w hw hr => ?_
      exact ⟨⟨w, hw.keepH K1.toKh kC, hr.keep K1 ka⟩, c⟩
  refine wpAny_Name ?_ (S.loc x _ h).2
  rcases hvar with ⟨hk, m, hn, hm⟩ | ⟨hk, c, hc, hi⟩
  · exact wpAny_loadName_local S.fn hk hn hm fin
  · exact wpAny_loadName_cell S.fn hk hc hi fin
end Mine
end
noncomputable section
namespace Mine
open PySem PySem.W PySem.Calls PyProof.Rows
section
variable {M : Model} {A : Around} {R : GenEnd} {Y : Protocol} {n : Nat} {s₀ : Shared} {c : Code} {fs : List Frame} {s : Shared} {env : Env}
  {K : Flow → Sem Fin} {H : Value → Sem Fin} {gd : Bool → Bool} {lv : List Value → List Value}
theorem seg_st {m : Sem Flow} (h : wpAny M (A.over c fs) m (fun f s' => Seg M A R Y n s₀ c (K f) fs s') (fun x s' => Seg M A R Y n s₀ c (H x) fs s') s) : Seg M A R Y n s₀ c (m.wrap K H gd lv) fs s := seg_wrap h
noncomputable def forBack (env : Env) (K : Flow → Sem Fin) (H : Value → Sem Fin) (gd : Bool → Bool) (lv : List Value → List Value) : Result → Sem Fin :=
  fun r => ((match r with | .ok f => (.pure f : Sem Flow) | .error e => .raise e).onRaise fun (x : Value) => do
        if (← field x 1) == Value.none then unsupported "frame.own-activation:exception-without-traceback"
        setFlight x env.frame).wrap K H gd lv
theorem seg_For {target iter : Expr} {body orelse : List Stmt} {pos : Pos}
    (h : wpAny M (A.over c fs) (eval iter env) (fun x s1 => wpAny M (A.over c fs) (pyIter x) (fun it s2 => 
      ∀ p, Seg M A R Y n s₀ (.forLoop target it body orelse env) (M.den (.forLoop target it body orelse env)) (.ret (forBack env K H gd lv) none (gd false) (lv []) c p [] :: fs) s2) No s1) No s)
    (hs : ∀ x, foldedSetIterable iter env x = pure x := by intro _; rfl) :
    Seg M A R Y n s₀ c ((exec (.For target iter body orelse pos) env).wrap K H gd lv) fs s := by
  rw [exec_For]
  refine seg_bind_wrap (wpAny_standAt ?_)
  refine seg_bind_wrap (wpAny_mono h (fun x s1 h1 => ?_) fun _ _ f => f.elim)
  refine seg_bind_wrap (wpAny_of_eq (hs x) ?_)
  refine seg_bind_wrap (wpAny_standAt ?_)
  refine seg_bind_wrap (wpAny_holding (wpAny_mono h1 (fun it s2 h2 => ?_) fun _ _ f => f.elim))
  exact seg_call h2
end
section
variable {prog : Program} {w : World} {A : Around} {R : GenEnd} {Y : Protocol} {n : Nat} {s₀ : Shared} {fs : List Frame} {s : Shared} {env : Env}
noncomputable abbrev lost (env : Env) : Value → Sem Fin := fun e => (do noteFrame e env; theTreesLotGoes e : Sem Unit).wrap (fun _ => .raise e) .raise id id
theorem seg_forLoop {target : Expr} {it : Value} {body orelse : List Stmt}
    (h : wpAny (model prog w) (A.over (.forLoop target it body orelse env) fs) (pyNext it) (fun r s1 => match r with
      | none => Seg (model prog w) A R Y n s₀ (.forLoop target it body orelse env) (.pure (.again (.block orelse env))) fs s1
      | some v => wpAny (model prog w) (A.over (.forLoop target it body orelse env) fs) (letOwnedTupleGo target it v) (fun _ s2 => wpAny (model prog w) (A.over (.forLoop target it body orelse env) fs) (assign target env v) (fun _ s3 =>
          Seg (model prog w) A R Y n s₀ (.forLoop target it body orelse env) ((execs body env).wrap (fun f => match f with
            | .next | .cont => .pure (.again (.forLoop target it body orelse env))
            | .brk => .pure (.done .next)
            | .ret v => .pure (.done (.ret v))) (lost env) id id) fs s3) No s2) No s1) No s) :
    Seg (model prog w) A R Y n s₀ (.forLoop target it body orelse env) ((model prog w).den (.forLoop target it body orelse env)) fs s := by
  show Seg _ A R Y n s₀ _ ((forTurn target it body orelse env).onRaise (fun x => do noteFrame x env; theTreesLotGoes x)) fs s
  unfold forTurn
  rw [Sem.onRaise_eq_wrap]
  refine seg_bind_wrap (wpAny_standAt ?_)
  refine seg_bind_wrap (wpAny_onRaise (wpAny_mono h (fun r s1 h1 => ?_) fun _ _ f => f.elim))
  cases r with
  | none => exact h1
  | some v =>
    refine seg_bind_wrap (wpAny_mono h1 (fun _ s2 h2 => ?_) fun _ _ f => f.elim)
    refine seg_bind_wrap (wpAny_mono h2 (fun _ s3 h3 => ?_) fun _ _ f => f.elim)
    rw [Sem.bind_eq_wrap', Sem.wrap_wrap]
    rw [Sem.wrap_congr (execs body env) _ _ (K' := fun f => match f with
            | .next | .cont => .pure (.again (.forLoop target it body orelse env))
            | .brk => .pure (.done .next)
            | .ret v => .pure (.done (.ret v))) (H' := lost env) (fun f => by cases f <;> rfl) (fun e => by
              first | exact Sem.bind_eq_wrap _ _ | (show (do noteFrame e env; theTreesLotGoes e : Sem Unit).bind (fun _ => .raise e) = _; rw [Sem.bind_eq_wrap]))]
    exact h3
theorem seg_block_nil (h : Seg (model prog w) A R Y n s₀ (.block [] env) (.pure (.done .next)) fs s) : Seg (model prog w) A R Y n s₀ (.block [] env) ((model prog w).den (.block [] env)) fs s := h
end
section
variable {M : Model} {A : Around} {R : GenEnd} {Y : Protocol} {n : Nat} {s₀ : Shared} {c : Code} {fs : List Frame} {s : Shared} {env : Env}
  {K : Flow → Sem Fin} {H : Value → Sem Fin} {gd : Bool → Bool} {lv : List Value → List Value}
theorem seg_If {test : Expr} {body orelse : List Stmt} {pos : Pos} (h : wpAny M (A.over c fs) (isTrue test env (eval test env)) (fun b s' => Seg M A R Y n s₀ c ((execs (if b then body else orelse) env).wrap K H gd lv) fs s') No s) :
    Seg M A R Y n s₀ c ((exec (.If test body orelse pos) env).wrap K H gd lv) fs s := by
  rw [PySem.exec_If]
  refine seg_bind_wrap (wpAny_standAt ?_)
  refine seg_bind_wrap (wpAny_mono h (fun b s1 h1 => ?_) fun _ _ f => f.elim)
  cases b <;> exact h1
end
theorem over_func (A : Around) (body : List Stmt) (env : Env) : A.over (.func body env) [] = A.deeper env := by
  rfl
theorem over_for (A : Around) (body : List Stmt) (env e2 : Env) {k : Result → Sem Fin} {g l p kp t it b o} : A.over (.forLoop t it b o e2) [.ret k none g l (.func body env) p kp] = A.deeper env := by
  rfl
theorem over_while (A : Around) (body : List Stmt) (env e2 e3 : Env) {k : Result → Sem Fin} {g l p kp t it b o} {k' : Result → Sem Fin} {g' l' p' kp' t' b' o'} :
    A.over (.whileLoop t' b' o' e3) [.ret k' none g' l' (.forLoop t it b o e2) p' kp', .ret k none g l (.func body env) p kp] = A.deeper env := by
  rfl
end Mine
end
noncomputable section
namespace Mine
open PySem PySem.W PySem.Calls PyProof.Rows
variable {X : Cx} {A : Around} {k : Nat} {gs gi : Gm} {σ σ' τ : Sto} {pos : Pos}
structure GSt (X : Cx) (env : Env) (gs : Gm) (M W : List Addr) (σ : Sto) (s : Shared) : Prop extends EnvK env gs where
  fr : ∃ L, env.frame = some L ∧ L ∈ M ∧ (X.h0.get? L = Option.none ∧ L ≠ X.tab) ∧ ∃ m, s.heap.Ns L m
  sub : ∀ a ∈ M, a ∈ W
  new : ∀ a ∈ M, X.h0.get? a = Option.none
  ns : ∃ m, s.heap.Ns env.locals m
  locM : env.locals ∈ M
  loc : ∀ x o, (x, o) ∈ σ → Loc env M x ∧ (x == ("__debug__" : Str)) = false
  nodup : (σ.map (·.1)).Nodup
  vars : ∀ x d, (x, some d) ∈ σ → ∃ v, Var env s.heap x v ∧ VarR X M W s.heap v d
  free : ∀ x d, (x, d) ∈ gs.fr → (∃ v, FVar env s.heap x v ∧ Rd W s.heap v d) ∧ (x == ("__debug__" : Str)) = false ∧ (x == ("__classdict__" : Str)) = false
  cells : ∀ n c, env.cells.lookup n = some c → (∃ v, s.heap.IsCell c v) ∧ (c ∈ W ∧ c ∈ M) ∧ c ≠ env.locals
  apart : ∀ n n' c, env.cells.lookup n = some c → env.cells.lookup n' = some c → n = n'
  cs : ∀ x ∈ gs.cs, (env.kindOf x = some .cell ∨ env.kindOf x = some .free) ∧ ∃ c, env.cells.lookup x = some c
  dis : ∀ x o y d, (x, o) ∈ σ → (y, d) ∈ gs.fr → y ≠ x
section
variable {env : Env} {M W : List Addr} {s s' : Shared}
theorem GSt.st (G : GSt X env gs M W σ s) (B : Base X A W s) : St X (A.deeper env) env gs M W σ s := by
  refine ⟨⟨B.base, B.tabW, B.old, ?_⟩, G.toEnvK, G.sub, G.new, G.ns, G.locM, G.loc, G.nodup, G.vars, G.free, fun n c h => let ⟨a, b, c'⟩ := G.cells n c h; ⟨a, b.1, c'⟩, G.apart, G.cs, G.dis⟩
  refine el1_2 (B.frs) fun l hl hf => ?_
  refine ⟨_, Around.frames_deeper hl, fun e he => ?_⟩
  rcases List.mem_cons.mp he with rfl | he
  · refine el1_4 (G.fr) fun L h1 _ h2 h3 => ?_
    exact ⟨by rw [G.fn]; decide, L, h1, h2, h3⟩
  · exact hf e he
theorem St.gst (S : St X A env gs M W σ s) (h : ∃ L, env.frame = some L ∧ L ∈ M ∧ (X.h0.get? L = Option.none ∧ L ≠ X.tab) ∧ ∃ m, s.heap.Ns L m) (hc : ∀ n c, env.cells.lookup n = some c → c ∈ M) : GSt X env gs M W σ s :=
  ⟨S.toEnvK, h, S.sub, S.new, S.ns, S.locM, S.loc, S.nodup, S.vars, S.free, fun n c q => let ⟨a, b, c'⟩ := S.cells n c q; ⟨a, ⟨b, hc n c q⟩, c'⟩, S.apart, S.cs, S.dis⟩
theorem GSt.keep {O : List Addr} (G : GSt X env gs M W σ s) (K : Kh X.h0 O s s') (hO : ∀ a ∈ O, a ∈ W ∧ a ∉ M) : GSt X env gs M W σ s' := by
  have hL : env.locals ∉ O := fun h => (hO _ h).2 G.locM
  have hC : ∀ n c, env.cells.lookup n = some c → c ∉ O := fun n c h q => (hO _ q).2 (G.cells n c h).2.1.2
  have kd : ∀ b ∈ O, b ∈ W := fun b h => (hO b h).1
  exact ⟨G.toEnvK, let ⟨L, a, b, c, m, d⟩ := G.fr; ⟨L, a, b, c, m, K.ns (fun q => (hO _ q).2 b) d⟩, G.sub, G.new, let ⟨m, h⟩ := G.ns; ⟨m, K.ns hL h⟩, G.locM, G.loc, G.nodup,
    fun x d h => let ⟨v, hv, hr⟩ := G.vars x d h; ⟨v, hv.keepH K hL hC, hr.keepH K kd fun b h hM _ _ _ => (hO b h).2 hM⟩, fun x d h => let ⟨⟨v, hv, hr⟩, q⟩ := G.free x d h; ⟨⟨v, hv.keepH K hC, hr.keepH K kd⟩, q⟩,
    fun n c h => let ⟨⟨v, a⟩, b⟩ := G.cells n c h; ⟨⟨v, K.cell (hC n c h) a⟩, b⟩, G.apart, G.cs, G.dis⟩
end
end Mine
end
noncomputable section
namespace Mine
open PySem PySem.W PySem.Calls PyProof.Rows
theorem val_not_stop : isSubtype (.type "ValueError") (.type "StopIteration") = pure false := by rw [isSubtype_type]; kernel_rfl
section
variable {prog : Program} {w : World} {A : Around} {E : Value → Shared → Prop} {s : Shared}
theorem genLeft_val {a : Addr} {g : Nat} {e : Value} {α : Type} {Q : α → Shared → Prop} (hg : s.heap.IsGen a g) (he : s.TypeIs e "ValueError") (h : E e s) :
    wpAny (model prog w) A (Builtin.Generator.genLeft (.ref a) e : Sem α) Q E s := by
  refine el3_4 (hg) fun o nm qn ho hc hd hsl => ?_
  unfold Builtin.Generator.genLeft Builtin.Generator.madeByALambda
  refine wpAny_bind (wpAny_bind (wpAny_load ho ?_))
  rw [hc, hd]
  refine wpAny_pure ?_
  refine wpAny_bind (wpAny_isInstance he val_not_stop ?_)
  unfold Builtin.Generator.genEscaped
  exact wpAny_bind (wpAny_isInstance he val_not_stop (wpAny_bind (wpAny_throw h)))
theorem pyNext_gen {a : Addr} {g n : Nat} {gs : GenState} {R : GenEnd} {Y : Protocol} {Q : Option Value → Shared → Prop} (hh : A.handled = none)
    (hl : s.heap.NoLimit) (hroom : A.depth < recursionLimit)
    (hg : s.heap.IsGen a g) (hgs : s.gens[g]? = some gs)
    (hgo : gs.Goes (model prog w) A.in1 R Y n (.send .none) (s.setGen g .running))
    (hY : ∀ v s₁ gs', gs'.bare = true → Y (n - 1) (s.setGen g .running) v s₁ (fun r' s'' => match n with
        | 0 => False
        | m + 1 => gs'.Goes (model prog w) A.in1 R Y m r' s'') → Q (some v) (s₁.setGen g gs'))
    (hR : ∀ r s₁, R n (s.setGen g .running) r s₁ → (r = .ok (.ret .none) ∧ ∀ h', (∀ b o, s₁.heap.get? b = some o → h'.get? b = some o) → Q none { s₁.setGen g .finished with heap := h' }) ∨
      (∃ e, r = .error e ∧ s₁.TypeIs e "ValueError" ∧ s₁.heap.IsGen a g ∧ E e (s₁.setGen g .finished))) :
    wpAny (model prog w) A (pyNext (.ref a)) Q E s := by
  unfold pyNext
  refine wpAny_bind (wpAny_attempt (wpAny_callSpecial?_slot (name := Str.ofString "__next__") hg.typeIs slot_gen_next
    (wpAny_call_entry slot_gen_next hg.typeIs entry_gen_next ?_ (args_gen_next _))))
  show wpAny _ A.in1 (Builtin.Generator.genWake (.ref a) (.send .none)) _ _ s
  unfold Builtin.Generator.genWake
  refine wpAny_bind (wpAny_holding (wpAny_genNumber hg (wpAny_bind (wpAny_genState hgs ?_))))
  cases gs with
  | running => exact hgo.elim
  | finished => exact hgo.elim
  | _ =>
    refine wpAny_bind (wpAny_roomToWake hl hroom ?_)
    show wpAny _ A.in1 (.resume g (.send .none) [] _) _ _ s
    refine wpAny_resumeQ hgs hgo (fun x s₁ hx => ?_) (fun v s₁ gs' hb hv => ?_)
    · rcases hR x s₁ hx with ⟨rfl, hp⟩ | ⟨e, rfl, he, hg1, hE⟩
      · show wpAny _ A.in1 (newExc (.type "StopIteration") [] >>= _) _ _ _
        refine wpAny_bind ?_
        simp only [newExc, newTuple]
        refine wpAny_bind (wpAny_newObj_type ?_ (by size_fits))
        refine wpAny_bind (m := firstArgMember _ _) (wpAny_of_eq (a := Value.none) (by first | rfl | (simp only [firstArgMember]; rfl)) ?_)
        refine wpAny_newObj_type ?_ (by size_fits)
        simp only [raiseNew]
        refine wpAny_bind (wpAny_bind (wpAny_handled ?_))
        first | rw [show A.in1.handled = none from hh] | rw [hh]
        refine wpAny_throw ?_
        refine wpAny_bind (wpAny_isInstance (T := "StopIteration") (b := true) ⟨_, Heap.get?_push_size _ rfl, rfl⟩ isSubtype_stop ?_)
        exact wpAny_pure (hp _ fun b o hb => Heap.get?_push_of_some _ (Heap.get?_push_of_some _ hb))
      · refine genLeft_val (s := s₁.setGen g .finished) hg1 he ?_
        refine wpAny_bind (wpAny_isInstance (T := "ValueError") (b := false) he val_not_stop ?_)
        exact wpAny_throw hE
    · exact wpAny_pure ⟨v, rfl, wpAny_pure (hY v s₁ gs' hb hv)⟩
end
end Mine
end
noncomputable section
namespace Mine
open PySem PySem.W PySem.Calls PyProof.Rows
variable {X : Cx} {A : Around} {k : Nat} {gs gi : Gm} {σ σ' τ : Sto} {pos : Pos}
inductive GEnd where
  | stop
  | raise (msg : Str)
  | more
noncomputable def gY (X : Cx) (A : Around) (W own : List Addr) (items : List V) (fin : GEnd) : Protocol := fun m s0 v s1 kap =>
  ∃ d, items[items.length - 1 - m]? = some d ∧ Rd W s1.heap v d ∧ Kp X.h0 own s0 s1 ∧ (∀ a ∈ own, ∃ o, s1.heap.get? a = some o) ∧
    (0 < m ∨ fin ≠ .more → ∀ s'' O, (∀ a ∈ O, a ∈ W ∧ a ∉ own) → Kh X.h0 O s1 s'' → Base X A W s'' → kap (.send .none) s'')
noncomputable def gR (X : Cx) (A : Around) (own : List Addr) (fin : GEnd) : GenEnd := fun n s0 r s1 => n = 0 ∧ match fin with
  | .stop => r = .ok (.ret .none) ∧ Kp X.h0 own s0 s1
  | .raise msg => ∃ e, r = .error e ∧ Er X A own s0 "ValueError" (some msg) e s1
  | .more => False
section
variable {env : Env} {M W own : List Addr} {s0 s1 : Shared}
theorem St.wideM {O : List Addr} (S0 : St X A env gs M W σ s0) (S1 : St X A env gs M W σ s1) (h1 : ∀ a ∈ O, ∃ o, s1.heap.get? a = some o) (h2 : ∀ a ∈ O, s0.heap.get? a = none) (K : Kh X.h0 own s0 s1)
    (ho : ∀ a ∈ own, (a ∈ O ∨ a ∈ W) ∧ a ∉ M ∧ a ≠ env.locals ∧ ∀ n, env.cells.lookup n ≠ some a) : St X A env gs M (O ++ W) σ s1 := by
  have w1 : ∀ b ∈ O ++ W, b ∈ W ∨ s0.heap.get? b = none := fun b hb => (List.mem_append.mp hb).elim (fun h => .inr (h2 b h)) .inl
  have kd : ∀ b ∈ own, b ∈ O ++ W := fun b hb => List.mem_append.mpr (ho b hb).1
  have hL : env.locals ∉ own := fun h => (ho _ h).2.2.1 rfl
  have hC : ∀ n c, env.cells.lookup n = some c → c ∉ own := fun n c h q => (ho _ q).2.2.2 n h
  have wk : ∀ {v d}, Rd W s0.heap v d → Rd (O ++ W) s1.heap v d := fun r => (r.weak w1).keepH K kd
  refine ⟨⟨S1.base, List.mem_append_right _ S1.tabW, fun a ha => (List.mem_append.mp ha).elim (h1 a) (S1.old a), S1.frs⟩, S1.toEnvK, fun a h => List.mem_append_right _ (S1.sub a h), S1.new, S1.ns, S1.locM, S1.loc, S1.nodup, fun x d h => ?_, fun x d h => ?_,
    fun n c h => let ⟨a, b, c'⟩ := S1.cells n c h; ⟨a, List.mem_append_right _ b, c'⟩, S1.apart, S1.cs, S1.dis⟩
  · refine el1_2 (S0.vars x d h) fun v a b => ?_; exact ⟨v, a.keepH K hL hC, (b.weak w1).keepH K kd fun b hb hm _ _ _ => (ho b hb).2.1 hm⟩
  · refine el0_2 (S0.free x d h) fun y1 c => ?_; refine el1_2 (y1) fun v a b => ?_; exact ⟨⟨v, a.keepH K hC, wk b⟩, c⟩
end
end Mine
end
noncomputable section
namespace Mine
open PySem PySem.W PySem.Calls PyProof.Rows
variable {X : Cx} {A : Around} {k : Nat} {gs gi : Gm} {σ σ' τ : Sto} {pos : Pos}
structure GF (X : Cx) (env : Env) (M : List Addr) : Prop where
  frame : env.frame = some env.locals
  tab : env.locals ≠ X.tab
  cells : ∀ n c, env.cells.lookup n = some c → c ∈ M
section
variable {env : Env} {M W own : List Addr} {s s0 s1 : Shared}
theorem Base.up (B : Base X (A.deeper env) W s) : Base X A W s := by
  refine ⟨B.base, B.tabW, B.old, ?_⟩
  refine el1_2 (B.frs) fun l hl hf => ?_
  change A.frames.map (env :: ·) = some l at hl
  cases h : A.frames with
  | none => rw [h] at hl; exact noN hl
  | some l0 =>
    rw [h] at hl; obtain rfl := Option.some.inj hl
    exact ⟨l0, rfl, fun e he => hf e (.tail _ he)⟩
theorem St.asleep (S : St X (A.deeper env) env gs M W σ s) (F : GF X env M) : GSt X env gs M W σ s ∧ Base X A W s :=
  ⟨S.gst ⟨_, F.frame, S.locM, ⟨S.new _ S.locM, F.tab⟩, S.ns⟩ F.cells, S.toBase.up⟩
theorem seg_yield_ev {A0 : Around} {items : List V} {fin : GEnd} {R : GenEnd} {n : Nat} {c : Code} {fs : List Frame} {K : Flow → Sem Fin} {H : Value → Sem Fin} {gd : Bool → Bool} {lv : List Value → List Value} {e : Expr} {ypos : Pos} {d : V}
    (hov : (A.over c fs) = A.deeper env) (hfr : A.frames = A0.frames) (F : GF X env M) (R0 : Room k (A.deeper env)) (S : St X (A.deeper env) env gs M W σ s) (he : Ev X k gs σ e d) (hK : Kp X.h0 own s0 s) (hM : ∀ a ∈ M, a ∈ own) (hown : ∀ a ∈ own, a ∈ W)
    (hd : items[items.length - 1 - n]? = some d) (hs : splitAtGen fs = none) (hg : gd false = false) (hfg : fs.any Frame.guarded = false) (hco : env.scope.isCoroutine = false)
    (h : 0 < n ∨ fin ≠ .more → ∀ s1 s2 O, Kp X.h0 [] s s1 → (∀ a ∈ O, a ∈ W ∧ a ∉ own) → Kh X.h0 O s1 s2 → St X (A.deeper env) env gs M W σ s2 → Seg (model X.prog X.w) A R (gY X A0 W own items fin) n s2 c (K .next) fs s2) :
    Seg (model X.prog X.w) A R (gY X A0 W own items fin) (n + 1) s0 c ((exec (.Expr (.Yield (some e) ypos) pos) env).wrap K H gd lv) fs s := by
  have hi : interactive env = false := by unfold interactive; rw [S.fn]; rfl
  refine seg_Expr_Yield hs hg hfg ?_ hco hi
  rw [hov]
  refine wpAny_mono (he.run _ env M W s R0 S) ?_ (fun _ _ f => f.elim)
  intro v s1 y1 kap hkap; refine el0_2 (y1) fun hv k1 => ?_
  refine ⟨d, hd, hv, hK.trans k1.nil, fun a ha => (S.keep k1).old a (hown a ha), fun hm s2 O hO K2 B2 => ?_⟩
  refine hkap _ _ ?_
  refine el0_2 ((S.keep k1).asleep F) fun G B => ?_
  have G2 := G.keep K2 fun a ha => ⟨(hO a ha).1, fun q => (hO a ha).2 (hM a q)⟩
  have B3 : Base X A W s2 := ⟨B2.base, B2.tabW, B2.old, by refine el1_2 (B2.frs) fun l hl q => ?_; exact ⟨l, hfr.trans hl, q⟩⟩
  exact h hm s1 s2 O k1 hO K2 (G2.st B3)
theorem seg_es {R : GenEnd} {Y : Protocol} {n : Nat} {c : Code} {fs : List Frame} {K : Flow → Sem Fin} {H : Value → Sem Fin} {gd : Bool → Bool} {lv : List Value → List Value} {st : Stmt} {Q : Res → Prop}
    (hov : (A.over c fs) = A.deeper env) (F : GF X env M) (R0 : Room k (A.deeper env)) (S : St X (A.deeper env) env gs M W σ s) (he : Es X k gs σ st Q)
    (h : ∀ f s', Fin' X (A.deeper env) env gs M W s Q f s' → Seg (model X.prog X.w) A R Y n s0 c (K f) fs s') : Seg (model X.prog X.w) A R Y n s0 c ((exec st env).wrap K H gd lv) fs s := by
  refine seg_st ?_
  rw [hov]
  have O : Own (A.deeper env) env := ⟨by
    refine el1_2 ((S.toBase.up).frs) fun l hl _ => ?_
    exact ⟨l, Around.frames_deeper hl⟩, ⟨_, F.frame⟩⟩
  exact wpAny_mono (he.run _ env M W s R0 O S) (fun f s' q => h f s' q) (fun _ _ f => f.elim)
theorem seg_if {R : GenEnd} {Y : Protocol} {n : Nat} {c : Code} {fs : List Frame} {K : Flow → Sem Fin} {H : Value → Sem Fin} {gd : Bool → Bool} {lv : List Value → List Value} {test : Expr} {body orelse : List Stmt} {b : Bool}
    (hov : (A.over c fs) = A.deeper env) (R0 : Room k (A.deeper env)) (S : St X (A.deeper env) env gs M W σ s) (ht : Tr X k gs σ test b)
    (h : ∀ s', Kp X.h0 [] s s' → St X (A.deeper env) env gs M W σ s' → Seg (model X.prog X.w) A R Y n s0 c ((execs (if b then body else orelse) env).wrap K H gd lv) fs s') : Seg (model X.prog X.w) A R Y n s0 c ((exec (.If test body orelse pos) env).wrap K H gd lv) fs s := by
  refine seg_If ?_
  rw [hov]
  refine wpAny_mono (ht.run _ env M W s R0 S) ?_ (fun _ _ f => f.elim)
  intro b' s1 y2; refine el0_2 (y2) fun y3 k1 => ?_; obtain rfl := y3
  exact h s1 k1 (S.keep k1)
theorem seg_forever {A0 : Around} {items : List V} {R : GenEnd} {fs : List Frame} {e test : Expr} {ypos epos : Pos} {d : V}
    (hov : (A.over (.whileLoop test [.Expr (.Yield (some e) ypos) epos] [] env) fs) = A.deeper env) (hfr : A.frames = A0.frames) (F : GF X env M) (R0 : Room k (A.deeper env)) (ht : Tr X k gs σ test true) (he : Ev X k gs σ e d) (hM : ∀ a ∈ M, a ∈ own) (hown : ∀ a ∈ own, a ∈ W)
    (hs : splitAtGen fs = none) (hfg : fs.any Frame.guarded = false) (hco : env.scope.isCoroutine = false) :
    ∀ (n : Nat) (s0 s : Shared), (∀ i, i ≤ n → items[items.length - 1 - i]? = some d) → St X (A.deeper env) env gs M W σ s → Kp X.h0 own s0 s →
      Seg (model X.prog X.w) A R (gY X A0 W own items .more) (n + 1) s0 (.whileLoop test [.Expr (.Yield (some e) ypos) epos] [] env) ((model X.prog X.w).den (.whileLoop test [.Expr (.Yield (some e) ypos) epos] [] env)) fs s
  | 0, s0, s, hd, S, hK => by
    refine seg_whileLoop ?_
    rw [hov]
    refine wpAny_mono (ht.run _ env M W s R0 S) ?_ (fun _ _ f => f.elim)
    rintro b s1 ⟨rfl, k1⟩
    rw [if_pos rfl]
    refine seg_execs_cons (seg_yield_ev hov hfr F R0 (S.keep k1) he (hK.trans k1.nil) hM hown (hd 0 (Nat.le_refl _)) hs rfl hfg hco fun q => ?_)
    exact absurd q (by simp)
  | n + 1, s0, s, hd, S, hK => by
    refine seg_whileLoop ?_
    rw [hov]
    refine wpAny_mono (ht.run _ env M W s R0 S) ?_ (fun _ _ f => f.elim)
    rintro b s1 ⟨rfl, k1⟩
    rw [if_pos rfl]
    refine seg_execs_cons (seg_yield_ev hov hfr F R0 (S.keep k1) he (hK.trans k1.nil) hM hown (hd (n + 1) (Nat.le_refl _)) hs rfl hfg hco fun _ s1 s2 O _ _ _ S2 => ?_)
    exact seg_again rfl (seg_forever hov hfr F R0 ht he hM hown hs hfg hco n s2 s2 (fun i hi => hd i (by (exact Nat.le_succ_of_le (by assumption)))) S2 (Kp.refl _ _))
end
end Mine
end
noncomputable section
namespace Mine
open PySem PySem.W PySem.Calls PyProof.Rows
variable {X : Cx} {A : Around} {k : Nat} {gs gi : Gm} {σ σ' τ : Sto} {pos : Pos}
theorem pyIter_list_at {W : List Addr} {s : Shared} {v : Value} {ds : List V} {E : Value → Shared → Prop} (hv : Rd W s.heap v (.list ds)) :
    wpAny (model X.prog X.w) A (pyIter v) (fun it s2 => it = .ref s.heap.objs.size ∧ Kp X.h0 [] s s2 ∧ ∃ P : List Addr → Nat → Heap → Prop, ∀ W' : List Addr, (∀ a ∈ [s.heap.objs.size], a ∈ W') → (∀ a ∈ W, a ∈ W') → (∀ a ∈ W', a ∈ [s.heap.objs.size] ∨ a ∈ W ∨ s2.heap.get? a = none) →
      Itr X k W' it [s.heap.objs.size] ds (P W') ∧ P W' 0 s2.heap) E s := by
  refine el3_4 (hv.listI) fun a vs n y1 la na ra => ?_; obtain rfl := y1
  have hsz : vs.size = ds.length := by rw [← ra.length]; simp
  refine wpAny_pyIter_list (IsL.isList la) ?_
  have hnew := get_new s.heap
  have hne : a ≠ s.heap.objs.size := fun z => by rw [← z] at hnew; exact absurd (hnew.symm.trans la) nofun
  have hax : ∀ W' : List Addr, (∀ c ∈ W', c ∈ [s.heap.objs.size] ∨ c ∈ W ∨ (s.heap.push { cls := .type "list_iterator", data := .fields #[.ref a, .int 0 0] }).get? c = Option.none) → a ∉ W' := fun W' h q => by
    rcases h a q with z | z | z
    · exact hne (List.mem_singleton.mp z)
    · exact na z
    · rw [Heap.get?_push_of_some _ la] at z; cases z
  refine ⟨rfl, Kp.push _ _, fun W' i h => (h.IsListIter s.heap.objs.size a i ∧ h.IsList a vs) ∧ Rds W' h vs.toList ds ∧ i ≤ vs.size, fun W' w1 w2 w3 => ⟨
    Itr.ofWalks (D := fun h => Rds W' h vs.toList ds) (fun A' hA => Walks.list hA s.heap.objs.size a hne vs) w1 (fun b hb => ?_) hsz (data_keep) (fun i v h hi hp hd => ?_) (fun i h st b hb => ?_) (fun i h st => ?_) (fun i h st b hb o e => ?_), ?_⟩⟩
  · rcases List.mem_cons.mp hb with z | hb
    · exact .inl (by rw [z]; exact .head _)
    · refine .inr fun q => ?_
      rw [List.mem_singleton.mp hb] at q
      exact hax W' w3 q
  · refine el1_2 (hd.get' (i := i) (v := v) (by simpa using hp)) fun d h1 h2 => ?_
    exact ⟨d, h1, h2⟩
  · rw [List.mem_singleton.mp hb]; refine el0_2 (st) fun y2 _ => ?_; refine el1_2 (y2) fun o ho _ => ?_; exact ⟨o, ho⟩
  · refine el0_2 (st) fun y3 _ => ?_; refine el1_3 (y3) fun o ho hc _ => ?_; exact ⟨o, _, ho, hc, by decide⟩
  · refine el0_2 (st) fun y4 y5 => ?_; refine el1_3 (y4) fun o1 ho1 hc1 hd1 => ?_; refine el1_3 (y5) fun o2 ho2 hc2 y101 => ?_; refine el1_1 (y101) fun n2 hd2 => ?_
    rcases List.mem_cons.mp hb with z | hb
    · rw [z, ho1] at e; obtain rfl := Option.some.inj e; intro es n q; rw [hd1] at q; cases q
    · rw [List.mem_singleton.mp hb, ho2] at e; obtain rfl := Option.some.inj e; intro es n q; rw [hd2] at q; cases q
  · exact ⟨⟨⟨_, Heap.get?_push_size _ rfl, rfl, rfl⟩, (IsL.isList la).push _⟩, (ra.weak fun b hb => (w3 b hb).elim (fun z => .inr (by rw [List.mem_singleton.mp z]; exact hnew)) fun z => z.elim .inl fun q => .inr (get_grow (X := X) (s' := { s with heap := s.heap.push _ }) (Kp.push _ _) q)).keep0 (B := X.h0) (s' := { s with heap := s.heap.push _ }) (Kp.push _ _), Nat.zero_le _⟩
end Mine
end
noncomputable section
namespace Mine
open PySem PySem.W PySem.Calls PyProof.Rows
variable {X : Cx} {A : Around} {k : Nat} {gs gi : Gm} {σ σ' τ : Sto} {pos : Pos}
theorem seg_turn {env : Env} {M W own : List Addr} {s s0 : Shared} {R : GenEnd} {Y : Protocol} {n i : Nat} {fs : List Frame} {target : Expr} {it : Value} {body : List Stmt} {ds : List V} {P : Nat → Heap → Prop}
    (hov : (A.over (.forLoop target it body [] env) fs) = A.deeper env) (R0 : Room k (A.deeper env)) (T : Itr X k W it own ds P) (hP : P i s.heap) (S : St X (A.deeper env) env gs M W σ s)
    (hO : ∀ a ∈ own, X.h0.get? a = none ∧ a ≠ env.locals ∧ (∀ n, env.cells.lookup n ≠ some a) ∧ NF (A.deeper env) a ∧ a ∉ M)
    (h0 : ds[i]? = none → ∀ s', Kp X.h0 own s s' → Seg (model X.prog X.w) A R Y n s0 (.forLoop target it body [] env) (.pure (.again (.block [] env))) fs s')
    (h1 : ∀ d, ds[i]? = some d → ∃ σ1, As X k gs target d σ σ1 ∧ ∀ s', Kp X.h0 (own ++ M) s s' → St X (A.deeper env) env gs M W σ1 s' → P (i + 1) s'.heap → Seg (model X.prog X.w) A R Y n s0 (.forLoop target it body [] env) ((execs body env).wrap (fun f => match f with
            | .next | .cont => .pure (.again (.forLoop target it body [] env))
            | .brk => .pure (.done .next)
            | .ret v => .pure (.done (.ret v))) (lost env) id id) fs s') :
    Seg (model X.prog X.w) A R Y n s0 (.forLoop target it body [] env) ((model X.prog X.w).den (.forLoop target it body [] env)) fs s := by
  refine seg_forLoop ?_
  rw [hov]
  refine wpAny_mono (T.next _ i s R0 S.toBase hP) ?_ (fun _ _ f => f.elim)
  intro r s4 y1; refine el0_2 (y1) fun k4 hr => ?_
  have liv : ∀ j h, P j h → ∀ a ∈ own, ∃ o, h.get? a = some o := T.live
  cases hd : ds[i]? with
  | none =>
    rw [hd] at hr
    subst hr
    exact h0 hd s4 k4
  | some d =>
    rw [hd] at hr
    refine el1_3 (hr) fun v y2 hv hP4 => ?_; obtain rfl := y2
    have S4 : St X (A.deeper env) env gs M W σ s4 := S.keepM k4 fun a ha => ⟨T.sub a ha, (hO a ha).1, liv _ _ hP4 a ha, (hO a ha).2⟩
    refine wpAny_mono (T.go _ target (i + 1) s4 v R0 S4.toBase hP4) ?_ (fun _ _ f => f.elim)
    intro _ s5 y3; refine el0_2 (y3) fun k5 hP5 => ?_
    have S5 : St X (A.deeper env) env gs M W σ s5 := S4.keepM k5 fun a ha => ⟨T.sub a ha, (hO a ha).1, liv _ _ hP5 a ha, (hO a ha).2⟩
    obtain ⟨σ1, has, hgo⟩ := h1 d hd
    refine wpAny_mono (has.run _ env M W s5 v R0 S5 (hv.keep k5 T.sub)) ?_ (fun _ _ f => f.elim)
    intro _ s6 y4; refine el0_2 (y4) fun S6 k6 => ?_
    refine hgo s6 (((k4.trans k5).mono fun b hb => List.mem_append_left _ hb).trans (k6.mono fun b hb => List.mem_append_right _ hb)) S6 ?_
    exact T.frame M (i + 1) _ _ (fun a ha => ⟨S.sub a ha, fun q => (hO a q).2.2.2.2 ha⟩) (fun b o hb e => let ⟨o', e', q⟩ := k6.heap b o hb e; ⟨o', e', q.loose⟩) hP5
end Mine
end
noncomputable section
namespace Mine
open PySem PySem.W PySem.Calls PyProof.Rows
variable {X : Cx} {A : Around} {k : Nat} {gs gi : Gm} {σ σ' τ : Sto} {pos : Pos}
theorem seg_lost {env : Env} {M own : List Addr} {s s0 s1 : Shared} {R : GenEnd} {Y : Protocol} {n : Nat} {c : Code} {body : List Stmt} {target : Expr} {it : Value} {b2 : List Stmt} {K : Flow → Sem Fin} {gd gd2 : Bool → Bool} {lv lv2 : List Value → List Value} {g p l kp} {v : Value} {cls : String} {msg : Option Str}
    (hf : env.frame = some env.locals) (x : Er X (A.deeper env) M s0 cls msg v s) (hR : ∀ s', Er X (A.deeper env) M s0 cls msg v s' → R n s1 (.error v) s') :
    Seg (model X.prog X.w) A R Y n s1 (.forLoop target it b2 [] env) (lost env v) [.ret (forBack env K (fun e => (leaving env e).wrap (fun _ => .raise e) .raise id id) gd lv) none g l (.func body env) p kp] s := by
  refine el0_2 (x) fun x y1 => ?_; refine el1_2 (y1) fun l0 hl0 F0 => ?_
  have hA : ∃ outer, l0 = env :: outer := by
    change A.frames.map (env :: ·) = some l0 at hl0
    cases h : A.frames with
    | none => rw [h] at hl0; exact noN hl0
    | some o => rw [h] at hl0; obtain rfl := Option.some.inj hl0; exact ⟨o, rfl⟩
  refine el1_1 (hA) fun outer y2 => ?_; obtain rfl := y2
  refine seg_wrap ?_
  rw [over_for]
  refine wpAny_bind (x.note hl0 hf F0 fun s2 x2 F2 => ?_)
  refine wpAny_theTreesLotGoes ?_
  have x3 := x2; have F3 := F2
  refine seg_leaf (.error v) ?_
  show Seg _ A R Y n s1 (.func body env) (Sem.wrap _ _ _ _ (Sem.bind _ fun _ => Sem.raise v)) [] s2
  refine seg_bind_wrap ?_
  rw [over_func]
  have cb := x3.cameBack (Md := model X.prog X.w) (A := A.deeper env) (env := env) (E' := fun v' s' => v' = v ∧ Fl X.h0 M s0 cls msg true v s' ∧ Frs X s'.heap (env :: outer)) F3 (fun s4 x4 F4 => ⟨rfl, x4, F4⟩)
  unfold cameBackBy at cb
  have last : ∀ s4, Fl X.h0 M s0 cls msg true v s4 → Frs X s4.heap (env :: outer) → Seg (model X.prog X.w) A R Y n s1 (.func body env) ((leaving env v).wrap (fun _ => .raise v) .raise id id) [] s4 := by
    intro s4 x4 F4
    refine seg_wrap ?_
    rw [over_func]
    refine x4.leave hl0 hf F4 fun s5 x5 F5 => ?_
    exact seg_end (.error v) (hR s5 ⟨x5.weak, _, hl0, F5⟩)
  refine wpAny_mono cb ?_ ?_
  · intro _ s4 y3; refine el0_3 (y3) fun _ x4 F4 => ?_
    exact last s4 x4 F4
  · intro v' s4 y4; refine el0_3 (y4) fun y5 x4 F4 => ?_; obtain rfl := y5
    exact last s4 x4 F4
end Mine
end
noncomputable section
namespace Mine
open PySem PySem.W PySem.Calls PyProof.Rows
variable {X : Cx} {A A0 : Around} {k : Nat} {gs gi : Gm} {σ σ' τ : Sto} {pos : Pos}
theorem Base.new0 {W : List Addr} {s : Shared} (B : Base X A W s) {a : Addr} (h : s.heap.get? a = none) : X.h0.get? a = none ∧ a ≠ X.tab ∧ a ∉ W := by
  have hW : a ∉ W := fun q => by obtain ⟨o, e⟩ := B.old a q; rw [h] at e; exact noN e
  have ht : a ≠ X.tab := fun e => hW (e ▸ B.tabW)
  refine ⟨?_, ht, hW⟩
  cases q : X.h0.get? a with
  | none => rfl
  | some o => rw [B.base a o ht q] at h; cases h
theorem AllBare.set {gens : Array GenState} {g : Nat} {x : GenState} (h : AllBare gens) (hx : x.bare = true) : AllBare (gens.setIfInBounds g x) := fun y hy => by
  rcases Array.mem_or_eq_of_mem_setIfInBounds hy with h' | rfl
  · exact h y h'
  · exact hx
theorem setGen_ne {s : Shared} {g i : Nat} {x : GenState} (h : i ≠ g) : (s.setGen g x).gens[i]? = s.gens[i]? := by
  show (s.gens.setIfInBounds g x)[i]? = _
  rw [Array.getElem?_setIfInBounds, if_neg (Ne.symm h)]
theorem setGen_eq {s : Shared} {g : Nat} {x y : GenState} (h : s.gens[g]? = some y) : (s.setGen g x).gens[g]? = some x := by
  show (s.gens.setIfInBounds g x)[g]? = _
  have := (Array.getElem?_eq_some_iff.mp h).1
  rw [Array.getElem?_setIfInBounds, if_pos rfl, if_pos this]
theorem Kh.gen {B : Heap} (M : List Addr) (s : Shared) (g : Nat) (x : GenState) : Kh B M s (s.setGen g x) := ⟨fun _ o _ e => ⟨o, e, .refl⟩, rfl, rfl⟩
theorem Kp.gen {B : Heap} {M : List Addr} {s s1 : Shared} {g : Nat} {x : GenState} (K : Kp B M s s1) (h : s.gens[g]? = none) (hx : x.bare = true) : Kp B M s (s1.setGen g x) :=
  ⟨K.toKh.trans (.gen _ _ _ _), fun i q e => by
    rw [setGen_ne fun z => by rw [z, h] at e; cases e]; exact K.gens i q e, fun b => AllBare.set (K.bare b) hx⟩
theorem Kp.heapUp {B : Heap} {M : List Addr} {s : Shared} {h' : Heap} (k : ∀ b o, s.heap.get? b = some o → h'.get? b = some o) : Kp B M s { s with heap := h' } := Kp.of fun b o _ e => k b o e
theorem gen_turn {W own : List Addr} {s : Shared} {a : Addr} {g n : Nat} {gs' : GenState} {items : List V} {fin : GEnd} (O : XOk X) (R : Room (k + 1) A) (B : s.heap.NoLimit) (hgen : s.heap.IsGen a g) (ha : a ∉ own) (hgs : s.gens[g]? = some gs')
    (hgo : gs'.Goes (model X.prog X.w) A.in1 (gR X A own fin) (gY X A W own items fin) n (.send .none) (s.setGen g .running)) :
    wpAny (model X.prog X.w) A (pyNext (.ref a)) (fun r s4 => match r with
      | some v => ∃ d s₁ gs2, s4 = s₁.setGen g gs2 ∧ gs2.bare = true ∧ Kp X.h0 own (s.setGen g .running) s₁ ∧ (∀ a ∈ own, ∃ o, s₁.heap.get? a = some o) ∧ items[items.length - 1 - (n - 1)]? = some d ∧ Rd W s₁.heap v d ∧
          (0 < n - 1 ∨ fin ≠ .more → ∀ s'' O, (∀ a ∈ O, a ∈ W ∧ a ∉ own) → Kh X.h0 O s₁ s'' → Base X A W s'' → match n with | 0 => False | m + 1 => gs2.Goes (model X.prog X.w) A.in1 (gR X A own fin) (gY X A W own items fin) m (.send .none) s'')
      | none => n = 0 ∧ fin = .stop ∧ ∃ s₁ h', Kp X.h0 own (s.setGen g .running) s₁ ∧ (∀ b o, s₁.heap.get? b = some o → h'.get? b = some o) ∧ s4 = { s₁.setGen g .finished with heap := h' })
      (fun e s4 => n = 0 ∧ ∃ msg s₁, fin = .raise msg ∧ Er X A own (s.setGen g .running) "ValueError" (some msg) e s₁ ∧ s4 = s₁.setGen g .finished) s := by
  have isG : ∀ {s₁ : Shared}, Kp X.h0 own (s.setGen g .running) s₁ → s₁.heap.IsGen a g := fun {s₁} K => by
    refine el3_4 (hgen) fun o nm qn ho hc hd hs => ?_
    exact ⟨o, nm, qn, K.get ha ho (by intro es n q; rw [hd] at q; cases q), hc, hd, hs⟩
  refine pyNext_gen R.handled B (by have := R.depth; lia) hgen hgs hgo (fun v s₁ gs2 hb hy => ?_) (fun r s₁ hr => ?_)
  · refine el1_5 (hy) fun d h1 h2 h3 h4 h5 => ?_
    exact ⟨d, s₁, gs2, rfl, hb, h3, h4, h1, h2, h5⟩
  · refine el0_2 (hr) fun hn hr => ?_
    cases fin with
    | stop =>
      refine el0_2 (hr) fun y1 K => ?_; obtain rfl := y1
      exact .inl ⟨rfl, fun h' hk => ⟨hn, rfl, s₁, h', K, hk, rfl⟩⟩
    | raise msg =>
      refine el1_2 (hr) fun e y2 x => ?_; obtain rfl := y2
      refine .inr ⟨e, rfl, ?_, isG x.1.kp, hn, msg, s₁, rfl, x, rfl⟩
      refine el3_5 (x.1.ex) fun e' oe vs h1 _ h3 h4 _ => ?_
      subst h1
      exact ⟨oe, h3, h4⟩
    | more => exact hr.elim
structure IvG (X : Cx) (k : Nat) (gs : Gm) (σ : Sto) (e : Expr) (items : List V) (fin : GEnd) : Prop where
  run : ∀ A env M W s, Room k A → St X A env gs M W σ s → wpAny (model X.prog X.w) A (eval e env) (fun x s1 => ∃ a g c Mg, x = .ref a ∧ Kp X.h0 [] s s1 ∧ s.heap.get? a = none ∧ a ∉ Mg ∧ (∀ b ∈ Mg, s.heap.get? b = none ∧ ∃ o, s1.heap.get? b = some o) ∧
    s1.heap.IsGen a g ∧ s.gens[g]? = none ∧ s1.gens[g]? = some (.fresh c) ∧
    Seg (model X.prog X.w) A.in1 (gR X A (s1.heap.objs.size :: Mg) fin) (gY X A (s1.heap.objs.size :: (Mg ++ W)) (s1.heap.objs.size :: Mg) items fin) items.length (s1.setGen g .running) c ((model X.prog X.w).den c) [] (s1.setGen g .running)) No s
theorem ix1 {l i m : Nat} (h : l - i = m + 1) (hl : i < l) : i = l - 1 - (m + 1 - 1) := by rw [Nat.add_sub_cancel, Nat.sub_sub, Nat.add_comm 1 m, ← h, Nat.sub_sub_self (Nat.le_of_lt hl)]
theorem ix2 {l i m : Nat} (h : l - i = m + 1) (z : i + 1 < l) : 0 < m + 1 - 1 := by lia
theorem ix3 {l i m : Nat} (h : l - i = m + 1) : l - (i + 1) = m := by rw [Nat.sub_succ, h]; rfl
theorem Es.forG {iter target : Expr} {body : List Stmt} {items : List V} {fin : GEnd} {Q : Res → Prop} (Ox : XOk X) (hi : IvG X (k + 1) gs σ iter items fin) (I : Nat → Sto → Prop) (h0 : ∃ σ', Le σ σ' ∧ I 0 σ')
    (hfin : ∀ m, fin ≠ .raise m) (hne : items ≠ [] ∨ fin = .stop)
    (step : ∀ i d σ, items[i]? = some d → I i σ → ∃ σ1, As X (k + 1) gs target d σ σ1 ∧ Ex X (k + 1) gs σ1 body fun r => match r with
      | .next σ2 | .cont σ2 => (i + 1 < items.length ∨ fin = .stop) ∧ ∃ σ3, Le σ2 σ3 ∧ I (i + 1) σ3
      | .brk σ2 => Q (.next σ2)
      | .ret d => Q (.ret d))
    (done : fin = .stop → ∀ σ, I items.length σ → Q (.next σ)) (hs : ∀ env x, foldedSetIterable iter env x = pure x := by intro _ _; rfl) : Es X (k + 1) gs σ (.For target iter body [] pos) Q := by
  refine ⟨?_⟩
  intro A env M W s R O S
  refine wpAny_For (wpAny_mono (hi.run A env M W s R S) ?_ (fun _ _ f => f)) (hs env)
  intro x s1 y3; refine el4_9 (y3) fun a g c Mg y4 k1 hna haM hMg hgen hg0 hg1 hseg => ?_; obtain rfl := y4
  refine wpAny_pyIter_gen hgen ?_
  obtain ⟨σ0, hl0, hI0⟩ := h0
  generalize hf : s1.heap.objs.size = f at hseg
  have hf1 : s1.heap.get? f = none := hf ▸ get_new _
  have hf0 : s.heap.get? f = none := get_grow k1 hf1
  have haf : a ≠ f := fun e => by refine el3_2 (hgen) fun o _ _ ho _ => ?_; rw [e, hf1] at ho; exact noN ho
  have haO : a ∉ f :: Mg := fun q => (List.mem_cons.mp q).elim haf haM
  have newO : ∀ b ∈ f :: Mg, s.heap.get? b = none := fun b hb => (List.mem_cons.mp hb).elim (fun z => z ▸ hf0) fun z => (hMg b z).1
  have ownOk : ∀ b ∈ f :: Mg, X.h0.get? b = none ∧ b ≠ env.locals ∧ (∀ n, env.cells.lookup n ≠ some b) ∧ NF A b ∧ b ∉ M := by
    intro b hb
    refine el0_3 (S.toBase.new0 (newO b hb)) fun h1 h2 h3 => ?_
    exact ⟨h1, fun e => h3 (e ▸ S.sub _ S.locM), fun n e => h3 (S.cells n b e).2.1, S.nf (newO b hb), fun q => h3 (S.sub b q)⟩
  have nownW : ∀ b ∈ f :: Mg, b ∉ W := fun b hb => (S.toBase.new0 (newO b hb)).2.2
  have subW : ∀ b ∈ f :: Mg, b ∈ f :: (Mg ++ W) := fun b hb => (List.mem_cons.mp hb).elim (fun z => z ▸ .head _) fun z => .tail _ (List.mem_append_left _ z)
  have haM' : a ∉ M := fun q => by refine el1_1 (S.old a (S.sub a q)) fun o e => ?_; rw [hna] at e; exact noN e
  have fin' : ∀ {s'}, Kp X.h0 ((f :: Mg) ++ M) s s' → Kp X.h0 M s s' := fun K => K.fresh fun b hb => (List.mem_append.mp hb).elim (fun h => .inr (newO b h)) .inl
  have ndata : ∀ {s' s'' : Shared} {L : List Addr}, Kh X.h0 L s' s'' → a ∉ L → s'.heap.IsGen a g → s''.heap.IsGen a g := fun K hL ⟨o, nm, qn, ho, hc, hd, hsl⟩ => ⟨o, nm, qn, K.get hL ho (by intro es n q; rw [hd] at q; cases q), hc, hd, hsl⟩
  have turn : ∀ (i : Nat) (σ3 : Sto) (s3 : Shared) (gs' : GenState), i ≤ items.length → (i < items.length ∨ fin = .stop) → Kp X.h0 ((f :: Mg) ++ M) s s3 → I i σ3 → s3.heap.IsGen a g → s3.gens[g]? = some gs' → s3.heap.NoLimit →
      gs'.Goes (model X.prog X.w) A.in1 (gR X A (f :: Mg) fin) (gY X A (f :: (Mg ++ W)) (f :: Mg) items fin) (items.length - i) (.send .none) (s3.setGen g .running) →
      (∀ s4, Kh X.h0 (f :: Mg) s3 s4 → (∀ b ∈ f :: Mg, ∃ o, s4.heap.get? b = some o) → St X A env gs M (f :: (Mg ++ W)) σ3 s4) →
      (∀ s4, Kh X.h0 (f :: Mg) s3 s4 → St X A env gs M W σ3 s4) →
      wpAny (model X.prog X.w) A (pyNext (.ref a)) (fun r s₁ => match r with
      | none => wpAny (model X.prog X.w) A (execs [] env) (fun q s₃ => Fin' X A env gs M W s Q q s₃) (notedBy (model X.prog X.w) A env fun e s' => cameBackBy (model X.prog X.w) A env No e s') s₁
      | some v => wpAny (model X.prog X.w) A (letOwnedTupleGo target (.ref a) v) (fun _ s₁' =>
          wpAny (model X.prog X.w) A (assign target env v) (fun _ s₂ => wpAny (model X.prog X.w) A (execs body env) (fun q s₃ => match q with
            | .next | .cont => (i + 1 < items.length ∨ fin = .stop) ∧ i < items.length ∧ ∃ σ', Kp X.h0 ((f :: Mg) ++ M) s s₃ ∧ I (i + 1) σ' ∧ St X A env gs M (f :: (Mg ++ W)) σ' s₃ ∧ s₃.heap.IsGen a g ∧ ∃ gs2, s₃.gens[g]? = some gs2 ∧
                gs2.Goes (model X.prog X.w) A.in1 (gR X A (f :: Mg) fin) (gY X A (f :: (Mg ++ W)) (f :: Mg) items fin) (items.length - (i + 1)) (.send .none) (s₃.setGen g .running)
            | .brk => Fin' X A env gs M W s Q .next s₃
            | .ret v => Fin' X A env gs M W s Q (.ret v) s₃) (notedBy (model X.prog X.w) A env fun e s' => cameBackBy (model X.prog X.w) A env No e s') s₂) (notedBy (model X.prog X.w) A env fun e s' => cameBackBy (model X.prog X.w) A env No e s') s₁') (notedBy (model X.prog X.w) A env fun e s' => cameBackBy (model X.prog X.w) A env No e s') s₁) (notedBy (model X.prog X.w) A env fun e s' => cameBackBy (model X.prog X.w) A env No e s') s3 := by
    intro i σ3 s3 gs' hle hlt K3 hI hG hgs hlim hgo hW' hW
    refine wpAny_mono (gen_turn Ox R hlim hG haO hgs hgo) ?_ ?_
    · intro r s4 hr
      cases r with
      | none =>
        refine el0_3 (hr) fun hn hst y5 => ?_; refine el2_3 (y5) fun s₁ h' K hk y101 => ?_; obtain rfl := y101
        have hi' : i = items.length := Nat.le_antisymm hle (Nat.le_of_sub_eq_zero hn)
        subst hi'
        have Kh4 : Kh X.h0 (f :: Mg) s3 { s₁.setGen g .finished with heap := h' } := ((Kh.gen _ _ _ _).trans K.toKh).trans ((Kh.gen _ s₁ g .finished).trans (Kp.heapUp (s := s₁.setGen g .finished) hk).toKh)
        have K4 : Kp X.h0 ((f :: Mg) ++ M) s { s₁.setGen g .finished with heap := h' } := (((K3.gen hg0 rfl).trans (K.mono fun b hb => List.mem_append_left _ hb)).gen hg0 rfl).trans (Kp.heapUp (s := s₁.setGen g .finished) hk)
        exact wpAny_execs_nil ⟨fin' K4, _, done hst σ3 hI, rfl, hW _ Kh4⟩
      | some v =>
        refine el3_7 (hr) fun d s₁ gs2 y6 hb K hlive hd hv hcont => ?_; obtain rfl := y6
        have K1 : Kp X.h0 ((f :: Mg) ++ M) s s₁ := (K3.gen hg0 rfl).trans (K.mono fun b hb => List.mem_append_left _ hb)
        have K4 : Kp X.h0 ((f :: Mg) ++ M) s (s₁.setGen g gs2) := K1.gen hg0 hb
        have Kh4 : Kh X.h0 (f :: Mg) s3 (s₁.setGen g gs2) := ((Kh.gen _ _ _ _).trans K.toKh).trans (Kh.gen _ _ _ _)
        have S4 := hW' _ Kh4 hlive
        have hilt : i < items.length := by
          rcases hlt with q | q
          · exact q
          · refine Decidable.byContradiction fun z => ?_
            have hi' : i = items.length := Nat.le_antisymm hle (Nat.le_of_not_lt z)
            subst hi'
            have := hcont (.inr (by rw [q]; nofun)) s₁ [] nofun (Kh.refl _ _) (by
              have := hW' s₁ ((Kh.gen _ _ _ _).trans K.toKh) hlive
              exact this.toBase)
            rw [Nat.sub_self] at this
            exact this
        obtain ⟨m, hm⟩ : ∃ m, items.length - i = m + 1 := ⟨items.length - i - 1, (Nat.succ_pred_eq_of_pos (Nat.sub_pos_of_lt hilt)).symm⟩
        rw [hm] at hcont hd
        have hd' : items[i]? = some d := by rw [← hd]; exact congrArg (items[·]?) (ix1 hm hilt)
        have hga : (s₁.setGen g gs2).gens[g]? = some gs2 := setGen_eq (K.gens g _ (setGen_eq hgs))
        have hG4 : (s₁.setGen g gs2).heap.IsGen a g := ndata Kh4 haO hG
        have hgo : ∀ (Q' : Unit → Shared → Prop) (E' : Value → Shared → Prop), Q' () (s₁.setGen g gs2) → wpAny (model X.prog X.w) A (letOwnedTupleGo target (.ref a) v) Q' E' (s₁.setGen g gs2) := fun Q' E' q => by
          refine el3_3 (hG4) fun o nm qn ho hc _ => ?_
          exact letGo_plain ho hc (by decide) q
        refine hgo _ _ ?_
        obtain ⟨σ5, has, hex⟩ := step i d σ3 hd' hI
        refine wpAny_mono (has.run A env M (f :: (Mg ++ W)) _ v R S4 hv) ?_ (fun _ _ f => f.elim)
        intro _ s6 y7; refine el0_2 (y7) fun S6 k6 => ?_
        refine wpAny_mono (hex.run A env M (f :: (Mg ++ W)) s6 R O S6) ?_ (fun _ _ f => f.elim)
        intro q s7 y8; refine el0_2 (y8) fun k7 y9 => ?_; refine el1_2 (y9) fun rr hq hh => ?_
        have k67 := k6.trans k7
        have K7 : Kp X.h0 ((f :: Mg) ++ M) s s7 := K4.trans (k67.mono fun b hb => List.mem_append_right _ hb)
        have nar : ∀ {σ s'}, St X A env gs M (f :: (Mg ++ W)) σ s' → St X A env gs M W σ s' := fun S' => St.narrow (O := f :: Mg) S' S.sub S.tabW fun n c h => (S.cells n c h).2.1
        have goOn : ∀ σ7, St X A env gs M (f :: (Mg ++ W)) σ7 s7 → ((i + 1 < items.length ∨ fin = .stop) ∧ ∃ σ8, Le σ7 σ8 ∧ I (i + 1) σ8) → (i + 1 < items.length ∨ fin = .stop) ∧ i < items.length ∧ ∃ σ', Kp X.h0 ((f :: Mg) ++ M) s s7 ∧ I (i + 1) σ' ∧ St X A env gs M (f :: (Mg ++ W)) σ' s7 ∧ s7.heap.IsGen a g ∧ ∃ gs2, s7.gens[g]? = some gs2 ∧
                gs2.Goes (model X.prog X.w) A.in1 (gR X A (f :: Mg) fin) (gY X A (f :: (Mg ++ W)) (f :: Mg) items fin) (items.length - (i + 1)) (.send .none) (s7.setGen g .running) := by
          rintro σ7 S7 ⟨hc, σ8, hl, hI8⟩
          refine ⟨hc, hilt, σ8, K7, hI8, S7.weak hl, ndata k67.toKh haM' hG4, gs2, k67.gens g _ hga, ?_⟩
          have := hcont (by rcases hc with z | z; exact .inl (ix2 hm z); exact .inr (by rw [z]; nofun)) (s7.setGen g .running) M (fun b hb => ⟨.tail _ (List.mem_append_right _ (S.sub b hb)), fun z => (ownOk b z).2.2.2.2 hb⟩)
            (((Kh.gen _ s₁ g gs2).trans k67.toKh).trans (Kh.gen _ _ _ _)) (by
              have := S7.toBase
              exact ⟨this.base, this.tabW, this.old, this.frs⟩)
          rw [ix3 hm]
          exact this
        cases rr with
        | next σ7 =>
          refine el0_2 (hh) fun y10 S7 => ?_; obtain rfl := y10
          exact goOn σ7 S7 hq
        | cont σ7 =>
          refine el0_2 (hh) fun y11 S7 => ?_; obtain rfl := y11
          exact goOn σ7 S7 hq
        | brk σ7 =>
          refine el0_2 (hh) fun y12 S7 => ?_; obtain rfl := y12
          exact ⟨fin' K7, _, hq, rfl, nar S7⟩
        | ret d =>
          refine el1_2 (hh) fun v y13 hv => ?_; obtain rfl := y13
          refine ⟨fin' K7, _, hq, v, rfl, ?_⟩
          have hw : ∀ b ∈ W, b ∈ f :: (Mg ++ W) ∨ s7.heap.get? b = none := fun b hb => .inl (.tail _ (List.mem_append_right _ hb))
          cases hv with
          | data r => exact .data (r.weak hw)
          | own l m r => exact .own l m (r.weak hw)
    · intro e s4 y14; refine el0_2 (y14) fun _ y15 => ?_; refine el2_2 (y15) fun msg _ hm _ => ?_
      exact absurd hm (hfin msg)
  refine codeAny_forLoop_any (fun n s' => (n = items.length + 2 ∧ s' = s1) ∨ ∃ i σ, n = items.length + 1 - i ∧ i ≤ items.length ∧ (i < items.length ∨ fin = .stop) ∧ Kp X.h0 ((f :: Mg) ++ M) s s' ∧ I i σ ∧ St X A env gs M (f :: (Mg ++ W)) σ s' ∧ s'.heap.IsGen a g ∧ ∃ gs2, s'.gens[g]? = some gs2 ∧
                gs2.Goes (model X.prog X.w) A.in1 (gR X A (f :: Mg) fin) (gY X A (f :: (Mg ++ W)) (f :: Mg) items fin) (items.length - i) (.send .none) (s'.setGen g .running)) ?_ (items.length + 2) (.inl ⟨rfl, rfl⟩)
  rintro n s3 (⟨rfl, rfl⟩ | ⟨i, σ3, rfl, hle, hlt, K3, hI, S3, hG, gs2, hgs, hgo⟩)
  · have hlt : 0 < items.length ∨ fin = .stop := hne.imp (fun h => List.length_pos_iff.mpr h) id
    refine wpAny_mono (turn 0 σ0 s3 _ (Nat.zero_le _) hlt k1.nil hI0 hgen hg1 ((S.keep k1).toBase.lim Ox) ⟨rfl, by rw [Nat.sub_zero]; exact hseg⟩ (fun s4 K4 hl => ?_) (fun s4 K4 => ?_)) ?_ (fun _ _ h => h)
    · have KK : Kh X.h0 (f :: Mg) s s4 := (k1.toKh.nil (M := f :: Mg)).trans K4
      have Sa : St X A env gs M W σ0 s := S.weak hl0
      have Sb : St X A env gs M W σ0 s4 := Sa.keepMH (O := []) (KK.fresh fun b hb => .inr (newO b hb)) nofun
      exact Sa.wideM (O := f :: Mg) (own := f :: Mg) Sb hl newO KK fun b hb => ⟨.inl hb, (ownOk b hb).2.2.2.2, (ownOk b hb).2.1, (ownOk b hb).2.2.1⟩
    · have KK : Kh X.h0 (f :: Mg) s s4 := (k1.toKh.nil (M := f :: Mg)).trans K4
      exact (S.weak hl0).keepMH (O := []) (KK.fresh fun b hb => .inr (newO b hb)) nofun
    · intro r s4 h
      cases r with
      | none => exact h
      | some v => exact wpAny_mono h (fun _ s5 h => wpAny_mono h (fun _ s6 h => wpAny_mono h (fun q s7 h => by
          cases q with
          | next => refine el0_3 (h) fun a1 a2 a3 => ?_; exact ⟨items.length + 1 - 1, by (exact Nat.le_succ _), .inr ⟨1, a3.choose, rfl, a2, a1, a3.choose_spec⟩⟩
          | cont => refine el0_3 (h) fun a1 a2 a3 => ?_; exact ⟨items.length + 1 - 1, by (exact Nat.le_succ _), .inr ⟨1, a3.choose, rfl, a2, a1, a3.choose_spec⟩⟩
          | brk => exact h
          | ret v => exact h) (fun _ _ h => h)) (fun _ _ h => h)) (fun _ _ h => h)
  · refine wpAny_mono (turn i σ3 s3 gs2 hle hlt K3 hI hG hgs (S3.toBase.lim Ox) hgo (fun s4 K4 hl => ?_) (fun s4 K4 => ?_)) ?_ (fun _ _ h => h)
    · exact S3.keepMH K4 fun b hb => ⟨subW b hb, (ownOk b hb).1, hl b hb, (ownOk b hb).2⟩
    · exact St.keepNH (O := f :: Mg) S3 K4 S.sub S.tabW (fun n c h => (S.cells n c h).2.1) fun b hb => ⟨nownW b hb, (ownOk b hb).1, (ownOk b hb).2.2.2.1⟩
    · intro r s4 h
      cases r with
      | none => exact h
      | some v => exact wpAny_mono h (fun _ s5 h => wpAny_mono h (fun _ s6 h => wpAny_mono h (fun q s7 h => by
          cases q with
          | next => refine el0_3 (h) fun a1 a2 a3 => ?_; exact ⟨items.length + 1 - (i + 1), Nat.sub_lt_sub_left (Nat.lt_succ_of_lt a2) (Nat.lt_succ_self i), .inr ⟨i + 1, a3.choose, rfl, a2, a1, a3.choose_spec⟩⟩
          | cont => refine el0_3 (h) fun a1 a2 a3 => ?_; exact ⟨items.length + 1 - (i + 1), Nat.sub_lt_sub_left (Nat.lt_succ_of_lt a2) (Nat.lt_succ_self i), .inr ⟨i + 1, a3.choose, rfl, a2, a1, a3.choose_spec⟩⟩
          | brk => exact h
          | ret v => exact h) (fun _ _ h => h)) (fun _ _ h => h)) (fun _ _ h => h)
end Mine
end
noncomputable section
namespace Mine
open PySem PySem.W PySem.Calls PyProof.Rows
variable {X : Cx} {A A0 : Around} {k : Nat} {gs gi : Gm} {σ σ' τ : Sto} {pos : Pos}
theorem Fl.gen {H : Heap} {M : List Addr} {s0 s : Shared} {cls : String} {msg : Option Str} {nt : Bool} {v : Value} {g : Nat} {x : GenState} (f : Fl H M s0 cls msg nt v s) (h : s0.gens[g]? = none) (hx : x.bare = true) : Fl H M s0 cls msg nt v (s.setGen g x) :=
  ⟨f.kp.gen h hx, f.live, f.ex⟩
theorem EsR.forG {iter target : Expr} {body : List Stmt} {msg : Str} (Ox : XOk X) (hi : IvG X (k + 1) gs σ iter [] (.raise msg)) (hs : ∀ env x, foldedSetIterable iter env x = pure x := by intro _ _; rfl) :
    EsR X (k + 1) gs σ (.For target iter body [] pos) "ValueError" (some msg) := by
  refine ⟨?_⟩
  intro A env M W s R O S
  refine el1_1 (O.top) fun outer hfr => ?_
  refine el1_1 (O.fr) fun L hf => ?_
  refine wpAny_For (wpAny_mono (hi.run A env M W s R S) ?_ (fun _ _ f => f.elim)) (hs env)
  intro x s1 y1; refine el4_9 (y1) fun a g c Mg y2 k1 hna haM hMg hgen hg0 hg1 hseg => ?_; obtain rfl := y2
  refine wpAny_pyIter_gen hgen ?_
  generalize hf' : s1.heap.objs.size = f at hseg
  have hf1 : s1.heap.get? f = none := hf' ▸ get_new _
  have hf0 : s.heap.get? f = none := get_grow k1 hf1
  have haf : a ≠ f := fun e => by refine el3_2 (hgen) fun o _ _ ho _ => ?_; rw [e, hf1] at ho; exact noN ho
  have haO : a ∉ f :: Mg := fun q => (List.mem_cons.mp q).elim haf haM
  have newO : ∀ b ∈ f :: Mg, s.heap.get? b = none := fun b hb => (List.mem_cons.mp hb).elim (fun z => z ▸ hf0) fun z => (hMg b z).1
  refine codeAny_forLoop_any (fun n s' => s' = s1) ?_ 0 rfl
  rintro n s3 rfl
  refine wpAny_mono (gen_turn (n := 0) (gs' := .fresh c) Ox R ((S.keep k1).toBase.lim Ox) hgen haO hg1 ⟨rfl, hseg⟩) ?_ ?_
  · intro r s4 hr
    cases r with
    | none => refine el0_3 (hr) fun _ hst _ => ?_; cases hst
    | some v => refine el3_6 (hr) fun d _ _ _ _ _ _ hd _ => ?_; simp at hd
  · intro e s4 y3; refine el0_2 (y3) fun _ y4 => ?_; refine el2_3 (y4) fun msg' s₁ hm y101 y102 => ?_; refine el0_2 (y101) fun x y201 => ?_; obtain ⟨l, hl, F⟩ := y201; obtain rfl := y102
    cases hm
    rw [hfr] at hl; obtain rfl := Option.some.inj hl
    have x1 := x.back (M' := M) ((k1.nil (M := M)).gen hg0 rfl) (fun b hb => .inr (newO b hb)) fun b hb => (S.keep k1).old b (S.sub b hb)
    refine (x1.gen (x := .finished) hg0 rfl).note hfr hf F fun s5 x5 F5 => ?_
    exact x5.cameBack F5 fun s6 x6 F6 => ⟨x6.weak, _, hfr, F6⟩
end Mine
end
noncomputable section
namespace Mine
open PySem PySem.W PySem.Calls PyProof.Rows
variable {X : Cx} {k : Nat} {gs gi : Gm} {σ σ' : Sto} {l r : Expr} {pos : Pos}
theorem OpN.lenT {x : List Nat} (hz : x.length < 2 ^ 63) : OpN X k (.builtin "len") [T x] (N x.length) := by
  have := OpN.lenS (X := X) (k := k) (x := txt x) (by rw [txt_length]; exact hz)
  rwa [txt_length] at this
theorem In.addN {a b : Nat} : Op2 X k (inplaceOp .Add) (N a) (N b) (N (a + b)) := by
  refine ⟨?_⟩
  intro A W s v w R B z0 z1; obtain ⟨_, rfl⟩ := Rd.intI z0; obtain ⟨_, rfl⟩ := Rd.intI z1
  refine P.iadd_int ⟨?_, Kp.toks _ _⟩
  rw [← Int.natCast_add]; exact .int _ _
theorem In.subN {a b : Nat} (h : b ≤ a) : Op2 X k (inplaceOp .Sub) (N a) (N b) (N (a - b)) := by
  refine ⟨?_⟩
  intro A W s v w R B z2 z3; refine el1_1 (Rd.intI z2) fun _ y3 => ?_; obtain rfl := y3; refine el1_1 (Rd.intI z3) fun _ y4 => ?_; obtain rfl := y4
  refine P.isub_int ⟨?_, Kp.toks _ _⟩
  rw [← Int.ofNat_sub h]; exact .int _ _
theorem Truth.yes {a : Nat} (h : a ≠ 0) : Truth X k (N a) true := by
  have := Truth.nat (X := X) (k := k) (a := a)
  rwa [decide_eq_true h] at this
theorem Truth.no {a : Nat} (h : a = 0) : Truth X k (N a) false := by
  have := Truth.nat (X := X) (k := k) (a := a)
  rwa [decide_eq_false (by lia)] at this
theorem Op2.eqt1 {a b : List Nat} {t : Bool} (h : decide (a = b) = t) : Op2 X k (compareOp .Eq) (T a) (T b) (.bool t) := h ▸ Op2.eqt
theorem strip_core {D : Ad} {s : List Nat} {a p : Nat} (P : PX X D) (h1 : ∀ i < p, s[i]? = some 32) (h2 : p = a ∨ (p < a ∧ ∃ c, s[p]? = some c ∧ c ≠ 32)) (h3 : ∀ j < a - p, s[s.length - 1 - j]? = some 32) (h4 : a - p + 1 ≤ s.length) (h5 : s.length ≤ 1000) :
    OpN X (k + 1) (.ref D.strip) [T s, N a] (T ((s.drop p).take (s.length - (a - p) - p))) := by
  have hpa : p ≤ a := by rcases h2 with h | ⟨h, _⟩ <;> lia
  refine OpN.pfn ["s", "amount"] ["lpos", "rpos"] ["len"] [] P.toXOk P.pStrip (by decide +kernel) rfl (fun name qual kV doc pm an cd ct vs h => ?_) ?_
  · obtain ⟨a, b, rfl⟩ := len2 h
    rfl
  refine Ex.cons (Es.asg (Ev.natc 0) u2 ?_)
  refine Ex.cons (Es.while (fun m σ => ∃ i, m = p - i ∧ i ≤ p ∧ σ = ([("s", some (T s)), ("amount", some (N (a - i))), ("lpos", some (N i)), ("rpos", none)] : Sto)) (p - 0) ⟨_, Le.refl _, 0, rfl, Nat.zero_le _, rfl⟩ ?_)
  rintro m σ ⟨i, rfl, hi, rfl⟩
  by_cases hip : i < p
  · have hsi := h1 i hip
    refine ⟨true, Tr.and (a := true) (b := true) (Tr.of Ev.n1 (Truth.yes (by lia))) (fun _ => Tr.cmp (Ev.itemS Ev.n0 Ev.n2 hsi (by lia)) (Ev.txt [32]) (Op2.eqt1 (by decide))), fun _ => ?_, fun h => by cases h⟩
    refine Ex.cons (Es.aug (.tail _ (.tail _ (.head _))) (Ev.natc 1) In.addN u2 ?_)
    refine Ex.cons (Es.aug (.tail _ (.head _)) (Ev.natc 1) (In.subN (by lia)) u1 ?_)
    refine Ex.nil ⟨_, p - (i + 1), Le.refl _, by lia, i + 1, rfl, by assumption, ?_⟩
    rw [Nat.sub_sub]
  · have hip : i = p := by lia
    subst hip
    refine ⟨false, ?_, (fun h => by cases h), fun _ => ?_⟩
    · rcases h2 with h2 | ⟨h2, c, hc, hne⟩
      · exact Tr.and (a := false) (b := false) (Tr.of Ev.n1 (Truth.no (by lia))) (fun h => by cases h)
      · exact Tr.and (a := true) (b := false) (Tr.of Ev.n1 (Truth.yes (by lia))) (fun _ => Tr.cmp (Ev.itemS Ev.n0 Ev.n2 hc (by lia)) (Ev.txt [32]) (Op2.eqt1 (decide_eq_false (fun h => hne (by simpa using h)))))
    refine Ex.cons (Es.asg (Ev.bin (Ev.call (Ev.glob P.toXOk (.head _) P.len) (Evs.cons Ev.n0 Evs.nil) .builtin (OpN.lenT (by lia))) (Ev.natc 1) (Op2.subN (by lia))) u3 ?_)
    refine Ex.cons (Es.while (fun m σ => ∃ j, m = a - i - j ∧ j ≤ a - i ∧ σ = ([("s", some (T s)), ("amount", some (N (a - i - j))), ("lpos", some (N i)), ("rpos", some (N (s.length - 1 - j)))] : Sto)) (a - i - 0) ⟨_, Le.refl _, 0, rfl, Nat.zero_le _, rfl⟩ ?_)
    rintro m σ ⟨j, rfl, hj, rfl⟩
    by_cases hjp : j < a - i
    · refine ⟨true, Tr.and (a := true) (b := true) (Tr.of Ev.n1 (Truth.yes (by lia))) (fun _ => Tr.cmp (Ev.itemS Ev.n0 Ev.n3 (h3 j hjp) (by lia)) (Ev.txt [32]) (Op2.eqt1 (by decide))), fun _ => ?_, fun h => by cases h⟩
      refine Ex.cons (Es.aug (.tail _ (.tail _ (.tail _ (.head _)))) (Ev.natc 1) (In.subN (by lia)) u3 ?_)
      refine Ex.cons (Es.aug (.tail _ (.head _)) (Ev.natc 1) (In.subN (by lia)) u1 ?_)
      refine Ex.nil ⟨_, a - i - (j + 1), Le.refl _, by lia, j + 1, rfl, by assumption, ?_⟩
      rw [Nat.sub_sub _ j 1, Nat.sub_sub _ j 1]
    · have hjp : j = a - i := by lia
      subst hjp
      refine ⟨false, Tr.and (a := false) (b := false) (Tr.of Ev.n1 (Truth.no (by lia))) (fun h => by cases h), (fun h => by cases h), fun _ => ?_⟩
      refine Ex.cons (Es.ret (d := T ((s.drop i).take (s.length - (a - i) - i))) ?_ rfl)
      rw [show s.length - (a - i) - i = (s.length - 1 - (a - i) + 1) - i by lia, ← pick_run']
      exact Ev.sliceS Ev.n0 (.some Ev.n2) (.some (Ev.bin Ev.n3 (Ev.natc 1) Op2.addN)) (by lia)
theorem OpE.pfn {a : Addr} {st : Stmt} {ds : List V} {cls : String} {msg : Option Str} (ns ls gl cs : List Str) (O : XOk X) (P : PFn X a st)
    (hok : fnOk (scopeS st) ns ls gl cs = true) (hl : ns.length = ds.length)
    (hb : ∀ name qual kV doc pm an cd ct (vs : List Value), vs.length = ns.length → bindArgs (fdS st name qual .none kV doc pm an cd ct) ⟨vs, []⟩ = pure (ns.zip vs))
    (h : ExR X k ⟨gl, [], cs⟩ (fnSto ns ls ds) (bodyS st) cls msg) : OpE X (k + 1) (.ref a) ds cls msg := by
  refine el7_1 (P) fun name qual kV doc pm an cd y6 => ?_; refine el1_1 (y6) fun ct F => ?_
  exact OpE.fn (ns := ns) (ls := ls) (gl := gl) (cs := cs) O F (fun A W s vs B rd => ⟨vs, BindsTo.of_eq (hb _ _ _ _ _ _ _ _ vs (by rw [rd.length, hl])), rd⟩) rfl hok hl h
theorem strip_raise {D : Ad} {n a : Nat} (P : PX X D) (h : n < a) (hz : n ≤ 1000) : OpE X (k + 1) (.ref D.strip) [T (List.replicate n 32), N a] "IndexError" none := by
  refine OpE.pfn ["s", "amount"] ["lpos", "rpos"] ["len"] [] P.toXOk P.pStrip (by decide +kernel) rfl (fun name qual kV doc pm an cd ct vs h => ?_) ?_
  · refine el2_1 (len2 h) fun a b y7 => ?_; obtain rfl := y7
    rfl
  refine ExR.asg (Ev.natc 0) u2 ?_
  refine ExR.of (EsR.while (fun m σ => ∃ i, m = n - i ∧ i ≤ n ∧ σ = ([("s", some (T (List.replicate n 32))), ("amount", some (N (a - i))), ("lpos", some (N i)), ("rpos", none)] : Sto)) (n - 0) ⟨_, Le.refl _, 0, rfl, Nat.zero_le _, rfl⟩ ?_)
  rintro m σ ⟨i, rfl, hi, rfl⟩
  by_cases hip : i < n
  · refine .inr ⟨Tr.and (a := true) (b := true) (Tr.of Ev.n1 (Truth.yes (by lia))) (fun _ => Tr.cmp (Ev.itemS (c := 32) Ev.n0 Ev.n2 (by simp [hip]) (by rw [List.length_replicate]; lia)) (Ev.txt [32]) (Op2.eqt1 (by decide))), ?_⟩
    refine Ex.cons (Es.aug (.tail _ (.tail _ (.head _))) (Ev.natc 1) In.addN u2 ?_)
    refine Ex.cons (Es.aug (.tail _ (.head _)) (Ev.natc 1) (In.subN (by lia)) u1 ?_)
    refine Ex.nil ⟨_, .inl rfl, _, n - (i + 1), Le.refl _, by lia, i + 1, rfl, by assumption, ?_⟩
    rw [Nat.sub_sub]
  · have hip : i = n := by lia
    subst hip
    exact .inl (TrR.and2 (Tr.of Ev.n1 (Truth.yes (by lia))) (TrR.cmpL (EvR.itemS Ev.n0 Ev.n2 (by rw [List.length_replicate]; exact Nat.le_refl _) (by lia))))
theorem rep_get {n i : Nat} {rest : List Nat} (h : i < n) : (List.replicate n 32 ++ rest)[i]? = some 32 := by
  rw [List.getElem?_append_left (by simpa using h)]; simp [h]
theorem strip_less {D : Ad} {n a : Nat} {rest : List Nat} (P : PX X D) (h0 : 1 ≤ a) (h : a ≤ n) (hz : n + rest.length ≤ 1000) : OpN X (k + 1) (.ref D.strip) [T (List.replicate n 32 ++ rest), N a] (T (List.replicate (n - a) 32 ++ rest)) := by
  have e : (List.replicate n 32 ++ rest).length = n + rest.length := by simp
  have := strip_core (k := k) (s := List.replicate n 32 ++ rest) (a := a) (p := a) P (fun i hi => rep_get (by (exact Nat.lt_of_lt_of_le (by assumption) (by assumption)))) (.inl rfl) (fun j hj => by lia) (by lia) (by lia)
  have e2 : ((List.replicate n 32 ++ rest).drop a).take ((List.replicate n 32 ++ rest).length - (a - a) - a) = List.replicate (n - a) 32 ++ rest := by
    rw [List.take_of_length_le (by simp), List.drop_append_of_le_length (by simpa using h), List.drop_replicate]
  rw [e2] at this
  exact this
theorem strip_both {D : Ad} {n m a c : Nat} {mid : List Nat} (P : PX X D) (h : n < a) (h' : a ≤ n + m) (hc : c ≠ 32) (hz : n + mid.length + m ≤ 900) :
    OpN X (k + 1) (.ref D.strip) [T (List.replicate n 32 ++ (c :: mid ++ List.replicate m 32)), N a] (T (c :: mid ++ List.replicate (n + m - a) 32)) := by
  have e : (List.replicate n 32 ++ (c :: mid ++ List.replicate m 32)).length = n + (mid.length + 1 + m) := by simp; lia
  have := strip_core (k := k) (s := List.replicate n 32 ++ (c :: mid ++ List.replicate m 32)) (a := a) (p := n) P (fun i hi => rep_get hi) (.inr ⟨h, c, by simp, hc⟩) (fun j hj => by
    rw [e, List.getElem?_append_right (by simp; lia), List.length_replicate, List.getElem?_append_right (by simp; lia)]
    simp only [List.length_cons]
    rw [List.getElem?_replicate, if_pos (by lia)]) (by lia) (by lia)
  rw [e] at this
  have e2 : ((List.replicate n 32 ++ (c :: mid ++ List.replicate m 32)).drop n).take (n + (mid.length + 1 + m) - (a - n) - n) = c :: mid ++ List.replicate (n + m - a) 32 := by
    rw [List.drop_left' (by simp), List.take_append, List.take_of_length_le (by simp only [List.length_cons]; lia), List.take_replicate]
    simp only [List.length_cons]
    congr 2
    lia
  rw [e2] at this
  exact this
theorem splitC_none {c : Nat} : ∀ {v : List Nat}, c ∉ v → splitC c v = [v]
  | [], _ => rfl
  | a :: v, h => by
    unfold splitC
    rw [if_neg (fun e => h (by rw [e]; exact .head _)), splitC_none fun q => h (.tail _ q)]
theorem splitC_app {c : Nat} : ∀ {u v : List Nat}, c ∉ u → splitC c (u ++ c :: v) = u :: splitC c v
  | [], v, _ => by
    show splitC c (c :: v) = _
    rw [splitC, if_pos rfl]
  | a :: u, v, h => by
    show splitC c (a :: (u ++ c :: v)) = _
    rw [splitC, if_neg (fun e => h (by rw [e]; exact .head _)), splitC_app fun q => h (.tail _ q)]
theorem leadText_cons (r : Nat) (rs : List Nat) (b : Nat) : leadText (r :: rs) b = List.replicate r 32 ++ 9 :: leadText rs b := by
  simp [leadText]
theorem leadText_nil (b : Nat) : leadText [] b = List.replicate b 32 := by simp [leadText]
theorem leadText_mem (rs : List Nat) (b : Nat) : ∀ c ∈ leadText rs b, c = 32 ∨ c = 9 := by
  induction rs with
  | nil => intro c hc; rw [leadText_nil] at hc; exact .inl (List.mem_replicate.mp hc).2
  | cons r rs ih =>
    intro c hc
    rw [leadText_cons] at hc
    rcases List.mem_append.mp hc with q | q
    · exact .inl (List.mem_replicate.mp q).2
    · rcases List.mem_cons.mp q with q | q
      · exact .inr q
      · exact ih c q
theorem leadText_asc (rs : List Nat) (b : Nat) : Asc (leadText rs b) := fun c hc => by rcases leadText_mem rs b c hc with rfl | rfl <;> decide
theorem cut_ok {D : Ad} {runs : List Nat} {blanks : Nat} {free : List Nat} (P : PX X D) (L : Lead runs blanks) (hf : ∀ x ∈ free, 1 ≤ x ∧ x ≤ 100) :
    OpN X (k + 2) (.ref D.cut) [T (leadText runs blanks), natsV free] (.tup [T (leadText (leftGo free ⟨runs, blanks, 0⟩).runs (leftGo free ⟨runs, blanks, 0⟩).blanks), N (leftGo free ⟨runs, blanks, 0⟩).ground]) := by
  refine OpN.pfn ["text", "free"] ["ground", "size", "left", "behind"] ["_strip_padding", "len", "IndexError"] [] P.toXOk P.pCut (by decide +kernel) rfl (fun name qual kV doc pm an cd ct vs h => ?_) ?_
  · refine el2_1 (len2 h) fun a b y8 => ?_; obtain rfl := y8
    rfl
  refine Ex.cons (Es.asg (Ev.natc 0) u2 ?_)
  generalize hres : leftGo free ⟨runs, blanks, 0⟩ = res
  have fin : ∀ o1 o2 o3 : Option V, Ex X (k + 1) ⟨["_strip_padding", "len", "IndexError"], [], []⟩ ([("text", some (T (leadText res.runs res.blanks))), ("free", some (natsV free)), ("ground", some (N res.ground)), ("size", o1), ("left", o2), ("behind", o3)] : Sto) ((bodyS (stm 15)).drop 2)
      (Rets (.tup [T (leadText res.runs res.blanks), N res.ground])) := fun o1 o2 o3 => Ex.cons (Es.ret (Ev.tupD (Evs.cons Ev.n0 (Evs.cons Ev.n2 Evs.nil))) rfl)
  refine Ex.cons (Es.for (items := free.map N) (Iv.list Ev.n1) (fun i σ => ∃ st : Ls, Lead st.runs st.blanks ∧ leftGo (free.drop i) st = res ∧ ∃ o1 o2 o3, σ = ([("text", some (T (leadText st.runs st.blanks))), ("free", some (natsV free)), ("ground", some (N st.ground)), ("size", o1), ("left", o2), ("behind", o3)] : Sto))
    ⟨_, Le.refl _, ⟨runs, blanks, 0⟩, L, hres, _, _, _, rfl⟩ (fun i d σ hd hI => ?_) (fun σ hI => ?_))
  · refine el1_3 (hI) fun st hL hst y9 => ?_; refine el3_1 (y9) fun o1 o2 o3 y101 => ?_; obtain rfl := y101
    obtain ⟨size, hsz, rfl⟩ : ∃ size, free[i]? = some size ∧ N size = d := by simpa using hd
    have hs1 := hf size (List.mem_of_getElem? hsz)
    have hdr : free.drop i = size :: free.drop (i + 1) := (List.drop_eq_getElem?_toList_append (l := free) (i := i)).trans (by rw [hsz]; rfl)
    rw [hdr] at hst
    refine ⟨_, a3, ?_⟩
    obtain ⟨rs, b, g⟩ := st
    have hbl : b ≤ 3 := hL.blanks
    have hsize := hL.size
    cases rs with
    | nil =>
      refine Ex.cons (Es.ite (Tr.cmp (Ev.txt [9]) Ev.n0 Op2.inS) (fun h => ?_) (fun _ => ?_))
      · have h9 := of_decide_eq_true h
        rw [leadText_nil] at h9
        have := (List.mem_replicate.mp h9).2
        omega
      · by_cases hlt : b < size
        · have e : res = ⟨[], b, g⟩ := by rw [← hst]; unfold leftGo; rw [if_pos hlt]
          refine Ex.cons (Es.tryBreak P.toXOk (ExR0.asg (EvR.call (Ev.glob P.toXOk (.head _) P.strip) (Evs.cons Ev.n0 (Evs.cons Ev.n3 Evs.nil)) P.pStrip.callable ?_)) (.tail _ (.tail _ (.head _))) P.indexError ?_)
          · rw [leadText_nil]; exact strip_raise P hlt (by show b ≤ 1000; omega)
          · have := fin (some (N size)) o2 o3
            rw [e] at this ⊢
            exact this
        · have hst2 : leftGo (free.drop (i + 1)) ⟨[], b - size, g + size⟩ = res := by rw [← hst, leftGo, if_neg hlt]
          refine Ex.cons (Es.tryOk (Ex.cons (Es.asg (d := T (leadText [] (b - size))) (Ev.call (Ev.glob P.toXOk (.head _) P.strip) (Evs.cons Ev.n0 (Evs.cons Ev.n3 Evs.nil)) P.pStrip.callable ?_) u0 (Ex.nil ?_))))
          · have := strip_less (k := k) (n := b) (a := size) (rest := []) P hs1.1 (by (exact Nat.le_of_not_lt (by assumption))) (by simp only [List.length_nil]; omega)
            rw [List.append_nil, List.append_nil] at this
            rw [leadText_nil, leadText_nil]; exact this
          · refine Ex.nil ?_
            refine Ex.cons (Es.asg (Ev.bin Ev.n2 Ev.n3 Op2.addN) u2 ?_)
            exact Ex.nil ⟨_, Le.refl _, ⟨[], b - size, g + size⟩, ⟨hL.len, hL.run, by show b - size ≤ 3; (exact Nat.le_trans (Nat.sub_le _ _) (by assumption))⟩, hst2, _, _, _, rfl⟩
    | cons r rs =>
      have hr : r ≤ 4 := hL.run r (.head _)
      have h9 : 9 ∈ leadText (r :: rs) b := by rw [leadText_cons]; simp
      have ht : (leadText rs b).length ≤ 18 := by
        have hsize' : (leadText (r :: rs) b).length ≤ 18 := hsize
        rw [leadText_cons] at hsize'
        simp only [List.length_append, List.length_cons] at hsize'
        omega
      have hst2 : leftGo (free.drop (i + 1)) ⟨if r < size then rs else (r - size) :: rs, b, g + size⟩ = res := by rw [← hst, leftGo]
      have hL2 := leftGo_lead [size] ⟨r :: rs, b, g⟩ hL
      simp only [leftGo] at hL2
      have n120 : ∀ (rs : List Nat) (b : Nat), 120 ∉ leadText rs b := fun rs b h => by rcases leadText_mem rs b 120 h with q | q <;> omega
      have n120r : ∀ m : Nat, 120 ∉ List.replicate m 32 := fun m h => by have := (List.mem_replicate.mp h).2; omega
      have hstrip : OpN X (k + 1) (.ref D.strip) [T (leadText (r :: rs) b ++ [120] ++ List.replicate size 32), N size] (T ((if r < size then 9 :: leadText rs b else leadText ((r - size) :: rs) b) ++ 120 :: List.replicate (if r < size then r else size) 32)) := by
        rw [leadText_cons]
        by_cases hlt : r < size
        · rw [if_pos hlt, if_pos hlt]
          have := strip_both (k := k) (n := r) (m := size) (a := size) (c := 9) (mid := leadText rs b ++ [120]) P hlt (by (exact Nat.le_add_left _ _)) (by decide) (by simp only [List.length_append, List.length_cons, List.length_nil]; omega)
          rw [show r + size - size = r by omega] at this
          simpa using this
        · rw [if_neg hlt, if_neg hlt, leadText_cons]
          have := strip_less (k := k) (n := r) (a := size) (rest := 9 :: leadText rs b ++ 120 :: List.replicate size 32) P hs1.1 (by (exact Nat.le_of_not_lt (by assumption))) (by simp only [List.length_append, List.length_cons, List.length_replicate]; omega)
          simpa using this
      generalize hu : (if r < size then 9 :: leadText rs b else leadText ((r - size) :: rs) b) = u at hstrip
      have hu120 : 120 ∉ u := by
        rw [← hu]; split
        · intro h; rcases List.mem_cons.mp h with q | q
          · omega
          · exact n120 _ _ q
        · exact n120 _ _
      have hua : Asc u := by
        rw [← hu]; split
        · intro c hc; rcases List.mem_cons.mp hc with q | q
          · omega
          · exact leadText_asc _ _ c q
        · exact leadText_asc _ _
      have hul : u.length ≤ 40 := by
        rw [← hu]; split
        · simp only [List.length_cons]; omega
        · rw [leadText_cons]; simp only [List.length_append, List.length_cons, List.length_replicate]; omega
      generalize hv : (if r < size then r else size) = v at hstrip
      have hvl : v ≤ 100 := by rw [← hv]; split <;> omega
      have hsplit : OpN X (k + 1) (.builtin "str.split") [T (u ++ 120 :: List.replicate v 32), T [120]] (.list ([u, List.replicate v 32].map T)) := by
        have := OpN.split (X := X) (k := k + 1) (x := u ++ 120 :: List.replicate v 32) (c := 120) (by simp) (fun c hc => by
          rcases List.mem_append.mp hc with q | q
          · exact hua c q
          · rcases List.mem_cons.mp q with q | q
            · omega
            · have := (List.mem_replicate.mp q).2; omega) (by decide) (by simp only [List.length_append, List.length_cons, List.length_replicate]; omega)
        rwa [splitC_app hu120, splitC_none (n120r v)] at this
      have hnew : (if v < size then u.drop 1 else u) = leadText (if r < size then rs else (r - size) :: rs) b := by
        rw [← hu, ← hv]
        by_cases hlt : r < size
        · rw [if_pos hlt, if_pos hlt, if_pos hlt, if_pos hlt]; rfl
        · rw [if_neg hlt, if_neg hlt, if_neg hlt, if_neg (Nat.lt_irrefl _)]
      refine Ex.cons (Es.ite (Tr.cmp (Ev.txt [9]) Ev.n0 Op2.inS) (fun _ => ?_) (fun h => absurd h9 (of_decide_eq_false h)))
      refine Ex.cons (Es.asgT (Ev.meth MethS.split (Ev.call (Ev.glob P.toXOk (.head _) P.strip) (Evs.cons (Ev.bin (Ev.bin Ev.n0 (Ev.txt [120]) (Op2.addt ?_)) (Ev.bin (Ev.txt [32]) Ev.n3 (Op2.mulcN (by omega))) (Op2.addt ?_)) (Evs.cons Ev.n3 Evs.nil)) P.pStrip.callable hstrip) (Evs.cons (Ev.txt [120]) Evs.nil) hsplit) (As.tupL a4 a5) ?_)
      · show (leadText (r :: rs) b).length + 1 ≤ _
        have hsize' : (leadText (r :: rs) b).length ≤ 18 := hsize
        have e : sizeLine = 16777216 := by decide
        omega
      · have hsize' : (leadText (r :: rs) b).length ≤ 18 := hsize
        have e : sizeLine = 16777216 := by decide
        rw [List.length_append, List.length_replicate]
        show (leadText (r :: rs) b).length + 1 + size ≤ _
        omega
      refine Ex.cons (Es.asg (d := T (if v < size then u.drop 1 else u)) (Ev.ite (b := decide (v < size)) ?_ (fun h => ?_) (fun h => ?_)) u0 ?_)
      · have hlen := OpN.lenT (X := X) (k := k + 1) (x := List.replicate v 32) (by rw [List.length_replicate]; omega)
        rw [List.length_replicate] at hlen
        exact Tr.cmp (Ev.call (Ev.glob P.toXOk (.tail _ (.head _)) P.len) (Evs.cons Ev.n5 Evs.nil) .builtin hlen) Ev.n3 Op2.ltN
      · rw [if_pos (of_decide_eq_true h), ← pick_from]
        exact Ev.sliceS Ev.n4 (.some (Ev.natc 1)) .none (by omega)
      · rw [if_neg (of_decide_eq_false h)]
        exact Ev.n4
      · rw [hnew]
        refine Ex.nil ?_
        refine Ex.cons (Es.asg (Ev.bin Ev.n2 Ev.n3 Op2.addN) u2 ?_)
        exact Ex.nil ⟨_, Le.refl _, ⟨if r < size then rs else (r - size) :: rs, b, g + size⟩, hL2, hst2, _, _, _, rfl⟩
  · refine el1_3 (hI) fun st hL hst y10 => ?_; refine el3_1 (y10) fun o1 o2 o3 y102 => ?_; obtain rfl := y102
    rw [List.length_map, List.drop_length] at hst
    subst hst
    exact fin o1 o2 o3
end Mine
end
noncomputable section
namespace Mine
open PySem PySem.W PySem.Calls PyProof.Rows
variable {X : Cx} {A A0 : Around} {k : Nat} {gs gi : Gm} {σ σ' τ : Sto} {pos : Pos}
theorem Ev.globI {x : Str} {i : Int} {t : Tok} (O : XOk X) (hg : x ∈ gs.gs) (hv : (x, Value.int i t) ∈ X.gl) : Ev X k gs σ (.Name x pos) (.int i) :=
  ⟨fun A env M W s R S => glob_at O hg hv S ⟨.int _ _, Kp.refl _ _⟩⟩
noncomputable def gSeq (K : Nat) : Option Nat → List Nat → List Nat × GEnd
  | _, [] => ([], .stop)
  | last, x :: r => if x = 127 then ([], .stop) else if x = 0 then (match last with
      | none => ([], .raise "invalid grouping")
      | some l => (List.replicate K l, .more)) else (x :: (gSeq K (some x) r).1, (gSeq K (some x) r).2)
theorem gSeq_max {K : Nat} {last : Option Nat} {r : List Nat} : gSeq K last (127 :: r) = ([], .stop) := by cases last <;> rfl
theorem gSeq_bad {K : Nat} {r : List Nat} : gSeq K none (0 :: r) = ([], .raise "invalid grouping") := rfl
theorem gSeq_more {K la : Nat} {r : List Nat} : gSeq K (some la) (0 :: r) = (List.replicate K la, .more) := rfl
theorem gSeq_cons {K x : Nat} {last : Option Nat} {r : List Nat} (h : x ≠ 127) (h0 : x ≠ 0) : gSeq K last (x :: r) = (x :: (gSeq K (some x) r).1, (gSeq K (some x) r).2) := by
  cases last <;> simp only [gSeq, h, h0, if_false]
noncomputable def forB : Stmt → List Stmt | .For _ _ b .. => b | _ => []
noncomputable def forT : Stmt → Expr | .For t .. => t | _ => .Constant .none 0 ⟨0, 0, 0, 0⟩
noncomputable def gFor : Stmt := (bodyS (stm 7)).getD 1 (.Pass ⟨0, 0, 0, 0⟩)
theorem Er.up {env : Env} {M : List Addr} {s0 s : Shared} {cls : String} {msg : Option Str} {v : Value} (x : Er X (A.deeper env) M s0 cls msg v s) (h : A.frames = A0.frames) : Er X A0 M s0 cls msg v s := by
  refine el0_2 (x) fun x y1 => ?_; refine el1_2 (y1) fun l hl F => ?_
  refine ⟨x, ?_⟩
  change A.frames.map (env :: ·) = some l at hl
  rw [h] at hl
  cases h : A0.frames with
  | none => rw [h] at hl; exact noN hl
  | some l0 =>
    rw [h] at hl; obtain rfl := Option.some.inj hl
    exact ⟨l0, rfl, fun e he => F e (.tail _ he)⟩
noncomputable abbrev gSto (row : List Nat) (last : V) (o : Option V) : Sto := [("grouping", some (natsV row)), ("last_interval", some last), ("interval", o)]
noncomputable abbrev lastV : Option Nat → V
  | none => .none
  | some l => N l
theorem dropZ {l : List V} {n : Nat} (hn : n ≤ l.length) (h : l.drop (l.length - n) = []) : n = 0 := by
  have := congrArg List.length h
  rw [List.length_drop, Nat.sub_sub_self hn] at this; exact this
theorem ixD {l n : Nat} (hn : n + 1 ≤ l) : l - n = l - (n + 1) + 1 := (Nat.succ_pred_eq_of_pos (Nat.sub_pos_of_lt hn)).symm
theorem ixA {l n i : Nat} (hn : n + 1 ≤ l) (hi : i ≤ n) : l - 1 - i = l - (n + 1) + (n - i) := by lia
theorem grp_loop {D : Ad} (P : PX X D) {env : Env} {M W : List Addr} {f : Addr} {row : List Nat} {it : Value} {Pi : Nat → Heap → Prop} {body : List Stmt} {items : List V} {fin : GEnd} {K : Nat}
    {g : Bool} {l : List Value} {p : Pos} {kp gd lv} (hA : A.frames = A0.frames) (R0 : Room (k + 2) (A.deeper env)) (F : GF X env M) (hco : env.scope.isCoroutine = false)
    (T : Itr X (k + 2) (f :: W) it [f] (row.map N) Pi) (hM : ∀ a ∈ M, a ∈ W)
    (hO : X.h0.get? f = none ∧ f ≠ env.locals ∧ (∀ n, env.cells.lookup n ≠ some f) ∧ NF (A.deeper env) f ∧ f ∉ M) (hgd : gd false = false) (hg : g = false) (hK : 0 < K) :
    ∀ (rest : List Nat) (i : Nat) (last : Option Nat) (n : Nat) (s0 s : Shared) (o : Option V), row.drop i = rest → n ≤ items.length → items.drop (items.length - n) = (gSeq K last rest).1.map N → (gSeq K last rest).2 = fin →
      St X (A.deeper env) env ⟨["CHAR_MAX", "ValueError"], [], []⟩ M (f :: W) (gSto row (lastV last) o) s → Kp X.h0 (f :: M) s0 s → Pi i s.heap →
      Seg (model X.prog X.w) A (gR X A0 (f :: M) fin) (gY X A0 (f :: W) (f :: M) items fin) n s0 (.forLoop (forT gFor) it (forB gFor) [] env) ((model X.prog X.w).den (.forLoop (forT gFor) it (forB gFor) [] env))
        [.ret (forBack env (fun q => match q with
          | .next => (execs [] env).wrap (fun q => .pure (.done (.ret (match q with | .ret v => v | _ => .none)))) (fun e => (leaving env e).wrap (fun _ => .raise e) .raise id id) id id
          | q => (.pure (.done (.ret (match q with | .ret v => v | _ => .none))))) (fun e => (leaving env e).wrap (fun _ => .raise e) .raise id id) gd lv) none g l (.func body env) p kp] s := by
  intro rest
  have own : ∀ a ∈ f :: M, a ∈ f :: W := fun a ha => (List.mem_cons.mp ha).elim (fun z => z ▸ .head _) fun z => .tail _ (hM a z)
  have hOo : ∀ a ∈ [f], X.h0.get? a = none ∧ a ≠ env.locals ∧ (∀ n, env.cells.lookup n ≠ some a) ∧ NF (A.deeper env) a ∧ a ∉ M := fun a ha => by rw [List.mem_singleton.mp ha]; exact hO
  subst hg
  induction rest with
  | nil =>
    intro i last n s0 s o hdr hn hit hfin S K0 hP
    have hd : (row.map N)[i]? = none := by
      rw [List.getElem?_eq_none_iff, List.length_map]
      exact List.drop_eq_nil_iff.mp hdr
    have hn0 : n = 0 := dropZ hn hit
    subst hn0
    refine seg_turn (over_for _ _ _ _) R0 T hP S hOo (fun _ s1 k1 => ?_) (fun d hd' => by rw [hd] at hd'; exact noN hd')
    refine seg_again rfl (seg_block_nil (seg_leaf (.ok .next) ?_))
    refine seg_end (.ok (.ret .none)) ⟨rfl, ?_⟩
    rw [← hfin]
    exact ⟨rfl, K0.trans (k1.mono fun b hb => by rw [List.mem_singleton.mp hb]; exact .head _)⟩
  | cons x rest ih =>
    intro i last n s0 s o hdr hn hit hfin S K0 hP
    have hx : row[i]? = some x := by
      have := congrArg List.head? hdr
      rw [List.head?_drop] at this; exact this
    have hd : (row.map N)[i]? = some (N x) := by rw [List.getElem?_map, hx]; rfl
    have hdr' : row.drop (i + 1) = rest := by rw [← List.drop_drop, hdr]; rfl
    refine seg_turn (over_for _ _ _ _) R0 T hP S hOo (fun h => by rw [hd] at h; cases h) (fun d hd' => ?_)
    rw [hd] at hd'; obtain rfl := Option.some.inj hd'
    refine ⟨_, a2, fun s1 k1 S1 hP1 => ?_⟩
    have K1 : Kp X.h0 (f :: M) s0 s1 := K0.trans k1
    obtain ⟨tc, hcm⟩ := P.charMax
    have hcv : Ev X (k + 2) ⟨["CHAR_MAX", "ValueError"], [], []⟩ (gSto row (lastV last) (some (N x))) (.Name "CHAR_MAX" ⟨114, 23, 114, 31⟩) (N 127) := Ev.globI P.toXOk (.head _) hcm
    refine seg_execs_cons (seg_if (over_for _ _ _ _) R0 S1 (Tr.cmp Ev.n2 hcv Op2.eqN) fun s2 k2 S2 => ?_)
    by_cases h127 : x = 127
    · rw [decide_eq_true h127, if_pos rfl]
      subst h127
      rw [gSeq_max] at hit hfin
      have hn0 : n = 0 := dropZ hn hit
      subst hn0
      refine seg_execs_cons (seg_st (wpAny_Return_none ?_))
      refine seg_leaf (.ok (.ret .none)) ?_
      refine seg_end (.ok (.ret .none)) ⟨rfl, ?_⟩
      rw [← hfin]
      exact ⟨rfl, K1.trans k2.nil⟩
    rw [decide_eq_false h127, if_neg (by decide)]
    refine seg_execs_nil ?_
    refine seg_execs_cons (seg_if (over_for _ _ _ _) R0 S2 (Tr.cmp Ev.n2 (Ev.natc 0) Op2.eqN) fun s3 k3 S3 => ?_)
    have K3 := (K1.trans k2.nil).trans k3.nil
    by_cases h0 : x = 0
    · rw [decide_eq_true h0, if_pos rfl]
      cases last with
      | none =>
        subst h0
        rw [gSeq_bad] at hit hfin
        have hn0 : n = 0 := dropZ hn hit
        subst hn0
        refine seg_execs_cons (seg_if (over_for _ _ _ _) R0 S3 (Tr.cmp Ev.n1 Ev.nul Op2.isNone) fun s4 k4 S4 => ?_)
        have K4 := K3.trans k4.nil
        rw [if_pos rfl]
        refine seg_execs_cons (seg_st ?_)
        rw [over_for]
        have O4 : Own (A.deeper env) env := ⟨by
          obtain ⟨l, hl, _⟩ := (S4.toBase.up).frs
          exact ⟨l, Around.frames_deeper hl⟩, ⟨_, F.frame⟩⟩
        refine wpAny_mono ((EsR.raise (Ev.glob P.toXOk (.tail _ (.head _)) P.valueError) Ev.str).run _ env M (f :: W) s4 R0 O4 S4) (fun _ _ q => q.elim) ?_
        intro v s5 x5
        refine seg_lost (c := .func body env) (own := []) (gd2 := id) (lv2 := id) F.frame x5 fun s6 x6 => ⟨rfl, ?_⟩
        rw [← hfin]
        refine ⟨v, rfl, Er.back K4 (x6.up hA) (fun b hb => .inl (.tail _ hb)) fun b hb => S4.old b (own b hb)⟩
      | some la =>
        refine seg_execs_cons (seg_if (over_for _ _ _ _) R0 S3 (Tr.cmp Ev.n1 Ev.nul Op2.isNoneInt) fun s4 k4 S4 => ?_)
        have K4 := K3.trans k4.nil
        rw [if_neg (by decide)]
        refine seg_execs_nil ?_
        subst h0
        rw [gSeq_more] at hit hfin
        subst hfin
        cases n with
        | zero =>
          have := congrArg List.length hit
          simp at this; omega
        | succ n =>
          refine seg_execs_cons (seg_While fun p => ?_)
          refine seg_forever (over_while _ _ _ _ _) hA F R0 (Tr.of Ev.bool Truth.bool) Ev.n1 (fun a ha => .tail _ ha) own rfl rfl hco n s0 s4 (fun i hi => ?_) S4 K4
          have e : items[items.length - 1 - i]? = (items.drop (items.length - (n + 1)))[n - i]? := by
            rw [List.getElem?_drop]; exact congrArg (items[·]?) (ixA hn (by omega))
          have hl := congrArg List.length hit
          simp at hl
          rw [e, hit, List.map_replicate, List.getElem?_replicate, if_pos (by omega)]
    rw [decide_eq_false h0, if_neg (by decide)]
    refine seg_execs_nil ?_
    rw [gSeq_cons h127 h0] at hit hfin
    cases n with
    | zero => simp at hit
    | succ n =>
      refine seg_execs_cons (seg_yield_ev (over_for _ _ _ _) hA F R0 S3 Ev.n2 K3 (fun a ha => .tail _ ha) own (d := N x) ?_ rfl rfl rfl hco fun _ s4 s5 O k4 hO5 K5 S5 => ?_)
      · have e : items[items.length - 1 - n]? = (items.drop (items.length - (n + 1)))[0]? := by
          rw [List.getElem?_drop, Nat.add_zero, Nat.sub_sub, Nat.add_comm 1 n]
        rw [e, hit]; rfl
      refine seg_execs_cons (seg_es (over_for _ _ _ _) F R0 S5 (Es.asg (Q := fun r => r = .next _) Ev.n2 u1 rfl) fun q s6 ⟨k6, r, hr, hh⟩ => ?_)
      subst hr
      obtain ⟨rfl, S6⟩ := hh
      refine seg_execs_nil (seg_again rfl ?_)
      refine ih (i + 1) (some x) n s5 s6 _ hdr' (by (exact Nat.le_of_lt (by assumption))) ?_ hfin S6 (k6.mono fun b hb => .tail _ hb) ?_
      · have e : items.drop (items.length - n) = (items.drop (items.length - (n + 1))).drop 1 := by
          rw [List.drop_drop, ixD hn]
        rw [e, hit]; rfl
      · have h1 := T.frame M (i + 1) s3.heap s3.heap
        have q2 := T.frame [] (i + 1) s1.heap s4.heap nofun (fun b o hb e => let ⟨o', e', q⟩ := ((k2.trans k3).trans k4).heap b o hb e; ⟨o', e', q.loose⟩) hP1
        have q3 := T.frame O (i + 1) s4.heap s5.heap (fun a ha => ⟨(hO5 a ha).1, fun q => (hO5 a ha).2 (by rw [List.mem_singleton.mp q]; exact .head _)⟩) (fun b o hb e => let ⟨o', e', q⟩ := K5.heap b o hb e; ⟨o', e', q.loose⟩) q2
        exact T.frame M (i + 1) s5.heap s6.heap (fun a ha => ⟨.tail _ (hM a ha), fun q => hO.2.2.2.2 (List.mem_singleton.mp q ▸ ha)⟩) (fun b o hb e => let ⟨o', e', q⟩ := k6.heap b o hb e; ⟨o', e', q.loose⟩) q3
end Mine
end
noncomputable section
namespace Mine
open PySem PySem.W PySem.Calls PyProof.Rows
variable {X : Cx} {A A0 : Around} {k : Nat} {gs gi : Gm} {σ σ' τ : Sto} {pos : Pos}
noncomputable abbrev gSto0 (row : List Nat) : Sto := [("grouping", some (natsV row)), ("last_interval", none), ("interval", none)]
noncomputable abbrev gGm : Gm := ⟨["CHAR_MAX", "ValueError"], [], []⟩
theorem grp_fresh {D : Ad} (P : PX X D) {env : Env} {M W : List Addr} {row : List Nat} {K : Nat} {s : Shared} (hA : A.frames = A0.frames) (R0 : Room (k + 2) (A.deeper env)) (F : GF X env M) (hco : env.scope.isCoroutine = false)
    (hM : ∀ a ∈ M, a ∈ W) (S : St X (A.deeper env) env gGm M W (gSto0 row) s) (hK : 0 < K) :
    Seg (model X.prog X.w) A (gR X A0 (s.heap.objs.size :: M) (gSeq K none row).2) (gY X A0 (s.heap.objs.size :: W) (s.heap.objs.size :: M) ((gSeq K none row).1.map N) (gSeq K none row).2) (gSeq K none row).1.length s (.func (bodyS (stm 7)) env)
      ((model X.prog X.w).den (.func (bodyS (stm 7)) env)) [] s := by
  refine seg_func ?_
  refine seg_execs_cons (seg_st ?_)
  rw [over_func]
  refine wpAny_Assign_Name ?_
  refine wpAny_Constant_none ?_
  refine wpAny_mono (S.storeZ (A := A.deeper env) (E := No) (.data .none) u1) ?_ (fun _ _ f => False.elim f)
  intro _ s1 y1; refine el0_2 (y1) fun y2 hz => ?_; refine el0_2 (y2) fun S1 k1 => ?_
  refine seg_execs_cons (seg_For ?_)
  rw [over_func]
  refine wpAny_Name ?_
  refine S1.load (.head _) rfl fun v hv => ?_
  refine wpAny_mono (pyIter_list_at (k := k + 2) (E := No) hv) ?_ (fun _ _ f => False.elim f)
  intro it s2 y3 p; refine el0_3 (y3) fun y4 k2 y5 => ?_; obtain rfl := y4; refine el1_1 (y5) fun Pi hPi => ?_
  rw [hz] at hPi
  have hn1 : s1.heap.get? s.heap.objs.size = none := by rw [← hz]; exact get_new _
  refine el0_3 (S1.toBase.new0 hn1) fun hx0 hxt hxW => ?_
  refine el0_2 (hPi (s.heap.objs.size :: W) (fun a ha => by rw [List.mem_singleton.mp ha]; exact .head _) (fun a ha => .tail _ ha) fun a ha => (List.mem_cons.mp ha).elim (fun z => .inl (z ▸ .head _)) fun z => .inr (.inl z)) fun T hP0 => ?_
  have S2 : St X (A.deeper env) env gGm M ([s.heap.objs.size] ++ W) _ s2 := (S1.keep k2).wide (T.live 0 _ hP0) s1 (fun a ha => by rw [List.mem_singleton.mp ha]; exact hn1) S1 k2
  rw [hz]
  refine grp_loop (K := K) (row := row) P hA R0 F hco T hM ⟨hx0, fun e => hxW (e ▸ hM _ S.locM), fun n e => hxW (S1.cells n _ e).2.1, S1.nf hn1, fun q => hxW (hM _ q)⟩ rfl rfl hK row 0 none _ s s2 none rfl (by simp) (by simp) rfl S2 ?_ hP0
  exact (k1.trans k2.nil).mono fun b hb => .tail _ hb
end Mine
end
noncomputable section
namespace Mine
open PySem PySem.W PySem.Calls PyProof.Rows
variable {X : Cx} {A A0 : Around} {k : Nat} {gs gi : Gm} {σ σ' τ : Sto} {pos : Pos}
theorem grpOk : FnOk0 (scopeS (stm 7)) ["grouping"] ["last_interval", "interval"] ["CHAR_MAX", "ValueError"] [] := by
  have h : (fun sc : Scope => sc.kind == .function && !sc.isCoroutine && (["grouping", "last_interval", "interval"] : List Str).all (fun t => (sc.names.lookup t == some .local || sc.names.lookup t == some .cell) && !(t == ("__debug__" : Str))) &&
    decide (["grouping", "last_interval", "interval"] : List Str).Nodup && (["CHAR_MAX", "ValueError"] : List Str).all (fun g => sc.names.lookup g == some .globalImplicit && !(g == ("__debug__" : Str)))) (scopeS (stm 7)) = true := by decide +kernel
  simp only [Bool.and_eq_true, List.all_eq_true, Bool.or_eq_true, beq_iff_eq, Bool.not_eq_true', decide_eq_true_eq] at h
  refine el0_2 (h) fun y1 h6 => ?_; refine el0_2 (y1) fun y101 h5 => ?_; refine el0_2 (y101) fun y201 h4 => ?_; obtain ⟨h1, h2⟩ := y201
  exact ⟨h1, h2, fun t ht => h4 t ht, h5, fun g hg => h6 g hg, fun y hy => nomatch hy⟩
theorem grouping_iv {D : Ad} (P : PX X D) {row : List Nat} {K : Nat} {e : Expr} {np : Pos} (hK : 0 < K) (he : Ev X (k + 4) gs σ e (natsV row)) (hg : ("_grouping_intervals" : Str) ∈ gs.gs)
    (he' : ∀ env, eval (.Call (.Name "_grouping_intervals" np) [e] [] pos) env = (do callWith pos (← eval (.Name "_grouping_intervals" np) env) [] (backTo pos (starEach [e] env)) (backToKw pos (keywordEach [] env))) := by intro _; rfl)
    (hp : Plain [e] = true := by rfl) (hst : ∀ env, starEach [e] env = (false, eval e env) :: starEach [] env := by intro _; rfl) :
    IvG X (k + 4) gs σ (.Call (.Name "_grouping_intervals" np) [e] [] pos) ((gSeq K none row).1.map N) (gSeq K none row).2 := by
  refine ⟨fun A env M W s R S => S.callE R (Ev.glob P.toXOk hg P.grouping) (Evs.cons he Evs.nil hst) P.pGroup.callable (fun vs s2 hvs k2 => ?_) he' hp⟩
  refine el7_1 (P.pGroup) fun name qual kV doc pm an cd y2 => ?_; refine el1_1 (y2) fun ct F => ?_
  have B := (S.keep k2).toBase
  refine el1_2 (F.obj) fun o ho hd => ?_
  refine el1_2 (F.code) fun c hc hct => ?_
  have hcd : s2.heap.CodeRec (fdS (stm 7) name qual .none kV doc pm an cd ct).code (fdS (stm 7) name qual .none kV doc pm an cd ct).qualname := by
    have := F.crec
    rw [hc] at this ⊢
    refine el4_4 (this) fun c' o' vs' t e1 e2 e3 e4 => ?_
    obtain rfl := Value.ref.inj e1
    exact ⟨c, o', vs', t, rfl, B.base _ _ hct e2, e3, e4⟩
  refine wpAny_call ?_
  refine el1_1 (len1 (show vs.length = 1 by rw [hvs.length]; rfl)) fun v y3 => ?_; obtain rfl := y3
  refine codeAny_call_generator (by have := R.depth; lia) (B.base _ _ F.ne ho) hd grpOk.co (by show (scopeS (stm 7)).isGenerator = true; decide +kernel) rfl hcd ?_
  rw [show bindArgs (fdS (stm 7) name qual .none kV doc pm an cd ct) ⟨[v], []⟩ = pure ((["grouping"] : List Str).zip [v]) from rfl]
  refine wpAny_pure ?_
  refine wpAny_newFunctionEnv_cells grpOk.fn (fun x hx => ?_) fun env' he2 s1 x => ?_
  · refine el0_2 (grpOk.nsk x.1 (List.mem_append_left _ (List.of_mem_zip (a := x.1) (b := x.2) hx).1)) fun h1 _ => ?_
    rcases h1 with h1 | h1
    · exact .inl h1
    · refine el1_1 (cellsFrom_has (scopeS (stm 7)).names (s2.heap.objs.size + 1) [] x.1 (.inl (mem_of_lookup h1))) fun c hc => ?_
      refine el1_1 (lookup_of_mem hc) fun c' hc' => ?_
      exact .inr ⟨h1, by show (List.lookup x.1 (cellsFrom (s2.heap.objs.size + 1) (scopeS (stm 7)).names [])).isSome = true; rw [hc']; rfl⟩
  subst he2
  refine el0_2 (call_env0 (A := A) F B grpOk rfl hvs x) fun K1 y4 => ?_; refine el1_3 (y4) fun Mg hMg S1 hcells => ?_
  refine ⟨(B.keep0 K1).lim P.toXOk, ?_⟩
  have hL0 : s2.heap.get? s2.heap.objs.size = none := get_new _
  have GFe : GF X (callEnvC (fdS (stm 7) name qual .none kV doc pm an cd ct) s2.heap.objs.size D.grouping) Mg := ⟨rfl, (B.new0 hL0).2.1, hcells⟩
  refine el0_2 (S1.asleep GFe) fun G B1 => ?_
  have S0n : ∀ b, s2.heap.get? b = none → s.heap.get? b = none := fun b h => get_grow k2 h
  have hMs1 : ∀ b ∈ Mg, ∃ o, s1.heap.get? b = some o := fun b hb => S1.old b (S1.sub b hb)
  have ha1 : s1.heap.get? s1.heap.objs.size = none := get_new _
  have haMg : s1.heap.objs.size ∉ Mg := fun q => by refine el1_1 (hMs1 _ q) fun o e => ?_; rw [ha1] at e; exact noN e
  have KA : Kp X.h0 [] s s1 := k2.trans K1
  have KB : Kp X.h0 [] s1 { s1 with gens := s1.gens.push (.fresh (.func (bodyS (stm 7)) (callEnvC (fdS (stm 7) name qual .none kV doc pm an cd ct) s2.heap.objs.size D.grouping))), toks := s1.toks + 1 + 1, heap := s1.heap.push { cls := .type "generator", data := .fields #[.int s1.gens.size 0, .str name s1.toks, .str qual (s1.toks + 1)] } } := by
    refine ⟨⟨fun b o hb q => ⟨o, Heap.get?_push_of_some _ q, .refl⟩, rfl, rfl⟩, fun i g q => ?_, fun b => b.push rfl⟩
    have hi := (Array.getElem?_eq_some_iff.mp q).1
    show (s1.gens.push _)[i]? = some g
    rw [Array.getElem?_push, if_neg (Nat.ne_of_lt hi)]; exact q
  have hg1 : s.gens[s1.gens.size]? = none := by
    cases q : s.gens[s1.gens.size]? with
    | none => rfl
    | some g =>
      have := (Array.getElem?_eq_some_iff.mp (KA.gens _ _ q)).1
      (exact absurd (by assumption) (Nat.lt_irrefl _))
  refine ⟨_, s1.gens.size, _, Mg, rfl, KA.trans KB, get_grow KA ha1, haMg, fun b hb => ⟨S0n b (hMg b hb), KB.live nofun (hMs1 b hb)⟩, ⟨_, _, _, Heap.get?_push_size _ rfl, rfl, rfl, rfl⟩, hg1, Array.getElem?_push_size .., ?_⟩
  rw [List.length_map]
  generalize hs3 : ({ s1 with gens := s1.gens.push (.fresh (.func (bodyS (stm 7)) (callEnvC (fdS (stm 7) name qual .none kV doc pm an cd ct) s2.heap.objs.size D.grouping))), toks := s1.toks + 1 + 1, heap := s1.heap.push { cls := .type "generator", data := .fields #[.int s1.gens.size 0, .str name s1.toks, .str qual (s1.toks + 1)] } } : Shared) = s3 at KB
  have K3 : Kh X.h0 [] s1 (s3.setGen s1.gens.size .running) := KB.toKh.trans (.gen _ _ _ _)
  have G3 := G.keep K3 nofun
  have B3 : Base X A.in1 (Mg ++ W) (s3.setGen s1.gens.size .running) := by
    have := B1.keepH K3 nofun
    exact ⟨this.base, this.tabW, this.old, this.frs⟩
  have RR : Room (k + 2) (A.in1.deeper (callEnvC (fdS (stm 7) name qual .none kV doc pm an cd ct) s2.heap.objs.size D.grouping)) := (R.in1).deeper _
  have := grp_fresh (A := A.in1) (A0 := A) (row := row) (K := K) P rfl RR GFe grpOk.co S1.sub (G3.st B3) hK
  subst hs3
  exact this
end Mine
end
noncomputable section
namespace Mine
open PySem PySem.W PySem.Calls PyProof.Rows
variable {X : Cx} {k : Nat} {gs gi : Gm} {σ σ' : Sto} {l r : Expr} {pos : Pos}
structure BFn (X : Cx) (a : Addr) (st : Stmt) : Prop where
  ex : ∃ name qual T KD doc pm an cd ct, FnAt X a (fdS st name qual (.ref T) (.ref KD) doc pm an cd ct) ∧ T ≠ X.tab ∧ KD ≠ X.tab ∧ (∃ o t n, X.h0.get? T = some o ∧ o.data = .seq #[.int 0 t, .none] n) ∧ ∃ m, X.h0.Ns KD m ∧ m "key" = some .none
theorem BFn.callable {a : Addr} {st : Stmt} (P : BFn X a st) : Callable X (.ref a) := el9_1 (P.ex) fun _ _ _ _ _ _ _ _ _ y => y.1.callable
theorem look_of {h : Heap} {a : Addr} {m : Str → Option Value} (hn : h.Ns a m) (name : Str) : ∃ o, h.get? a = some o ∧ nsLook name o = pure (m name) := by
  refine el3_4 (hn) fun o es ep ho hd hk hm => ?_
  refine ⟨o, ho, ?_⟩
  rw [← hm name, nsLook_eq]
  unfold nsLookByArray
  rw [hd]
  simp only [nsFind, findBy]
  cases hf : es.find? (·.key.isStr name) with
  | some e => rfl
  | none =>
    have : es.any (·.refKey) = false := by
      rw [Array.any_eq_false']; intro e he; refine el2_1 (hk e he) fun n t h => ?_; simp [DictEntry.refKey, h]
    simp only [this, Bool.false_eq_true, if_false, Option.map_none]
structure BisP (fd : FuncData) : Prop where
  pr : ∃ n1 p1 n2 p2 n3 p3 n4 p4 n5 p5 kd df, fd.params = { posonlyargs := [], args := [⟨"a", n1, p1⟩, ⟨"x", n2, p2⟩, ⟨"lo", n3, p3⟩, ⟨"hi", n4, p4⟩], vararg := none, kwonlyargs := [⟨"key", n5, p5⟩], kw_defaults := kd, kwarg := none, defaults := df }
theorem bis2 {fd : FuncData} {T KD : Addr} {s : Shared} {o : Obj} {t : Tok} {n : Nat} {m : Str → Option Value} {a x : Value} (P : BisP fd) (hT : fd.defaults = .ref T) (hK : fd.kwdefaults = .ref KD) (ho : s.heap.get? T = some o) (hd : o.data = .seq #[.int 0 t, .none] n) (hn : s.heap.Ns KD m) (hm : m "key" = some .none) :
    BindsTo s fd ⟨[a, x], []⟩ [("a", a), ("x", x), ("lo", .int 0 t), ("hi", .none), ("key", .none)] := by
  intro M A E Q hq
  refine el7_1 (P.pr) fun n1 p1 n2 p2 n3 p3 n4 y1 => ?_; refine el5_1 (y1) fun p4 n5 p5 kd df hp => ?_
  obtain ⟨name, qual, params, body, sc, gl, cl, dV, kV, doc, pm, an, cd, ct, bi⟩ := fd
  simp only at hp hT hK
  subst hp hT hK
  refine el1_2 (look_of hn "key") fun od ho2 hl => ?_
  refine wpAny_bind (m := seqItems? (.ref T)) (wpAny_seqItems ho hd ?_)
  wp_walk
  rw [hm]
  wp_walk
  exact hq
theorem bis3 {fd : FuncData} {T KD : Addr} {s : Shared} {o : Obj} {t : Tok} {n : Nat} {m : Str → Option Value} {a x l : Value} (P : BisP fd) (hT : fd.defaults = .ref T) (hK : fd.kwdefaults = .ref KD) (ho : s.heap.get? T = some o) (hd : o.data = .seq #[.int 0 t, .none] n) (hn : s.heap.Ns KD m) (hm : m "key" = some .none) :
    BindsTo s fd ⟨[a, x, l], []⟩ [("a", a), ("x", x), ("lo", l), ("hi", .none), ("key", .none)] := by
  intro M A E Q hq
  refine el7_1 (P.pr) fun n1 p1 n2 p2 n3 p3 n4 y2 => ?_; refine el5_1 (y2) fun p4 n5 p5 kd df hp => ?_
  obtain ⟨name, qual, params, body, sc, gl, cl, dV, kV, doc, pm, an, cd, ct, bi⟩ := fd
  simp only at hp hT hK
  subst hp hT hK
  refine el1_2 (look_of hn "key") fun od ho2 hl => ?_
  refine wpAny_bind (m := seqItems? (.ref T)) (wpAny_seqItems ho hd ?_)
  wp_walk
  rw [hm]
  wp_walk
  exact hq
theorem bisP3 (name qual : Str) (dV kV doc pm : Value) (an : Option Addr) (cd ct : Value) : BisP (fdS (stm 3) name qual dV kV doc pm an cd ct) := ⟨_, _, _, _, _, _, _, _, _, _, _, _, rfl⟩
theorem bisP4 (name qual : Str) (dV kV doc pm : Value) (an : Option Addr) (cd ct : Value) : BisP (fdS (stm 4) name qual dV kV doc pm an cd ct) := ⟨_, _, _, _, _, _, _, _, _, _, _, _, rfl⟩
end Mine
end
noncomputable section
namespace Mine
open PySem PySem.W PySem.Calls PyProof.Rows
variable {X : Cx} {k : Nat} {gs gi : Gm} {σ σ' : Sto} {l r : Expr} {pos : Pos}
theorem bfn_binds3 {fd : FuncData} {T KD : Addr} {d1 d2 d3 : V} (P : BisP fd) (hT : fd.defaults = .ref T) (hK : fd.kwdefaults = .ref KD) (h1 : T ≠ X.tab) (h2 : KD ≠ X.tab) (h3 : ∃ o t n, X.h0.get? T = some o ∧ o.data = .seq #[.int 0 t, .none] n) (h4 : ∃ m, X.h0.Ns KD m ∧ m "key" = some .none) :
    ∀ A W s vs, Base X A W s → Rds W s.heap vs [d1, d2, d3] → ∃ vs', BindsTo s fd ⟨vs, []⟩ ((["a", "x", "lo", "hi", "key"] : List Str).zip vs') ∧ Rds W s.heap vs' [d1, d2, d3, .none, .none] := by
  intro A W s vs B rd
  refine el3_4 (Rds.i3 rd) fun _ _ _ y1 r1 r2 r3 => ?_; obtain rfl := y1
  refine el3_2 (h3) fun o t n ho hd => ?_
  refine el1_2 (h4) fun m hn hm => ?_
  exact ⟨_, bis3 P hT hK (B.base _ _ h1 ho) hd (B.ns hn h2) hm, .cons r1 (.cons r2 (.cons r3 (.cons .none (.cons .none .nil))))⟩
theorem bfn_binds2 {fd : FuncData} {T KD : Addr} {d1 d2 : V} (P : BisP fd) (hT : fd.defaults = .ref T) (hK : fd.kwdefaults = .ref KD) (h1 : T ≠ X.tab) (h2 : KD ≠ X.tab) (h3 : ∃ o t n, X.h0.get? T = some o ∧ o.data = .seq #[.int 0 t, .none] n) (h4 : ∃ m, X.h0.Ns KD m ∧ m "key" = some .none) :
    ∀ A W s vs, Base X A W s → Rds W s.heap vs [d1, d2] → ∃ vs', BindsTo s fd ⟨vs, []⟩ ((["a", "x", "lo", "hi", "key"] : List Str).zip vs') ∧ Rds W s.heap vs' [d1, d2, N 0, .none, .none] := by
  intro A W s vs B rd
  refine el2_3 (Rds.i2 rd) fun _ _ y2 r1 r2 => ?_; obtain rfl := y2
  refine el3_2 (h3) fun o t n ho hd => ?_
  refine el1_2 (h4) fun m hn hm => ?_
  exact ⟨_, bis2 P hT hK (B.base _ _ h1 ho) hd (B.ns hn h2) hm, .cons r1 (.cons r2 (.cons (.int _ _) (.cons .none (.cons .none .nil))))⟩
structure PB (X : Cx) (D : Ad) : Prop extends PX X D where
  pBright : BFn X D.bright (stm 3)
  pBleft : BFn X D.bleft (stm 4)
theorem Op2.ltN1 {a b : Nat} {t : Bool} (h : decide (a < b) = t) : Op2 X k (compareOp .Lt) (N a) (N b) (.bool t) := h ▸ Op2.ltN
theorem mid1 {a b : Nat} (h : a < b) : (a + b) / 2 < b := by lia
theorem mid2 {a b : Nat} (h : a < b) : a ≤ (a + b) / 2 := by lia
theorem bright_ex {D : Ad} {a : List Nat} {x lo r : Nat} (P : PB X D) (hr : r ≤ a.length) (hlo : lo ≤ r) (h1 : ∀ i e, i < r → a[i]? = some e → e ≤ x) (h2 : ∀ i e, r ≤ i → a[i]? = some e → x < e) (hz : a.length ≤ 100000) :
    Ex X k ⟨["ValueError", "len"], [], []⟩ (fnSto ["a", "x", "lo", "hi", "key"] ["mid"] [natsV a, N x, N lo, .none, .none]) (bodyS (stm 3)) (Rets (N r)) := by
  refine Ex.cons (Es.ite (b := false) (Tr.cmp Ev.n2 (Ev.natc 0) (Op2.ltN1 (decide_eq_false (Nat.not_lt_zero _)))) (fun h => by cases h) (fun _ => Ex.nil ?_))
  refine Ex.cons (Es.ite (Tr.cmp Ev.n3 Ev.nul Op2.isNone) (fun _ => ?_) (fun h => by cases h))
  refine Ex.cons (Es.asg (Ev.call (Ev.glob P.toXOk (.tail _ (.head _)) P.len) (Evs.cons Ev.n0 Evs.nil) .builtin (OpN.lenN (by omega))) u3 (Ex.nil ?_))
  refine Ex.cons (Es.ite (Tr.cmp Ev.n4 Ev.nul Op2.isNone) (fun _ => ?_) (fun h => by cases h))
  refine Ex.cons (Es.while (fun m σ => ∃ lo' hi', m = hi' - lo' ∧ lo' ≤ r ∧ r ≤ hi' ∧ hi' ≤ a.length ∧ ∃ o, σ = ([("a", some (natsV a)), ("x", some (N x)), ("lo", some (N lo')), ("hi", some (N hi')), ("key", some .none), ("mid", o)] : Sto)) (a.length - lo) ⟨_, Le.refl _, lo, a.length, rfl, hlo, hr, Nat.le_refl _, _, rfl⟩ ?_)
  rintro m σ ⟨lo', hi', rfl, hl1, hl2, hl3, o, rfl⟩
  by_cases hlt : lo' < hi'
  · refine ⟨true, Tr.cmp Ev.n2 Ev.n3 (Op2.ltN1 (decide_eq_true hlt)), fun _ => ?_, fun h => by cases h⟩
    have hmid : (lo' + hi') / 2 < hi' := mid1 hlt
    have hmid2 : lo' ≤ (lo' + hi') / 2 := mid2 hlt
    refine Ex.cons (Es.asg (Ev.bin (Ev.bin Ev.n2 Ev.n3 Op2.addN) (Ev.natc 2) (Op2.divN (by decide) (by decide))) u5 ?_)
    generalize (lo' + hi') / 2 = mid at hmid hmid2
    have he : a[mid]? = some a[mid] := List.getElem?_eq_getElem (by (exact Nat.lt_of_lt_of_le (by assumption) (by assumption)))
    refine Ex.cons (Es.ite (b := decide (x < a[mid])) (Tr.cmp Ev.n1 (Ev.itemN Ev.n0 Ev.n5 (by rw [List.getElem?_map, he]; rfl)) Op2.ltN) (fun h => ?_) (fun h => ?_))
    · have h := of_decide_eq_true h
      refine Ex.cons (Es.asg Ev.n5 u3 ?_)
      refine Ex.nil (show Ex X k _ _ [] _ from Ex.nil ⟨_, mid - lo', Le.refl _, Nat.sub_lt_sub_right hmid2 hmid, lo', mid, rfl, hl1, ?_, Nat.le_trans (Nat.le_of_lt hmid) hl3, _, rfl⟩)
      by_cases q : mid < r
      · exact absurd (h1 mid _ q he) (Nat.not_le_of_lt h)
      · (exact Nat.le_of_not_lt (by assumption))
    · have h := of_decide_eq_false h
      refine Ex.cons (Es.asg (Ev.bin Ev.n5 (Ev.natc 1) Op2.addN) u2 ?_)
      refine Ex.nil (show Ex X k _ _ [] _ from Ex.nil ⟨_, hi' - (mid + 1), Le.refl _, Nat.sub_lt_sub_left (Nat.lt_of_le_of_lt hmid2 hmid) (Nat.lt_succ_of_le hmid2), mid + 1, hi', rfl, ?_, hl2, hl3, _, rfl⟩)
      by_cases q : r ≤ mid
      · exact absurd (h2 mid _ q he) h
      · (exact Nat.lt_of_not_le (by assumption))
  · refine ⟨false, Tr.cmp Ev.n2 Ev.n3 (Op2.ltN1 (decide_eq_false hlt)), (fun h => by cases h), fun _ => ?_⟩
    have : lo' = r := Nat.le_antisymm hl1 (Nat.le_trans hl2 (Nat.le_of_not_lt hlt))
    subst this
    exact Ex.nil (show Ex X k _ _ _ _ from Ex.cons (Es.ret Ev.n2 rfl))
theorem bleft_ex {D : Ad} {a : List Nat} {x lo r : Nat} (P : PB X D) (hr : r ≤ a.length) (hlo : lo ≤ r) (h1 : ∀ i e, i < r → a[i]? = some e → e < x) (h2 : ∀ i e, r ≤ i → a[i]? = some e → x ≤ e) (hz : a.length ≤ 100000) :
    Ex X k ⟨["ValueError", "len"], [], []⟩ (fnSto ["a", "x", "lo", "hi", "key"] ["mid"] [natsV a, N x, N lo, .none, .none]) (bodyS (stm 4)) (Rets (N r)) := by
  refine Ex.cons (Es.ite (b := false) (Tr.cmp Ev.n2 (Ev.natc 0) (Op2.ltN1 (decide_eq_false (Nat.not_lt_zero _)))) (fun h => by cases h) (fun _ => Ex.nil ?_))
  refine Ex.cons (Es.ite (Tr.cmp Ev.n3 Ev.nul Op2.isNone) (fun _ => ?_) (fun h => by cases h))
  refine Ex.cons (Es.asg (Ev.call (Ev.glob P.toXOk (.tail _ (.head _)) P.len) (Evs.cons Ev.n0 Evs.nil) .builtin (OpN.lenN (by omega))) u3 (Ex.nil ?_))
  refine Ex.cons (Es.ite (Tr.cmp Ev.n4 Ev.nul Op2.isNone) (fun _ => ?_) (fun h => by cases h))
  refine Ex.cons (Es.while (fun m σ => ∃ lo' hi', m = hi' - lo' ∧ lo' ≤ r ∧ r ≤ hi' ∧ hi' ≤ a.length ∧ ∃ o, σ = ([("a", some (natsV a)), ("x", some (N x)), ("lo", some (N lo')), ("hi", some (N hi')), ("key", some .none), ("mid", o)] : Sto)) (a.length - lo) ⟨_, Le.refl _, lo, a.length, rfl, hlo, hr, Nat.le_refl _, _, rfl⟩ ?_)
  rintro m σ ⟨lo', hi', rfl, hl1, hl2, hl3, o, rfl⟩
  by_cases hlt : lo' < hi'
  · refine ⟨true, Tr.cmp Ev.n2 Ev.n3 (Op2.ltN1 (decide_eq_true hlt)), fun _ => ?_, fun h => by cases h⟩
    have hmid : (lo' + hi') / 2 < hi' := mid1 hlt
    have hmid2 : lo' ≤ (lo' + hi') / 2 := mid2 hlt
    refine Ex.cons (Es.asg (Ev.bin (Ev.bin Ev.n2 Ev.n3 Op2.addN) (Ev.natc 2) (Op2.divN (by decide) (by decide))) u5 ?_)
    generalize (lo' + hi') / 2 = mid at hmid hmid2
    have he : a[mid]? = some a[mid] := List.getElem?_eq_getElem (by (exact Nat.lt_of_lt_of_le (by assumption) (by assumption)))
    refine Ex.cons (Es.ite (b := decide (a[mid] < x)) (Tr.cmp (Ev.itemN Ev.n0 Ev.n5 (by rw [List.getElem?_map, he]; rfl)) Ev.n1 Op2.ltN) (fun h => ?_) (fun h => ?_))
    · have h := of_decide_eq_true h
      refine Ex.cons (Es.asg (Ev.bin Ev.n5 (Ev.natc 1) Op2.addN) u2 ?_)
      refine Ex.nil (show Ex X k _ _ [] _ from Ex.nil ⟨_, hi' - (mid + 1), Le.refl _, Nat.sub_lt_sub_left (Nat.lt_of_le_of_lt hmid2 hmid) (Nat.lt_succ_of_le hmid2), mid + 1, hi', rfl, ?_, hl2, hl3, _, rfl⟩)
      by_cases q : r ≤ mid
      · have := h2 mid _ q he; omega
      · (exact Nat.lt_of_not_le (by assumption))
    · have h := of_decide_eq_false h
      refine Ex.cons (Es.asg Ev.n5 u3 ?_)
      refine Ex.nil (show Ex X k _ _ [] _ from Ex.nil ⟨_, mid - lo', Le.refl _, Nat.sub_lt_sub_right hmid2 hmid, lo', mid, rfl, hl1, ?_, Nat.le_trans (Nat.le_of_lt hmid) hl3, _, rfl⟩)
      by_cases q : mid < r
      · have := h1 mid _ q he; omega
      · (exact Nat.le_of_not_lt (by assumption))
  · refine ⟨false, Tr.cmp Ev.n2 Ev.n3 (Op2.ltN1 (decide_eq_false hlt)), (fun h => by cases h), fun _ => ?_⟩
    have : lo' = r := Nat.le_antisymm hl1 (Nat.le_trans hl2 (Nat.le_of_not_lt hlt))
    subst this
    exact Ex.nil (show Ex X k _ _ _ _ from Ex.cons (Es.ret Ev.n2 rfl))
theorem bisOk3 : fnOk (scopeS (stm 3)) ["a", "x", "lo", "hi", "key"] ["mid"] ["ValueError", "len"] [] = true := by decide +kernel
theorem bisOk4 : fnOk (scopeS (stm 4)) ["a", "x", "lo", "hi", "key"] ["mid"] ["ValueError", "len"] [] = true := by decide +kernel
theorem bright_ok {D : Ad} {a : List Nat} {x lo r : Nat} (P : PB X D) (hr : r ≤ a.length) (hlo : lo ≤ r) (h1 : ∀ i e, i < r → a[i]? = some e → e ≤ x) (h2 : ∀ i e, r ≤ i → a[i]? = some e → x < e) (hz : a.length ≤ 100000) :
    OpN X (k + 1) (.ref D.bright) [natsV a, N x, N lo] (N r) := by
  refine el7_1 (P.pBright.ex) fun name qual T KD doc pm an y3 => ?_; refine el2_5 (y3) fun cd ct F q1 q2 q3 q4 => ?_
  exact OpN.fn P.toXOk F (bfn_binds3 (bisP3 ..) rfl rfl q1 q2 q3 q4) rfl bisOk3 rfl (bright_ex P hr hlo h1 h2 hz)
theorem bleft_ok {D : Ad} {a : List Nat} {x r : Nat} (P : PB X D) (hr : r ≤ a.length) (h1 : ∀ i e, i < r → a[i]? = some e → e < x) (h2 : ∀ i e, r ≤ i → a[i]? = some e → x ≤ e) (hz : a.length ≤ 100000) :
    OpN X (k + 1) (.ref D.bleft) [natsV a, N x] (N r) := by
  refine el7_1 (P.pBleft.ex) fun name qual T KD doc pm an y4 => ?_; refine el2_5 (y4) fun cd ct F q1 q2 q3 q4 => ?_
  exact OpN.fn P.toXOk F (bfn_binds2 (bisP4 ..) rfl rfl q1 q2 q3 q4) rfl bisOk4 rfl (bleft_ex P hr (Nat.zero_le _) h1 h2 hz)
theorem bright_raise {D : Ad} {d1 d2 : V} (P : PB X D) : OpE X (k + 1) (.ref D.bright) [d1, d2, .int (-1)] "ValueError" (some "lo must be non-negative") := by
  refine el7_1 (P.pBright.ex) fun name qual T KD doc pm an y5 => ?_; refine el2_5 (y5) fun cd ct F q1 q2 q3 q4 => ?_
  refine OpE.fn (ls := ["mid"]) (gl := ["ValueError", "len"]) (cs := []) P.toXOk F (bfn_binds3 (bisP3 ..) rfl rfl q1 q2 q3 q4) rfl bisOk3 rfl ?_
  exact ExR.of (EsR.iteT (Tr.cmp Ev.n2 Ev.int Op2.lt) (ExR.of (EsR.raise (Ev.glob P.toXOk (.head _) P.valueError) Ev.str)))
theorem bleft_raise {D : Ad} {d1 d2 : V} (P : PB X D) : OpE X (k + 1) (.ref D.bleft) [d1, d2, .int (-1)] "ValueError" (some "lo must be non-negative") := by
  refine el7_1 (P.pBleft.ex) fun name qual T KD doc pm an y6 => ?_; refine el2_5 (y6) fun cd ct F q1 q2 q3 q4 => ?_
  refine OpE.fn (ls := ["mid"]) (gl := ["ValueError", "len"]) (cs := []) P.toXOk F (bfn_binds3 (bisP4 ..) rfl rfl q1 q2 q3 q4) rfl bisOk4 rfl ?_
  exact ExR.of (EsR.iteT (Tr.cmp Ev.n2 Ev.int Op2.lt) (ExR.of (EsR.raise (Ev.glob P.toXOk (.head _) P.valueError) Ev.str)))
end Mine
end
noncomputable section
namespace Mine
open PySem PySem.W PySem.Calls PyProof.Rows
variable {X : Cx} {A A0 : Around} {k : Nat} {gs gi : Gm} {σ σ' τ : Sto} {pos : Pos}
inductive Clean : Sto → Prop
  | nil : Clean []
  | opt {x : Str} {o : Option V} {r : Sto} (h : ∀ d, o = some d → d.isOwn = false) : Clean r → Clean ((x, o) :: r)
theorem Clean.none {x : Str} {r : Sto} (h : Clean r) : Clean ((x, Option.none) :: r) := .opt nofun h
theorem Clean.some {x : Str} {d : V} {r : Sto} (h : Clean r) (hd : d.isOwn = false := by rfl) : Clean ((x, Option.some d) :: r) := .opt (fun _ e => by obtain rfl := Option.some.inj e; exact hd) h
theorem Clean.all : ∀ {r : Sto}, Clean r → ∀ y d, (y, Option.some d) ∈ r → d.isOwn = false
  | _, .nil, _, _, h => nomatch h
  | _, .opt ho h, y, d, q => by
    rcases List.mem_cons.mp q with e | q
    · exact ho d (by cases e; rfl)
    · exact h.all y d q
inductive Only (x : Str) : Sto → Prop
  | own {D : Addr} {ds : List V} {r : Sto} : Clean r → Only x ((x, some (.own D ds)) :: r)
  | opt {y : Str} {o : Option V} {r : Sto} (h : ∀ d, o = some d → d.isOwn = false) : Only x r → Only x ((y, o) :: r)
theorem Only.some {x y : Str} {d : V} {r : Sto} (h : Only x r) (hd : d.isOwn = false := by rfl) : Only x ((y, Option.some d) :: r) := .opt (fun _ e => by obtain rfl := Option.some.inj e; exact hd) h
theorem Only.rest {x : Str} {r : Sto} (h : Only x r) (y : Str) (d : V) (q : (y, Option.some d) ∈ r) (hne : y ≠ x) : d.isOwn = false := by
  induction h with
  | own h => exact (List.mem_cons.mp q).elim (fun e => absurd (congrArg Prod.fst e) hne) fun q => h.all y d q
  | opt ho _ i => exact (List.mem_cons.mp q).elim (fun e => ho d (congrArg Prod.snd e).symm) i
theorem stops_app (a : List Nat) (x : Nat) : stopsOf (a ++ [x]) = stopsOf a ++ [a.sum + x] := by
  unfold stopsOf
  rw [List.length_append, List.length_singleton, List.range_succ, List.map_append]
  congr 1
  · refine List.map_congr_left fun c hc => ?_
    have := List.mem_range.mp hc
    rw [List.take_append_of_le_length (by assumption)]
  · rw [List.map_singleton, List.take_of_length_le (by simp), List.sum_append]; simp
theorem stops_len (a : List Nat) : (stopsOf a).length = a.length := by simp [stopsOf]
theorem stops_last (a : List Nat) : ((stopsOf a).drop ((stopsOf a).length - 1)).sum = a.sum := by
  rcases List.eq_nil_or_concat a with rfl | ⟨b, x, rfl⟩
  · rfl
  · rw [List.concat_eq_append, stops_app, List.length_append, List.length_singleton, Nat.add_sub_cancel, List.drop_left]
    simp
theorem stops_le (a : List Nat) : ∀ m ∈ stopsOf a, m ≤ a.sum := by
  intro m hm
  refine el1_2 (List.mem_map.mp hm) fun c hc y1 => ?_; obtain rfl := y1
  conv => rhs; rw [← List.take_append_drop (c + 1) a, List.sum_append]
  (exact Nat.le_add_right _ _)
theorem stops_sorted : ∀ (n : Nat) (a : List Nat), a.length = n → (∀ x ∈ a, 1 ≤ x) → (stopsOf a).Pairwise (· < ·)
  | 0, a, h, _ => by rw [List.length_eq_zero_iff.mp h]; exact List.Pairwise.nil
  | n + 1, a, h, h1 => by
    rcases List.eq_nil_or_concat a with rfl | ⟨b, x, rfl⟩
    · simp at h
    rw [List.concat_eq_append] at *
    rw [stops_app, List.pairwise_append]
    refine ⟨stops_sorted n b (by simpa using h) fun y hy => h1 y (List.mem_append_left _ hy), List.pairwise_singleton _ _, fun m hm y hy => ?_⟩
    rw [List.mem_singleton.mp hy]
    have := stops_le b m hm
    have := h1 x (by simp)
    lia
noncomputable def nxt (ms : List Nat) (c : Nat) : Nat := match ms.filter (fun m => decide (c < m)) with
  | m :: _ => m
  | [] => c + 1
noncomputable def below (ms : List Nat) (c : Nat) : Nat := (ms.takeWhile fun m => decide (m ≤ c)).length
theorem below_le (ms : List Nat) (c : Nat) : below ms c ≤ ms.length := (List.takeWhile_sublist _).length_le
theorem below_cons (m : Nat) (ms : List Nat) (c : Nat) : below (m :: ms) c = if m ≤ c then below ms c + 1 else 0 := by
  unfold below
  rw [List.takeWhile_cons]
  by_cases h : m ≤ c <;> simp [h]
theorem below_lt {ms : List Nat} {c : Nat} : ∀ (i e : Nat), i < below ms c → ms[i]? = some e → e ≤ c := by
  induction ms with
  | nil => intro i e h _; simp [below] at h
  | cons m ms ih =>
    intro i e h he
    rw [below_cons] at h
    split at h
    · cases i with
      | zero => simp at he; lia
      | succ i => exact ih i e (by lia) (by simpa using he)
    · lia
theorem below_ge {ms : List Nat} {c : Nat} : ms.Pairwise (· < ·) → ∀ (i e : Nat), below ms c ≤ i → ms[i]? = some e → c < e := by
  induction ms with
  | nil => intro _ i e h he; simp at he
  | cons m ms ih =>
    intro hs i e h he
    rw [List.pairwise_cons] at hs
    rw [below_cons] at h
    split at h
    · cases i with
      | zero => lia
      | succ i => exact ih hs.2 i e (by lia) (by simpa using he)
    · cases i with
      | zero => simp at he; lia
      | succ i =>
        have := hs.1 e (List.mem_of_getElem? (by simpa using he))
        lia
theorem below_mono {ms : List Nat} {c c' : Nat} (h : c ≤ c') : below ms c ≤ below ms c' := by
  induction ms with
  | nil => exact Nat.le_refl _
  | cons m ms ih =>
    rw [below_cons, below_cons]
    split
    · rw [if_pos (by (exact Nat.le_trans (by assumption) (by assumption)))]; (exact Nat.lt_succ_of_le (by assumption))
    · (exact Nat.zero_le _)
theorem nxt_cons (m : Nat) (ms : List Nat) (c : Nat) : nxt (m :: ms) c = if c < m then m else nxt ms c := by
  unfold nxt
  rw [List.filter_cons]
  by_cases h : c < m <;> simp [h]
theorem nxt_at {ms : List Nat} {c m : Nat} (h : ms[below ms c]? = some m) : nxt ms c = m := by
  induction ms with
  | nil => simp at h
  | cons x ms ih =>
    rw [below_cons] at h
    rw [nxt_cons]
    by_cases q : x ≤ c
    · rw [if_pos q] at h
      rw [if_neg (by (exact Nat.not_lt_of_le (by assumption)))]
      exact ih (by simpa using h)
    · rw [if_neg q] at h
      rw [if_pos (by (exact Nat.lt_of_not_le (by assumption)))]
      simpa using h
theorem nxt_end {ms : List Nat} {c : Nat} (h : below ms c = ms.length) : nxt ms c = c + 1 := by
  induction ms with
  | nil => rfl
  | cons x ms ih =>
    rw [below_cons, List.length_cons] at h
    rw [nxt_cons]
    split at h
    · rw [if_neg (by (exact Nat.not_lt_of_le (by assumption)))]; exact ih (by lia)
    · lia
theorem nxt_gt (ms : List Nat) (c : Nat) : c < nxt ms c := by
  induction ms with
  | nil => exact Nat.lt_succ_self _
  | cons x ms ih => rw [nxt_cons]; split <;> omega
noncomputable def typedOf (ms : List Nat) (text : List Nat) : Nat := text.foldl (fun c s => if s = 9 then nxt ms c else c + 1) 0
noncomputable def rulerOf (n : Nat) (row : List Nat) : List Nat := (gSeq (n + 2) none row).1.take (n + 1)
theorem gSeq_long {K : Nat} : ∀ {row : List Nat} {last : Option Nat}, (gSeq K last row).2 = .more → K ≤ (gSeq K last row).1.length
  | [], last, h => by cases last <;> cases h
  | x :: r, last, h => by
    by_cases h1 : x = 127
    · subst h1; rw [gSeq_max] at h; cases h
    by_cases h0 : x = 0
    · subst h0
      cases last with
      | none => cases h
      | some l => rw [gSeq_more]; simp
    · rw [gSeq_cons h1 h0] at h ⊢
      have := gSeq_long (row := r) h
      simp only [List.length_cons]; (exact Nat.le_succ_of_le (by assumption))
theorem typed_ok {D : Ad} {text row : List Nat} {left : Bool} (P : PB X D) (hz : text.length ≤ 1000) (hr : ∀ m, (gSeq (text.length + 2) none row).2 ≠ .raise m) (h1 : ∀ x ∈ rulerOf text.length row, 1 ≤ x) :
    OpN X (k + 5) (.ref D.typed) [T text, natsV row, .bool left] (N (typedOf (stopsOf (rulerOf text.length row)) text)) := by
  refine OpN.pfn ["text", "sizes", "left"] ["marks", "size", "column", "place", "sign"] ["_grouping_intervals", "sum", "len", "bisect_left", "bisect_right"] [] P.toXOk P.pTyped (by decide +kernel) rfl (fun name qual kV doc pm an cd ct vs h => ?_) ?_
  · obtain ⟨a, b, c, rfl⟩ := len3 h
    rfl
  refine Ex.mono (Q := fun r => r = .ret (N (typedOf (stopsOf (rulerOf text.length row)) text))) ?_ (fun r h => by subst h; rfl)
  refine Ex.newOwn (fun D => u3) (fun Dm => ?_) (fun r h => ⟨_, h⟩)
  generalize hseq : gSeq (text.length + 2) none row = sq at hr
  have hru : rulerOf text.length row = sq.1.take (text.length + 1) := by unfold rulerOf; rw [hseq]
  rw [hru] at h1 ⊢
  have hiv : ∀ p1 p2 p3 : Pos, IvG X (k + 4) ⟨["_grouping_intervals", "sum", "len", "bisect_left", "bisect_right"], [], []⟩ ([("text", some (T text)), ("sizes", some (natsV row)), ("left", some (.bool left)), ("marks", some (.own Dm [])), ("size", none), ("column", none), ("place", none), ("sign", none)] : Sto)
      (.Call (.Name "_grouping_intervals" p1) [.Name "sizes" p2] [] p3) (sq.1.map N) sq.2 := fun p1 p2 p3 => by
    have := grouping_iv (k := k) (gs := ⟨["_grouping_intervals", "sum", "len", "bisect_left", "bisect_right"], [], []⟩) (σ := [("text", some (T text)), ("sizes", some (natsV row)), ("left", some (.bool left)), ("marks", some (.own Dm [])), ("size", none), ("column", none), ("place", none), ("sign", none)]) (row := row) (e := .Name "sizes" p2) (np := p1) (pos := p3) P.toPX (K := text.length + 2) (by (exact Nat.succ_pos _)) Ev.n1 (.head _)
    rwa [hseq] at this
  have hlong : sq.2 = .more → text.length + 2 ≤ sq.1.length := fun h => hseq ▸ gSeq_long (hseq ▸ h)
  have fin : ∀ (ms : List Nat) (o : Option V), (∀ d, o = some d → d.isOwn = false) → ms.Pairwise (· < ·) → ms.length ≤ 2000 → Ex X (k + 4) ⟨["_grouping_intervals", "sum", "len", "bisect_left", "bisect_right"], [], []⟩
      ([("text", some (T text)), ("sizes", some (natsV row)), ("left", some (.bool left)), ("marks", some (.own Dm (ms.map N))), ("size", o), ("column", none), ("place", none), ("sign", none)] : Sto) ((bodyS (stm 16)).drop 2)
      (fun r => r = .ret (N (typedOf ms text))) := by
    intro ms o ho hms hml
    refine Ex.cons (Es.asg2 (Ev.natc 0) a5 a6 ?_)
    refine Ex.cons (Es.for (items := signs (txt text)) (Iv.str Ev.n0) (fun i σ => ∃ p o2, p ≤ below ms (typedOf ms (text.take i)) ∧ (∀ d, o2 = some d → d.isOwn = false) ∧ σ = ([("text", some (T text)), ("sizes", some (natsV row)), ("left", some (.bool left)), ("marks", some (.own Dm (ms.map N))), ("size", o), ("column", some (N (typedOf ms (text.take i)))), ("place", some (N p)), ("sign", o2)] : Sto))
      ⟨_, Le.refl _, 0, none, Nat.zero_le _, nofun, rfl⟩ (fun i d σ hd hI => ?_) (fun σ hI => ?_))
    · obtain ⟨p, o2, hp, ho2, rfl⟩ := hI
      obtain ⟨c, hc, rfl⟩ : ∃ c, text[i]? = some c ∧ T [c] = d := by simpa [signs] using hd
      generalize hcol : typedOf ms (text.take i) = col at hp
      have hcol' : typedOf ms (text.take (i + 1)) = if c = 9 then nxt ms col else col + 1 := by
        rw [List.take_add_one, hc, typedOf, List.foldl_append]
        show (if c = 9 then nxt ms (typedOf ms (text.take i)) else typedOf ms (text.take i) + 1) = _
        rw [hcol]
      refine ⟨_, a7, ?_⟩
      refine Ex.cons (Es.asg (Ev.bin Ev.n5 (Ev.natc 1) Op2.addN) u5 ?_)
      by_cases h9 : c = 9
      · subst h9
        rw [if_pos rfl] at hcol'
        refine Ex.cons (Es.ite (b := true) (Tr.cmp Ev.n7 (Ev.txt [9]) (Op2.eqt1 (by decide))) (fun _ => ?_) (fun h => by cases h))
        have hV : View Dm ([("text", some (T text)), ("sizes", some (natsV row)), ("left", some (.bool left)), ("marks", some (.own Dm (ms.map N))), ("size", o), ("column", some (N (col + 1))), ("place", some (N p)), ("sign", some (T [9]))] : Sto) ([("text", some (T text)), ("sizes", some (natsV row)), ("left", some (.bool left)), ("marks", some (natsV ms)), ("size", o), ("column", some (N (col + 1))), ("place", some (N p)), ("sign", some (T [9]))] : Sto) :=
          .same (.same (.same (.own (Clean.opt ho (Clean.some (Clean.some (Clean.some .nil)))).all) (by intro _ z0; obtain rfl := Option.some.inj z0; rfl)) (by intro _ z1; obtain rfl := Option.some.inj z1; rfl)) (by intro _ z2; obtain rfl := Option.some.inj z2; rfl)
        refine Ex.cons (Es.asg (d := N (below ms col)) (Ev.view hV (Ev.ite (b := left) (Tr.of Ev.n2 Truth.bool) (fun _ => ?_) (fun _ => ?_))) u6 ?_)
        · exact Ev.call (Ev.glob P.toXOk (.tail _ (.tail _ (.tail _ (.head _)))) P.bleft) (Evs.cons Ev.n3 (Evs.cons Ev.n5 Evs.nil)) P.pBleft.callable (bleft_ok P (below_le _ _) (fun i e a b => by have := below_lt i e a b; (exact Nat.lt_succ_of_le (by assumption))) (fun i e a b => below_ge hms i e a b) (by lia))
        · exact Ev.call (Ev.glob P.toXOk (.tail _ (.tail _ (.tail _ (.tail _ (.head _))))) P.bright) (Evs.cons Ev.n3 (Evs.cons (Ev.bin Ev.n5 (Ev.natc 1) (Op2.subN (by (exact Nat.succ_pos _)))) (Evs.cons Ev.n6 Evs.nil))) P.pBright.callable (bright_ok P (below_le _ _) hp (fun i e a b => below_lt i e a b) (fun i e a b => below_ge hms i e a b) (by lia))
        have hV2 : View Dm ([("text", some (T text)), ("sizes", some (natsV row)), ("left", some (.bool left)), ("marks", some (.own Dm (ms.map N))), ("size", o), ("column", some (N (col + 1))), ("place", some (N (below ms col))), ("sign", some (T [9]))] : Sto) ([("text", some (T text)), ("sizes", some (natsV row)), ("left", some (.bool left)), ("marks", some (natsV ms)), ("size", o), ("column", some (N (col + 1))), ("place", some (N (below ms col))), ("sign", some (T [9]))] : Sto) :=
          .same (.same (.same (.own (Clean.opt ho (Clean.some (Clean.some (Clean.some .nil)))).all) (by intro _ z3; obtain rfl := Option.some.inj z3; rfl)) (by intro _ z4; obtain rfl := Option.some.inj z4; rfl)) (by intro _ z5; obtain rfl := Option.some.inj z5; rfl)
        have hbl := below_le ms col
        refine Ex.cons (Es.asg (d := N (nxt ms col)) (Ev.view hV2 (Ev.ite (b := decide (below ms col < ms.length)) (Tr.cmp Ev.n6 (Ev.call (Ev.glob P.toXOk (.tail _ (.tail _ (.head _))) P.len) (Evs.cons Ev.n3 Evs.nil) .builtin (OpN.lenN (by lia))) Op2.ltN) (fun h => ?_) (fun h => ?_))) u5 ?_)
        · have h := of_decide_eq_true h
          have he : ms[below ms col]? = some ms[below ms col] := List.getElem?_eq_getElem h
          rw [nxt_at he]
          exact Ev.itemN Ev.n3 Ev.n6 (by rw [List.getElem?_map, he]; rfl)
        · have h := of_decide_eq_false h
          rw [nxt_end (by lia)]
          exact Ev.n5
        refine Ex.nil (show Ex X _ _ _ [] _ from Ex.nil ⟨_, Le.refl _, below ms col, some (T [9]), ?_, fun d e => by obtain rfl := Option.some.inj e; rfl, by rw [hcol']⟩)
        rw [hcol']
        have := nxt_gt ms col
        exact below_mono (by (exact Nat.le_of_lt (by assumption)))
      · rw [if_neg h9] at hcol'
        refine Ex.cons (Es.ite (b := false) (Tr.cmp Ev.n7 (Ev.txt [9]) (Op2.eqt1 (decide_eq_false (by simpa using h9)))) (fun h => by cases h) (fun _ => ?_))
        refine Ex.nil (show Ex X _ _ _ [] _ from Ex.nil ⟨_, Le.refl _, p, some (T [c]), ?_, fun d e => by obtain rfl := Option.some.inj e; rfl, by rw [hcol']⟩)
        rw [hcol']
        exact Nat.le_trans hp (below_mono (by (exact Nat.le_add_right _ _)))
    · obtain ⟨p, o2, hp, ho2, rfl⟩ := hI
      rw [show (signs (txt text)).length = text.length by simp [signs], List.take_length]
      exact Ex.cons (Es.ret Ev.n5 rfl)
  have srt : ∀ i, i ≤ text.length + 1 → (stopsOf (sq.1.take i)).Pairwise (· < ·) := fun i hi => stops_sorted _ _ rfl fun x hx => h1 x (by
    have : sq.1.take i <+: sq.1.take (text.length + 1) := List.take_prefix_take_left hi
    exact this.subset hx)
  refine Ex.cons (Es.forG (k := k + 3) P.toXOk (hiv _ _ _) (fun i σ => i ≤ text.length ∧ ∃ o, (∀ d, o = some d → d.isOwn = false) ∧ σ = ([("text", some (T text)), ("sizes", some (natsV row)), ("left", some (.bool left)), ("marks", some (.own Dm ((stopsOf (sq.1.take i)).map N))), ("size", o), ("column", none), ("place", none), ("sign", none)] : Sto))
    ⟨_, Le.refl _, Nat.zero_le _, none, nofun, rfl⟩ hr ?_ (fun i d σ hd hI => ?_) (fun hst σ hI => ?_))
  · cases hs : sq.2 with
    | stop => exact .inr rfl
    | raise m => exact absurd hs (hr m)
    | more =>
      refine .inl fun e => ?_
      have h := hlong hs
      rw [List.map_eq_nil_iff.mp e] at h
      exact absurd h (by simp)
  · obtain ⟨hi, o, ho, rfl⟩ := hI
    obtain ⟨size, hsz, rfl⟩ : ∃ size, sq.1[i]? = some size ∧ N size = d := by simpa using hd
    have htk : sq.1.take (i + 1) = sq.1.take i ++ [size] := by rw [List.take_add_one, hsz]; rfl
    have hlt := (List.getElem?_eq_some_iff.mp hsz).1
    have hslen : (stopsOf (sq.1.take i)).length = i := by rw [stops_len, List.length_take]; lia
    refine ⟨_, a4, ?_⟩
    have hV : ∀ ms : List Nat, View Dm ([("text", some (T text)), ("sizes", some (natsV row)), ("left", some (.bool left)), ("marks", some (.own Dm (ms.map N))), ("size", some (N size)), ("column", none), ("place", none), ("sign", none)] : Sto) ([("text", some (T text)), ("sizes", some (natsV row)), ("left", some (.bool left)), ("marks", some (natsV ms)), ("size", some (N size)), ("column", none), ("place", none), ("sign", none)] : Sto) := fun ms =>
      .same (.same (.same (.own (Clean.some (Clean.none (Clean.none (Clean.none .nil)))).all) (by intro _ z6; obtain rfl := Option.some.inj z6; rfl)) (by intro _ z7; obtain rfl := Option.some.inj z7; rfl)) (by intro _ z8; obtain rfl := Option.some.inj z8; rfl)
    have hup : Upd "marks" (.own Dm ((stopsOf (sq.1.take i)).map N ++ [N ((sq.1.take i).sum + size)])) ([("text", some (T text)), ("sizes", some (natsV row)), ("left", some (.bool left)), ("marks", some (.own Dm ((stopsOf (sq.1.take i)).map N))), ("size", some (N size)), ("column", none), ("place", none), ("sign", none)] : Sto)
        ([("text", some (T text)), ("sizes", some (natsV row)), ("left", some (.bool left)), ("marks", some (.own Dm ((stopsOf (sq.1.take (i + 1))).map N))), ("size", some (N size)), ("column", none), ("place", none), ("sign", none)] : Sto) := by
      rw [htk, stops_app, List.map_append]; exact u3
    refine Ex.cons (Es.append (.tail _ (.tail _ (.tail _ (.head _)))) (Evs.cons (Ev.view (hV _) (Ev.bin (Ev.call (Ev.glob P.toXOk (.tail _ (.head _)) P.sum) (Evs.cons (Ev.last Ev.n3 (by lia)) Evs.nil) .builtin OpN.sumN) Ev.n4 (by rw [stops_last]; exact Op2.addN))) Evs.nil) hup (Only.some (Only.some (Only.some (Only.own (Clean.some (Clean.none (Clean.none (Clean.none .nil))))))) : Only "marks" _).rest (by rw [List.length_map, hslen]; show i ≤ 16777216; lia) ?_)
    have hs1len : (stopsOf (sq.1.take (i + 1))).length = i + 1 := by rw [stops_len, List.length_take]; lia
    refine Ex.cons (Es.ite (b := decide (text.length < i + 1)) (Tr.view (hV _) (Tr.cmp (Ev.call (Ev.glob P.toXOk (.tail _ (.tail _ (.head _))) P.len) (Evs.cons Ev.n3 Evs.nil) .builtin (OpN.lenN (by lia))) (Ev.call (Ev.glob P.toXOk (.tail _ (.tail _ (.head _))) P.len) (Evs.cons Ev.n0 Evs.nil) .builtin (OpN.lenT (by lia))) (by rw [hs1len]; exact Op2.gtN))) (fun h => ?_) (fun h => ?_))
    · have h := of_decide_eq_true h
      have hi' : i = text.length := by lia
      subst hi'
      exact Ex.cons (Es.brk (fin _ _ (fun d e => by obtain rfl := Option.some.inj e; rfl) (srt _ (Nat.le_refl _)) (by lia)))
    · have h := of_decide_eq_false h
      refine Ex.nil (show Ex X _ _ _ [] _ from Ex.nil ⟨?_, _, Le.refl _, by (exact Nat.le_of_not_lt (by assumption)), some (N size), fun d e => by obtain rfl := Option.some.inj e; rfl, rfl⟩)
      rw [List.length_map]
      cases hs : sq.2 with
      | stop => exact .inr rfl
      | raise m => exact absurd hs (hr m)
      | more => exact .inl (by have := hlong hs; lia)
  · obtain ⟨hi, o, ho, rfl⟩ := hI
    rw [List.length_map] at hi ⊢
    have e : sq.1.take sq.1.length = sq.1.take (text.length + 1) := by rw [List.take_length, List.take_of_length_le (by (exact Nat.le_succ_of_le (by assumption)))]
    rw [e]
    exact fin _ o ho (srt _ (Nat.le_refl _)) (by rw [stops_len, List.length_take]; lia)
end Mine
end
noncomputable section
namespace Mine
open PySem PySem.W PySem.Calls PyProof.Rows
variable {X : Cx} {A A0 : Around} {k : Nat} {gs gi : Gm} {σ σ' τ : Sto} {pos : Pos}
theorem typed_raise {D : Ad} {free : List Nat} {left : Bool} (P : PB X D) : OpE X (k + 5) (.ref D.typed) [T [], natsV (0 :: free), .bool left] "ValueError" (some "invalid grouping") := by
  refine OpE.pfn ["text", "sizes", "left"] ["marks", "size", "column", "place", "sign"] ["_grouping_intervals", "sum", "len", "bisect_left", "bisect_right"] [] P.toXOk P.pTyped (by decide +kernel) rfl (fun name qual kV doc pm an cd ct vs h => ?_) ?_
  · refine el3_1 (len3 h) fun a b c y1 => ?_; obtain rfl := y1
    rfl
  refine ExR.asg (Ev.listD Evs.nil) u3 (ExR.of (EsR.forG P.toXOk ?_))
  exact grouping_iv (K := 1) (row := 0 :: free) P.toPX (by decide) Ev.n1 (.head _)
end Mine
end
noncomputable section
namespace Mine
open PySem PySem.W PySem.Calls PyProof.Rows
variable {X : Cx} {A A0 : Around} {k : Nat} {gs gi : Gm} {σ σ' τ : Sto} {pos : Pos} {K : Frag}
noncomputable abbrev wsNames : List Str := ["raw", "n", "nt", "norm", "is_simple"]
structure KC (K : Frag) (C : Addr) : Prop where
  makes : makesIn K C = true
  ga : findIn K (.ref C) "__getattribute__" = some (some (.builtin "object.__getattribute__"))
  gat : findIn K (.ref C) "__getattr__" = some none
  sa : findIn K (.ref C) "__setattr__" = some (some (.builtin "object.__setattr__"))
  plain : plainOver K C = true
  cd : ∃ cd, clsIn K C = some cd ∧ cd.hasDict = true
  fld : ∀ y ∈ wsNames, findIn K (.ref C) y = some none
  reads : readsIn K C (.type "type") = true
  S : ∃ t, findCls K (.ref C) (.type "type") "S" = some (.val (.str (txt [32]) t))
  T : ∃ t, findCls K (.ref C) (.type "type") "T" = some (.val (.str (txt [9]) t))
noncomputable def mst (i : Nat) : Stmt := (bodyS (stm 1)).getD i (.Pass ⟨0, 0, 0, 0⟩)
structure MethK (X : Cx) (K : Frag) (C : Addr) (name : Str) (st : Stmt) : Prop where
  new : name ∉ wsNames
  ex : ∃ f, findIn K (.ref C) name = some (some (.ref f)) ∧ typeIn K (.ref f) = some (.type "function") ∧ PFn X f st
structure PK (X : Cx) (D : Ad) (K : Frag) : Prop extends PB X D where
  kin : K.In X.h0
  ktab : K.lookup X.tab = none
  kc : KC K D.ws
  wsok : ∃ o cd, X.h0.get? D.ws = some o ∧ o.data = .cls cd
  mInit : MethK X K D.ws "__init__" (mst 1)
  mLong : MethK X K D.ws "longest_run_of_spaces" (mst 2)
  mIndent : MethK X K D.ws "indent_level" (mst 3)
  mEqual : MethK X K D.ws "equal" (mst 4)
  mNotEq : MethK X K D.ws "not_equal_witness" (mst 5)
  mLess : MethK X K D.ws "less" (mst 6)
  mNotLess : MethK X K D.ws "not_less_witness" (mst 7)
theorem PK.at {D : Ad} {W : List Addr} {s : Shared} (P : PK X D K) (B : Base X A W s) : K.In s.heap := fun a o e => B.base a o (fun z => by rw [z, P.ktab] at e; exact noN e) (P.kin a o e)
theorem ns_look {h : Heap} {a : Addr} {m : Str → Option Value} (hn : h.Ns1 a m) : ∃ o, h.get? a = some o ∧ ∀ name, lookIn name o = some (m name) := by
  refine el3_5 (hn) fun o es ep ho hd hk hu hm => ?_
  refine ⟨o, ho, fun name => ?_⟩
  unfold lookIn
  rw [hd]
  dsimp only
  have h1 := hm name
  simp only [nsFind, findBy] at h1
  rw [← Array.find?_toList] at h1
  rw [← h1]
  cases hf : es.toList.find? (·.key.isStr name) with
  | some e => simp
  | none =>
    have : es.toList.any (·.refKey) = false := by
      rw [List.any_eq_false]; intro e he; refine el2_1 (hk e (by simpa using he)) fun n t h => ?_; simp [DictEntry.refKey, h]
    simp [this]
inductive FieldOf (d : WsD) : Str → V → Prop
  | raw : FieldOf d "raw" (.str d.raw)
  | n : FieldOf d "n" (N d.n)
  | nt : FieldOf d "nt" (N d.nt)
  | norm : FieldOf d "norm" (.tup [.tup (d.count.map N), N d.b])
  | simple : FieldOf d "is_simple" (.bool (decide (d.count.length ≤ 1)))
theorem handed_rd {W : List Addr} {h : Heap} {v : Value} {d : V} (r : Rd W h v d) (hd : ∀ w, d ≠ .opq w) : handedIn v = true := by
  cases r <;> first | rfl | exact absurd rfl (hd _)
theorem ws_at {W : List Addr} {h : Heap} {v : Value} {C : Addr} {d : WsD} (r : Rd W h v (.ws C d)) : ∃ x dx m, v = .ref x ∧ h.get? x = some (instObj C dx) ∧ h.Ns1 dx m ∧ (∀ y v, m y = some v → y ∈ wsNames) ∧ ∀ name dv, FieldOf d name dv → ∃ w, m name = some w ∧ Rd W h w dv ∧ handedIn w = true := by
  refine el7_2 (r.inv) fun x dx m v1 v2 v3 v4 e y => ?_
  refine ⟨x, dx, m, e, y.h1, y.h2, y.h3, fun name dv F => ?_⟩
  cases F with
  | raw => exact ⟨_, y.e1, y.b1, handed_rd y.b1 nofun⟩
  | n => exact ⟨_, y.e2, y.b2, handed_rd y.b2 nofun⟩
  | nt => exact ⟨_, y.e3, y.b3, handed_rd y.b3 nofun⟩
  | norm => exact ⟨_, y.e4, y.b4, handed_rd y.b4 nofun⟩
  | simple => exact ⟨_, y.e5, .bool _, rfl⟩
theorem FieldOf.mem {d : WsD} {name : Str} {dv : V} (F : FieldOf d name dv) : name ∈ wsNames := by
  cases F <;> simp [wsNames]
theorem inst_at {h : Heap} {x dx C : Addr} {m : Str → Option Value} (h1 : h.get? x = some (instObj C dx)) (h2 : h.Ns1 dx m) : ∃ od, InstAt h x (instObj C dx) C (some od) ∧ ∀ name, lookIn name od = some (m name) :=
  let ⟨od, ho, hl⟩ := ns_look h2; ⟨od, ⟨h1, rfl, rfl, ho⟩, hl⟩
theorem find_field {C : Addr} {od : Obj} {m : Str → Option Value} {name : Str} {v : Value} (Q : KC K C) (hl : ∀ name, lookIn name od = some (m name)) (hm : name ∈ wsNames) (hv : m name = some v) : findObj K C (some od) name = some (.value v) := by
  refine el1_2 (Q.cd) fun cd hc hd => ?_
  unfold findObj
  rw [hc, Option.bind_some, Q.fld name hm, Option.bind_some, Option.bind_some, Option.bind_some]
  simp only [PySem.W.ownOf, hd, if_true, hl name, hv, Option.bind_some]
theorem Ev.attr {D : Ad} {e : Expr} {name : Str} {d : WsD} {dv : V} (P : PK X D K) (he : Ev X k gs σ e (.ws D.ws d)) (F : FieldOf d name dv)
    (hat : ∀ env, eval (.Attribute e name pos) env = (do
      let o ← eval e env
      standAt pos.atName
      let r ← holding [o] (getAttr o name true)
      letTemporaryGo e o r
      pure r) := by intro _; rfl) : Ev X k gs σ (.Attribute e name pos) dv := by
  refine ⟨?_⟩
  intro A env M W s R S
  refine Attribute_any_ (wpAny_mono (he.run A env M W s R S) ?_ (fun _ _ f => f)) (hat env)
  intro v s1 y1; refine el0_2 (y1) fun hv k1 => ?_
  refine el3_5 (ws_at hv) fun x dx m y2 h1 h2 h3 h4 => ?_; obtain rfl := y2
  refine el1_3 (h4 name dv F) fun w hw rw_ hh => ?_
  refine el1_2 (inst_at h1 h2) fun od I hl => ?_
  exact get_value (P.at (S.keep k1).toBase) I P.kc.ga (find_field P.kc hl F.mem hw) hh ⟨rw_, k1.trans (Kp.toks _ _)⟩
theorem Call_meth {prog : Program} {w : World} {A : Around} {E : Value → Shared → Prop} {s : Shared} {env : Env} {o : Expr} {name : Str} {apos : Pos} {args : List Expr} {Q : Value → Shared → Prop}
    (hbase : attributeBase o name env (eval o env) = eval o env)
    (hfew : ((backTo pos (starEach args env)).all (fun x => !x.1) && (backToKw pos (keywordEach [] env)).all (fun x => x.1.isSome)
      && decide (args.length + ([] : List Keyword).length + (if ([] : List Keyword).isEmpty then 0 else 1) < 30)) = true)
    (hline : (apos.endLine == pos.line) = true)
    (h : wpAny (model prog w) A (eval o env) (fun ov s₁ => ∀ pl, wpAny (model prog w) A (getMethod ov name pl) (fun p s₂ => wpAny (model prog w) A (callWith pos p.1 p.2 (backTo pos (starEach args env)) []) Q E s₂) E s₁) E s) :
    wpAny (model prog w) A (eval (.Call (.Attribute o name apos) args [] pos) env) Q E s := by
  rw [arm_eval_Call, hbase]
  refine wpAny_bind (wpAny_mono h (fun ov s₁ h₁ => ?_) fun _ _ e => e)
  refine wpAny_bind (wpAny_standAt ?_)
  have hform : methodCallForm (args.length + ([] : List Keyword).length) (backTo pos (starEach args env)) (backToKw pos (keywordEach [] env)) = true := hfew
  have hpos : methodCallPos true o env apos pos = pure pos := by unfold methodCallPos; simp [hline]
  unfold methodCall calleeOf
  rw [hform]
  refine wpAny_bind (wpAny_holding (wpAny_mono (h₁ _) (fun p s₂ h₂ => ?_) fun _ _ e => e))
  exact wpAny_bind (wpAny_of_eq hpos h₂)
theorem Ev.mcall {D : Ad} {o : Expr} {name : Str} {apos : Pos} {st : Stmt} {es : List Expr} {ds : List V} {d : WsD} {dv : V} (P : PK X D K) (Mt : MethK X K D.ws name st) (ho : Ev X k gs σ o (.ws D.ws d)) (ha : Evs X k gs σ es ds)
    (h : ∀ f, PFn X f st → OpN X k (.ref f) (.ws D.ws d :: ds) dv)
    (hb : ∀ env, attributeBase o name env (eval o env) = eval o env := by intro _; rfl)
    (hf : ∀ env, ((backTo pos (starEach es env)).all (fun x => !x.1) && (backToKw pos (keywordEach [] env)).all (fun x => x.1.isSome)
      && decide (es.length + ([] : List Keyword).length + (if ([] : List Keyword).isEmpty then 0 else 1) < 30)) = true := by intro _; rfl)
    (hl : (apos.endLine == pos.line) = true := by rfl) (hp : Plain es = true := by rfl) : Ev X k gs σ (.Call (.Attribute o name apos) es [] pos) dv := by
  refine ⟨?_⟩
  intro A env M W s R S
  refine Call_meth (hb env) (hf env) hl (wpAny_mono (ho.run A env M W s R S) ?_ (fun _ _ f => f))
  intro v s1 y3 pl; refine el0_2 (y3) fun hv k1 => ?_
  have hv' := hv
  refine el3_5 (ws_at hv) fun x dx m y4 h1 h2 h3 h4 => ?_; obtain rfl := y4
  refine el1_2 (inst_at h1 h2) fun od I hlk => ?_
  refine el1_3 (Mt.ex) fun f g1 g2 hPF => ?_
  have B1 := (S.keep k1).toBase
  refine method_fn (P.at B1) I P.kc.ga P.kc.gat g1 g2 ?_ ?_
  · show (lookIn name od).map _ = _
    rw [hlk]
    cases q : m name with
    | none => rfl
    | some w => exact absurd (h3 _ _ q) Mt.new
  have np := any_backTo (pos := pos) (env := env) (ds := ds) (Plain.no hp)
  refine callWith_go np (evalArgs_all np (wpAny_mono (ha.run A env M W s1 pos R (S.keep k1)) ?_ (fun _ _ f => f)))
  intro vs s2 y5; refine el0_2 (y5) fun hvs k2 => ?_
  have S2 := (S.keep k1).keep k2
  refine el7_1 (id hPF) fun name' qual kV doc pm an cd y6 => ?_; refine el1_1 (y6) fun ct F => ?_
  refine el1_2 (F.obj) fun oo q1 q2 => ?_
  refine ⟨.inr ⟨_, _, _, rfl, S2.base _ _ F.ne q1, q2⟩, ?_⟩
  exact wpAny_mono ((h f hPF).run A W s2 _ R S2.toBase (.cons (hv'.keep0 k2) hvs)) (fun v s3 h => ⟨h.1, (k1.trans k2).trans h.2⟩) (fun _ _ f => f)
end Mine
end
noncomputable section
namespace Mine
open PySem PySem.W PySem.Calls PyProof.Rows Builtin Builtin.ObjectAttr
variable {X : Cx} {A A0 : Around} {k : Nat} {gs gi : Gm} {σ σ' τ : Sto} {pos : Pos} {K : Frag}
theorem set_field {D : Ad} (P : PK X D K) {W : List Addr} {s : Shared} {x dx : Addr} {m : Str → Option Value} {name : Str} {v : Value} {Q : Unit → Shared → Prop} {E : Value → Shared → Prop} (B : Base X A W s)
    (h1 : s.heap.get? x = some (instObj D.ws dx)) (h2 : s.heap.Ns1 dx m) (hw : PySem.Within m wsNames) (hn : name ∈ wsNames)
    (hQ : ∀ h' tk, h'.Ns1 dx (fun y => if y = name then some v else m y) → Heap.SameBut dx s.heap h' → Q () { s with heap := h', toks := tk }) :
    wpAny (model X.prog X.w) A (setAttr (.ref x) name v) Q E s := by
  refine el1_2 (inst_at h1 h2) fun od I hl => ?_
  have KI := P.at B
  refine set_plain KI I P.kc.sa ?_
  refine osa_open (s := { s with toks := s.toks + 1 }) (r := none) KI I P.kc.plain (by unfold takerIn; rw [P.kc.fld name hn]; rfl) fun b => ?_
  refine el1_2 (P.kc.cd) fun cd hc hd => ?_
  refine wpAny_bind (wpAny_pure (wpAny_bind ?_))
  unfold ownDictForStores instanceDict
  refine wpAny_bind (wpAny_loadPart h1 ?_)
  dsimp only
  refine wpAny_bind (looks_clsIn KI hc _ _ _ _ (fun _ _ e => e) ?_)
  rw [hd]
  refine wpAny_pure (a := some dx) ?_
  show wpAny _ _ (storeInDict dx (.str name _) name v) _ _ _
  unfold storeInDict newKeyGuard
  refine wpAny_bind (wpAny_pure (wpAny_bind (wpAny_nsSet1 h2 fun h' hn' hs => ?_)))
  obtain ⟨oD, esD, epD, hoD, hdD, hcD⟩ := hn'.count (ns := name :: wsNames) (fun y hy => by
    by_cases q : y = name
    · subst q; exact .head _
    · rw [if_neg q] at hy; exact .tail _ (hw y hy))
  refine wpAny_bind (wpAny_lookBehind hoD (by rw [hdD]; exact pastItsLine_dict (Nat.le_trans hcD (by simp only [wsNames, List.length_cons, List.length_nil, sizeLine_eq]; (exact Nat.le_add_left _ _)))) ?_)
  exact wpAny_pure (hQ h' _ hn' hs)
end Mine
end
noncomputable section
namespace Mine
open PySem PySem.W PySem.Calls PyProof.Rows
variable {X : Cx} {A A0 : Around} {k : Nat} {gs gi : Gm} {σ σ' τ : Sto} {pos : Pos} {K : Frag}
theorem St.grow {env : Env} {M W : List Addr} {s s1 : Shared} {D : Addr} (S : St X A env gs M W σ s) (k1 : Kp X.h0 [] s s1) (hD : s.heap.get? D = none) (hl : ∃ o, s1.heap.get? D = some o) : St X A env gs (D :: M) (D :: W) σ s1 := by
  refine el0_3 (S.toBase.new0 hD) fun h0 ht hDW => ?_
  have w1 : ∀ b ∈ D :: W, b ∈ W ∨ s.heap.get? b = none := fun b hb => (List.mem_cons.mp hb).elim (fun z => .inr (z ▸ hD)) .inl
  have S0 := S.keep k1
  refine ⟨⟨S0.base, .tail _ S.tabW, fun a ha => ?_, S0.frs⟩, S.toEnvK, fun a ha => ?_, fun a ha => ?_, S0.ns, .tail _ S.locM, fun y o hy => ?_, S.nodup, fun y d hy => ?_, fun y d hy => ?_, fun n c hc => let ⟨a, b, c'⟩ := S0.cells n c hc; ⟨a, .tail _ b, c'⟩, S.apart, S.cs, S.dis⟩
  · rcases List.mem_cons.mp ha with z | z
    · exact z ▸ hl
    · exact S0.old a z
  · rcases List.mem_cons.mp ha with z | z
    · exact z ▸ .head _
    · exact .tail _ (S.sub a z)
  · rcases List.mem_cons.mp ha with z | z
    · exact z ▸ h0
    · exact S.new a z
  · refine el0_2 (S.loc y o hy) fun l hd => ?_
    refine ⟨?_, hd⟩
    cases l with
    | loc h => exact .loc h
    | cell c h1 h2 h3 => exact .cell c h1 h2 (.tail _ h3)
  · refine el1_2 (S.vars y d hy) fun v a b => ?_
    refine ⟨v, a.keepH k1.toKh nofun nofun, ?_⟩
    have b1 := (b.weak w1).keepH k1.toKh nofun nofun
    cases b1 with
    | data r => exact .data r
    | own l m hn r => exact .own l (.tail _ m) hn r
  · refine el0_2 (S.free y d hy) fun y1 c => ?_; refine el1_2 (y1) fun v a b => ?_
    exact ⟨⟨v, a.keepH k1.toKh nofun, (b.weak w1).keep0 k1⟩, c⟩
noncomputable abbrev GFin (X : Cx) (A : Around) (env : Env) (gs : Gm) (M W : List Addr) (s : Shared) (Q : Res → Prop) : Flow → Shared → Prop := fun f s' => Kp X.h0 M s s' ∧ ∃ O, (∀ a ∈ O, s.heap.get? a = none) ∧ ∃ r, Q r ∧ Hit X A env gs (O ++ M) (O ++ W) s' r f
structure GEs (X : Cx) (k : Nat) (gs : Gm) (σ : Sto) (st : Stmt) (Q : Res → Prop) : Prop where
  run : ∀ A env M W s, Room k A → Own A env → St X A env gs M W σ s → wpAny (model X.prog X.w) A (exec st env) (GFin X A env gs M W s Q) No s
structure GEx (X : Cx) (k : Nat) (gs : Gm) (σ : Sto) (st : List Stmt) (Q : Res → Prop) : Prop where
  run : ∀ A env M W s, Room k A → Own A env → St X A env gs M W σ s → wpAny (model X.prog X.w) A (execs st env) (GFin X A env gs M W s Q) No s
theorem GEs.of {st : Stmt} {Q : Res → Prop} (h : Es X k gs σ st Q) : GEs X k gs σ st Q :=
  ⟨fun A env M W s R O S => wpAny_mono (h.run A env M W s R O S) (fun f s' ⟨a, r, b, c⟩ => ⟨a, [], nofun, r, b, c⟩) (fun _ _ f => f)⟩
theorem GEx.nil {Q : Res → Prop} (h : Q (.next σ)) : GEx X k gs σ [] Q := ⟨fun A env M W s R O S => wpAny_execs_nil ⟨Kp.refl _ _, [], nofun, _, h, rfl, S⟩⟩
noncomputable def GThen (X : Cx) (k : Nat) (gs : Gm) (rest : List Stmt) (Q : Res → Prop) : Res → Prop
  | .next σ => GEx X k gs σ rest Q
  | r => Q r
theorem GEx.cons {st : Stmt} {rest : List Stmt} {Q : Res → Prop} (h : GEs X k gs σ st (GThen X k gs rest Q)) : GEx X k gs σ (st :: rest) Q := by
  refine ⟨?_⟩
  intro A env M W s R Ow S
  refine wpAny_execs_cons (wpAny_mono (h.run A env M W s R Ow S) ?_ (fun _ _ f => f))
  rintro f s1 ⟨k1, O, hO, r, hq, hh⟩
  cases r with
  | next σ1 =>
    obtain ⟨rfl, S1⟩ := hh
    refine wpAny_mono (GEx.run hq A env (O ++ M) (O ++ W) s1 R Ow S1) ?_ (fun _ _ f => f)
    rintro f s2 ⟨k2, O2, hO2, r2, hq2, hh2⟩
    refine ⟨((k1.mono fun b hb => List.mem_append_right O hb).trans k2).fresh fun b hb => (List.mem_append.mp hb).elim (fun z => .inr (hO b z)) .inl, O2 ++ O, fun a ha => ?_, r2, hq2, by rw [List.append_assoc, List.append_assoc]; exact hh2⟩
    rcases List.mem_append.mp ha with z | z
    · refine k1.toKh.none (fun q => ?_) (hO2 a z)
      obtain ⟨o, e⟩ := S1.old a (S1.sub a (List.mem_append_right _ q))
      rw [hO2 a z] at e; exact noN e
    · exact hO a z
  | ret d => obtain ⟨v, rfl, hv⟩ := hh; exact ⟨k1, O, hO, .ret d, hq, v, rfl, hv⟩
  | brk σ1 => obtain ⟨rfl, S1⟩ := hh; exact ⟨k1, O, hO, .brk σ1, hq, rfl, S1⟩
  | cont σ1 => obtain ⟨rfl, S1⟩ := hh; exact ⟨k1, O, hO, .cont σ1, hq, rfl, S1⟩
theorem GEs.ite {test : Expr} {body orelse : List Stmt} {b : Bool} {Q : Res → Prop} (ht : Tr X k gs σ test b) (h1 : b = true → GEx X k gs σ body Q) (h2 : b = false → GEx X k gs σ orelse Q) : GEs X k gs σ (.If test body orelse pos) Q := by
  refine ⟨?_⟩
  intro A env M W s R Ow S
  refine wpAny_If (wpAny_mono (ht.run A env M W s R S) ?_ (fun _ _ f => f))
  intro t s1 y10; refine el0_2 (y10) fun y11 k1 => ?_; obtain rfl := y11
  have S1 := S.keep k1
  have go : ∀ {body : List Stmt}, GEx X k gs σ body Q → wpAny (model X.prog X.w) A (execs body env) (GFin X A env gs M W s Q) No s1 := fun h => by
    refine wpAny_mono (h.run A env M W s1 R Ow S1) ?_ (fun _ _ f => f)
    intro f s2 y12; refine el0_2 (y12) fun k2 y13 => ?_; refine el1_2 (y13) fun O hO hh => ?_
    exact ⟨k1.nil.trans k2, O, fun a ha => get_grow k1 (hO a ha), hh⟩
  cases t with
  | true => exact go (h1 rfl)
  | false => exact go (h2 rfl)
structure EvN (X : Cx) (k : Nat) (gs : Gm) (σ : Sto) (e : Expr) (ds : List V) : Prop where
  run : ∀ A env M W s, Room k A → St X A env gs M W σ s → wpAny (model X.prog X.w) A (eval e env) (fun v s' => ∃ D vs n, v = .ref D ∧ s.heap.get? D = none ∧ IsL s'.heap D vs n ∧ Rds (D :: W) s'.heap vs.toList ds ∧ Kp X.h0 [] s s') No s
theorem EvN.nil {p : Pos} : EvN X k gs σ (.List [] p) [] :=
  ⟨fun A env M W s R S => wpAny_List (spliced_nil ⟨Nat.zero_le _, _, #[], 0, rfl, get_new _, IsL.new _ _, .nil, Kp.push _ _⟩)⟩
theorem EvN.addL {l r : Expr} {xs ys : List V} (hl : Ev X k gs σ l (.list xs)) (hr : Ev X k gs σ r (.list ys)) (hz : xs.length + ys.length ≤ sizeLine) : EvN X k gs σ (.BinOp l .Add r pos) (xs ++ ys) := by
  refine ⟨?_⟩
  intro A env M W s R S
  refine wpAny_BinOp (wpAny_mono (hl.run A env M W s R S) ?_ (fun _ _ f => f))
  intro v s1 y14; refine el0_2 (y14) fun hv k1 => ?_
  refine wpAny_mono (hr.run A env M W s1 R (S.keep k1)) ?_ (fun _ _ f => f)
  intro w s2 y15; refine el0_2 (y15) fun hw k2 => ?_
  refine el3_4 ((hv.keep0 k2).listI) fun a vs n y16 la na ra => ?_; obtain rfl := y16
  refine el3_4 (hw.listI) fun b ws m y17 lb nb rb => ?_; obtain rfl := y17
  have hn := get_new s2.heap
  refine P.add_list la lb ⟨_, vs ++ ws, 0, rfl, get_grow (k1.trans k2) hn, IsL.new _ _, ?_, (k1.trans k2).trans (Kp.push _ _)⟩ (by rw [← Array.length_toList, ← Array.length_toList, ra.length, rb.length]; exact hz)
  have hr := (ra.append rb).weak (W' := s2.heap.objs.size :: W) fun c hc => (List.mem_cons.mp hc).elim (fun z => .inr (z ▸ hn)) .inl
  rw [← Array.toList_append] at hr
  exact hr.keep0 (B := X.h0) (s' := { s2 with heap := s2.heap.push _ }) (Kp.push _ _)
theorem EvN.view {D : Addr} {e : Expr} {ds : List V} (hv : View D σ τ) (he : EvN X k gs τ e ds) (hd : ∀ d ∈ ds, d.scalar = true) : EvN X k gs σ e ds := by
  refine ⟨?_⟩
  intro A env M W s R S
  refine wpAny_mono (he.run A env _ _ s R (S.view hv)) ?_ (fun _ _ f => f)
  rintro v s1 ⟨D', vs, n, h1, h2, h3, h4, h5⟩
  refine ⟨D', vs, n, h1, h2, h3, ?_, h5⟩
  clear h1 h2 h3 h5 he
  generalize vs.toList = l at h4
  induction ds generalizing l with
  | nil => obtain rfl := Rds.nilI h4; exact .nil
  | cons d ds ih =>
    cases h4 with | cons a b => exact .cons (a.scalar (hd d (.head _))) (ih (fun d h => hd d (.tail _ h)) _ b)
theorem GEs.own {x : Str} {p : Pos} {e : Expr} {ds : List V} {σ' : Addr → Sto} {Q : Res → Prop} (he : EvN X k gs σ e ds) (hu : ∀ D, Upd x (.own D ds) σ (σ' D)) (hq : ∀ D, Q (.next (σ' D)))
    (hs : ∀ env, swapsWith e (some (.Name x p)) pos.line env = pure false := by intro _; rfl) : GEs X k gs σ (.Assign [.Name x p] e pos) Q := by
  refine ⟨?_⟩
  intro A env M W s R O S
  refine wpAny_Assign_Name (wpAny_mono (he.run A env M W s R S) ?_ (fun _ _ f => f)) (hs env)
  intro v s1 y19; refine el3_5 (y19) fun D vs n y20 hD hl hr k1 => ?_; obtain rfl := y20
  have S1 := S.grow k1 hD ⟨_, hl⟩
  refine el0_3 (S.toBase.new0 hD) fun h0 ht hDW => ?_
  refine wpAny_mono (S1.storeV (E := No) (.own hl (.head _) ⟨h0, ht⟩ hr) (hu D)) ?_ (fun _ _ f => False.elim f)
  intro _ s2 y21; refine el0_2 (y21) fun S2 k2 => ?_
  exact ⟨(k1.nil.trans k2).fresh fun b hb => (List.mem_cons.mp hb).elim (fun z => .inr (z ▸ hD)) .inl, [D], fun a ha => by rw [List.mem_singleton.mp ha]; exact hD, _, hq D, rfl, S2⟩
theorem Es.setAt {x y : Str} {p p1 p2 : Pos} {e : Expr} {D : Addr} {ds : List V} {i : Nat} {d : V} {Q : Res → Prop} (h : (x, some (.own D ds)) ∈ σ) (hy : (y, some (N i)) ∈ σ) (he : Ev X k gs σ e d) (hi : i < ds.length) (hu : Upd x (.own D (ds.set i d)) σ σ')
    (h1 : ∀ y d', (y, some d') ∈ σ → y ≠ x → d'.isOwn = false) (hlen : ds.length ≤ sizeLine) (hq : Q (.next σ'))
    (hs : ∀ env, swapsWith e (some (.Subscript (.Name x p1) (.Name y p2) p)) pos.line env = pure false := by intro _; rfl) : Es X k gs σ (.Assign [.Subscript (.Name x p1) (.Name y p2) p] e pos) Q := by
  refine ⟨?_⟩
  intro A env M W s R O S
  refine wpAny_Assign_Subscript (wpAny_mono (he.run A env M W s R S) ?_ (fun _ _ f => f)) (hs env)
  intro v s1 y22; refine el0_2 (y22) fun hv k1 => ?_
  have S1 := S.keep k1
  refine el0_8 (S1.kinds h) fun y23 hM hn ht hL hC hNF hvar => ?_; refine el2_2 (y23) fun vs n l r => ?_
  have e16 : sizeLine = 16777216 := by decide
  have hsz : vs.size = ds.length := by rw [← r.length]; simp
  have fin : wpAny (model X.prog X.w) A (eval (.Name y p2) env) (fun iv s₃ => wpAny (model X.prog X.w) A (setItem (.ref D) iv v) (fun _ => Fin' X A env gs M W s Q .next) No s₃) No s1 := by
    refine wpAny_Name (S1.load hy rfl fun w hw => ?_) (S.loc y _ hy).2
    refine el1_1 (Rd.intI hw) fun _ y24 => ?_; obtain rfl := y24
    refine ki_setAt (n := n) l (by (exact Int.ofNat_nonneg _)) (by omega) (by omega) ?_
    generalize hh' : s1.heap.update D (Obj.mapSeq (·.setIfInBounds ((i : Int)).toNat v)) = h'
    have hs : ∀ b, b ≠ D → h'.get? b = s1.heap.get? b := fun b hb => hh' ▸ Heap.get?_update_other _ _ (Ne.symm hb)
    obtain ⟨n', l3⟩ : ∃ n', IsL h' D (vs.setIfInBounds ((i : Int)).toNat v) n' := ⟨_, hh' ▸ IsL.update l _⟩
    have K1 : Kp X.h0 [D] s1 { s1 with heap := h' } := Kp.of fun b o hb e => (hs b (by simpa using hb)).trans e
    have ka : ∀ b ∈ [D], b ∈ W := fun b hb => by rw [List.mem_singleton.mp hb]; exact S.sub _ hM
    have kL : env.locals ∉ [D] := fun q => hL (List.mem_singleton.mp q)
    have kC : ∀ n c, env.cells.lookup n = some c → c ∉ [D] := fun n c hc q => hC n c hc (List.mem_singleton.mp q)
    refine ⟨k1.nil.trans (K1.mono fun b hb => by rw [List.mem_singleton.mp hb]; exact hM), .next σ', hq, rfl, ?_⟩
    refine ⟨S1.toBase.keep K1 fun b hb => ?_, S1.toEnvK, S1.sub, S1.new, let ⟨m, q⟩ := S1.ns; ⟨m, K1.ns kL q⟩, S1.locM, fun y q hq => ?_, hu.fst ▸ S.nodup, fun y d' hy => ?_, fun y d' hy => ?_, fun n c hc => let ⟨⟨v, a⟩, b⟩ := S1.cells n c hc; ⟨⟨v, K1.cell (kC _ _ hc) a⟩, b⟩, S1.apart, S1.cs, fun x o y d h1 h2 => let ⟨o', q⟩ := hu.names x o h1; S1.dis x o' y d q h2⟩
    · rw [List.mem_singleton.mp hb]; exact ⟨hn, ⟨_, l3⟩, .inl hNF⟩
    · refine el1_1 (hu.names y q hq) fun o' h' => ?_; exact S1.loc y o' h'
    · rcases hu.get S.nodup y d' hy with ⟨rfl, rfl⟩ | ⟨hne, hm⟩
      · refine ⟨.ref D, hvar.keepH K1.toKh kL kC, .own l3 hM ⟨hn, ht⟩ ?_⟩
        rw [Array.toList_setIfInBounds, Int.toNat_natCast]
        refine Rds.keepH ?_ K1.toKh ka
        refine Rds.of_get (by rw [List.length_set, List.length_set, r.length]) fun j w d2 g1 g2 => ?_
        by_cases hj : j = i
        · subst hj
          rw [List.getElem?_set_self (by rw [Array.length_toList]; omega)] at g1
          rw [List.getElem?_set_self hi] at g2
          obtain rfl := Option.some.inj g1; obtain rfl := Option.some.inj g2; exact hv
        · rw [List.getElem?_set_ne (Ne.symm hj)] at g1 g2
          refine el1_2 (r.get g2) fun v' g3 g4 => ?_
          rw [g1] at g3; obtain rfl := Option.some.inj g3; exact g4
      · refine el1_2 (S1.vars y d' hm) fun w hw hr => ?_
        exact ⟨w, hw.keepH K1.toKh kL kC, .data ((hr.rd (h1 y d' hm hne)).keepH K1.toKh ka)⟩
    · refine el0_2 (S1.free y d' hy) fun y25 c => ?_; refine el1_2 (y25) fun w hw hr => ?_
      exact ⟨⟨w, hw.keepH K1.toKh kC, hr.keep K1 ka⟩, c⟩
  refine wpAny_Name ?_ (S.loc x _ h).2
  rcases hvar with ⟨hk, m, hn, hm⟩ | ⟨hk, c, hc, hi⟩
  · exact wpAny_loadName_local S.fn hk hn hm fin
  · exact wpAny_loadName_cell S.fn hk hc hi fin
end Mine
end
noncomputable section
namespace Mine
open PySem PySem.W PySem.Calls PyProof.Rows
variable {X : Cx} {A A0 : Around} {k : Nat} {gs gi : Gm} {σ σ' τ : Sto} {pos : Pos} {K : Frag}
theorem St.perm {env : Env} {M M' W W' : List Addr} {s : Shared} (S : St X A env gs M W σ s) (hM : ∀ a, a ∈ M ↔ a ∈ M') (hW : ∀ a, a ∈ W ↔ a ∈ W') : St X A env gs M' W' σ s := by
  have wk : ∀ b ∈ W', b ∈ W ∨ s.heap.get? b = none := fun b hb => .inl ((hW b).mpr hb)
  refine ⟨⟨S.base, (hW _).mp S.tabW, fun a ha => S.old a ((hW a).mpr ha), S.frs⟩, S.toEnvK, fun a ha => (hW a).mp (S.sub a ((hM a).mpr ha)), fun a ha => S.new a ((hM a).mpr ha), S.ns, (hM _).mp S.locM, fun y o hy => ?_, S.nodup, fun y d hy => ?_, fun y d hy => ?_,
    fun n c hc => let ⟨a, b, c'⟩ := S.cells n c hc; ⟨a, (hW _).mp b, c'⟩, S.apart, S.cs, S.dis⟩
  · refine el0_2 (S.loc y o hy) fun l hd => ?_
    refine ⟨?_, hd⟩
    cases l with
    | loc h => exact .loc h
    | cell c h1 h2 h3 => exact .cell c h1 h2 ((hM _).mp h3)
  · refine el1_2 (S.vars y d hy) fun v a b => ?_
    refine ⟨v, a, ?_⟩
    cases b with
    | data r => exact .data (r.weak wk)
    | own l m hn r => exact .own l ((hM _).mp m) hn (r.weak wk)
  · refine el0_2 (S.free y d hy) fun y1 c => ?_; refine el1_2 (y1) fun v a b => ?_
    exact ⟨⟨v, a, b.weak wk⟩, c⟩
theorem str_iter {s : Shared} {x : List Nat} {t : Tok} {E : Value → Shared → Prop} : wpAny (model X.prog X.w) A (pyIter (.str (txt x) t)) (fun it s2 => it = .ref s.heap.objs.size ∧ Kp X.h0 [] s s2 ∧
    ∃ P : Nat → Heap → Prop, P 0 s2.heap ∧ ∀ W', s.heap.objs.size ∈ W' → Itr X k W' it [s.heap.objs.size] (x.map fun c => T [c]) P) E s := by
  have e : signs (txt x) = x.map fun c => T [c] := by simp [signs]
  have go : ∀ (T : String) (hfr : T ≠ "frame") (hcls : (["enumerate", "zip", "dict_itemiterator", "dict_reverseitemiterator", "odict_iterator", "itertools.zip_longest", "itertools.pairwise"] : List String).contains T = false) (t : Tok)
      (hW : ∀ A : Around, A.handled = none → Walks X.prog X.w A s.heap.objs.size [s.heap.objs.size] [s.heap.objs.size] (txt x).cps.size (SignAt (txt x)) (fun i h => h.IsStrIter s.heap.objs.size T (txt x) t i)),
      (s.heap.push { cls := .type T, data := .fields #[.str (txt x) t, .int 0 0] }).IsStrIter s.heap.objs.size T (txt x) t 0 →
      Value.ref s.heap.objs.size = .ref s.heap.objs.size ∧ Kp X.h0 [] s { s with heap := s.heap.push { cls := .type T, data := .fields #[.str (txt x) t, .int 0 0] } } ∧
    ∃ P : Nat → Heap → Prop, P 0 (s.heap.push { cls := .type T, data := .fields #[.str (txt x) t, .int 0 0] }) ∧ ∀ W', s.heap.objs.size ∈ W' → Itr X k W' (.ref s.heap.objs.size) [s.heap.objs.size] (x.map fun c => Mine.T [c]) P := by
    intro T hfr hcls t hW h0
    refine ⟨rfl, Kp.push _ _, fun i h => h.IsStrIter s.heap.objs.size T (txt x) t i ∧ True ∧ i ≤ (txt x).cps.size, ⟨h0, trivial, Nat.zero_le _⟩, fun W' hw => ?_⟩
    rw [← e]
    refine Itr.ofWalks (D := fun _ => True) hW (fun a ha => by rw [List.mem_singleton.mp ha]; exact hw) (fun b hb => .inl hb) (by simp [signs]) (fun _ _ _ _ _ _ => trivial) (fun i v h hi hp _ => ?_) (fun i h st b hb => ?_) (fun i h st => ?_) (fun i h st b hb o e => ?_)
    · refine el2_2 (hp) fun c u hc y2 => ?_; obtain rfl := y2
      exact ⟨.str ⟨#[c]⟩, by have h : x[i]? = some c := (by simpa [signs] using hc); rw [List.getElem?_map, h]; rfl, .str _ _⟩
    · rw [List.mem_singleton.mp hb]; refine el1_2 (st) fun o ho _ => ?_; exact ⟨o, ho⟩
    · refine el1_3 (st) fun o ho hc _ => ?_; exact ⟨o, _, ho, hc, hcls⟩
    · refine el1_3 (st) fun o1 ho1 hc1 hd1 => ?_; rw [List.mem_singleton.mp hb, ho1] at e; obtain rfl := Option.some.inj e; intro es n q; rw [hd1] at q; cases q
  cases ha : (txt x).cps.all (· < 128)
  · exact wpAny_pyIter_wide ha (go _ (by decide) (by decide) _ (fun A' hA => Walks.strWide hA _ (txt x) _) ⟨_, Heap.get?_push_size _ rfl, rfl, rfl⟩)
  · exact wpAny_pyIter_ascii ha (go _ (by decide) (by decide) _ (fun A' hA => Walks.strAscii hA _ (txt x) _) ⟨_, Heap.get?_push_size _ rfl, rfl, rfl⟩)
theorem forStr_at {env : Env} {M W : List Addr} {s : Shared} {x : List Nat} {target iter : Expr} {body : List Stmt} (R : Room k A) (Ow : Own A env) (S : St X A env gs M W σ s)
    (hi : wpAny (model X.prog X.w) A (eval iter env) (fun v s1 => ∃ t, v = .str (txt x) t ∧ Kp X.h0 [] s s1) No s) (I : Nat → Sto → Prop) (h0 : I 0 σ) (Q : Sto → Prop)
    (step : ∀ i c σ, x[i]? = some c → I i σ → ∃ σ1, As X k gs target (T [c]) σ σ1 ∧ GEx X k gs σ1 body (fun r => match r with
      | .next σ2 | .cont σ2 => ∃ σ3, Le σ2 σ3 ∧ I (i + 1) σ3
      | .brk σ2 => Q σ2
      | .ret _ => False))
    (done : ∀ σ, I x.length σ → Q σ) (hs : ∀ env x, foldedSetIterable iter env x = pure x := by intro _ _; rfl) :
    wpAny (model X.prog X.w) A (exec (.For target iter body [] pos) env) (fun f s' => f = .next ∧ Kp X.h0 M s s' ∧ ∃ O σ', (∀ a ∈ O, s.heap.get? a = none) ∧ Q σ' ∧ St X A env gs (O ++ M) (O ++ W) σ' s') No s := by
  refine wpAny_For (wpAny_mono hi ?_ (fun _ _ f => f)) (hs env)
  intro v s1 y3; refine el1_2 (y3) fun t y4 k1 => ?_; obtain rfl := y4
  refine wpAny_mono (str_iter (k := k) (E := No)) ?_ (fun _ _ f => False.elim f)
  intro it s2 y5; refine el0_3 (y5) fun y6 k2 y7 => ?_; obtain rfl := y6; refine el1_2 (y7) fun P hP hT => ?_
  have hf1 : s1.heap.get? s1.heap.objs.size = none := get_new _
  generalize s1.heap.objs.size = f at hT hf1
  have hf : s.heap.get? f = none := get_grow k1 hf1
  refine el0_3 (S.toBase.new0 hf) fun hx0 hxt hfW => ?_
  have K2 := k1.trans k2
  have hlive := (hT [f] (.head _)).live 0 _ hP
  have S2 : St X A env gs M (f :: W) σ s2 := (S.keep K2).wide (O := [f]) hlive s (fun a ha => by rw [List.mem_singleton.mp ha]; exact hf) S K2
  have hfM : f ∉ M := fun q => hfW (S.sub f q)
  have hfL : f ≠ env.locals := fun e => hfW (e ▸ S.sub _ S.locM)
  have hfC : ∀ n, env.cells.lookup n ≠ some f := fun n e => hfW (S.cells n f e).2.1
  have hfN : NF A f := S.nf hf
  refine codeAny_forLoop_any (fun n s' => ∃ i O σ', n = x.length + 1 - i ∧ i ≤ x.length ∧ (∀ a ∈ O, s.heap.get? a = none ∧ a ≠ f) ∧ Kp X.h0 (f :: M) s s' ∧ I i σ' ∧ St X A env gs (O ++ M) (f :: (O ++ W)) σ' s' ∧ P i s'.heap) ?_ (x.length + 1) ⟨0, [], σ, rfl, Nat.zero_le _, nofun, K2.nil, h0, S2, hP⟩
  rintro n s3 ⟨i, O, σ3, rfl, hle, hO, K3, hI3, S3, hP3⟩
  have T := hT (f :: (O ++ W)) (.head _)
  have hOM : ∀ a ∈ O ++ M, a ∈ f :: (O ++ W) ∧ a ∉ [f] := fun a ha => ⟨S3.sub a ha, fun q => by
    rw [List.mem_singleton.mp q] at ha
    rcases List.mem_append.mp ha with z | z
    · exact (hO f z).2 rfl
    · exact hfM z⟩
  have own1 : ∀ (s' : Shared), (∃ o, s'.heap.get? f = some o) → ∀ a ∈ [f], a ∈ f :: (O ++ W) ∧ X.h0.get? a = none ∧ (∃ o, s'.heap.get? a = some o) ∧ a ≠ env.locals ∧ (∀ n, env.cells.lookup n ≠ some a) ∧ NF A a ∧ a ∉ O ++ M := fun s' hl a ha => by
    rw [List.mem_singleton.mp ha]
    exact ⟨.head _, hx0, hl, hfL, hfC, hfN, fun q => (hOM f q).2 (.head _)⟩
  have fin : ∀ {s'}, Kp X.h0 (f :: M) s s' → Kp X.h0 M s s' := fun K => K.fresh fun b hb => (List.mem_cons.mp hb).elim (fun h => .inr (h ▸ hf)) .inl
  have hsub : ∀ {O' : List Addr} {σ' s'}, St X A env gs (O' ++ M) (f :: (O' ++ W)) σ' s' → (∀ a ∈ O', a ≠ f) → (∀ a ∈ O' ++ M, a ∈ O' ++ W) ∧ X.tab ∈ O' ++ W ∧ ∀ n c, env.cells.lookup n = some c → c ∈ O' ++ W := fun S' hO' =>
    ⟨fun a ha => (List.mem_append.mp ha).elim (fun z => List.mem_append_left _ z) fun z => List.mem_append_right _ (S.sub a z), List.mem_append_right _ S.tabW, fun n c h => List.mem_append_right _ (S.cells n c h).2.1⟩
  refine wpAny_mono (T.next A i s3 R S3.toBase hP3) ?_ (fun _ _ f => f.elim)
  intro r s4 y8; refine el0_2 (y8) fun k4 hr => ?_
  have K4 : Kp X.h0 (f :: M) s s4 := K3.trans (k4.mono fun b hb => by rw [List.mem_singleton.mp hb]; exact .head _)
  cases hd : (x.map fun c => Mine.T [c])[i]? with
  | none =>
    rw [hd] at hr
    subst hr
    have hi : i = x.length := Nat.le_antisymm hle (by rw [List.getElem?_eq_none_iff, List.length_map] at hd; exact hd)
    subst hi
    refine el0_3 (hsub S3 fun a ha => (hO a ha).2) fun q1 q2 q3 => ?_
    exact wpAny_execs_nil ⟨rfl, fin K4, O, σ3, fun a ha => (hO a ha).1, done σ3 hI3, St.keepN (O := [f]) S3 k4 q1 q2 q3 fun a ha => by
      rw [List.mem_singleton.mp ha]
      exact ⟨fun q => (List.mem_append.mp q).elim (fun z => (hO f z).2 rfl) hfW, hx0, hfN⟩⟩
  | some d =>
    rw [hd] at hr
    refine el1_3 (hr) fun v y9 hv hP4 => ?_; obtain rfl := y9
    obtain ⟨c, hc, rfl⟩ : ∃ c, x[i]? = some c ∧ Mine.T [c] = d := by simpa using hd
    have hlt : i < x.length := (List.getElem?_eq_some_iff.mp hc).1
    have S4 : St X A env gs (O ++ M) (f :: (O ++ W)) σ3 s4 := S3.keepM k4 (own1 s4 (T.live _ _ hP4 f (.head _)))
    refine wpAny_mono (T.go A target (i + 1) s4 v R S4.toBase hP4) ?_ (fun _ _ f => f.elim)
    intro _ s5 y10; refine el0_2 (y10) fun k5 hP5 => ?_
    have S5 : St X A env gs (O ++ M) (f :: (O ++ W)) σ3 s5 := S4.keepM k5 (own1 s5 (T.live _ _ hP5 f (.head _)))
    have K5 : Kp X.h0 (f :: M) s s5 := K4.trans (k5.mono fun b hb => by rw [List.mem_singleton.mp hb]; exact .head _)
    obtain ⟨σ5, has, hex⟩ := step i c σ3 hc hI3
    refine wpAny_mono (has.run A env _ _ s5 v R S5 (hv.keep k5 T.sub)) ?_ (fun _ _ f => f.elim)
    intro _ s6 y11; refine el0_2 (y11) fun S6 k6 => ?_
    refine wpAny_mono (hex.run A env _ _ s6 R Ow S6) ?_ (fun _ _ f => f.elim)
    intro q s7 y12; refine el0_2 (y12) fun k7 y13 => ?_; refine el1_2 (y13) fun O2 hO2 y101 => ?_; refine el1_2 (y101) fun rr hq hh => ?_
    have k67 := k6.trans k7
    have K7 : Kp X.h0 (f :: M) s s7 := ((K5.mono (M' := f :: M ++ O) fun b hb => List.mem_append_left _ hb).trans (k67.mono fun b hb => (List.mem_append.mp hb).elim (fun z => List.mem_append_right _ z) fun z => List.mem_append_left _ (.tail _ z))).fresh
      fun b hb => (List.mem_append.mp hb).elim .inl fun z => .inr (hO b z).1
    have hP7 : P (i + 1) s7.heap := T.frame (O ++ M) (i + 1) _ _ hOM (fun b o hb e => let ⟨o', e', q⟩ := k67.heap b o hb e; ⟨o', e', q.loose⟩) hP5
    have hf6 : ∃ o, s6.heap.get? f = some o := S6.old f (.head _)
    have hO' : ∀ a ∈ O2 ++ O, s.heap.get? a = none ∧ a ≠ f := fun a ha => by
      rcases List.mem_append.mp ha with z | z
      · refine ⟨?_, fun e => by refine el1_1 (hf6) fun o q => ?_; rw [e] at z; rw [hO2 f z] at q; exact noN q⟩
        have Kx : Kp X.h0 (f :: M ++ O) s s6 := (K5.mono (M' := f :: M ++ O) fun b hb => List.mem_append_left _ hb).trans (k6.mono fun b hb => (List.mem_append.mp hb).elim (fun z => List.mem_append_right _ z) fun z => List.mem_append_left _ (.tail _ z))
        refine Kx.toKh.none (fun q => ?_) (hO2 a z)
        have : ∃ o, s6.heap.get? a = some o := by
          rcases List.mem_append.mp q with w | w
          · rcases List.mem_cons.mp w with w | w
            · rw [w]; exact hf6
            · exact S6.old a (S6.sub a (List.mem_append_right _ w))
          · exact S6.old a (S6.sub a (List.mem_append_left _ w))
        refine el1_1 (this) fun o e => ?_
        rw [hO2 a z] at e; exact noN e
      · exact hO a z
    have hp : ∀ {σ'}, St X A env gs (O2 ++ (O ++ M)) (O2 ++ (f :: (O ++ W))) σ' s7 → St X A env gs ((O2 ++ O) ++ M) (f :: ((O2 ++ O) ++ W)) σ' s7 := fun S' => S'.perm (fun a => by simp [or_assoc]) (fun a => by simp only [List.mem_append, List.mem_cons, or_assoc]; constructor <;> (intro h; rcases h with h | h | h | h <;> simp [h]))
    cases rr with
    | next σ7 =>
      refine el0_2 (hh) fun y14 S7 => ?_; obtain rfl := y14
      obtain ⟨σ8, hl, hI⟩ := hq
      exact ⟨x.length + 1 - (i + 1), Nat.sub_lt_sub_left (Nat.lt_succ_of_lt hlt) (Nat.lt_succ_self i), i + 1, O2 ++ O, σ8, rfl, hlt, hO', K7, hI, (hp S7).weak hl, hP7⟩
    | cont σ7 =>
      refine el0_2 (hh) fun y15 S7 => ?_; obtain rfl := y15
      obtain ⟨σ8, hl, hI⟩ := hq
      exact ⟨x.length + 1 - (i + 1), Nat.sub_lt_sub_left (Nat.lt_succ_of_lt hlt) (Nat.lt_succ_self i), i + 1, O2 ++ O, σ8, rfl, hlt, hO', K7, hI, (hp S7).weak hl, hP7⟩
    | brk σ7 =>
      refine el0_2 (hh) fun y16 S7 => ?_; obtain rfl := y16
      refine el0_3 (hsub (hp S7) fun a ha => (hO' a ha).2) fun q1 q2 q3 => ?_
      exact ⟨rfl, fin K7, O2 ++ O, σ7, fun a ha => (hO' a ha).1, hq, St.narrow (O := [f]) (hp S7) q1 q2 q3⟩
    | ret d => exact hq.elim
end Mine
end
noncomputable section
namespace Mine
open PySem PySem.W PySem.Calls PyProof.Rows
variable {X : Cx} {A A0 : Around} {k : Nat} {gs gi : Gm} {σ σ' τ : Sto} {pos : Pos} {K : Frag}
theorem foldl_one (c : Value) : ∀ (n : Nat) (acc : Array Value), (List.replicate n #[c]).foldl (fun x1 x2 => x1 ++ x2) acc = acc ++ (List.replicate n c).toArray
  | 0, acc => by simp
  | n + 1, acc => by
    rw [List.replicate_succ, List.foldl_cons, foldl_one c n]
    apply Array.toList_inj.mp
    simp [List.replicate_succ]
theorem rds_rep {W : List Addr} {h : Heap} {v : Value} {d : V} (r : Rd W h v d) : ∀ n, Rds W h (List.replicate n v) (List.replicate n d)
  | 0 => .nil
  | n + 1 => .cons r (rds_rep r n)
theorem mulL_exact {s : Shared} {l : Addr} {items : Array Value} {n : Nat} {x : Int} {u : Tok} {E : Value → Shared → Prop} {Q : Value → Shared → Prop} (hl : IsL s.heap l items n) (h1 : -(2 ^ 63 : Int) ≤ x) (h2 : x < 2 ^ 63) (h3 : items.size * x.toNat ≤ 16777216)
    (h : Q (.ref s.heap.objs.size) { s with heap := s.heap.push { cls := .type "list", data := .seq (List.foldl (fun x1 x2 => x1 ++ x2) #[] (List.replicate (if items.isEmpty = true then 0 else x.toNat) items)) } }) :
    wpAny (model X.prog X.w) A (binaryOp .Mult (.ref l) (.int x u)) Q E s := by
  have g1 : ¬(!Builtin.List.listFitsIndex x) = true := by simp [Builtin.List.listFitsIndex]; lia
  have g2 : ¬items.size * x.toNat > (2 ^ 63 - 1) / 8 := by lia
  have g3 : ¬Builtin.List.listTooLong (items.size * x.toNat) = true := by simp [Builtin.List.listTooLong, sizeLine]; lia
  exact wpAny_binaryOp_repeat_ref (T := "list") (U := "int") (by decide) ⟨_, hl, rfl⟩ (fun s' => typeIs_int s' x u) noFill_list_mul F.fills_int_mul F.slot_int_rmul repeat_list F.slot_int_index.lookup
    (call_meets F.slot_int_rmul (typeIs_int s x u) F.entry_int_rmul (F.args_int_rmul_2 _ _) (int___rmul___int_list x u l items n)
      ⟨hl, rfl, ⟨_, hl, rfl⟩, call_meets F.slot_list_mul ⟨_, hl, rfl⟩ F.entry_list_mul (F.args_list_mul_2 _ _) (AutoListH.list___mul___list_int_3 l items n x u g1 g2 g3) ⟨hl, h⟩⟩)
theorem Op2.mulL {d : V} {n : Nat} (hn : n ≤ 16777216) : Op2 X k (binaryOp .Mult) (.list [d]) (N n) (.list (List.replicate n d)) := by
  refine ⟨?_⟩
  intro A W s v w R B hv hw
  refine el1_1 (Rd.intI hw) fun t y1 => ?_; obtain rfl := y1
  refine el3_4 (hv.listI) fun a y2 m y3 la na ra => ?_; obtain ⟨vs⟩ := y2; obtain rfl := y3
  obtain ⟨c, rfl, r1⟩ : ∃ c, vs = [c] ∧ Rd W s.heap c d := by
    change Rds W s.heap vs [d] at ra
    refine el1_2 (Rds.i1 ra) fun _ y4 r1 => ?_; obtain rfl := y4; exact ⟨_, rfl, r1⟩
  have hz : [c].toArray.size * ((n : Int)).toNat ≤ 16777216 := by
    rw [Int.toNat_natCast]; simp only [List.size_toArray, List.length_cons, List.length_nil]; lia
  refine mulL_exact la (by (exact Int.ofNat_nonneg _)) (by lia) hz ?_
  have e : (List.foldl (fun x1 x2 => x1 ++ x2) #[] (List.replicate (if ([c].toArray).isEmpty = true then 0 else ((n : Int)).toNat) [c].toArray)) = (List.replicate n c).toArray := by
    rw [if_neg (by simp), Int.toNat_natCast]
    have := foldl_one c n #[]
    simpa using this
  have hr := Rd.newList (vs := (List.replicate n c).toArray) (s := s) B.old (rds_rep r1 n)
  exact ⟨e ▸ hr, Kp.push _ _⟩
structure InI (W : List Addr) (s : Shared) (x dx C : Addr) (vals : List (Str × V)) : Prop where
  obj : s.heap.get? x = some (instObj C dx)
  dict : ∃ m, s.heap.Ns1 dx m ∧ (∀ y, m y ≠ none → y ∈ wsNames) ∧ ∀ n d, (n, d) ∈ vals → ∃ v, m n = some v ∧ Rd W s.heap v d
theorem InI.keep {W M : List Addr} {s s' : Shared} {x dx C : Addr} {vals : List (Str × V)} {B : Heap} (I : InI W s x dx C vals) (K : Kp B M s s') (hM : ∀ a ∈ M, a ∈ W) (hx : x ∉ M) (hdx : dx ∉ M) : InI W s' x dx C vals := by
  obtain ⟨h1, m, ⟨o, es, ep, h2, hd, hr⟩, h3, h4⟩ := I
  refine ⟨K.get hx h1 nofun, m, ?_, h3, fun n d q => let ⟨v, a, b⟩ := h4 n d q; ⟨v, a, b.keep K hM⟩⟩
  refine el1_3 (K.dat hdx h2) fun o' e' _ d' => ?_
  exact ⟨o', es, ep, e', d'.trans hd, hr⟩
theorem InI.weak {W W' : List Addr} {s : Shared} {x dx C : Addr} {vals : List (Str × V)} (I : InI W s x dx C vals) (h : ∀ n d, (n, d) ∈ vals → ∀ v, Rd W s.heap v d → Rd W' s.heap v d) : InI W' s x dx C vals :=
  ⟨I.obj, let ⟨m, a, b, c⟩ := I.dict; ⟨m, a, b, fun n d q => let ⟨v, e, r⟩ := c n d q; ⟨v, e, h n d q v r⟩⟩⟩
theorem setF_at {D : Ad} (P : PK X D K) {env : Env} {M W : List Addr} {s : Shared} {x dx : Addr} {vals : List (Str × V)} {name sx : Str} {p1 p2 : Pos} {value : Expr} {d : V} (R : Room k A) (S : St X A env gs M W σ s) (hself : (sx, some (.opq (.ref x))) ∈ σ)
    (I : InI W s x dx D.ws vals) (hv : Ev X k gs σ value d) (hn : name ∈ wsNames) (hnew : ∀ d, (name, d) ∉ vals) (hdx : dx ∈ W ∧ X.h0.get? dx = none ∧ NF A dx ∧ dx ∉ M) (hx : x ∉ M) (hne : x ≠ dx) (hloc : dx ≠ env.locals ∧ ∀ n, env.cells.lookup n ≠ some dx)
    (hs : ∀ env, swapsWith value (some (.Attribute (.Name sx p1) name p2)) pos.line env = pure false := by intro _; rfl) :
    wpAny (model X.prog X.w) A (exec (.Assign [.Attribute (.Name sx p1) name p2] value pos) env) (fun f s' => f = .next ∧ Kp X.h0 [dx] s s' ∧ St X A env gs M W σ s' ∧ InI W s' x dx D.ws ((name, d) :: vals)) No s := by
  refine plainObj_wpAny_Assign_Attribute (wpAny_mono (hv.run A env M W s R S) ?_ (fun _ _ f => f)) (hs env)
  intro v s1 y9; refine el0_2 (y9) fun hr k1 => ?_
  have S1 := S.keep k1
  have I1 := I.keep k1 nofun nofun nofun
  refine wpAny_Name (S1.load hself rfl fun w hw => ?_) (S.loc sx _ hself).2
  cases hw
  obtain ⟨h1, m, h2, h3, h4⟩ := I1
  refine set_field P S1.toBase h1 h2 h3 hn fun h' tk hn' hsb => ?_
  have K2 : Kp X.h0 [dx] s1 { s1 with heap := h', toks := tk } := Kp.of fun b o hb e => (hsb.2 b (by simpa using hb)).trans e
  have ka : ∀ b ∈ [dx], b ∈ W := fun b hb => by rw [List.mem_singleton.mp hb]; exact hdx.1
  have live : ∃ o, h'.get? dx = some o := let ⟨o, _, _, e, _⟩ := hn'; ⟨o, e⟩
  refine ⟨rfl, k1.nil.trans K2, S1.keepM K2 fun a ha => ?_, (hsb.2 x hne).trans h1, _, hn', fun y hy => ?_, fun n e hm => ?_⟩
  · rw [List.mem_singleton.mp ha]
    exact ⟨hdx.1, hdx.2.1, live, hloc.1, hloc.2, hdx.2.2⟩
  · by_cases q : y = name
    · subst q; exact hn
    · rw [if_neg q] at hy; exact h3 y hy
  · rcases List.mem_cons.mp hm with q | q
    · cases q
      exact ⟨v, by simp, hr.keep K2 ka⟩
    · have hne' : n ≠ name := fun z => hnew e (z ▸ q)
      refine el1_2 (h4 n e q) fun v' a b => ?_
      exact ⟨v', by simp [hne', a], b.keep K2 ka⟩
inductive TupOnly : V → Prop
  | none : TupOnly .none
  | bool (b : Bool) : TupOnly (.bool b)
  | int (i : Int) : TupOnly (.int i)
  | str (x : Str) : TupOnly (.str x)
  | tup (ds : List V) : (∀ d ∈ ds, TupOnly d) → TupOnly (.tup ds)
theorem Rd.wideT {W W' : List Addr} {h : Heap} (hk : ∀ a ∈ W', a ∈ W ∨ ∀ vs n, ¬ IsT h a vs n) {d : V} (ht : TupOnly d) : ∀ {v : Value}, Rd W h v d → Rd W' h v d := by
  induction ht with
  | none => intro v r; cases r; exact .none
  | bool b => intro v r; obtain rfl := Rd.boolI r; exact .bool _
  | int i => intro v r; obtain ⟨_, rfl⟩ := Rd.intI r; exact .int _ _
  | str x => intro v r; obtain ⟨_, rfl⟩ := Rd.strI r; exact .str _ _
  | tup ds hd ih =>
    intro v r
    obtain ⟨a, vs, n, rfl, l, na, r⟩ := r.tupI
    refine .tup l (fun q => (hk _ q).elim na fun z => z _ _ l) ?_
    exact Rds.of_get r.length fun i w d h1 h2 => by
      obtain ⟨w', h3, h4⟩ := r.get h2
      rw [h1] at h3; obtain rfl := Option.some.inj h3
      exact ih d (List.mem_of_getElem? h2) h4
theorem Ev.viewT {D : Addr} {e : Expr} {d : V} (hv : View D σ τ) (he : Ev X k gs τ e d) (hd : TupOnly d) : Ev X k gs σ e d := by
  refine ⟨?_⟩
  intro A env M W s R S
  refine el2_1 (hv.has) fun x0 ds0 h0 => ?_
  refine el0_2 (S.kinds h0) fun y13 _ => ?_; refine el2_2 (y13) fun vs n l _ => ?_
  refine wpAny_mono (he.run A env _ _ s R (S.view hv)) ?_ (fun _ _ f => f)
  intro v s1 y14; refine el0_2 (y14) fun h1 k1 => ?_
  refine ⟨h1.wideT (fun a ha => ?_) hd, k1⟩
  by_cases q : a = D
  · subst q
    refine .inr fun vs' n' z => ?_
    have := k1.get nofun l nofun
    rw [show s1.heap.get? a = _ from z] at this
    have := congrArg (fun o : Option Obj => o.map (·.cls)) this
    simp at this
  · exact .inl (List.mem_filter.mpr ⟨ha, by simpa using q⟩)
theorem Ev.cls {D : Ad} (P : PK X D K) {x name : Str} {c : Nat} {np : Pos} (hg : x ∈ gs.gs) (hx : (x, Value.ref D.ws) ∈ X.gl) (h : ∃ t, findCls K (.ref D.ws) (.type "type") name = some (.val (.str (Mine.txt [c]) t)))
    (hat : ∀ env, eval (.Attribute (.Name x np) name pos) env = (do
      let o ← eval (.Name x np) env
      standAt pos.atName
      let r ← holding [o] (getAttr o name true)
      letTemporaryGo (.Name x np) o r
      pure r) := by intro _; rfl) : Ev X k gs σ (.Attribute (.Name x np) name pos) (T [c]) := by
  refine ⟨?_⟩
  intro A env M W s R S
  refine el1_1 (h) fun t ht => ?_
  refine Attribute_any_ (glob_at P.toXOk hg hx S ?_) (hat env)
  exact cls_value (P.at S.toBase) P.kc.reads ht rfl ⟨.str _ _, Kp.toks _ _⟩
end Mine
end
noncomputable section
namespace Mine
open PySem PySem.W PySem.Calls PyProof.Rows
variable {X : Cx} {A A0 : Around} {k : Nat} {gs gi : Gm} {σ σ' τ : Sto} {pos : Pos} {K : Frag}
structure Ws4 where
  n : Nat
  nt : Nat
  count : List Nat
  b : Nat
noncomputable def stretch (count : List Nat) (b : Nat) : List Nat := if count.length ≤ b then count ++ List.replicate (b - count.length + 1) 0 else count
noncomputable def bump (count : List Nat) (b : Nat) : List Nat := (stretch count b).set b ((stretch count b).getD b 0 + 1)
noncomputable def wsStep (st : Ws4) (c : Nat) : Ws4 := if c = 32 then ⟨st.n + 1, st.nt, st.count, st.b + 1⟩ else ⟨st.n + 1, st.nt + 1, bump st.count st.b, 0⟩
noncomputable def wsRun (text : List Nat) : Ws4 := text.foldl wsStep ⟨0, 0, [], 0⟩
noncomputable def wsD (raw text : List Nat) : WsD := ⟨txt raw, (wsRun text).n, (wsRun text).nt, (wsRun text).count, (wsRun text).b⟩
theorem stretch_len (count : List Nat) (b : Nat) : b < (stretch count b).length := by
  unfold stretch; split
  · rw [List.length_append, List.length_replicate]; lia
  · (exact Nat.lt_of_not_le (by assumption))
theorem bump_len (count : List Nat) (b m : Nat) (h1 : count.length ≤ m) (h2 : b < m) : (bump count b).length ≤ m := by
  unfold bump stretch; rw [List.length_set]; split
  · rw [List.length_append, List.length_replicate]; lia
  · lia
theorem wsRun_take {text : List Nat} {i c : Nat} (h : text[i]? = some c) : wsRun (text.take (i + 1)) = wsStep (wsRun (text.take i)) c := by
  unfold wsRun
  rw [List.take_add_one, h, List.foldl_append]; rfl
theorem wsRun_bound (text : List Nat) : ∀ i, i ≤ text.length → (wsRun (text.take i)).b ≤ i ∧ (wsRun (text.take i)).count.length ≤ i ∧ (wsRun (text.take i)).n ≤ i
  | 0, _ => by simp [wsRun]
  | i + 1, h => by
    refine el0_3 (wsRun_bound text i (by (exact Nat.le_of_lt (by assumption)))) fun h1 h2 h3 => ?_
    have hc : text[i]? = some text[i] := List.getElem?_eq_getElem (by assumption)
    rw [wsRun_take hc]
    unfold wsStep
    split
    · exact ⟨Nat.succ_le_succ h1, Nat.le_succ_of_le h2, Nat.succ_le_succ h3⟩
    · exact ⟨Nat.zero_le _, bump_len _ _ _ (by (exact Nat.le_succ_of_le (by assumption))) (by (exact Nat.lt_succ_of_le (by assumption))), Nat.succ_le_succ h3⟩
structure CS (X : Cx) (A : Around) (env : Env) (gs : Gm) (W0 : List Addr) (x dx C : Addr) (s0 : Shared) (σ : Sto) (vals : List (Str × V)) (s : Shared) : Prop where
  ex : ∃ M, (∀ b ∈ M, s0.heap.get? b = none) ∧ Kp X.h0 (dx :: M) s0 s ∧ St X A env gs M (M ++ W0) σ s ∧ InI (M ++ W0) s x dx C vals
structure CE (X : Cx) (A : Around) (W0 : List Addr) (x dx : Addr) (s0 : Shared) : Prop where
  xW : x ∈ W0
  dW : dx ∈ W0
  ne : x ≠ dx
  h0 : X.h0.get? dx = none
  nf : NF A dx
  old : ∀ a ∈ W0, ∃ o, s0.heap.get? a = some o
section
variable {env : Env} {W0 : List Addr} {x dx C : Addr} {s0 s : Shared} {vals : List (Str × V)}
theorem CE.out {M : List Addr} (E : CE X A W0 x dx s0) (h : ∀ b ∈ M, s0.heap.get? b = none) : ∀ a ∈ W0, a ∉ M := fun a ha q => by
  refine el1_1 (E.old a ha) fun o e => ?_
  rw [h a q] at e; exact noN e
theorem CS.g {st : Stmt} {Q : Sto → Prop} (E : CE X A W0 x dx s0) (Cc : CS X A env gs W0 x dx C s0 σ vals s) (R : Room k A) (Ow : Own A env) (hsc : ∀ n d, (n, d) ∈ vals → d.scalar = true) (h : GEs X k gs σ st fun r => ∃ σ', r = .next σ' ∧ Q σ') :
    wpAny (model X.prog X.w) A (exec st env) (fun f s' => f = .next ∧ ∃ σ', Q σ' ∧ CS X A env gs W0 x dx C s0 σ' vals s') No s := by
  refine el1_4 (Cc.ex) fun M hM K0 S I => ?_
  refine wpAny_mono (h.run A env M _ s R Ow S) ?_ (fun _ _ f => f)
  rintro f s1 ⟨k1, O, hO, r, ⟨σ', rfl, hq⟩, hh⟩
  refine el0_2 (hh) fun y1 S1 => ?_; obtain rfl := y1
  have hO0 : ∀ a ∈ O, s0.heap.get? a = none := fun a ha => by
    refine K0.toKh.none (fun q => ?_) (hO a ha)
    have : ∃ o, s.heap.get? a = some o := by
      rcases List.mem_cons.mp q with z | z
      · rw [z]; exact S.old dx (List.mem_append_right _ E.dW)
      · exact S.old a (List.mem_append_left _ z)
    refine el1_1 (this) fun o e => ?_
    rw [hO a ha] at e; exact noN e
  refine ⟨rfl, σ', hq, ⟨O ++ M, fun b hb => (List.mem_append.mp hb).elim (hO0 b) (hM b), ?_, by rw [List.append_assoc]; exact S1, ?_⟩⟩
  · exact (K0.trans (k1.mono fun b hb => .tail _ hb)).mono fun b hb => (List.mem_cons.mp hb).elim (fun z => z ▸ .head _) fun z => .tail _ (List.mem_append_right _ z)
  · have I1 := I.keep k1 S.sub (E.out hM _ E.xW) (E.out hM _ E.dW)
    exact I1.weak fun n d q v r => r.scalar (hsc n d q)
theorem CS.set {D : Ad} (P : PK X D K) {name sx : Str} {p1 p2 : Pos} {value : Expr} {d : V} (E : CE X A W0 x dx s0) (Cc : CS X A env gs W0 x dx D.ws s0 σ vals s) (R : Room k A) (hself : (sx, some (.opq (.ref x))) ∈ σ)
    (hv : Ev X k gs σ value d) (hn : name ∈ wsNames) (hnew : ∀ d, (name, d) ∉ vals)
    (hs : ∀ env, swapsWith value (some (.Attribute (.Name sx p1) name p2)) pos.line env = pure false := by intro _; rfl) :
    wpAny (model X.prog X.w) A (exec (.Assign [.Attribute (.Name sx p1) name p2] value pos) env) (fun f s' => f = .next ∧ CS X A env gs W0 x dx D.ws s0 σ ((name, d) :: vals) s') No s := by
  refine el1_4 (Cc.ex) fun M hM K0 S I => ?_
  have hcell : ∀ n, env.cells.lookup n ≠ some dx := fun n e => by
    refine el3_3 (I.dict.choose_spec.1) fun o es ep ho hd _ => ?_
    refine el0_2 (S.cells n dx e) fun y2 _ => ?_; refine el2_2 (y2) fun v o' e' d' => ?_
    rw [ho] at e'; obtain rfl := Option.some.inj e'
    rw [hd] at d'; cases d'
  refine wpAny_mono (setF_at P R S hself I hv hn hnew ⟨List.mem_append_right _ E.dW, E.h0, E.nf, E.out hM _ E.dW⟩ (E.out hM _ E.xW) E.ne ⟨fun e => E.out hM _ E.dW (e ▸ S.locM), hcell⟩ hs) ?_ (fun _ _ f => f)
  intro f s1 y3; refine el0_4 (y3) fun y4 k1 S1 I1 => ?_; obtain rfl := y4
  exact ⟨rfl, M, hM, K0.trans (k1.mono fun b hb => by rw [List.mem_singleton.mp hb]; exact .head _), S1, I1⟩
theorem CS.for {target iter : Expr} {body : List Stmt} {xs : List Nat} (E : CE X A W0 x dx s0) (Cc : CS X A env gs W0 x dx C s0 σ vals s) (R : Room k A) (Ow : Own A env) (hsc : ∀ n d, (n, d) ∈ vals → d.scalar = true)
    (hi : ∀ M, St X A env gs M (M ++ W0) σ s → InI (M ++ W0) s x dx C vals → wpAny (model X.prog X.w) A (eval iter env) (fun v s1 => ∃ t, v = .str (txt xs) t ∧ Kp X.h0 [] s s1) No s) (I : Nat → Sto → Prop) (h0 : I 0 σ) (Q : Sto → Prop)
    (step : ∀ i c σ, xs[i]? = some c → I i σ → ∃ σ1, As X k gs target (T [c]) σ σ1 ∧ GEx X k gs σ1 body (fun r => match r with
      | .next σ2 | .cont σ2 => ∃ σ3, Le σ2 σ3 ∧ I (i + 1) σ3
      | .brk σ2 => Q σ2
      | .ret _ => False))
    (done : ∀ σ, I xs.length σ → Q σ) (hs : ∀ env x, foldedSetIterable iter env x = pure x := by intro _ _; rfl) :
    wpAny (model X.prog X.w) A (exec (.For target iter body [] pos) env) (fun f s' => f = .next ∧ ∃ σ', Q σ' ∧ CS X A env gs W0 x dx C s0 σ' vals s') No s := by
  refine el1_4 (Cc.ex) fun M hM K0 S In => ?_
  refine wpAny_mono (forStr_at R Ow S (hi M S In) I h0 Q step done hs) ?_ (fun _ _ f => f)
  rintro f s1 ⟨rfl, k1, O, σ', hO, hq, S1⟩
  have hO0 : ∀ a ∈ O, s0.heap.get? a = none := fun a ha => by
    refine K0.toKh.none (fun q => ?_) (hO a ha)
    have : ∃ o, s.heap.get? a = some o := by
      rcases List.mem_cons.mp q with z | z
      · rw [z]; exact S.old dx (List.mem_append_right _ E.dW)
      · exact S.old a (List.mem_append_left _ z)
    refine el1_1 (this) fun o e => ?_
    rw [hO a ha] at e; exact noN e
  refine ⟨rfl, σ', hq, ⟨O ++ M, fun b hb => (List.mem_append.mp hb).elim (hO0 b) (hM b), ?_, by rw [List.append_assoc]; exact S1, ?_⟩⟩
  · exact (K0.trans (k1.mono fun b hb => .tail _ hb)).mono fun b hb => (List.mem_cons.mp hb).elim (fun z => z ▸ .head _) fun z => .tail _ (List.mem_append_right _ z)
  · have I1 := In.keep k1 S.sub (E.out hM _ E.xW) (E.out hM _ E.dW)
    exact I1.weak fun n d q v r => r.scalar (hsc n d q)
end
end Mine
end
noncomputable section
namespace Mine
open PySem PySem.W PySem.Calls PyProof.Rows
variable {X : Cx} {A A0 : Around} {k : Nat} {gs gi : Gm} {σ σ' τ : Sto} {pos : Pos} {K : Frag}
noncomputable abbrev iGm : Gm := ⟨["Whitespace", "len", "tuple"], [], []⟩
noncomputable abbrev iSto (x : Addr) (raw : List Nat) (S T c b n nt ch : Option V) : Sto := [("self", some (.opq (.ref x))), ("ws", some (Mine.T raw)), ("S", S), ("T", T), ("count", c), ("b", b), ("n", n), ("nt", nt), ("ch", ch)]
noncomputable abbrev iS (x : Addr) (raw : List Nat) (D : Addr) (cnt : List Nat) (b n nt : Nat) (ch : Option V) : Sto := iSto x raw (some (T [32])) (some (T [9])) (some (.own D (cnt.map N))) (some (N b)) (some (N n)) (some (N nt)) ch
noncomputable abbrev iV (x : Addr) (raw : List Nat) (cnt : List Nat) (b n nt : Nat) (ch : Option V) : Sto := iSto x raw (some (T [32])) (some (T [9])) (some (natsV cnt)) (some (N b)) (some (N n)) (some (N nt)) ch
noncomputable abbrev iSt (x : Addr) (raw : List Nat) (D : Addr) (st : Ws4) (ch : Option V) : Sto := iS x raw D st.count st.b st.n st.nt ch
theorem iView {x : Addr} {raw : List Nat} {D : Addr} {cnt : List Nat} {b n nt : Nat} {ch : Option V} (hc : ∀ d, ch = some d → d.isOwn = false) : View D (iS x raw D cnt b n nt ch) (iV x raw cnt b n nt ch) :=
  .same (.same (.same (.same (.own (Clean.some (Clean.some (Clean.some (Clean.opt hc .nil)))).all) (by intro _ z0; obtain rfl := Option.some.inj z0; rfl)) (by intro _ z1; obtain rfl := Option.some.inj z1; rfl)) (by intro _ z2; obtain rfl := Option.some.inj z2; rfl)) (by intro _ z3; obtain rfl := Option.some.inj z3; rfl)
theorem iOnly {x : Addr} {raw : List Nat} {D : Addr} {cnt : List Nat} {b n nt : Nat} {ch : Option V} (hc : ∀ d, ch = some d → d.isOwn = false) : Only "count" (iS x raw D cnt b n nt ch) :=
  Only.some (Only.some (Only.some (Only.some (Only.own (Clean.some (Clean.some (Clean.some (Clean.opt hc .nil))))))))
noncomputable def tailB : List Stmt := (bodyS (match forB ((bodyS (mst 1)).getD 4 (.Pass ⟨0, 0, 0, 0⟩)) with | [.If _ _ [.If _ b _ _] _] => .FunctionDef "" ⟨[], [], none, [], [], none, []⟩ b [] none [] ⟨.function, [], false, false, []⟩ none "" ⟨0, 0, 0, 0⟩ | _ => .Pass ⟨0, 0, 0, 0⟩)).drop 3
theorem init_turn {D : Ad} (P : PX X D) {x : Addr} {raw : List Nat} {D0 : Addr} {st : Ws4} {c : Nat} {body : List Stmt} {Q : Res → Prop} (hb : body = forB ((bodyS (mst 1)).getD 4 (.Pass ⟨0, 0, 0, 0⟩))) (hn : st.count.length ≤ 1000) (hbb : st.b ≤ 1000)
    (h1 : c = 32 ∨ c = 9 → ∀ D', Q (.next (iSt x raw D' (wsStep st c) (some (T [c]))))) (h2 : ¬ (c = 32 ∨ c = 9) → Q (.brk (iSt x raw D0 st (some (T [c]))))) :
    GEx X k iGm (iSt x raw D0 st (some (T [c]))) body Q := by
  subst hb
  obtain ⟨n, nt, cnt, b⟩ := st
  have hn : cnt.length ≤ 1000 := hn
  have hbb : b ≤ 1000 := hbb
  show GEx X k iGm (iS x raw D0 cnt b n nt (some (T [c]))) _ Q
  have e16 : sizeLine = 16777216 := by decide
  have hch : ∀ d, some (T [c]) = some d → d.isOwn = false := fun d e => by obtain rfl := Option.some.inj e; rfl
  by_cases h32 : c = 32
  · subst h32
    refine GEx.cons (GEs.ite (b := true) (Tr.cmp Ev.n8 Ev.n2 (Op2.eqt1 (by decide))) (fun _ => ?_) (fun h => by cases h))
    refine GEx.cons (GEs.of (Es.asg (Ev.bin Ev.n6 (Ev.natc 1) Op2.addN) u6 ?_))
    refine GEx.cons (GEs.of (Es.asg (Ev.bin Ev.n5 (Ev.natc 1) Op2.addN) u5 ?_))
    exact GEx.nil (show GEx X k _ _ [] _ from GEx.nil (h1 (.inl rfl) D0))
  refine GEx.cons (GEs.ite (b := false) (Tr.cmp Ev.n8 Ev.n2 (Op2.eqt1 (decide_eq_false (by simpa using h32)))) (fun h => by cases h) (fun _ => ?_))
  by_cases h9 : c = 9
  · subst h9
    have h1' : ∀ D', Q (.next (iS x raw D' (bump cnt b) 0 (n + 1) (nt + 1) (some (T [9])))) := h1 (.inr rfl)
    refine GEx.cons (GEs.ite (b := true) (Tr.cmp Ev.n8 Ev.n3 (Op2.eqt1 (by decide))) (fun _ => ?_) (fun h => by cases h))
    refine GEx.cons (GEs.of (Es.asg (Ev.bin Ev.n6 (Ev.natc 1) Op2.addN) u6 ?_))
    refine GEx.cons (GEs.of (Es.asg (Ev.bin Ev.n7 (Ev.natc 1) Op2.addN) u7 ?_))
    have hsl := stretch_len cnt b
    have hsz : (stretch cnt b).length ≤ 2001 := by
      unfold stretch; split
      · rw [List.length_append, List.length_replicate]; omega
      · omega
    have fin : ∀ D', GEx X k iGm (iS x raw D' (stretch cnt b) b (n + 1) (nt + 1) (some (T [9]))) tailB (GThen X k iGm [] (GThen X k iGm [] Q)) := by
      intro D'
      have hV : View D' (iS x raw D' (stretch cnt b) b (n + 1) (nt + 1) (some (T [9]))) (iV x raw (stretch cnt b) b (n + 1) (nt + 1) (some (T [9]))) := iView hch
      have he : (stretch cnt b)[b]? = some ((stretch cnt b).getD b 0) := by
        rw [List.getD_eq_getElem?_getD, List.getElem?_eq_getElem hsl]; rfl
      refine GEx.cons (GEs.of (Es.setAt (d := N ((stretch cnt b).getD b 0 + 1)) (i := b) (.tail _ (.tail _ (.tail _ (.tail _ (.head _))))) (.tail _ (.tail _ (.tail _ (.tail _ (.tail _ (.head _)))))) (Ev.view hV (Ev.bin (Ev.itemN Ev.n4 Ev.n5 (by rw [List.getElem?_map, he]; rfl)) (Ev.natc 1) Op2.addN)) (by rw [List.length_map]; exact hsl) u4 (iOnly hch).rest (by rw [List.length_map]; omega) ?_))
      refine GEx.cons (GEs.of (Es.asg (Ev.natc 0) u5 ?_))
      have e : ((stretch cnt b).map N).set b (N ((stretch cnt b).getD b 0 + 1)) = (bump cnt b).map N := by
        unfold bump; rw [List.map_set]
      rw [e]
      exact GEx.nil (show GEx X k _ _ [] _ from GEx.nil (show GEx X k _ _ [] _ from GEx.nil (h1' D')))
    have hV : View D0 (iS x raw D0 cnt b (n + 1) (nt + 1) (some (T [9]))) (iV x raw cnt b (n + 1) (nt + 1) (some (T [9]))) := iView hch
    refine GEx.cons (GEs.ite (b := decide (cnt.length ≤ b)) (Tr.view hV (Tr.cmp Ev.n5 (Ev.call (Ev.glob P.toXOk (.tail _ (.head _)) P.len) (Evs.cons Ev.n4 Evs.nil) .builtin (OpN.lenN (by omega))) Op2.geN)) (fun h => ?_) (fun h => ?_))
    · have h := of_decide_eq_true h
      have e : (stretch cnt b).map N = cnt.map N ++ List.replicate (b - cnt.length + 1) (N 0) := by
        unfold stretch; rw [if_pos h, List.map_append, List.map_replicate]
      refine GEx.cons (GEs.own (σ' := fun D' => iS x raw D' (stretch cnt b) b (n + 1) (nt + 1) (some (T [9]))) (ds := cnt.map N ++ List.replicate (b - cnt.length + 1) (N 0)) (EvN.view hV (EvN.addL Ev.n4 (Ev.bin (Ev.listD (Evs.cons (Ev.natc 0) Evs.nil)) (Ev.bin (Ev.bin Ev.n5 (Ev.call (Ev.glob P.toXOk (.tail _ (.head _)) P.len) (Evs.cons Ev.n4 Evs.nil) .builtin (OpN.lenN (by omega))) (Op2.subN h)) (Ev.natc 1) Op2.addN) (Op2.mulL (by omega))) (by rw [List.length_map, List.length_replicate]; omega)) (fun d hd => ?_)) (fun D' => ?_) (fun D' => ?_))
      · rcases List.mem_append.mp hd with q | q
        · refine el1_2 (List.mem_map.mp q) fun y _ y1 => ?_; obtain rfl := y1; rfl
        · rw [(List.mem_replicate.mp q).2]
      · rw [← e]; exact u4
      · exact GEx.nil (fin D')
    · have h := of_decide_eq_false h
      refine GEx.nil ?_
      have e : stretch cnt b = cnt := by unfold stretch; rw [if_neg h]
      have := fin D0
      rw [e] at this
      exact this
  · refine GEx.cons (GEs.ite (b := false) (Tr.cmp Ev.n8 Ev.n3 (Op2.eqt1 (decide_eq_false (by simpa using h9)))) (fun h => by cases h) (fun _ => ?_))
    exact GEx.cons (GEs.of (Es.brk (h2 (fun z => z.elim h32 h9))))
end Mine
end
noncomputable section
namespace Mine
open PySem PySem.W PySem.Calls PyProof.Rows
variable {X : Cx} {A A0 : Around} {k : Nat} {gs gi : Gm} {σ σ' τ : Sto} {pos : Pos} {K : Frag}
theorem notIn_of {name : Str} {vals : List (Str × V)} {ns : List Str} (h1 : vals.map (·.1) = ns) (h2 : name ∉ ns) : ∀ d, (name, d) ∉ vals := fun d h => h2 (h1 ▸ List.mem_map_of_mem (f := (·.1)) h)
theorem init_body {D : Ad} (P : PK X D K) {env : Env} {W0 : List Addr} {x dx : Addr} {s0 s : Shared} {text rest raw : List Nat} (hraw : raw = text ++ 120 :: rest) (ht : ∀ c ∈ text, c = 32 ∨ c = 9) (hz : text.length ≤ 1000)
    (E : CE X A W0 x dx s0) (R : Room (k + 1) A) (Ow : Own A env) (hsc : env.scope = scopeS (mst 1)) (Cc : CS X A env iGm W0 x dx D.ws s0 (iSto x raw none none none none none none none) [] s) :
    wpAny (model X.prog X.w) A (execs (bodyS (mst 1)) env) (fun f s' => f = .next ∧ ∃ σ', CS X A env iGm W0 x dx D.ws s0 σ' [("is_simple", .bool (decide ((wsRun text).count.length ≤ 1))), ("norm", .tup [.tup ((wsRun text).count.map N), N (wsRun text).b]), ("nt", N (wsRun text).nt), ("n", N (wsRun text).n), ("raw", T raw)] s') No s := by
  have e16 : sizeLine = 16777216 := by decide
  have hw : ∀ y ∈ wsNames, y ∈ wsNames := fun _ h => h
  refine wpAny_execs_cons (wpAny_mono (CS.set P E Cc R (.head _) Ev.n1 (.head _) (fun _ h => nomatch h)) ?_ (fun _ _ f => f))
  intro f s1 y1; refine el0_2 (y1) fun y2 C1 => ?_; obtain rfl := y2
  have sc1 : ∀ n d, (n, d) ∈ [(("raw" : Str), T raw)] → d.scalar = true := fun n d h => by
    rcases List.mem_cons.mp h with q | q
    · cases q; rfl
    · cases q
  have h2 : wpAny (model X.prog X.w) A (exec ((bodyS (mst 1)).getD 1 (.Pass ⟨0, 0, 0, 0⟩)) env) (fun f s' => f = .next ∧ CS X A env iGm W0 x dx D.ws s0 (iSto x raw (some (T [32])) (some (T [9])) none none none none none) [("raw", T raw)] s') No s1 := by
    refine el1_4 (C1.ex) fun M hM K0 S I => ?_
    have hev : Ev X (k + 1) iGm (iSto x raw none none none none none none none) (.Tuple [.Attribute (.Name "Whitespace" ⟨7, 16, 7, 26⟩) "S" ⟨7, 16, 7, 28⟩, .Attribute (.Name "Whitespace" ⟨7, 30, 7, 40⟩) "T" ⟨7, 30, 7, 42⟩] 0 ⟨7, 15, 7, 43⟩) (.tup [T [32], T [9]]) :=
      Ev.tupD (Evs.cons (Ev.cls P (.head _) P.ws P.kc.S) (Evs.cons (Ev.cls P (.head _) P.ws P.kc.T) Evs.nil))
    refine Assign_Tuple_swapped (names := ["S", "T"]) (wpAny_mono (hev.run A env M _ s1 R S) ?_ (fun _ _ f => f)) rfl ?_
    · intro v s2 y3; refine el0_2 (y3) fun hv k2 => ?_
      refine el3_4 (hv.tupI) fun a vs m y4 la na ra => ?_; obtain rfl := y4
      have hsz : vs.size = 2 := by have := ra.length; simpa using this
      rw [show (["S", "T"] : List Str).length = vs.size from hsz.symm]
      refine unpackItems_tuple R.handled ⟨_, la, rfl, _, rfl⟩ fun h' hx => ?_
      have K2 : Kp X.h0 [] s2 { s2 with heap := h' } := Kp.ext hx
      have S2 := (S.keep k2).keep K2
      have ra2 := ra.keep0 K2
      generalize vs.toList = l at ra2
      refine el2_3 (Rds.i2 ra2) fun _ _ y5 r1 r2 => ?_; obtain rfl := y5
      refine wpAny_assignInOrder_more (bindName_ (wpAny_mono (S2.store (E := No) r2 (u3 (d := T [9]))) ?_ (fun _ _ f => False.elim f)))
      intro _ s3 y6; refine el0_2 (y6) fun S3 k3 => ?_
      refine wpAny_assignInOrder_more (bindName_ (wpAny_mono (S3.store (E := No) (r1.keep k3 S3.sub) (u2 (d := T [32]))) ?_ (fun _ _ f => False.elim f)))
      intro _ s4 y7; refine el0_2 (y7) fun S4 k4 => ?_
      refine wpAny_assignInOrder_none ?_
      have k14 : Kp X.h0 M s1 s4 := ((k2.trans K2).nil.trans k3).trans k4
      exact ⟨rfl, M, hM, K0.trans (k14.mono fun b hb => .tail _ hb), S4, I.keep k14 S.sub (E.out hM _ E.xW) (E.out hM _ E.dW)⟩
    · unfold swappedStores Env.blockKind Env.kindOf
      rw [hsc]
      rfl
  refine wpAny_execs_cons (wpAny_mono h2 ?_ (fun _ _ f => f))
  intro f s2 y8; refine el0_2 (y8) fun y9 C2 => ?_; obtain rfl := y9
  refine wpAny_execs_cons (wpAny_mono (CS.g (Q := fun σ' => ∃ D0, σ' = iSto x raw (some (T [32])) (some (T [9])) (some (.own D0 [])) none none none none) E C2 R Ow sc1 (GEs.own EvN.nil (fun D0 => u4) (fun D0 => ⟨_, rfl, D0, rfl⟩))) ?_ (fun _ _ f => f))
  rintro f s3 ⟨rfl, σ3, ⟨D0, rfl⟩, C3⟩
  refine wpAny_execs_cons (wpAny_mono (CS.g (Q := fun σ' => σ' = iSt x raw D0 ⟨0, 0, [], 0⟩ none) E C3 R Ow sc1 (GEs.of (Es.asg3 (Ev.natc 0) a5 a6 a7 ⟨_, rfl, rfl⟩))) ?_ (fun _ _ f => f))
  rintro f s4 ⟨rfl, σ4, rfl, C4⟩
  have hrd : ∀ M, St X A env iGm M (M ++ W0) (iSt x raw D0 ⟨0, 0, [], 0⟩ none) s4 → InI (M ++ W0) s4 x dx D.ws [("raw", T raw)] →
      wpAny (model X.prog X.w) A (eval (.Attribute (.Name "self" ⟨10, 18, 10, 22⟩) "raw" ⟨10, 18, 10, 26⟩) env) (fun v s1 => ∃ t, v = .str (txt raw) t ∧ Kp X.h0 [] s4 s1) No s4 := by
    intro M S I
    obtain ⟨h1, m, h2, h3, h4⟩ := I
    refine el1_2 (h4 "raw" _ (.head _)) fun v hv r => ?_
    refine el1_1 (Rd.strI r) fun _ y10 => ?_; obtain rfl := y10
    refine Attribute_any_ ?_ rfl
    refine wpAny_Name (S.load (.head _) rfl fun w hw => ?_) (S.loc _ _ (.head _)).2
    cases hw
    refine el1_2 (inst_at h1 h2) fun od I hl => ?_
    exact get_value (P.at S.toBase) I P.kc.ga (find_field P.kc hl (.head _) hv) rfl ⟨_, rfl, Kp.toks _ _⟩
  refine wpAny_execs_cons (wpAny_mono (CS.for (xs := raw) (Q := fun σ' => ∃ D' o, (∀ d, o = some d → d.isOwn = false) ∧ σ' = iSt x raw D' (wsRun text) o) E C4 R Ow sc1 hrd
    (fun i σ => i ≤ text.length ∧ ∃ D' o, (∀ d, o = some d → d.isOwn = false) ∧ σ = iSt x raw D' (wsRun (text.take i)) o) ⟨Nat.zero_le _, D0, none, nofun, rfl⟩ (fun i c σ hc hI => ?_) (fun σ hI => ?_)) ?_ (fun _ _ f => f))
  · refine el0_2 (hI) fun hi y11 => ?_; refine el2_2 (y11) fun D' o ho y101 => ?_; obtain rfl := y101
    refine el0_3 (wsRun_bound text i hi) fun b1 b2 b3 => ?_
    refine ⟨_, a8, init_turn P.toPX rfl (by omega) (by omega) (fun h D'' => ?_) (fun h => ?_)⟩
    · have hlt : i < text.length := Decidable.byContradiction fun q => by
        have : i = text.length := by omega
        subst this
        rw [hraw, List.getElem?_append_right (Nat.le_refl _), Nat.sub_self] at hc
        obtain rfl := Option.some.inj hc; rcases h with h | h <;> omega
      have hc' : text[i]? = some c := by rw [hraw, List.getElem?_append_left hlt] at hc; exact hc
      exact ⟨_, Le.refl _, hlt, D'', some (T [c]), fun d e => by obtain rfl := Option.some.inj e; rfl, by rw [wsRun_take hc']⟩
    · have hge : i = text.length := Decidable.byContradiction fun q => by
        have hlt : i < text.length := by omega
        rw [hraw, List.getElem?_append_left hlt] at hc
        exact h (ht c (List.mem_of_getElem? hc))
      subst hge
      exact ⟨D', some (T [c]), fun d e => by obtain rfl := Option.some.inj e; rfl, by rw [List.take_length]⟩
  · refine el0_2 (hI) fun hi _ => ?_
    rw [hraw, List.length_append, List.length_cons] at hi; omega
  rintro f s5 ⟨rfl, σ5, ⟨D', o, ho, rfl⟩, C5⟩
  refine el0_3 (wsRun_bound text text.length (Nat.le_refl _)) fun b1 b2 b3 => ?_
  rw [List.take_length] at b1 b2 b3
  generalize wsRun text = st at *
  refine wpAny_execs_cons (wpAny_mono (CS.set P E C5 R (.head _) Ev.n6 (.tail _ (.head _)) (notIn_of (ns := ["raw"]) rfl (by decide))) ?_ (fun _ _ f => f))
  intro f s6 y12; refine el0_2 (y12) fun y13 C6 => ?_; obtain rfl := y13
  refine wpAny_execs_cons (wpAny_mono (CS.set P E C6 R (.head _) Ev.n7 (.tail _ (.tail _ (.head _))) (notIn_of (ns := ["n", "raw"]) rfl (by decide))) ?_ (fun _ _ f => f))
  intro f s7 y14; refine el0_2 (y14) fun y15 C7 => ?_; obtain rfl := y15
  have htup : TupOnly (.tup [.tup (st.count.map N), N st.b]) := .tup _ fun d hd => by
    rcases List.mem_cons.mp hd with q | q
    · rw [q]; exact .tup _ fun d hd => by refine el1_2 (List.mem_map.mp hd) fun y _ y16 => ?_; obtain rfl := y16; exact .int _
    · rw [List.mem_singleton.mp q]; exact .int _
  refine wpAny_execs_cons (wpAny_mono (CS.set P E C7 R (.head _) (Ev.viewT (iView ho) (Ev.tupD (Evs.cons (Ev.call (Ev.glob P.toXOk (.tail _ (.tail _ (.head _))) P.tuple) (Evs.cons Ev.n4 Evs.nil) .type (OpN.tupleL (by rw [List.length_map]; omega))) (Evs.cons Ev.n5 Evs.nil))) htup) (.tail _ (.tail _ (.tail _ (.head _)))) (notIn_of (ns := ["nt", "n", "raw"]) rfl (by decide))) ?_ (fun _ _ f => f))
  intro f s8 y17; refine el0_2 (y17) fun y18 C8 => ?_; obtain rfl := y18
  refine wpAny_execs_cons (wpAny_mono (CS.set P E C8 R (.head _) (Ev.view (iView ho) (Ev.cmp (Ev.call (Ev.glob P.toXOk (.tail _ (.head _)) P.len) (Evs.cons Ev.n4 Evs.nil) .builtin (OpN.lenN (by omega))) (Ev.natc 1) Op2.leN)) (.tail _ (.tail _ (.tail _ (.tail _ (.head _))))) (notIn_of (ns := ["norm", "nt", "n", "raw"]) rfl (by decide))) ?_ (fun _ _ f => f))
  intro f s9 y19; refine el0_2 (y19) fun y20 C9 => ?_; obtain rfl := y20
  exact wpAny_execs_nil ⟨rfl, _, C9⟩
end Mine
end
noncomputable section
namespace Mine
open PySem PySem.W PySem.Calls PyProof.Rows
variable {X : Cx} {A A0 : Around} {k : Nat} {gs gi : Gm} {σ σ' τ : Sto} {pos : Pos} {K : Frag}
theorem under_weight (C : Addr) (rest : List Value) (kw : List (Str × Value)) : Code.weight (.builtin "type.__call__" ⟨.ref C :: rest, kw⟩) = 1 := by kernel_rfl
theorem under_units (C : Addr) (rest : List Value) (kw : List (Str × Value)) : Code.cUnits (.builtin "type.__call__" ⟨.ref C :: rest, kw⟩) = 1 := by kernel_rfl
theorem under_envs (C : Addr) (rest : List Value) (kw : List (Str × Value)) : Code.envs (.builtin "type.__call__" ⟨.ref C :: rest, kw⟩) = [] := by kernel_rfl
theorem under_room {C : Addr} {rest : List Value} {kw : List (Str × Value)} (R : Room (k + 1) A) : Room k (A.under (.builtin "type.__call__" ⟨.ref C :: rest, kw⟩)) :=
  ⟨R.handled, by
    have := R.depth
    have e := under_weight C rest kw
    show A.depth + Code.weight _ + k < _
    rw [e]; lia, by
    have := R.units
    have e := under_units C rest kw
    show A.units + Code.cUnits _ + 20 * k + 200 < _
    rw [e]; lia⟩
theorem under_frames {C : Addr} {rest : List Value} {kw : List (Str × Value)} : (A.under (.builtin "type.__call__" ⟨.ref C :: rest, kw⟩)).frames = A.frames := by
  have h : pushEnvs (Code.envs (.builtin "type.__call__" ⟨.ref C :: rest, kw⟩)) A.frames = A.frames := by rw [under_envs]; rfl
  exact h
theorem code_at {f : Addr} {st : Stmt} {ns ls gl cs : List Str} {vs : List Value} {ds : List V} {W : List Addr} {s : Shared} {Q : Result → Shared → Prop} (O : XOk X) (P : PFn X f st) (hok : fnOk (scopeS st) ns ls gl cs = true) (hl : ns.length = ds.length)
    (hb : ∀ name qual kV doc pm an cd ct (vs : List Value), vs.length = ns.length → bindArgs (fdS st name qual .none kV doc pm an cd ct) ⟨vs, []⟩ = pure (ns.zip vs))
    (R : Room (k + 1) A) (B : Base X A W s) (rd : Rds W s.heap vs ds)
    (h : ∀ env M s1, (∀ b ∈ M, s.heap.get? b = none) → Kp X.h0 [] s s1 → Room k (A.deeper env) → Own (A.deeper env) env → env.scope = scopeS st → env.frame = some env.locals → St X (A.deeper env) env ⟨gl, [], cs⟩ M (M ++ W) (fnSto ns ls ds) s1 →
      wpAny (model X.prog X.w) (A.deeper env) (execs (bodyS st) env) (fun q s' => q = .next ∧ Q (.ok (.ret .none)) s') No s1) : codeAny (model X.prog X.w) A (.call (.ref f) ⟨vs, []⟩) Q s := by
  refine el7_1 (P) fun name qual kV doc pm an cd y1 => ?_; refine el1_1 (y1) fun ct F => ?_
  have Ok := fnOk_of hok
  refine el1_2 (F.obj) fun o ho hd => ?_
  refine el1_2 (F.code) fun c hc hct => ?_
  have hcd : s.heap.CodeRec (fdS st name qual .none kV doc pm an cd ct).code (fdS st name qual .none kV doc pm an cd ct).qualname := by
    have := F.crec
    rw [hc] at this ⊢
    refine el4_4 (this) fun c' o' vs' t e1 e2 e3 e4 => ?_
    obtain rfl := Value.ref.inj e1
    exact ⟨c, o', vs', t, rfl, B.base _ _ hct e2, e3, e4⟩
  refine codeAny_call_function (by have := R.depth; lia) (B.base _ _ F.ne ho) hd Ok.co Ok.ge rfl hcd ?_
  rw [hb _ _ _ _ _ _ _ _ vs (by rw [rd.length, hl])]
  refine wpAny_pure ?_
  rw [F.clo]
  have hlen : vs.length = ns.length := by rw [rd.length, hl]
  refine wpAny_newFunctionEnv_cells Ok.fn (fun x hx => ?_) fun env he s1 x => ?_
  · refine el0_2 (Ok.nsk x.1 (List.mem_append_left _ (List.of_mem_zip (a := x.1) (b := x.2) hx).1)) fun h1 _ => ?_
    rcases h1 with h1 | h1
    · exact .inl h1
    · refine el1_1 (cellsFrom_has (scopeS st).names (s.heap.objs.size + 1) [] x.1 (.inl (mem_of_lookup h1))) fun c hc => ?_
      refine el1_1 (lookup_of_mem hc) fun c' hc' => ?_
      exact .inr ⟨h1, by show (List.lookup x.1 (cellsFrom (s.heap.objs.size + 1) (scopeS st).names [])).isSome = true; rw [hc']; rfl⟩
  · subst he
    refine el0_2 (call_env F B hok hl rd x) fun K1 y2 => ?_; refine el1_2 (y2) fun M hM S1 => ?_
    refine ⟨(B.keep0 K1).lim O, codeAny_func ?_⟩
    refine wpAny_mono (h _ M s1 hM K1 (R.deeper _) ⟨let ⟨l, hl, _⟩ := B.frs; ⟨l, Around.frames_deeper hl⟩, ⟨_, rfl⟩⟩ rfl rfl S1) ?_ (fun _ _ f => False.elim f)
    intro q s2 y3; refine el0_2 (y3) fun y4 h2 => ?_; obtain rfl := y4
    exact h2
theorem initOk : fnOk (scopeS (mst 1)) ["self", "ws"] ["S", "T", "count", "b", "n", "nt", "ch"] ["Whitespace", "len", "tuple"] [] = true := by decide +kernel
theorem make_ok {D : Ad} (P : PK X D K) {text rest raw : List Nat} (hraw : raw = text ++ 120 :: rest) (ht : ∀ c ∈ text, c = 32 ∨ c = 9) (hz : text.length ≤ 1000) :
    OpN X (k + 3) (.ref D.ws) [T raw] (.ws D.ws (wsD raw text)) := by
  refine ⟨?_⟩
  intro A W s vs R B rd
  refine el1_2 (Rds.i1 rd) fun _ y5 r0 => ?_; obtain rfl := y5
  rename_i v
  refine el1_3 (P.mInit.ex) fun f g1 g2 hPF => ?_
  have KI := P.at B
  have hd0 := get_new s.heap
  refine el0_3 (B.new0 hd0) fun hx0 hxt hxW => ?_
  refine wpAny_call ?_
  obtain ⟨hh, g, d, t, os⟩ := s
  dsimp only at *
  refine make_core (makes_of KI P.kc.makes) (looks_findIn KI g1) (fun self => bind_fn KI self g2) (.inl rfl) ?_
  have R1 := under_room (C := D.ws) (rest := [v]) (kw := []) R
  have hfr1 := under_frames (A := A) (C := D.ws) (rest := [v]) (kw := [])
  generalize A.under (.builtin "type.__call__" ⟨.ref D.ws :: [v], []⟩) = A1 at R1 hfr1
  generalize hs1 : (⟨(hh.push emptyDict).push (instObj D.ws hh.objs.size), g, d, t, os⟩ : Shared) = s1
  have k1 : Kp X.h0 [] (⟨hh, g, d, t, os⟩ : Shared) s1 := by
    subst hs1
    exact Kp.of fun b o _ e => Heap.get?_push_of_some _ (Heap.get?_push_of_some _ e)
  have hxg : s1.heap.get? (hh.objs.size + 1) = some (instObj D.ws hh.objs.size) := by
    subst hs1
    have e : (hh.push emptyDict).objs.size = hh.objs.size + 1 := Heap.size_push ..
    rw [← e]; exact Heap.get?_push_size _ rfl
  have hdg : s1.heap.get? hh.objs.size = some emptyDict := by
    subst hs1
    exact Heap.get?_push_of_some _ (Heap.get?_push_size _ rfl)
  have hx00 : hh.get? (hh.objs.size + 1) = none := by
    cases e : hh.get? (hh.objs.size + 1) with
    | none => rfl
    | some o => exact absurd (Heap.lt_size e) (Nat.not_lt.mpr (Nat.le_succ _))
  have B1 : Base X A1 ((hh.objs.size + 1) :: hh.objs.size :: W) s1 := by
    have := B.keep0 k1
    refine ⟨this.base, .tail _ (.tail _ this.tabW), fun a ha => ?_, let ⟨l, hl, q⟩ := this.frs; ⟨l, hfr1.trans hl, q⟩⟩
    rcases List.mem_cons.mp ha with z | z
    · exact ⟨_, z ▸ hxg⟩
    · rcases List.mem_cons.mp z with z | z
      · exact ⟨_, z ▸ hdg⟩
      · exact this.old a z
  generalize hh.objs.size = dx at *
  have rv : Rd ((dx + 1) :: dx :: W) s1.heap v (T raw) := by refine el1_1 (Rd.strI r0) fun _ y6 => ?_; obtain rfl := y6; exact .str _ _
  have hns : s1.heap.Ns1 dx (fun _ => none) := PySem.Heap.Ns1.of_empty ⟨_, #[], _, hdg, rfl, fun e he => absurd he (by simp), fun _ => rfl⟩
  have hnf : NF A dx := B.nf hd0
  refine code_at (k := k + 1) (ds := [.opq (.ref (dx + 1)), T raw]) P.toXOk hPF initOk rfl (fun name qual kV doc pm an cd ct vs h => ?_) R1 B1 (.cons (.opq _) (.cons rv .nil)) fun env M s2 hM k2 R2 Ow hsc hfr S2 => ?_
  · refine el2_1 (len2 h) fun a b y7 => ?_; obtain rfl := y7
    rfl
  have hdM : dx ∉ M := fun q => by have := hM dx q; rw [hdg] at this; cases this
  have hnf2 : NF (A1.deeper env) dx := by
    intro l hl e he q
    refine el1_2 (B.frs) fun l0 hl0 _ => ?_
    have h3 : (A1.deeper env).frames = some (env :: l0) := Around.frames_deeper (hfr1.trans hl0)
    rw [h3] at hl; obtain rfl := Option.some.inj hl
    rcases List.mem_cons.mp he with z | z
    · subst z; rw [hfr] at q; obtain rfl := Option.some.inj q; exact hdM S2.locM
    · exact hnf l0 hl0 e z q
  have E : CE X (A1.deeper env) ((dx + 1) :: dx :: W) (dx + 1) dx s1 := ⟨.head _, .tail _ (.head _), Nat.succ_ne_self dx, hx0, hnf2, B1.old⟩
  have hI : InI (M ++ ((dx + 1) :: dx :: W)) s2 (dx + 1) dx D.ws [] := by
    have h0 : InI ((dx + 1) :: dx :: W) s1 (dx + 1) dx D.ws [] := ⟨hxg, _, hns, fun y h => absurd rfl h, fun n d h => nomatch h⟩
    exact (h0.keep k2 (M := []) nofun nofun nofun).weak fun n d h => nomatch h
  refine wpAny_mono (init_body P hraw ht hz E R2 Ow hsc ⟨M, hM, k2.nil, S2, hI⟩) ?_ (fun _ _ f => f)
  rintro q s3 ⟨rfl, σ', Cc⟩
  refine el1_4 (Cc.ex) fun M' hM' K3 S3 I3 => ?_
  refine ⟨rfl, rfl, ?_, ?_⟩
  · obtain ⟨h1, m, h2, h3, h4⟩ := I3
    refine el1_2 (h4 _ _ (.head _)) fun v5 e5 r5 => ?_
    refine el1_2 (h4 _ _ (.tail _ (.head _))) fun v4 e4 r4 => ?_
    refine el1_2 (h4 _ _ (.tail _ (.tail _ (.head _)))) fun v3 e3 r3 => ?_
    refine el1_2 (h4 _ _ (.tail _ (.tail _ (.tail _ (.head _))))) fun v2 e2 r2 => ?_
    refine el1_2 (h4 _ _ (.tail _ (.tail _ (.tail _ (.tail _ (.head _)))))) fun v1 e1 r1 => ?_
    have wk : ∀ b ∈ W, b ∈ M' ++ ((dx + 1) :: dx :: W) ∨ s3.heap.get? b = none := fun b hb => .inl (List.mem_append_right _ (.tail _ (.tail _ hb)))
    obtain rfl := Rd.boolI r5
    refine .ws h1 h2 (fun y v hy => h3 y (by rw [hy]; nofun)) e1 e2 e3 e4 e5 (fun q => ?_) hxW (r1.weak wk) (r2.weak wk) (r3.weak wk) (r4.weak wk)
    refine el1_1 (B.old _ q) fun o e => ?_
    rw [hx00] at e; exact noN e
  · have K13 : Kp X.h0 (dx :: M') (⟨hh, g, d, t, os⟩ : Shared) s3 := k1.nil.trans K3
    exact K13.fresh fun b hb => (List.mem_cons.mp hb).elim (fun z => .inr (z ▸ hd0)) fun z => .inr (get_grow k1 (hM' b z))
end Mine
end
noncomputable section
namespace Mine
open PySem PySem.W PySem.Calls PyProof.Rows
variable {X : Cx} {A A0 : Around} {k : Nat} {gs gi : Gm} {σ σ' τ : Sto} {pos : Pos} {K : Frag}
theorem callWith_cls {prog : Program} {w : World} {A : Around} {E : Value → Shared → Prop} {s : Shared} {C : Addr} {args : List (Bool × Sem Value)} {Q : Value → Shared → Prop} (hp : args.any (·.1) = false)
    (h : wpAny (model prog w) A (evalArgs (.ref C) true args []) (fun a s₁ => Makes (model prog w) s₁.heap C ∧ wpAny (model prog w) A (call (.ref C) a.pos a.kw) Q E s₁) E s) :
    wpAny (model prog w) A (callWith pos (.ref C) [] args []) Q E s := by
  unfold callWith
  refine wpAny_bind (wpAny_holding (wpAny_mono h (fun x s₁ h₁ => wpAny_bind (wpAny_standAt ?_)) fun _ _ x => x))
  have tail : ∀ {t : Sem Value}, wpAny (model prog w) A t Q E s₁ → wpAny (model prog w) A (t >>= fun r => holding [r] point >>= fun _ => pure r) Q E s₁ :=
    fun ht => wpAny_bind (wpAny_mono ht (fun r s₂ hr => wpAny_bind (wpAny_holding (wpAny_point (wpAny_pure hr)))) fun _ _ x => x)
  refine el0_2 (h₁) fun Y hc => ?_
  obtain ⟨⟨oc, od, cd, sl, hC, _⟩, _, _, _, _, hcall, _⟩ := Y
  simp only [hp, List.any_nil, Bool.or_false]
  refine wpAny_bind (m := keeperOf (.ref C)) ?_
  unfold keeperOf
  refine wpAny_bind (wpAny_load hC ?_)
  dsimp only
  refine wpAny_bind (hcall.here ?_)
  refine wpAny_pure ?_
  rw [if_pos (by rfl)]
  exact tail hc
theorem Ev.make {D : Ad} (P : PK X D K) {func : Expr} {es : List Expr} {ds : List V} {d : V} (hf : Ev X k gs σ func (.opq (.ref D.ws))) (ha : Evs X k gs σ es ds) (h : OpN X k (.ref D.ws) ds d)
    (he : ∀ env, eval (.Call func es [] pos) env = (do callWith pos (← eval func env) [] (backTo pos (starEach es env)) (backToKw pos (keywordEach [] env))) := by intro _; rfl)
    (hp : Plain es = true := by rfl) : Ev X k gs σ (.Call func es [] pos) d := by
  refine ⟨?_⟩
  intro A env M W s R S
  rw [he]
  refine wpAny_bind (wpAny_mono (hf.run A env M W s R S) ?_ (fun _ _ f => f))
  rintro v s1 ⟨hv, k1⟩
  cases hv
  have np := any_backTo (pos := pos) (env := env) (ds := ds) (Plain.no hp)
  refine callWith_cls np (evalArgs_all np (wpAny_mono (ha.run A env M W s1 pos R (S.keep k1)) ?_ (fun _ _ f => f)))
  rintro vs s2 ⟨hvs, k2⟩
  have S2 := (S.keep k1).keep k2
  exact ⟨makes_of (P.at S2.toBase) P.kc.makes, wpAny_mono (h.run A W s2 vs R S2.toBase hvs) (fun v s3 h => ⟨h.1, (k1.trans k2).trans h.2⟩) (fun _ _ f => f)⟩
end Mine
end
noncomputable section
namespace Mine
open PySem PySem.W PySem.Calls PyProof.Rows
variable {X : Cx} {A A0 : Around} {k : Nat} {gs gi : Gm} {σ σ' τ : Sto} {pos : Pos} {K : Frag}
theorem OpN.lenTup {ds : List V} (hz : ds.length < 2 ^ 62) : OpN X k (.builtin "len") [.tup ds] (N ds.length) := by
  refine ⟨?_⟩
  rintro A W s vs R B hv
  refine el1_2 (Rds.i1 hv) fun _ y1 h => ?_; obtain rfl := y1
  refine el3_4 (h.tupI) fun a vs n y2 la na ra => ?_; obtain rfl := y2
  have e : vs.size = ds.length := by rw [← ra.length]; simp
  refine PyProof.Rows.len_tuple (items := vs) ⟨_, la, rfl, _, rfl⟩ (by rw [e]; lia) ?_
  rw [e]
  exact ⟨.int _ _, Kp.toks _ _⟩
noncomputable def longRun (d : WsD) : Nat := max (d.count.length - 1) d.b
noncomputable def indentL (d : WsD) (ts : Nat) : Nat := d.b + ts * (((List.range' ts (d.count.length - ts)).map fun i => i / ts * d.count.getD i 0).sum + d.nt)
structure Sm (d : WsD) : Prop where
  c : d.count.length ≤ 1000
  b : d.b ≤ 1000
theorem long_ok {D : Ad} {d : WsD} (P : PK X D K) (Z : Sm d) {f : Addr} (hf : PFn X f (mst 2)) : OpN X (k + 1) (.ref f) [.ws D.ws d] (N (longRun d)) := by
  refine OpN.pfn ["self"] ["count", "trailing"] ["max", "len"] [] P.toXOk hf (by decide +kernel) rfl (fun name qual kV doc pm an cd ct vs h => ?_) ?_
  · refine el1_1 (len1 h) fun a y3 => ?_; obtain rfl := y3
    rfl
  have hc := Z.c
  refine Ex.cons (Es.asgT (Ev.attr P Ev.n0 .norm) (As.tup a1 a2) ?_)
  have hl : OpN X k (.builtin "len") [.tup (d.count.map N)] (N d.count.length) := by
    have := OpN.lenTup (X := X) (k := k) (ds := d.count.map N) (by rw [List.length_map]; lia)
    rwa [List.length_map] at this
  refine Ex.cons (Es.ret (d := .int (max ((d.count.length : Int) - 1) (d.b : Int))) (Ev.call (Ev.glob P.toXOk (.head _) P.max) (Evs.cons (Ev.bin (Ev.call (Ev.glob P.toXOk (.tail _ (.head _)) P.len) (Evs.cons Ev.n1 Evs.nil) .builtin hl) (Ev.natc 1) Op2.sub) (Evs.cons Ev.n2 Evs.nil)) .builtin OpN.max2) ?_)
  show (V.int _) = V.int _
  congr 1
  unfold longRun
  lia
theorem sum_take_succ {f : Nat → Nat} (l : List Nat) (i x : Nat) (h : l[i]? = some x) : ((l.take (i + 1)).map f).sum = ((l.take i).map f).sum + f x := by
  rw [List.take_add_one, h, List.map_append, List.sum_append]; simp
theorem indent_ok {D : Ad} {d : WsD} {ts : Nat} (P : PK X D K) (Z : Sm d) (h0 : 0 < ts) (h1 : ts < 1000000000) {f : Addr} (hf : PFn X f (mst 3)) : OpN X (k + 1) (.ref f) [.ws D.ws d, N ts] (N (indentL d ts)) := by
  refine OpN.pfn ["self", "tabsize"] ["count", "trailing", "il", "i"] ["range", "len"] [] P.toXOk hf (by decide +kernel) rfl (fun name qual kV doc pm an cd ct vs h => ?_) ?_
  · obtain ⟨a, b, rfl⟩ := len2 h
    rfl
  have hc := Z.c
  refine Ex.cons (Es.asgT (Ev.attr P Ev.n0 .norm) (As.tup a2 a3) ?_)
  have hl : OpN X k (.builtin "len") [.tup (d.count.map N)] (N d.count.length) := by
    have := OpN.lenTup (X := X) (k := k) (ds := d.count.map N) (by rw [List.length_map]; lia)
    rwa [List.length_map] at this
  refine Ex.cons (Es.asg (Ev.natc 0) u4 ?_)
  have hup : upto (ts : Int) (d.count.length - ts) = (List.range' ts (d.count.length - ts)).map N := by
    unfold upto
    rw [List.range'_eq_map_range, List.map_map]
    exact List.map_congr_left fun i _ => by show V.int _ = V.int _; congr 1
  refine Ex.cons (Es.for (items := (List.range' ts (d.count.length - ts)).map N) (hup ▸ Iv.range2 (Ev.glob P.toXOk (.head _) P.range) Ev.n1 (Ev.call (Ev.glob P.toXOk (.tail _ (.head _)) P.len) (Evs.cons Ev.n2 Evs.nil) .builtin hl) (by split <;> lia) (by lia) (by lia))
    (fun i σ => ∃ o, σ = ([("self", some (.ws D.ws d)), ("tabsize", some (N ts)), ("count", some (.tup (d.count.map N))), ("trailing", some (N d.b)), ("il", some (N ((((List.range' ts (d.count.length - ts)).take i).map fun i => i / ts * d.count.getD i 0).sum))), ("i", o)] : Sto))
    ⟨_, Le.refl _, none, rfl⟩ (fun i x σ hx hI => ?_) (fun σ hI => ?_))
  · obtain ⟨o, rfl⟩ := hI
    obtain ⟨j, hj, rfl⟩ : ∃ j, (List.range' ts (d.count.length - ts))[i]? = some j ∧ N j = x := by rw [List.getElem?_map] at hx; simpa using hx
    have hjl : j < d.count.length := by
      have := List.mem_of_getElem? hj
      rw [List.mem_range'_1] at this; lia
    have hcj : d.count[j]? = some (d.count.getD j 0) := by rw [List.getD_eq_getElem?_getD, List.getElem?_eq_getElem hjl]; rfl
    refine ⟨_, a5, ?_⟩
    refine Ex.cons (Es.asg (Ev.bin Ev.n4 (Ev.bin (Ev.bin Ev.n5 Ev.n1 (Op2.divN h0 (by lia))) (Ev.itemT (i := (j : Int)) Ev.n2 Ev.n5 (by (exact Int.ofNat_nonneg _)) (by lia) (by rw [Int.toNat_natCast, List.getElem?_map, hcj]; rfl)) (Op2.mulN (by have := Nat.div_le_self j ts; lia))) Op2.addN) u4 ?_)
    exact Ex.nil ⟨_, Le.refl _, _, by rw [sum_take_succ _ _ _ hj]⟩
  · obtain ⟨o, rfl⟩ := hI
    rw [List.length_map, List.take_length]
    exact Ex.cons (Es.ret (Ev.bin Ev.n3 (Ev.bin Ev.n1 (Ev.bin Ev.n4 (Ev.attr P Ev.n0 .nt) Op2.addN) (Op2.mulN (by lia))) Op2.addN) rfl)
theorem equal_ok {D : Ad} {d e : WsD} (P : PK X D K) {f : Addr} (hf : PFn X f (mst 4)) : OpN X (k + 1) (.ref f) [.ws D.ws d, .ws D.ws e] (.bool (decide ((d.count, d.b) = (e.count, e.b)))) := by
  refine OpN.pfn ["self", "other"] [] [] [] P.toXOk hf (by decide +kernel) rfl (fun name qual kV doc pm an cd ct vs h => ?_) ?_
  · refine el2_1 (len2 h) fun a b y7 => ?_; obtain rfl := y7
    rfl
  exact Ex.cons (Es.ret (Ev.cmp (Ev.attr P Ev.n0 .norm) (Ev.attr P Ev.n1 .norm) (Op2.eqd (Eqb.pair (Eqb.tups Eqb.nat) Eqb.nat) (d.count, d.b) (e.count, e.b) ⟨fun _ _ => trivial, trivial⟩ ⟨fun _ _ => trivial, trivial⟩)) rfl)
end Mine
end
noncomputable section
namespace Mine
open PySem PySem.W PySem.Calls PyProof.Rows
variable {X : Cx} {A A0 : Around} {k : Nat} {gs gi : Gm} {σ σ' τ : Sto} {pos : Pos} {K : Frag}
noncomputable abbrev tripV (t : Nat × Nat × Nat) : V := .tup [N t.1, N t.2.1, N t.2.2]
noncomputable def topTs (d e : WsD) : Nat := max (longRun d) (longRun e) + 1
noncomputable def witF (p : Nat → Nat → Bool) (d e : WsD) (ts : Nat) : Option (Nat × Nat × Nat) := if p (indentL d ts) (indentL e ts) then some (ts, indentL d ts, indentL e ts) else none
noncomputable def witL (p : Nat → Nat → Bool) (d e : WsD) : List (Nat × Nat × Nat) := (List.range' 1 (topTs d e)).filterMap (witF p d e)
theorem long_le {d : WsD} (Z : Sm d) : longRun d ≤ 1000 := by
  have h1 := Z.c
  have h2 := Z.b
  unfold longRun; omega
theorem top_le {d e : WsD} (Z : Sm d) (Z' : Sm e) : topTs d e ≤ 1001 := by
  have h1 := long_le Z
  have h2 := long_le Z'
  unfold topTs; lia
theorem upto_range' (a n : Nat) : upto (a : Int) n = (List.range' a n).map N := by
  unfold upto
  rw [List.range'_eq_map_range, List.map_map]
  exact List.map_congr_left fun i _ => by show V.int _ = V.int _; congr 1
theorem max_nat {a b : Nat} : OpN X k (.builtin "max") [N a, N b] (N (max a b)) := by
  have := OpN.max2 (X := X) (k := k) (a := (a : Int)) (b := (b : Int))
  rwa [show max (a : Int) (b : Int) = ((max a b : Nat) : Int) by omega] at this
theorem notEq_ok {D : Ad} {d e : WsD} (P : PK X D K) (Z : Sm d) (Z' : Sm e) {f : Addr} (hf : PFn X f (mst 5)) : OpN X (k + 2) (.ref f) [.ws D.ws d, .ws D.ws e] (.list ((witL (fun a b => decide (a ≠ b)) d e).map tripV)) := by
  refine OpN.pfn ["self", "other"] ["n", "a", "ts"] ["max", "range"] [] P.toXOk hf (by decide +kernel) rfl (fun name qual kV doc pm an cd ct vs h => ?_) ?_
  · refine el2_1 (len2 h) fun a b y1 => ?_; obtain rfl := y1
    rfl
  have htop := top_le Z Z'
  have e16 : sizeLine = 16777216 := by decide
  refine Ex.mono (Q := fun r => r = .ret (.list ((witL (fun a b => decide (a ≠ b)) d e).map tripV))) ?_ (fun r h => by subst h; rfl)
  refine Ex.cons (Es.asg (d := N (topTs d e)) (Ev.bin (Ev.call (Ev.glob P.toXOk (.head _) P.max) (Evs.cons (Ev.mcall P P.mLong Ev.n0 Evs.nil fun f hf => long_ok P Z hf) (Evs.cons (Ev.mcall P P.mLong Ev.n1 Evs.nil fun f hf => long_ok P Z' hf) Evs.nil)) .builtin max_nat) (Ev.natc 1) Op2.addN) u2 ?_)
  refine Ex.newOwn (fun D => u3) (fun Da => ?_) (fun r h => ⟨_, h⟩)
  have hiv : ∀ p1 p2 p3 p4 p5 q, Iv X (k + 1) ⟨["max", "range"], [], []⟩ ([("self", some (.ws D.ws d)), ("other", some (.ws D.ws e)), ("n", some (N (topTs d e))), ("a", some (.own Da [])), ("ts", none)] : Sto) (.Call (.Name "range" p1) [.Constant (.int 1) 0 p2, .BinOp (.Name "n" p3) .Add (.Constant (.int 1) 0 p4) p5] [] q) ((List.range' 1 (topTs d e)).map N) := fun p1 p2 p3 p4 p5 q => by
    have := Iv.range2 (X := X) (k := k + 1) (gs := ⟨["max", "range"], [], []⟩) (σ := [("self", some (.ws D.ws d)), ("other", some (.ws D.ws e)), ("n", some (N (topTs d e))), ("a", some (.own Da [])), ("ts", none)]) (func := .Name "range" p1) (e1 := .Constant (.int 1) 0 p2) (e2 := .BinOp (.Name "n" p3) .Add (.Constant (.int 1) 0 p4) p5) (pos := q) (a := ((1 : Nat) : Int)) (b := ((topTs d e + 1 : Nat) : Int)) (n := topTs d e)
      (Ev.glob P.toXOk (.tail _ (.head _)) P.range) (Ev.natc 1) (Ev.bin Ev.n2 (Ev.natc 1) Op2.addN) (by split <;> omega) (by decide) (by omega)
    rwa [upto_range'] at this
  refine Ex.cons (Es.for (items := (List.range' 1 (topTs d e)).map N) (hiv _ _ _ _ _ _)
    (fun i σ => ∃ o, (∀ d, o = some d → d.isOwn = false) ∧ σ = ([("self", some (.ws D.ws d)), ("other", some (.ws D.ws e)), ("n", some (N (topTs d e))), ("a", some (.own Da ((((List.range' 1 (topTs d e)).take i).filterMap (witF (fun a b => decide (a ≠ b)) d e)).map tripV))), ("ts", o)] : Sto))
    ⟨_, Le.refl _, none, nofun, rfl⟩ (fun i x σ hx hI => ?_) (fun σ hI => ?_))
  · refine el1_2 (hI) fun o ho y2 => ?_; obtain rfl := y2
    obtain ⟨ts, hj, rfl⟩ : ∃ j, (List.range' 1 (topTs d e))[i]? = some j ∧ N j = x := by rw [List.getElem?_map] at hx; simpa using hx
    have hts : 1 ≤ ts ∧ ts < 1 + topTs d e := by
      have := List.mem_of_getElem? hj
      rwa [List.mem_range'_1] at this
    have hlen : (((List.range' 1 (topTs d e)).take i).filterMap (witF (fun a b => decide (a ≠ b)) d e)).length ≤ 1001 := by
      refine Nat.le_trans (List.length_filterMap_le _ _) ?_
      rw [List.length_take, List.length_range']; omega
    have hnew := filterMap_take_succ (witF (fun a b => decide (a ≠ b)) d e) _ _ _ hj
    generalize ((List.range' 1 (topTs d e)).take i).filterMap (witF (fun a b => decide (a ≠ b)) d e) = l at *
    refine ⟨_, a4, ?_⟩
    refine Ex.cons (Es.ite (b := (fun a b => decide (a ≠ b)) (indentL d ts) (indentL e ts)) (Tr.cmp (Ev.mcall P P.mIndent Ev.n0 (Evs.cons Ev.n4 Evs.nil) fun f hf => indent_ok P Z hts.1 (by omega) hf) (Ev.mcall P P.mIndent Ev.n1 (Evs.cons Ev.n4 Evs.nil) fun f hf => indent_ok P Z' hts.1 (by omega) hf) Op2.neN) (fun h => ?_) (fun h => ?_))
    · have hF : witF (fun a b => decide (a ≠ b)) d e ts = some (ts, indentL d ts, indentL e ts) := by unfold witF; rw [h]; rfl
      rw [hF] at hnew
      have hup : Upd "a" (.own Da (l.map tripV ++ [tripV (ts, indentL d ts, indentL e ts)])) ([("self", some (.ws D.ws d)), ("other", some (.ws D.ws e)), ("n", some (N (topTs d e))), ("a", some (.own Da (l.map tripV))), ("ts", some (N ts))] : Sto)
          ([("self", some (.ws D.ws d)), ("other", some (.ws D.ws e)), ("n", some (N (topTs d e))), ("a", some (.own Da ((l ++ [(ts, indentL d ts, indentL e ts)]).map tripV))), ("ts", some (N ts))] : Sto) := by
        rw [List.map_append]; exact u3
      refine Ex.cons (Es.append (d := tripV (ts, indentL d ts, indentL e ts)) (.tail _ (.tail _ (.tail _ (.head _)))) (Evs.cons (Ev.tupD (Evs.cons Ev.n4 (Evs.cons (Ev.mcall P P.mIndent Ev.n0 (Evs.cons Ev.n4 Evs.nil) fun f hf => indent_ok P Z hts.1 (by omega) hf) (Evs.cons (Ev.mcall P P.mIndent Ev.n1 (Evs.cons Ev.n4 Evs.nil) fun f hf => indent_ok P Z' hts.1 (by omega) hf) Evs.nil)))) Evs.nil) hup (Only.some (Only.some (Only.some (Only.own (Clean.some .nil)))) : Only "a" _).rest (by rw [List.length_map]; omega) ?_)
      exact Ex.nil (show Ex X _ _ _ [] _ from Ex.nil ⟨_, Le.refl _, some (N ts), fun d e => by obtain rfl := Option.some.inj e; rfl, by rw [hnew]; rfl⟩)
    · have hF : witF (fun a b => decide (a ≠ b)) d e ts = none := by unfold witF; rw [h]; rfl
      rw [hF] at hnew
      refine Ex.nil (show Ex X _ _ _ [] _ from Ex.nil ⟨_, Le.refl _, some (N ts), fun d e => by obtain rfl := Option.some.inj e; rfl, by rw [hnew]; simp⟩)
  · refine el1_2 (hI) fun o ho y3 => ?_; obtain rfl := y3
    rw [List.length_map, List.take_length]
    exact Ex.cons (Es.retOwn (.tail _ (.tail _ (.tail _ (.head _)))) rfl)
theorem notLess_ok {D : Ad} {d e : WsD} (P : PK X D K) (Z : Sm d) (Z' : Sm e) {f : Addr} (hf : PFn X f (mst 7)) : OpN X (k + 2) (.ref f) [.ws D.ws d, .ws D.ws e] (.list ((witL (fun a b => decide (b ≤ a)) d e).map tripV)) := by
  refine OpN.pfn ["self", "other"] ["n", "a", "ts"] ["max", "range"] [] P.toXOk hf (by decide +kernel) rfl (fun name qual kV doc pm an cd ct vs h => ?_) ?_
  · refine el2_1 (len2 h) fun a b y4 => ?_; obtain rfl := y4
    rfl
  have htop := top_le Z Z'
  have e16 : sizeLine = 16777216 := by decide
  refine Ex.mono (Q := fun r => r = .ret (.list ((witL (fun a b => decide (b ≤ a)) d e).map tripV))) ?_ (fun r h => by subst h; rfl)
  refine Ex.cons (Es.asg (d := N (topTs d e)) (Ev.bin (Ev.call (Ev.glob P.toXOk (.head _) P.max) (Evs.cons (Ev.mcall P P.mLong Ev.n0 Evs.nil fun f hf => long_ok P Z hf) (Evs.cons (Ev.mcall P P.mLong Ev.n1 Evs.nil fun f hf => long_ok P Z' hf) Evs.nil)) .builtin max_nat) (Ev.natc 1) Op2.addN) u2 ?_)
  refine Ex.newOwn (fun D => u3) (fun Da => ?_) (fun r h => ⟨_, h⟩)
  have hiv : ∀ p1 p2 p3 p4 p5 q, Iv X (k + 1) ⟨["max", "range"], [], []⟩ ([("self", some (.ws D.ws d)), ("other", some (.ws D.ws e)), ("n", some (N (topTs d e))), ("a", some (.own Da [])), ("ts", none)] : Sto) (.Call (.Name "range" p1) [.Constant (.int 1) 0 p2, .BinOp (.Name "n" p3) .Add (.Constant (.int 1) 0 p4) p5] [] q) ((List.range' 1 (topTs d e)).map N) := fun p1 p2 p3 p4 p5 q => by
    have := Iv.range2 (X := X) (k := k + 1) (gs := ⟨["max", "range"], [], []⟩) (σ := [("self", some (.ws D.ws d)), ("other", some (.ws D.ws e)), ("n", some (N (topTs d e))), ("a", some (.own Da [])), ("ts", none)]) (func := .Name "range" p1) (e1 := .Constant (.int 1) 0 p2) (e2 := .BinOp (.Name "n" p3) .Add (.Constant (.int 1) 0 p4) p5) (pos := q) (a := ((1 : Nat) : Int)) (b := ((topTs d e + 1 : Nat) : Int)) (n := topTs d e)
      (Ev.glob P.toXOk (.tail _ (.head _)) P.range) (Ev.natc 1) (Ev.bin Ev.n2 (Ev.natc 1) Op2.addN) (by split <;> omega) (by decide) (by omega)
    rwa [upto_range'] at this
  refine Ex.cons (Es.for (items := (List.range' 1 (topTs d e)).map N) (hiv _ _ _ _ _ _)
    (fun i σ => ∃ o, (∀ d, o = some d → d.isOwn = false) ∧ σ = ([("self", some (.ws D.ws d)), ("other", some (.ws D.ws e)), ("n", some (N (topTs d e))), ("a", some (.own Da ((((List.range' 1 (topTs d e)).take i).filterMap (witF (fun a b => decide (b ≤ a)) d e)).map tripV))), ("ts", o)] : Sto))
    ⟨_, Le.refl _, none, nofun, rfl⟩ (fun i x σ hx hI => ?_) (fun σ hI => ?_))
  · refine el1_2 (hI) fun o ho y5 => ?_; obtain rfl := y5
    obtain ⟨ts, hj, rfl⟩ : ∃ j, (List.range' 1 (topTs d e))[i]? = some j ∧ N j = x := by rw [List.getElem?_map] at hx; simpa using hx
    have hts : 1 ≤ ts ∧ ts < 1 + topTs d e := by
      have := List.mem_of_getElem? hj
      rwa [List.mem_range'_1] at this
    have hlen : (((List.range' 1 (topTs d e)).take i).filterMap (witF (fun a b => decide (b ≤ a)) d e)).length ≤ 1001 := by
      refine Nat.le_trans (List.length_filterMap_le _ _) ?_
      rw [List.length_take, List.length_range']; omega
    have hnew := filterMap_take_succ (witF (fun a b => decide (b ≤ a)) d e) _ _ _ hj
    generalize ((List.range' 1 (topTs d e)).take i).filterMap (witF (fun a b => decide (b ≤ a)) d e) = l at *
    refine ⟨_, a4, ?_⟩
    refine Ex.cons (Es.ite (b := (fun a b => decide (b ≤ a)) (indentL d ts) (indentL e ts)) (Tr.cmp (Ev.mcall P P.mIndent Ev.n0 (Evs.cons Ev.n4 Evs.nil) fun f hf => indent_ok P Z hts.1 (by omega) hf) (Ev.mcall P P.mIndent Ev.n1 (Evs.cons Ev.n4 Evs.nil) fun f hf => indent_ok P Z' hts.1 (by omega) hf) Op2.geN) (fun h => ?_) (fun h => ?_))
    · have hF : witF (fun a b => decide (b ≤ a)) d e ts = some (ts, indentL d ts, indentL e ts) := by unfold witF; rw [h]; rfl
      rw [hF] at hnew
      have hup : Upd "a" (.own Da (l.map tripV ++ [tripV (ts, indentL d ts, indentL e ts)])) ([("self", some (.ws D.ws d)), ("other", some (.ws D.ws e)), ("n", some (N (topTs d e))), ("a", some (.own Da (l.map tripV))), ("ts", some (N ts))] : Sto)
          ([("self", some (.ws D.ws d)), ("other", some (.ws D.ws e)), ("n", some (N (topTs d e))), ("a", some (.own Da ((l ++ [(ts, indentL d ts, indentL e ts)]).map tripV))), ("ts", some (N ts))] : Sto) := by
        rw [List.map_append]; exact u3
      refine Ex.cons (Es.append (d := tripV (ts, indentL d ts, indentL e ts)) (.tail _ (.tail _ (.tail _ (.head _)))) (Evs.cons (Ev.tupD (Evs.cons Ev.n4 (Evs.cons (Ev.mcall P P.mIndent Ev.n0 (Evs.cons Ev.n4 Evs.nil) fun f hf => indent_ok P Z hts.1 (by omega) hf) (Evs.cons (Ev.mcall P P.mIndent Ev.n1 (Evs.cons Ev.n4 Evs.nil) fun f hf => indent_ok P Z' hts.1 (by omega) hf) Evs.nil)))) Evs.nil) hup (Only.some (Only.some (Only.some (Only.own (Clean.some .nil)))) : Only "a" _).rest (by rw [List.length_map]; omega) ?_)
      exact Ex.nil (show Ex X _ _ _ [] _ from Ex.nil ⟨_, Le.refl _, some (N ts), fun d e => by obtain rfl := Option.some.inj e; rfl, by rw [hnew]; rfl⟩)
    · have hF : witF (fun a b => decide (b ≤ a)) d e ts = none := by unfold witF; rw [h]; rfl
      rw [hF] at hnew
      refine Ex.nil (show Ex X _ _ _ [] _ from Ex.nil ⟨_, Le.refl _, some (N ts), fun d e => by obtain rfl := Option.some.inj e; rfl, by rw [hnew]; simp⟩)
  · refine el1_2 (hI) fun o ho y6 => ?_; obtain rfl := y6
    rw [List.length_map, List.take_length]
    exact Ex.cons (Es.retOwn (.tail _ (.tail _ (.tail _ (.head _)))) rfl)
noncomputable def lessL (d e : WsD) : Bool := if e.n ≤ d.n then false else if decide (d.count.length ≤ 1) && decide (e.count.length ≤ 1) then decide (d.nt ≤ e.nt) else (List.range' 2 (topTs d e - 1)).all fun ts => decide (indentL d ts < indentL e ts)
theorem less_ok {D : Ad} {d e : WsD} (P : PK X D K) (Z : Sm d) (Z' : Sm e) {f : Addr} (hf : PFn X f (mst 6)) : OpN X (k + 2) (.ref f) [.ws D.ws d, .ws D.ws e] (.bool (lessL d e)) := by
  refine OpN.pfn ["self", "other"] ["n", "ts"] ["max", "range"] [] P.toXOk hf (by decide +kernel) rfl (fun name qual kV doc pm an cd ct vs h => ?_) ?_
  · obtain ⟨a, b, rfl⟩ := len2 h
    rfl
  have htop := top_le Z Z'
  refine Ex.cons (Es.ite (Tr.cmp (Ev.attr P Ev.n0 .n) (Ev.attr P Ev.n1 .n) Op2.geN) (fun h => ?_) (fun h => Ex.nil ?_))
  · have h := of_decide_eq_true h
    exact Ex.cons (Es.ret (d := .bool (lessL d e)) (by unfold lessL; rw [if_pos h]; exact Ev.bool) rfl)
  have h1 := of_decide_eq_false h
  refine Ex.cons (Es.ite (Tr.and (Tr.of (Ev.attr P Ev.n0 .simple) Truth.bool) (fun _ => Tr.of (Ev.attr P Ev.n1 .simple) Truth.bool)) (fun h => ?_) (fun h => Ex.nil ?_))
  · refine Ex.cons (Es.ret (d := .bool (lessL d e)) ?_ rfl)
    unfold lessL
    rw [if_neg h1, if_pos h]
    exact Ev.cmp (Ev.attr P Ev.n0 .nt) (Ev.attr P Ev.n1 .nt) Op2.leN
  have hL : lessL d e = (List.range' 2 (topTs d e - 1)).all fun ts => decide (indentL d ts < indentL e ts) := by
    unfold lessL; rw [if_neg h1, if_neg (by rw [h]; decide)]
  rw [hL]
  refine Ex.cons (Es.asg (d := N (topTs d e)) (Ev.bin (Ev.call (Ev.glob P.toXOk (.head _) P.max) (Evs.cons (Ev.mcall P P.mLong Ev.n0 Evs.nil fun f hf => long_ok P Z hf) (Evs.cons (Ev.mcall P P.mLong Ev.n1 Evs.nil fun f hf => long_ok P Z' hf) Evs.nil)) .builtin max_nat) (Ev.natc 1) Op2.addN) u2 ?_)
  have htop1 : 1 ≤ topTs d e := by unfold topTs; (exact Nat.succ_pos _)
  have hiv : ∀ p1 p2 p3 p4 p5 q, Iv X (k + 1) ⟨["max", "range"], [], []⟩ ([("self", some (.ws D.ws d)), ("other", some (.ws D.ws e)), ("n", some (N (topTs d e))), ("ts", none)] : Sto) (.Call (.Name "range" p1) [.Constant (.int 2) 0 p2, .BinOp (.Name "n" p3) .Add (.Constant (.int 1) 0 p4) p5] [] q) ((List.range' 2 (topTs d e - 1)).map N) := fun p1 p2 p3 p4 p5 q => by
    have := Iv.range2 (X := X) (k := k + 1) (gs := ⟨["max", "range"], [], []⟩) (σ := [("self", some (.ws D.ws d)), ("other", some (.ws D.ws e)), ("n", some (N (topTs d e))), ("ts", none)]) (func := .Name "range" p1) (e1 := .Constant (.int 2) 0 p2) (e2 := .BinOp (.Name "n" p3) .Add (.Constant (.int 1) 0 p4) p5) (pos := q) (a := ((2 : Nat) : Int)) (b := ((topTs d e + 1 : Nat) : Int)) (n := topTs d e - 1)
      (Ev.glob P.toXOk (.tail _ (.head _)) P.range) (Ev.natc 2) (Ev.bin Ev.n2 (Ev.natc 1) Op2.addN) (by split <;> omega) (by decide) (by omega)
    rwa [upto_range'] at this
  refine Ex.cons (Es.for (items := (List.range' 2 (topTs d e - 1)).map N) (hiv _ _ _ _ _ _)
    (fun i σ => ((List.range' 2 (topTs d e - 1)).take i).all (fun ts => decide (indentL d ts < indentL e ts)) = true ∧ ∃ o, σ = ([("self", some (.ws D.ws d)), ("other", some (.ws D.ws e)), ("n", some (N (topTs d e))), ("ts", o)] : Sto))
    ⟨_, Le.refl _, rfl, none, rfl⟩ (fun i x σ hx hI => ?_) (fun σ hI => ?_))
  · obtain ⟨hall, o, rfl⟩ := hI
    obtain ⟨ts, hj, rfl⟩ : ∃ j, (List.range' 2 (topTs d e - 1))[i]? = some j ∧ N j = x := by rw [List.getElem?_map] at hx; simpa using hx
    have hm := List.mem_of_getElem? hj
    have hts : 2 ≤ ts ∧ ts < 2 + (topTs d e - 1) := by rwa [List.mem_range'_1] at hm
    refine ⟨_, a3, ?_⟩
    refine Ex.cons (Es.ite (Tr.cmp (Ev.mcall P P.mIndent Ev.n0 (Evs.cons Ev.n3 Evs.nil) fun f hf => indent_ok P Z (by omega) (by omega) hf) (Ev.mcall P P.mIndent Ev.n1 (Evs.cons Ev.n3 Evs.nil) fun f hf => indent_ok P Z' (by omega) (by omega) hf) Op2.geN) (fun h => ?_) (fun h => ?_))
    · have h := of_decide_eq_true h
      refine Ex.cons (Es.ret (d := .bool ((List.range' 2 (topTs d e - 1)).all fun ts => decide (indentL d ts < indentL e ts))) ?_ rfl)
      have : ((List.range' 2 (topTs d e - 1)).all fun ts => decide (indentL d ts < indentL e ts)) = false := by
        rw [List.all_eq_false]
        exact ⟨ts, hm, by simp; assumption⟩
      rw [this]; exact Ev.bool
    · have h := of_decide_eq_false h
      refine Ex.nil (show Ex X _ _ _ [] _ from Ex.nil ⟨_, Le.refl _, ?_, _, rfl⟩)
      rw [List.take_add_one, hj, List.all_append, hall]
      simp; (exact Nat.lt_of_not_le (by assumption))
  · obtain ⟨hall, o, rfl⟩ := hI
    rw [List.length_map, List.take_length] at hall
    rw [hall]
    exact Ex.cons (Es.ret Ev.bool rfl)
end Mine
end
noncomputable section
namespace Mine
open PySem PySem.W PySem.Calls PyProof.Rows
variable {prog : Program} {w : World} {A : Around} {E : Value → Shared → Prop} {s : Shared}
structure Sub where
  it : Addr
  tp : Addr
  items : Array Value
noncomputable def Sub.At (u : Sub) (i : Nat) (h : Heap) : Prop := (h.IsListIter u.it u.tp i ∧ h.IsList u.tp u.items) ∨ (h.IsTupleIter u.it u.tp i ∧ h.IsTuple u.tp u.items)
theorem Sub.At.at {u : Sub} {i : Nat} {h h' : Heap} (x : u.At i h) (k : ∀ b o, b = u.it ∨ b = u.tp → h.get? b = some o → h'.get? b = some o) : u.At i h' := by
  rcases x with ⟨⟨o, a, r⟩, o2, a2, r2⟩ | ⟨⟨o, a, r⟩, o2, a2, r2⟩
  · exact .inl ⟨⟨o, k _ _ (.inl rfl) a, r⟩, o2, k _ _ (.inr rfl) a2, r2⟩
  · exact .inr ⟨⟨o, k _ _ (.inl rfl) a, r⟩, o2, k _ _ (.inr rfl) a2, r2⟩
theorem Sub.At.live {u : Sub} {i : Nat} {h : Heap} (x : u.At i h) : (∃ o, h.get? u.it = some o) ∧ ∃ o, h.get? u.tp = some o := by
  rcases x with ⟨⟨o, a, r⟩, o2, a2, r2⟩ | ⟨⟨o, a, r⟩, o2, a2, r2⟩ <;> exact ⟨⟨o, a⟩, o2, a2⟩
theorem tupNext_item {it t : Addr} {i : Nat} {items : Array Value} {x : Value} {Q : Value → Shared → Prop} (hit : s.heap.IsTupleIter it t i) (ht : s.heap.IsTuple t items) (hx : items[i]? = some x)
    (hQ : ∀ h', h'.IsTupleIter it t (i + 1) → Heap.SameBut it s.heap h' → Q x { s with heap := h' }) : wpAny (model prog w) A (Builtin.SmallTypes.nextOf (.ref it)) Q E s := by
  have ⟨o, ho, hc, hd⟩ := hit
  have ⟨ol, hol, _, nl, hdl⟩ := ht
  unfold Builtin.SmallTypes.nextOf
  refine wpAny_bind (wpAny_callSpecial?_slot (name := Str.ofString "__next__") hit.typeIs F.slot_tuple_iterator_next (wpAny_call_entry F.slot_tuple_iterator_next hit.typeIs F.entry_tuple_iterator_next ?_ (F.args_tuple_iterator_next_1 _)))
  refine wpAny_bind (m := field (.ref it) 0) (wpAny_field ho hd (x := .ref t) rfl ?_)
  rw [if_neg (show ¬ ((Value.ref t == Value.none) = true) from Bool.false_ne_true)]
  refine wpAny_bind (m := field (.ref it) 1) (wpAny_field ho hd (x := .int i 0) rfl ?_)
  refine wpAny_bind (m := seqItems? (.ref t)) (wpAny_seqItems hol hdl ?_)
  simp only [Int.toNat_natCast, hx]
  refine wpAny_bind (wpAny_setField ho hd (by simp) (wpAny_pure ⟨x, rfl, wpAny_pure (hQ _ ⟨_, Heap.get?_update_self _ ho (Obj.isFreed_of_fields (Obj.data_mapFields hd _)), (Obj.cls_mapFields ..).trans hc, ?_⟩ (Heap.SameBut.update ..))⟩))
  rw [Obj.data_mapFields hd]; simp [rawInt]
theorem tupNext_end {it t : Addr} {i : Nat} {items : Array Value} {Q : Value → Shared → Prop} (hh : A.handled = none) (hit : s.heap.IsTupleIter it t i) (ht : s.heap.IsTuple t items) (hx : items[i]? = none)
    (hE : ∀ h' e, Heap.ExtBut it s.heap h' → (∃ o, h'.get? e = some o ∧ o.cls = .type "StopIteration") → E (.ref e) { s with heap := h' }) : wpAny (model prog w) A (Builtin.SmallTypes.nextOf (.ref it)) Q E s := by
  have ⟨o, ho, hc, hd⟩ := hit
  have ⟨ol, hol, _, nl, hdl⟩ := ht
  unfold Builtin.SmallTypes.nextOf
  refine wpAny_bind (wpAny_callSpecial?_slot (name := Str.ofString "__next__") hit.typeIs F.slot_tuple_iterator_next (wpAny_call_entry F.slot_tuple_iterator_next hit.typeIs F.entry_tuple_iterator_next ?_ (F.args_tuple_iterator_next_1 _)))
  refine wpAny_bind (m := field (.ref it) 0) (wpAny_field ho hd (x := .ref t) rfl ?_)
  rw [if_neg (show ¬ ((Value.ref t == Value.none) = true) from Bool.false_ne_true)]
  refine wpAny_bind (m := field (.ref it) 1) (wpAny_field ho hd (x := .int i 0) rfl ?_)
  refine wpAny_bind (m := seqItems? (.ref t)) (wpAny_seqItems hol hdl ?_)
  simp only [Int.toNat_natCast, hx]
  refine wpAny_bind (wpAny_rule (wpAny_bind (wpAny_setField ho hd (by simp) ?_)))
  refine wpAny_bind (m := newExc (.type "StopIteration") []) ?_
  simp only [newExc, newTuple]
  refine wpAny_bind (wpAny_newObj_type ?_ (by size_fits))
  refine wpAny_bind (m := firstArgMember _ _) (wpAny_of_eq (a := Value.none) (by first | rfl | (simp only [firstArgMember]; rfl)) ?_)
  refine wpAny_newObj_type ?_ (by size_fits)
  simp only [raiseNew]
  refine wpAny_bind (wpAny_handled ?_)
  first | rw [show A.in1.handled = none from hh] | rw [hh]
  exact wpAny_bind (wpAny_pure (wpAny_throw (hE _ _ (((Heap.SameBut.update ..).extBut.push _).push _) ⟨_, Heap.get?_push_size _ rfl, rfl⟩)))
theorem Sub.item {u : Sub} {i : Nat} {x : Value} {Q : Value → Shared → Prop} (hA : u.At i s.heap) (hne : u.it ≠ u.tp) (hx : u.items[i]? = some x)
    (hQ : ∀ h', u.At (i + 1) h' → Heap.SameBut u.it s.heap h' → Q x { s with heap := h' }) : wpAny (model prog w) A (Builtin.SmallTypes.nextOf (.ref u.it)) Q E s := by
  rcases hA with ⟨h1, h2⟩ | ⟨h1, h2⟩
  · exact wpAny_nextOf_list_item h1 h2 hx fun h' a b => hQ h' (.inl ⟨a, h2.extBut b.extBut (Ne.symm hne)⟩) b
  · refine tupNext_item h1 h2 hx fun h' a b => hQ h' (.inr ⟨a, ?_⟩) b
    refine el1_2 (h2) fun o ho r => ?_
    exact ⟨o, b.extBut _ _ (Ne.symm hne) ho, r⟩
theorem Sub.stop {u : Sub} {i : Nat} {Q : Value → Shared → Prop} (hh : A.handled = none) (hA : u.At i s.heap) (hx : u.items[i]? = none)
    (hE : ∀ h' e, Heap.ExtBut u.it s.heap h' → (∃ o, h'.get? e = some o ∧ o.cls = .type "StopIteration") → E (.ref e) { s with heap := h' }) : wpAny (model prog w) A (Builtin.SmallTypes.nextOf (.ref u.it)) Q E s := by
  rcases hA with ⟨h1, h2⟩ | ⟨h1, h2⟩
  · exact wpAny_nextOf_list_end hh h1 h2 hx hE
  · exact tupNext_end hh h1 h2 hx hE
structure Apart (us : List Sub) : Prop where
  nd : (us.map (·.it)).Nodup
  tp : ∀ u ∈ us, ∀ u' ∈ us, u.it ≠ u'.tp
theorem Apart.tail {u : Sub} {us : List Sub} (a : Apart (u :: us)) : Apart us := ⟨(List.nodup_cons.mp (show (u.it :: us.map (·.it)).Nodup from a.nd)).2, fun x hx y hy => a.tp x (.tail _ hx) y (.tail _ hy)⟩
theorem Apart.head {u : Sub} {us : List Sub} (a : Apart (u :: us)) : ∀ u' ∈ us, u'.it ≠ u.it ∧ u.it ≠ u'.tp := fun u' hu => ⟨fun e => (List.nodup_cons.mp (show (u.it :: us.map (·.it)).Nodup from a.nd)).1 (by rw [← e]; exact List.mem_map_of_mem (f := Sub.it) hu), a.tp u (.head _) u' (.tail _ hu)⟩
noncomputable abbrev StepF := ForInStep (Option PySem.Fin × Array Value)
theorem draws_free {i : Nat} {f : Value → Option PySem.Fin × Array Value → Sem StepF} {g : Option PySem.Fin × Array Value → Sem StepF}
    (hf : ∀ v r, f v r = (holding r.2.toList (Builtin.SmallTypes.nextOf v >>= fun x => pure (some x))) >>= fun d => match d with
      | some x => pure (ForInStep.yield (none, r.2.push x))
      | none => g r) {Q : Option PySem.Fin × Array Value → Shared → Prop} :
    ∀ (us : List Sub) (acc : Array Value) (xs : List Value) (s : Shared), Apart us → (∀ u ∈ us, u.At i s.heap) → us.map (fun u => u.items[i]?) = xs.map some →
      (∀ h', (∀ u ∈ us, u.At (i + 1) h') → (∀ b, b ∉ us.map (·.it) → h'.get? b = s.heap.get? b) → h'.objs.size = s.heap.objs.size → Q (none, (acc.toList ++ xs).toArray) { s with heap := h' }) →
      wpAny (model prog w) A (forIn (us.map fun u => Value.ref u.it) (none, acc) f) Q E s
  | [], acc, xs, s, _, _, hx, hQ => by
    have : xs = [] := by cases xs with | nil => rfl | cons a l => simp at hx
    subst this
    have := hQ s.heap (fun _ h => nomatch h) (fun _ _ => rfl) rfl
    simp only [List.append_nil] at this
    exact wpAny_pure this
  | u :: us, acc, xs, s, ha, hA, hx, hQ => by
    cases xs with
    | nil => simp at hx
    | cons x xs =>
      simp only [List.map_cons, List.cons.injEq] at hx
      rw [List.map_cons, List.forIn_cons, hf]
      refine wpAny_bind (wpAny_bind (wpAny_holding (wpAny_bind (Sub.item (hA u (.head _)) (ha.tp u (.head _) u (.head _)) hx.1 fun h1 a1 b1 => wpAny_pure (wpAny_pure ?_)))))
      have hh := ha.head
      refine draws_free hf us (acc.push x) xs _ ha.tail (fun u' hu => (hA u' (.tail _ hu)).at fun b o hb e => ?_) hx.2 fun h' a2 b2 c2 => ?_
      · refine (b1.2 b ?_).trans e
        rcases hb with rfl | rfl
        · exact (hh u' hu).1
        · exact Ne.symm (hh u' hu).2
      · have := hQ h' (fun u' hu => ?_) (fun b hb => ?_) (c2.trans b1.1)
        · simpa using this
        · rcases List.mem_cons.mp hu with z | z
          · subst z
            refine a1.at fun b o hb e => (b2 b fun hm => ?_).trans e
            refine el1_2 (List.mem_map.mp hm) fun u2 hu2 e2 => ?_
            rcases hb with rfl | rfl
            · exact (hh u2 hu2).1 e2
            · exact ha.tp u2 (.tail _ hu2) u' (.head _) e2
          · exact a2 u' z
        · rw [List.map_cons, List.mem_cons, not_or] at hb
          exact (b2 b hb.2).trans (b1.2 b hb.1)
theorem draws_end {i : Nat} {f : Value → Option PySem.Fin × Array Value → Sem StepF} {g : Option PySem.Fin × Array Value → Sem StepF}
    (hf : ∀ v r, f v r = (holding r.2.toList (Builtin.SmallTypes.nextOf v >>= fun x => pure (some x))) >>= fun d => match d with
      | some x => pure (ForInStep.yield (none, r.2.push x))
      | none => g r) {Q : Option PySem.Fin × Array Value → Shared → Prop} (hh : A.handled = none) :
    ∀ (us : List Sub) (acc : Array Value) (s : Shared), Apart us → (∀ u ∈ us, u.At i s.heap) → (∃ u ∈ us, u.items[i]? = none) →
      (∀ h' e, (∀ b o, b ∉ us.map (·.it) → s.heap.get? b = some o → h'.get? b = some o) → (∃ o, h'.get? e = some o ∧ o.cls = .type "StopIteration") → E (.ref e) { s with heap := h' }) →
      wpAny (model prog w) A (forIn (us.map fun u => Value.ref u.it) (none, acc) f) Q E s
  | [], acc, s, _, _, hx, hE => by refine el1_2 (hx) fun u h _ => ?_; cases h
  | u :: us, acc, s, ha, hA, hx, hE => by
    rw [List.map_cons, List.forIn_cons, hf]
    cases q : u.items[i]? with
    | none =>
      refine wpAny_bind (wpAny_bind (wpAny_holding (wpAny_bind (Sub.stop hh (hA u (.head _)) q fun h' e a b => ?_))))
      exact hE h' e (fun c o hc he => a _ _ (fun z => hc (by rw [z]; exact .head _)) he) b
    | some x =>
      have hx' : ∃ u ∈ us, u.items[i]? = none := by
        refine el1_2 (hx) fun u' h1 h2 => ?_
        rcases List.mem_cons.mp h1 with z | z
        · subst z; rw [q] at h2; cases h2
        · exact ⟨u', z, h2⟩
      have hh' := ha.head
      refine wpAny_bind (wpAny_bind (wpAny_holding (wpAny_bind (Sub.item (hA u (.head _)) (ha.tp u (.head _) u (.head _)) q fun h1 a1 b1 => wpAny_pure (wpAny_pure ?_)))))
      refine draws_end hf hh us (acc.push x) _ ha.tail (fun u' hu => (hA u' (.tail _ hu)).at fun b o hb e => ?_) hx' fun h' e k he => ?_
      · refine (b1.2 b ?_).trans e
        rcases hb with rfl | rfl
        · exact (hh' u' hu).1
        · exact Ne.symm (hh' u' hu).2
      · refine hE h' e (fun b o hb q => k b o (fun z => hb (.tail _ z)) ((b1.2 b (fun z => hb (by rw [z]; exact .head _))).trans q)) he
end Mine
end
noncomputable section
namespace Mine
open PySem PySem.W PySem.Calls PyProof.Rows
variable {prog : Program} {w : World} {A : Around} {E : Value → Shared → Prop} {s : Shared}
noncomputable abbrev tupObj (ks : Array Value) : Obj := { cls := .type "tuple", data := .seq ks }
theorem tup_set {h : Heap} {t : Addr} {ks : Array Value} {k : Nat} {x : Value} (ho : h.get? t = some (tupObj ks)) : (h.update t (Obj.mapSeq (·.setIfInBounds k x))).get? t = some (tupObj (ks.setIfInBounds k x)) := by
  rw [Heap.get?_update_self _ ho rfl]; simp [Obj.mapSeq]
noncomputable abbrev StepU := ForInStep (Option PySem.Fin × Unit)
noncomputable abbrev OwnF (z TO : Addr) (f : Value × Nat → Option PySem.Fin × Unit → Sem StepU) : Prop := ∃ g1 g2 : Value × Nat → Option PySem.Fin × Unit → Sem StepU, ∀ p r, f p r = ((Builtin.SmallTypes.nextOf p.1 >>= fun x => pure (some x) : Sem (Option Value)).onRaise fun _ => setField (.ref z) 0 .none) >>= fun d => match d with
      | some x => seqItems? (.ref TO) >>= fun kk => (match kk with
        | some kept => (updateSeq TO (fun ys => ys.setIfInBounds p.2 x) >>= fun _ => letGo [kept.getD p.2 .none] >>= fun _ => pure (ForInStep.yield (none, ())))
        | none => g1 p r)
      | none => g2 p r
theorem draws_own {z TO : Addr} {i : Nat} {f : Value × Nat → Option PySem.Fin × Unit → Sem StepU} (hf : OwnF z TO f) {Q : Option PySem.Fin × Unit → Shared → Prop} :
    ∀ (us : List Sub) (k : Nat) (ks : Array Value) (xs : List Value) (s : Shared), Apart us → (∀ u ∈ us, u.At i s.heap ∧ TO ≠ u.it ∧ TO ≠ u.tp) → us.map (fun u => u.items[i]?) = xs.map some → s.heap.get? TO = some (tupObj ks) → ks.size = k + us.length → ks.size ≤ 10 →
      (∀ h', (∀ u ∈ us, u.At (i + 1) h') → h'.get? TO = some (tupObj (ks.toList.take k ++ xs).toArray) → (∀ b, b ∉ us.map (·.it) → b ≠ TO → h'.get? b = s.heap.get? b) → h'.objs.size = s.heap.objs.size → Q (none, ()) { s with heap := h' }) →
      wpAny (model prog w) A (forIn ((us.map fun u => Value.ref u.it).zipIdx k) (none, ()) f) Q E s
  | [], k, ks, xs, s, _, _, hx, hT, hsz, _, hQ => by
    have : xs = [] := by cases xs with | nil => rfl | cons a l => simp at hx
    subst this
    have := hQ s.heap (fun _ h => nomatch h) (by rw [List.append_nil, List.take_of_length_le (by rw [Array.length_toList]; simp at hsz; (exact Nat.le_of_eq (by assumption)))]; simpa using hT) (fun _ _ _ => rfl) rfl
    exact wpAny_pure this
  | u :: us, k, ks, xs, s, ha, hA, hx, hT, hsz, h10, hQ => by
    refine el2_1 (hf) fun g1 g2 hg => ?_
    have e16 : sizeLine = 16777216 := by decide
    cases xs with
    | nil => simp at hx
    | cons x xs =>
      simp only [List.map_cons, List.cons.injEq] at hx
      refine el0_3 (hA u (.head _)) fun hAu t1 t2 => ?_
      rw [List.map_cons, List.zipIdx_cons, List.forIn_cons, hg]
      refine wpAny_bind (wpAny_bind (wpAny_onRaise (wpAny_bind (Sub.item hAu (ha.tp u (.head _) u (.head _)) hx.1 fun h1 a1 b1 => wpAny_pure ?_))))
      have hT1 : h1.get? TO = some (tupObj ks) := (b1.2 _ t1).trans hT
      refine wpAny_bind (wpAny_seqItems hT1 rfl ?_)
      refine wpAny_bind (wpAny_updateSeq hT1 rfl ?_ (by lia) (by rw [Array.size_setIfInBounds]; lia))
      refine wpAny_bind (wpAny_letGo (wpAny_pure ?_))
      have hT2 := tup_set (k := k) (x := x) hT1
      generalize hh2 : h1.update TO (Obj.mapSeq fun ys => ys.setIfInBounds k x) = h2
      have b2 : ∀ b, b ≠ TO → h2.get? b = h1.get? b := fun b hb => hh2 ▸ Heap.get?_update_other _ _ (Ne.symm hb)
      have c2 : h2.objs.size = h1.objs.size := hh2 ▸ (Heap.SameBut.update ..).1
      rw [hh2] at hT2
      have hh := ha.head
      have both : ∀ b, b ≠ u.it → b ≠ TO → h2.get? b = s.heap.get? b := fun b n1 n2 => (b2 b n2).trans (b1.2 b n1)
      refine draws_own ⟨g1, g2, hg⟩ us (k + 1) (ks.setIfInBounds k x) xs { s with heap := h2 } ha.tail (fun u' hu => ⟨(hA u' (.tail _ hu)).1.at fun b o hb e => ?_, (hA u' (.tail _ hu)).2⟩) hx.2 hT2 (by rw [Array.size_setIfInBounds, hsz, List.length_cons]; lia) (by rw [Array.size_setIfInBounds]; exact h10) fun h' a3 t3 b3 c3 => ?_
      · refine (both b ?_ ?_).trans e
        · rcases hb with rfl | rfl
          · exact (hh u' hu).1
          · exact Ne.symm (hh u' hu).2
        · rcases hb with rfl | rfl
          · exact Ne.symm (hA u' (.tail _ hu)).2.1
          · exact Ne.symm (hA u' (.tail _ hu)).2.2
      · refine hQ h' (fun u' hu => ?_) ?_ (fun b hb hbT => ?_) (c3.trans (c2.trans b1.1))
        · rcases List.mem_cons.mp hu with q | q
          · subst q
            refine a1.at fun b o hb e => ?_
            have hbT : b ≠ TO := by
              rcases hb with rfl | rfl
              · exact Ne.symm t1
              · exact Ne.symm t2
            refine ((b3 b (fun hm => ?_) hbT).trans (b2 b hbT)).trans e
            refine el1_2 (List.mem_map.mp hm) fun u2 hu2 e2 => ?_
            rcases hb with rfl | rfl
            · exact (hh u2 hu2).1 e2
            · exact ha.tp u2 (.tail _ hu2) u' (.head _) e2
          · exact a3 u' q
        · rw [t3]
          congr 3
          have hk : k < ks.toList.length := by rw [Array.length_toList, hsz, List.length_cons]; lia
          rw [Array.toList_setIfInBounds, List.take_add_one, List.getElem?_set_self hk, List.take_set_of_le (Nat.le_refl _)]
          simp
        · rw [List.map_cons, List.mem_cons, not_or] at hb
          exact (b3 b hb.2 hbT).trans (both b hb.1 hbT)
theorem draws_ownEnd {z TO : Addr} {i : Nat} {f : Value × Nat → Option PySem.Fin × Unit → Sem StepU} (hf : OwnF z TO f) {Q : Option PySem.Fin × Unit → Shared → Prop} (hh : A.handled = none) {zv : Value} {vs : Array Value} (hv : 0 < vs.size) :
    ∀ (us : List Sub) (k : Nat) (ks : Array Value) (s : Shared), Apart us → (∀ u ∈ us, u.At i s.heap ∧ TO ≠ u.it ∧ TO ≠ u.tp ∧ z ≠ u.it) → z ≠ TO → (∃ u ∈ us, u.items[i]? = none) → s.heap.get? TO = some (tupObj ks) → ks.size ≤ 10 → s.heap.get? z = some { cls := zv, dict := none, data := .fields vs, slots := #[] } → zv ≠ .type "StopIteration" →
      (∀ h' e, (∀ b o, b ∉ us.map (·.it) → b ≠ TO → b ≠ z → s.heap.get? b = some o → h'.get? b = some o) → (∃ o, h'.get? e = some o ∧ o.cls = .type "StopIteration") → E (.ref e) { s with heap := h' }) →
      wpAny (model prog w) A (forIn ((us.map fun u => Value.ref u.it).zipIdx k) (none, ()) f) Q E s
  | [], k, ks, s, _, _, _, hx, _, _, _, _, hE => by refine el1_2 (hx) fun u h _ => ?_; cases h
  | u :: us, k, ks, s, ha, hA, hzT, hx, hT, h10, hz, hzc, hE => by
    refine el2_1 (hf) fun g1 g2 hg => ?_
    have e16 : sizeLine = 16777216 := by decide
    refine el0_4 (hA u (.head _)) fun hAu t1 t2 t3 => ?_
    rw [List.map_cons, List.zipIdx_cons, List.forIn_cons, hg]
    cases q : u.items[i]? with
    | none =>
      refine wpAny_bind (wpAny_bind (wpAny_onRaise (wpAny_bind (Sub.stop hh hAu q fun h' e a b => ?_))))
      have hz1 := a _ _ t3 hz
      refine wpAny_setField_rec hz1 hv fun h2 hz2 hs2 => hE h2 e (fun c o hc hcT hcz he => hs2.extBut _ _ hcz (a _ _ (fun y => hc (by rw [y]; exact .head _)) he)) ?_
      refine el1_2 (b) fun oe h1 h3 => ?_
      refine ⟨oe, hs2.extBut _ _ (fun y => ?_) h1, h3⟩
      subst y
      rw [hz1] at h1; obtain rfl := Option.some.inj h1
      exact hzc h3
    | some x =>
      have hx' : ∃ u ∈ us, u.items[i]? = none := by
        refine el1_2 (hx) fun u' h1 h2 => ?_
        rcases List.mem_cons.mp h1 with y | y
        · subst y; rw [q] at h2; cases h2
        · exact ⟨u', y, h2⟩
      have hh' := ha.head
      refine wpAny_bind (wpAny_bind (wpAny_onRaise (wpAny_bind (Sub.item hAu (ha.tp u (.head _) u (.head _)) q fun h1 a1 b1 => wpAny_pure ?_))))
      have hT1 : h1.get? TO = some (tupObj ks) := (b1.2 _ t1).trans hT
      refine wpAny_bind (wpAny_seqItems hT1 rfl ?_)
      refine wpAny_bind (wpAny_updateSeq hT1 rfl ?_ (by lia) (by rw [Array.size_setIfInBounds]; lia))
      refine wpAny_bind (wpAny_letGo (wpAny_pure ?_))
      have hT2 := tup_set (k := k) (x := x) hT1
      generalize hh2 : h1.update TO (Obj.mapSeq fun ys => ys.setIfInBounds k x) = h2
      have b2 : ∀ b, b ≠ TO → h2.get? b = h1.get? b := fun b hb => hh2 ▸ Heap.get?_update_other _ _ (Ne.symm hb)
      rw [hh2] at hT2
      have both : ∀ b, b ≠ u.it → b ≠ TO → h2.get? b = s.heap.get? b := fun b n1 n2 => (b2 b n2).trans (b1.2 b n1)
      refine draws_ownEnd ⟨g1, g2, hg⟩ hh hv us (k + 1) (ks.setIfInBounds k x) { s with heap := h2 } ha.tail (fun u' hu => ⟨(hA u' (.tail _ hu)).1.at fun b o hb e => ?_, (hA u' (.tail _ hu)).2⟩) hzT hx' hT2 (by rw [Array.size_setIfInBounds]; exact h10) ((both z t3 hzT).trans hz) hzc fun h' e k he => ?_
      · refine (both b ?_ ?_).trans e
        · rcases hb with rfl | rfl
          · exact (hh' u' hu).1
          · exact Ne.symm (hh' u' hu).2
        · rcases hb with rfl | rfl
          · exact Ne.symm (hA u' (.tail _ hu)).2.1
          · exact Ne.symm (hA u' (.tail _ hu)).2.2.1
      · exact hE h' e (fun b o hb hbT hbz q => k b o (fun y => hb (.tail _ y)) hbT hbz ((both b (fun y => hb (by rw [y]; exact .head _)) hbT).trans q)) he
end Mine
end
noncomputable section
namespace Mine
open PySem PySem.W PySem.Calls PyProof.Rows
variable {prog : Program} {w : World} {A : Around} {E : Value → Shared → Prop} {s : Shared}
structure ZipAp (z TI TO : Addr) (us : List Sub) : Prop where
  ap : Apart us
  zTI : z ≠ TI
  zTO : z ≠ TO
  TIO : TI ≠ TO
  it : ∀ u ∈ us, u.it ≠ z ∧ u.it ≠ TI ∧ u.it ≠ TO ∧ u.tp ≠ z ∧ u.tp ≠ TO
  ne : us ≠ []
  len : us.length ≤ 10
noncomputable abbrev zipObj (f0 f1 : Value) (TI TO : Addr) : Obj := { cls := .type "zip", dict := none, data := .fields #[f0, f1, .bool false, .ref TI, .ref TO], slots := #[] }
structure ZipAt (ok : Addr → Prop) (z TI TO : Addr) (us : List Sub) (i : Nat) (h : Heap) : Prop where
  zo : ∃ f0 f1, h.get? z = some (zipObj f0 f1 TI TO) ∧ (f0 = .none ∨ ∃ T o, f0 = rawInt (T : Nat) ∧ h.get? T = some o ∧ ok T)
  ti : h.get? TI = some (tupObj (us.map fun u => Value.ref u.it).toArray)
  to : ∃ ks, h.get? TO = some (tupObj ks) ∧ ks.size = us.length
  at' : ∀ u ∈ us, u.At i h
noncomputable abbrev FreeF (f : Value → Option PySem.Fin × Array Value → Sem StepF) (g : Option PySem.Fin × Array Value → Sem StepF) : Prop := ∀ v r, f v r = (holding r.2.toList (Builtin.SmallTypes.nextOf v >>= fun x => pure (some x))) >>= fun d => match d with
      | some x => pure (ForInStep.yield (none, r.2.push x))
      | none => g r
theorem zip_free {ok : Addr → Prop} {z TI TO : Addr} {us : List Sub} {i : Nat} {xs : List Value} {f1 f1' : Value} {T0 : Addr} {o0 : Obj} {h₁ : Heap} {f : Value → Option PySem.Fin × Array Value → Sem StepF} {g : Option PySem.Fin × Array Value → Sem StepF} {Q : Value → Shared → Prop} (D : ZipAp z TI TO us) (Z : ZipAt ok z TI TO us i s.heap)
    (hz : s.heap.get? z = some (zipObj (rawInt T0) f1 TI TO)) (hT0 : s.heap.get? T0 = some o0) (hok0 : ok T0) (hx : us.map (fun u => u.items[i]?) = xs.map some) (hz₁ : h₁.get? z = some (zipObj (rawInt T0) f1' TI TO)) (hs₁ : Heap.SameBut z s.heap h₁) (hf : FreeF f g) {c : Option PySem.Fin × Array Value → Sem PySem.Fin} (hc : ∀ xs, c (none, xs) = newTuple xs.toList >>= fun t => ret t)
    (hQ : ∀ h' T, ZipAt ok z TI TO us (i + 1) h' → h'.get? T = some (tupObj xs.toArray) → s.heap.get? T = none → (∀ b o, b ≠ z → b ≠ TO → b ∉ us.map (·.it) → s.heap.get? b = some o → h'.get? b = some o) → Q (.ref T) { s with heap := h' }) :
    wpAny (model prog w) A (forIn (us.map fun u => Value.ref u.it).toArray ((none : Option PySem.Fin), (#[] : Array Value)) f >>= c) (fun fin s' => ∃ v, fin = PySem.Fin.done (.ret v) ∧ Q v s') E { s with heap := h₁ } := by
  refine el1_2 (Z.to) fun ks hTO hks => ?_
  have hTI := Z.ti
  have e16 : sizeLine = 16777216 := by decide
  have hxl : xs.length = us.length := by have := congrArg List.length hx; simpa using this.symm
  have hlen := D.len
  rw [List.forIn_toArray]
  refine wpAny_bind (draws_free (i := i) hf us #[] xs { s with heap := h₁ } D.ap (fun u hu => (Z.at' u hu).at fun b o hb e => hs₁.extBut _ _ ?_ e) hx fun h₂ a2 b2 c2 => ?_)
  · rcases hb with rfl | rfl
    · exact (D.it u hu).1
    · exact (D.it u hu).2.2.2.1
  rw [hc]
  dsimp only [List.nil_append]
  refine wpAny_bind (wpAny_newTuple ?_ (by show xs.length ≤ _; lia))
  have hz₂ : h₂.get? z = some (zipObj (rawInt T0) f1' TI TO) := (b2 z (fun hm => by refine el1_2 (List.mem_map.mp hm) fun u hu e => ?_; exact (D.it u hu).1 e)).trans hz₁
  have hsz : h₂.objs.size = s.heap.objs.size := c2.trans hs₁.1
  have keep : ∀ b o, b ≠ z → b ≠ TO → b ∉ us.map (·.it) → s.heap.get? b = some o → h₂.get? b = some o := fun b o h1 h2 h3 e => (b2 b h3).trans (hs₁.extBut _ _ h1 e)
  have hTO₂ : h₂.get? TO = some (tupObj ks) := (b2 TO (fun hm => by refine el1_2 (List.mem_map.mp hm) fun u hu e => ?_; exact (D.it u hu).2.2.1 e)).trans (hs₁.extBut _ _ (Ne.symm D.zTO) hTO)
  have hlive : ∃ o, h₂.get? T0 = some o := by
    by_cases q1 : T0 = z
    · exact ⟨_, by rw [q1]; exact hz₂⟩
    by_cases q2 : T0 ∈ us.map (·.it)
    · refine el1_2 (List.mem_map.mp q2) fun u hu e => ?_
      exact e ▸ (a2 u hu).live.1
    · exact ⟨_, (b2 T0 q2).trans (hs₁.extBut _ _ q1 hT0)⟩
  refine el1_1 (hlive) fun o1 ho1 => ?_
  refine wpAny_pure ⟨_, rfl, ?_⟩
  refine hQ _ h₂.objs.size ⟨⟨_, _, Heap.get?_push_of_some _ hz₂, .inr ⟨T0, o1, rfl, Heap.get?_push_of_some _ ho1, hok0⟩⟩, Heap.get?_push_of_some _ (keep _ _ (Ne.symm D.zTI) D.TIO (fun hm => by refine el1_2 (List.mem_map.mp hm) fun u hu e => ?_; exact (D.it u hu).2.1 e) hTI), ⟨_, Heap.get?_push_of_some _ hTO₂, hks⟩, fun u hu => (a2 u hu).at fun b o _ e => Heap.get?_push_of_some _ e⟩ (by simpa using Heap.get?_push_size h₂ (o := tupObj xs.toArray) rfl) (by rw [hsz]; exact get_new _) fun b o h1 h2 h3 e => Heap.get?_push_of_some _ (keep b o h1 h2 h3 e)
theorem bindc {α β : Type} {m m' : Sem α} {f g : α → Sem β} (h : m = m') (h2 : ∀ a, f a = g a) : (m >>= f) = (m' >>= g) := by rw [h, funext h2]
theorem zip_item {ok : Addr → Prop} {z TI TO : Addr} {us : List Sub} {i : Nat} {xs : List Value} {Q : Option Value → Shared → Prop} (D : ZipAp z TI TO us) (Z : ZipAt ok z TI TO us i s.heap) (hx : us.map (fun u => u.items[i]?) = xs.map some) (hok : ∀ T, s.heap.get? T = none → ok T)
    (hQ : ∀ h' T, ZipAt ok z TI TO us (i + 1) h' → h'.get? T = some (tupObj xs.toArray) → s.heap.get? T = none → (∀ b o, b ≠ z → b ≠ TO → b ∉ us.map (·.it) → s.heap.get? b = some o → h'.get? b = some o) → Q (some (.ref T)) { s with heap := h' }) :
    wpAny (model prog w) A (pyNext (.ref z)) Q E s := by
  refine el2_2 (Z.zo) fun f0 f1 hz hf0 => ?_
  refine el1_2 (Z.to) fun ks hTO hks => ?_
  have hTI := Z.ti
  have e16 : sizeLine = 16777216 := by decide
  have hT : s.TypeIs (.ref z) "zip" := ⟨_, hz, rfl⟩
  have hxl : xs.length = us.length := by have := congrArg List.length hx; simpa using this.symm
  have hlen := D.len
  have hits : ∀ b o, s.heap.get? b = some o → b ≠ s.heap.objs.size := fun b o e => Nat.ne_of_lt (Heap.lt_size e)
  unfold pyNext
  refine wpAny_bind (wpAny_attempt (wpAny_callSpecial?_slot (name := Str.ofString "__next__") hT F.slot_zip_next (wpAny_call_entry F.slot_zip_next hT F.entry_zip_next ?_ (F.args_zip_next_1 _))))
  show wpAny _ _ (field (.ref z) 2 >>= _) _ _ _
  refine wpAny_bind (wpAny_field hz rfl (x := .bool false) rfl ?_)
  show wpAny _ _ (field (.ref z) 3 >>= _) _ _ _
  refine wpAny_bind (wpAny_field hz rfl (x := .ref TI) rfl ?_)
  refine wpAny_bind (wpAny_seqItems hTI rfl ?_)
  dsimp only
  rw [if_neg (by simp [D.ne])]
  refine wpAny_bind ?_
  unfold Builtin.SmallTypes.ownedTupleIsFree
  refine wpAny_bind (wpAny_field hz rfl (x := f0) rfl ?_)
  rcases hf0 with rfl | ⟨T0, o0, rfl, hT0, hok0⟩
  · refine wpAny_pure ?_
    rw [if_pos rfl]
    refine wpAny_bind (wpAny_rule ?_)
    refine wpAny_bind (wpAny_field hz rfl (x := .ref TO) rfl ?_)
    refine wpAny_bind (wpAny_setField_rec hz (by simp) fun h₁ hz₁ hs₁ => ?_)
    replace hz₁ : h₁.get? z = some (zipObj .ellipsis f1 TI TO) := hz₁
    have hTO₁ : h₁.get? TO = some (tupObj ks) := hs₁.extBut _ _ (Ne.symm D.zTO) hTO
    refine wpAny_bind (draws_own (z := z) (TO := TO) (i := i) ?hf us 0 ks xs { s with heap := h₁ } D.ap (fun u hu => ⟨(Z.at' u hu).at fun b o hb e => hs₁.extBut _ _ ?_ e, Ne.symm (D.it u hu).2.2.1, Ne.symm (D.it u hu).2.2.2.2⟩) hx hTO₁ (by lia) (by lia) fun h₂ a2 t2 b2 c2 => ?_)
    case hf =>
      exact ⟨fun p r => _, fun p r => _, fun p r => bindc rfl fun d => match d with
        | none => rfl
        | some x => bindc rfl fun kk => match kk with
          | none => rfl
          | some kept => rfl⟩
    · rcases hb with rfl | rfl
      · exact (D.it u hu).1
      · exact (D.it u hu).2.2.2.1
    rw [List.take_zero, List.nil_append] at t2
    dsimp only
    refine wpAny_bind (wpAny_seqItems t2 rfl ?_)
    dsimp only
    refine wpAny_bind (wpAny_newTuple ?_ (by show xs.length ≤ _; lia))
    refine wpAny_bind ?_
    unfold Builtin.SmallTypes.ownedTupleHandOut
    have hz₂ : h₂.get? z = some (zipObj .ellipsis f1 TI TO) := (b2 z (fun hm => by refine el1_2 (List.mem_map.mp hm) fun u hu e => ?_; exact (D.it u hu).1 e) D.zTO).trans hz₁
    have hsz : h₂.objs.size = s.heap.objs.size := c2.trans hs₁.1
    dsimp only
    have hz₃ := Heap.get?_push_of_some (tupObj xs.toArray) hz₂
    refine wpAny_bind (wpAny_setField_rec hz₃ (by simp) fun h₄ hz₄ hs₄ => ?_)
    refine wpAny_setField_rec hz₄ (by simp) fun h₅ hz₅ hs₅ => ?_
    replace hz₅ : h₅.get? z = some (zipObj (rawInt h₂.objs.size) (.bool false) TI TO) := hz₅
    have up : ∀ b o, b ≠ z → h₂.get? b = some o → h₅.get? b = some o := fun b o hb e => hs₅.extBut _ _ hb (hs₄.extBut _ _ hb (Heap.get?_push_of_some _ e))
    have hzlt : z < h₂.objs.size := Heap.lt_size hz₂
    have hnew : h₅.get? h₂.objs.size = some (tupObj xs.toArray) := hs₅.extBut _ _ (Nat.ne_of_gt hzlt) (hs₄.extBut _ _ (Nat.ne_of_gt hzlt) (Heap.get?_push_size _ rfl))
    have keep : ∀ b o, b ≠ z → b ≠ TO → b ∉ us.map (·.it) → s.heap.get? b = some o → h₅.get? b = some o := fun b o h1 h2 h3 e => up b o h1 ((b2 b h3 h2).trans (hs₁.extBut _ _ h1 e))
    refine wpAny_pure ⟨_, rfl, wpAny_pure (hQ h₅ h₂.objs.size ⟨⟨_, _, hz₅, .inr ⟨h₂.objs.size, _, rfl, hnew, hok _ (by rw [hsz]; exact get_new _)⟩⟩, keep _ _ (Ne.symm D.zTI) D.TIO (fun hm => by refine el1_2 (List.mem_map.mp hm) fun u hu e => ?_; exact (D.it u hu).2.1 e) hTI, ⟨_, up _ _ (Ne.symm D.zTO) t2, by simpa using hxl⟩, fun u hu => (a2 u hu).at fun b o hb e => up b o ?_ e⟩ hnew (by rw [hsz]; exact get_new _) keep)⟩
    rcases hb with rfl | rfl
    · exact (D.it u hu).1
    · exact (D.it u hu).2.2.2.1
  · have main : ∀ h₁ f1', h₁.get? z = some (zipObj (rawInt T0) f1' TI TO) → Heap.SameBut z s.heap h₁ → ∀ f, (∃ g, FreeF f g) → ∀ (c : Option PySem.Fin × Array Value → Sem PySem.Fin), (∀ xs, c (none, xs) = newTuple xs.toList >>= fun t => ret t) → ∀ E', wpAny (model prog w) A.in1 (forIn (us.map fun u => Value.ref u.it).toArray ((none : Option PySem.Fin), (#[] : Array Value)) f >>= c) (fun fin s' => ∃ v, fin = PySem.Fin.done (.ret v) ∧ wpAny (model prog w) A (pure (some v)) Q E s') E' { s with heap := h₁ } :=
      fun h₁ f1' hz₁ hs₁ f ⟨g, hf⟩ c hc E' => zip_free D Z hz hT0 hok0 hx hz₁ hs₁ hf hc fun h' T a b c d => wpAny_pure (hQ h' T a b c d)
    have hal : ∀ {α : Type} {k : Option Obj → Sem α} {Q' : α → Shared → Prop} {E' : Value → Shared → Prop}, wpAny (model prog w) A.in1 (k (some o0)) Q' E' s → wpAny (model prog w) A.in1 (loadIfAlive T0 >>= k) Q' E' s := fun h => by
      rw [← hT0] at h
      exact wpAny_bind (m := loadIfAlive T0) (fun Γ p hΓ => h)
    refine hal ?_
    rw [if_neg (by simp)]
    refine wpAny_bind (wpAny_field hz rfl (x := f1) rfl ?_)
    dsimp only
    by_cases hf1 : (f1 != Value.bool true) = true
    · rw [if_pos hf1]
      refine wpAny_bind (wpAny_setField_rec hz (by simp) fun h₁ hz₁ hs₁ => wpAny_pure ?_)
      rw [if_neg (by decide)]
      refine main h₁ (.bool true) hz₁ hs₁ _ ?_ _ (fun _ => rfl) _
      exact ⟨fun r => _, fun v r => bindc rfl fun d => match d with
          | none => rfl
          | some x => rfl⟩
    · rw [if_neg hf1]
      refine wpAny_pure ?_
      rw [if_neg (by decide)]
      refine main s.heap f1 hz ⟨rfl, fun _ _ => rfl⟩ _ ?_ _ (fun _ => rfl) _
      exact ⟨fun r => _, fun v r => bindc rfl fun d => match d with
          | none => rfl
          | some x => rfl⟩
theorem zip_stop {ok : Addr → Prop} {z TI TO : Addr} {us : List Sub} {i : Nat} {Q : Option Value → Shared → Prop} (hh : A.handled = none) (D : ZipAp z TI TO us) (Z : ZipAt ok z TI TO us i s.heap) (hx : ∃ u ∈ us, u.items[i]? = none)
    (hQ : ∀ h', (∀ b o, b ≠ z → b ≠ TO → b ∉ us.map (·.it) → s.heap.get? b = some o → h'.get? b = some o) → Q none { s with heap := h' }) : wpAny (model prog w) A (pyNext (.ref z)) Q E s := by
  refine el2_2 (Z.zo) fun f0 f1 hz hf0 => ?_
  refine el1_2 (Z.to) fun ks hTO hks => ?_
  have hTI := Z.ti
  have hT : s.TypeIs (.ref z) "zip" := ⟨_, hz, rfl⟩
  have hlen := D.len
  have last : ∀ h' e, (∀ b o, b ≠ z → b ≠ TO → b ∉ us.map (·.it) → s.heap.get? b = some o → h'.get? b = some o) → (∃ o, h'.get? e = some o ∧ o.cls = .type "StopIteration") →
      wpAny (model prog w) A (do let b ← isInstance (.ref e) (.type "StopIteration"); if b = true then pure none else throw (.ref e)) Q E { s with heap := h' } := by
    intro h' e hk ⟨o, ho, hc⟩
    refine wpAny_bind (wpAny_isInstance (T := "StopIteration") (b := true) ⟨o, ho, hc⟩ isSubtype_stop ?_)
    exact wpAny_pure (hQ _ hk)
  unfold pyNext
  refine wpAny_bind (wpAny_attempt (wpAny_callSpecial?_slot (name := Str.ofString "__next__") hT F.slot_zip_next (wpAny_call_entry F.slot_zip_next hT F.entry_zip_next ?_ (F.args_zip_next_1 _))))
  show wpAny _ _ (field (.ref z) 2 >>= _) _ _ _
  refine wpAny_bind (wpAny_field hz rfl (x := .bool false) rfl ?_)
  show wpAny _ _ (field (.ref z) 3 >>= _) _ _ _
  refine wpAny_bind (wpAny_field hz rfl (x := .ref TI) rfl ?_)
  refine wpAny_bind (wpAny_seqItems hTI rfl ?_)
  dsimp only
  rw [if_neg (by simp [D.ne])]
  refine wpAny_bind ?_
  unfold Builtin.SmallTypes.ownedTupleIsFree
  refine wpAny_bind (wpAny_field hz rfl (x := f0) rfl ?_)
  have atk : ∀ {h₁ : Heap}, Heap.SameBut z s.heap h₁ → ∀ u ∈ us, u.At i h₁ := fun hs₁ u hu => (Z.at' u hu).at fun b o hb e => hs₁.extBut _ _ (by
    rcases hb with rfl | rfl
    · exact (D.it u hu).1
    · exact (D.it u hu).2.2.2.1) e
  rcases hf0 with rfl | ⟨T0, o0, rfl, hT0, hok0⟩
  · refine wpAny_pure ?_
    rw [if_pos rfl]
    refine wpAny_bind (wpAny_rule ?_)
    refine wpAny_bind (wpAny_field hz rfl (x := .ref TO) rfl ?_)
    refine wpAny_bind (wpAny_setField_rec hz (by simp) fun h₁ hz₁ hs₁ => ?_)
    replace hz₁ : h₁.get? z = some (zipObj .ellipsis f1 TI TO) := hz₁
    have hTO₁ : h₁.get? TO = some (tupObj ks) := hs₁.extBut _ _ (Ne.symm D.zTO) hTO
    refine wpAny_bind (draws_ownEnd (z := z) (TO := TO) (i := i) ?hf (A := A.in1) hh (zv := .type "zip") (vs := #[.ellipsis, f1, .bool false, .ref TI, .ref TO]) (by simp) us 0 ks { s with heap := h₁ } D.ap (fun u hu => ⟨atk hs₁ u hu, Ne.symm (D.it u hu).2.2.1, Ne.symm (D.it u hu).2.2.2.2, Ne.symm (D.it u hu).1⟩) D.zTO hx hTO₁ (by lia) hz₁ (by simp) fun h' e hk he => ?_)
    case hf =>
      exact ⟨fun p r => _, fun p r => _, fun p r => bindc rfl fun d => match d with
        | none => rfl
        | some x => bindc rfl fun kk => match kk with
          | none => rfl
          | some kept => rfl⟩
    exact last h' e (fun b o h1 h2 h3 q => hk b o h3 h2 h1 (hs₁.extBut _ _ h1 q)) he
  · have main : ∀ h₁, Heap.SameBut z s.heap h₁ → ∀ f, (∃ g, FreeF f g) → ∀ (c : Option PySem.Fin × Array Value → Sem PySem.Fin) Q', wpAny (model prog w) A.in1 (forIn (us.map fun u => Value.ref u.it).toArray ((none : Option PySem.Fin), (#[] : Array Value)) f >>= c) Q'
        (fun e s' => wpAny (model prog w) A (do let b ← isInstance e (.type "StopIteration"); if b = true then pure none else throw e) Q E s') { s with heap := h₁ } := by
      intro h₁ hs₁ f ⟨g, hf⟩ c Q'
      rw [List.forIn_toArray]
      refine wpAny_bind (draws_end (i := i) hf (A := A.in1) hh us #[] { s with heap := h₁ } D.ap (atk hs₁) hx fun h' e hk he => ?_)
      exact last h' e (fun b o h1 h2 h3 q => hk b o h3 (hs₁.extBut _ _ h1 q)) he
    have hal : ∀ {α : Type} {k : Option Obj → Sem α} {Q' : α → Shared → Prop} {E' : Value → Shared → Prop}, wpAny (model prog w) A.in1 (k (some o0)) Q' E' s → wpAny (model prog w) A.in1 (loadIfAlive T0 >>= k) Q' E' s := fun h => by
      rw [← hT0] at h
      exact wpAny_bind (m := loadIfAlive T0) (fun Γ p hΓ => h)
    refine hal ?_
    rw [if_neg (by simp)]
    refine wpAny_bind (wpAny_field hz rfl (x := f1) rfl ?_)
    dsimp only
    by_cases hf1 : (f1 != Value.bool true) = true
    · rw [if_pos hf1]
      refine wpAny_bind (wpAny_setField_rec hz (by simp) fun h₁ hz₁ hs₁ => wpAny_pure ?_)
      rw [if_neg (by decide)]
      refine main h₁ hs₁ _ ?_ _ _
      exact ⟨fun r => _, fun v r => bindc rfl fun d => match d with
          | none => rfl
          | some x => rfl⟩
    · rw [if_neg hf1]
      refine wpAny_pure ?_
      rw [if_neg (by decide)]
      refine main s.heap ⟨rfl, fun _ _ => rfl⟩ _ ?_ _ _
      exact ⟨fun r => _, fun v r => bindc rfl fun d => match d with
          | none => rfl
          | some x => rfl⟩
end Mine
end
noncomputable section
namespace Mine
open PySem PySem.W PySem.Calls PyProof.Rows
variable {prog : Program} {w : World} {A : Around} {E : Value → Shared → Prop} {s : Shared}
noncomputable def Src (b : Bool) (tp : Addr) (items : Array Value) (h : Heap) : Prop := if b = true then h.IsList tp items else h.IsTuple tp items
noncomputable abbrev iterObj (b : Bool) (tp : Addr) : Obj := { cls := .type (if b = true then "list_iterator" else "tuple_iterator"), data := .fields #[.ref tp, .int 0 0] }
theorem Src.push {b : Bool} {tp : Addr} {items : Array Value} {h : Heap} (x : Src b tp items h) (o : Obj) : Src b tp items (h.push o) := by
  cases b
  · exact Heap.IsTuple.push x o
  · exact Heap.IsList.push x o
theorem src_iter {b : Bool} {tp : Addr} {items : Array Value} {Q : Value → Shared → Prop} (x : Src b tp items s.heap) (h : Q (.ref s.heap.objs.size) { s with heap := s.heap.push (iterObj b tp) }) : wpAny (model prog w) A (pyIter (.ref tp)) Q E s := by
  cases b
  · exact wpAny_pyIter_tuple x h
  · exact wpAny_pyIter_list x h
theorem src_at {b : Bool} {tp I : Addr} {items : Array Value} {h : Heap} (x : Src b tp items h) (hI : h.get? I = some (iterObj b tp)) : (Sub.mk I tp items).At 0 h := by
  cases b
  · exact .inr ⟨⟨_, hI, rfl, rfl⟩, x⟩
  · exact .inl ⟨⟨_, hI, rfl, rfl⟩, x⟩
theorem src_lt {b : Bool} {tp : Addr} {items : Array Value} {h : Heap} (x : Src b tp items h) : tp < h.objs.size := by
  cases b
  · obtain ⟨o, e, _⟩ := x; exact Heap.lt_size e
  · obtain ⟨o, e, _⟩ := x; exact Heap.lt_size e
theorem typeCall_zip_3 (a b c : Value) : checkTypeCall "zip" ⟨[a, b, c], []⟩ = pure () := by kernel_rfl
theorem newCall_zip_3 (a b c : Value) : checkBuiltinCall "zip.__new__" ⟨[.type "zip", a, b, c], []⟩ = pure () := by kernel_rfl
theorem args_object_init_4 (a b c d : Value) : argsOk "object.__init__" ⟨[a, b, c, d], []⟩ := by
  unfold argsOk; rw [signature?_of (id := "object.__init__") (n := ['_', '_', 't', 'i', 'n', 'i', '_', '_']) (o := ['t', 'c', 'e', 'j', 'b', 'o']) (by kernel_rfl) F.owner_object]; kernel_rfl
noncomputable abbrev zA (h : Heap) (b1 : Bool) (l1 : Addr) : Heap := h.push (iterObj b1 l1)
noncomputable abbrev zB (h : Heap) (b1 b2 : Bool) (l1 l2 : Addr) : Heap := (zA h b1 l1).push (iterObj b2 l2)
noncomputable abbrev zC (h : Heap) (b1 b2 : Bool) (l1 l2 : Addr) : Heap := (zB h b1 b2 l1 l2).push { cls := .type "tuple", data := .seq #[.ref h.objs.size, .ref (zA h b1 l1).objs.size] }
noncomputable abbrev zD (h : Heap) (b1 b2 : Bool) (l1 l2 : Addr) : Heap := (zC h b1 b2 l1 l2).push { cls := .type "tuple", data := .seq #[.none, .none] }
noncomputable abbrev zE (h : Heap) (b1 b2 : Bool) (l1 l2 : Addr) : Heap := (zD h b1 b2 l1 l2).push { cls := .type "zip", data := .fields #[.none, .bool false, .bool false, .ref (zB h b1 b2 l1 l2).objs.size, .ref (zC h b1 b2 l1 l2).objs.size] }
theorem meets_zip2 (b1 b2 : Bool) (l1 l2 : Addr) (xs ys : Array Value) :
    Meets (Builtin.«zip.__new__» ⟨[.type "zip", .ref l1, .ref l2], []⟩) (fun _ R s => Src b1 l1 xs s.heap ∧ Src b2 l2 ys s.heap ∧
      R (.ok (.ret (.ref (zD s.heap b1 b2 l1 l2).objs.size))) { s with heap := zE s.heap b1 b2 l1 l2 }) :=
  .of_wp fun prog w A R s h => by
    obtain ⟨hp, g, d, tk, os⟩ := s; obtain ⟨hl1, hl2, h⟩ := h
    have hsub := sub_zip
    have hL1 : Src b1 l1 xs (Shared.heap ⟨hp, g, d, tk, os⟩) := hl1
    have hL2 : Src b2 l2 ys (Shared.heap ⟨hp.push (iterObj b1 l1), g, d, tk, os⟩) := Src.push hl2 _
    wp_walk using src_iter hL1, src_iter hL2
    exact ⟨_, rfl, h⟩
noncomputable abbrev yC (h : Heap) (b1 b2 b3 : Bool) (l1 l2 l3 : Addr) : Heap := (zB h b1 b2 l1 l2).push (iterObj b3 l3)
noncomputable abbrev yD (h : Heap) (b1 b2 b3 : Bool) (l1 l2 l3 : Addr) : Heap := (yC h b1 b2 b3 l1 l2 l3).push { cls := .type "tuple", data := .seq #[.ref h.objs.size, .ref (zA h b1 l1).objs.size, .ref (zB h b1 b2 l1 l2).objs.size] }
noncomputable abbrev yE (h : Heap) (b1 b2 b3 : Bool) (l1 l2 l3 : Addr) : Heap := (yD h b1 b2 b3 l1 l2 l3).push { cls := .type "tuple", data := .seq #[.none, .none, .none] }
noncomputable abbrev yF (h : Heap) (b1 b2 b3 : Bool) (l1 l2 l3 : Addr) : Heap := (yE h b1 b2 b3 l1 l2 l3).push { cls := .type "zip", data := .fields #[.none, .bool false, .bool false, .ref (yC h b1 b2 b3 l1 l2 l3).objs.size, .ref (yD h b1 b2 b3 l1 l2 l3).objs.size] }
theorem meets_zip3 (b1 b2 b3 : Bool) (l1 l2 l3 : Addr) (xs ys zs : Array Value) :
    Meets (Builtin.«zip.__new__» ⟨[.type "zip", .ref l1, .ref l2, .ref l3], []⟩) (fun _ R s => Src b1 l1 xs s.heap ∧ Src b2 l2 ys s.heap ∧ Src b3 l3 zs s.heap ∧
      R (.ok (.ret (.ref (yE s.heap b1 b2 b3 l1 l2 l3).objs.size))) { s with heap := yF s.heap b1 b2 b3 l1 l2 l3 }) :=
  .of_wp fun prog w A R s h => by
    obtain ⟨hp, g, d, tk, os⟩ := s; obtain ⟨hl1, hl2, hl3, h⟩ := h
    have hsub := sub_zip
    have hL1 : Src b1 l1 xs (Shared.heap ⟨hp, g, d, tk, os⟩) := hl1
    have hL2 : Src b2 l2 ys (Shared.heap ⟨hp.push (iterObj b1 l1), g, d, tk, os⟩) := Src.push hl2 _
    have hL3 : Src b3 l3 zs (Shared.heap ⟨(hp.push (iterObj b1 l1)).push (iterObj b2 l2), g, d, tk, os⟩) := Src.push (Src.push hl3 _) _
    wp_walk using src_iter hL1, src_iter hL2, src_iter hL3
    exact ⟨_, rfl, h⟩
end Mine
end
noncomputable section
namespace Mine
open PySem PySem.W PySem.Calls PyProof.Rows
section
variable {prog : Program} {w : World} {A : Around} {E : Value → Shared → Prop} {s : Shared}
theorem call_zip2 {b1 b2 : Bool} {l1 l2 : Addr} {xs ys : Array Value} {Q : Value → Shared → Prop} (h1 : Src b1 l1 xs s.heap) (h2 : Src b2 l2 ys s.heap)
    (h : ∀ h', ZipAp (s.heap.objs.size + 4) (s.heap.objs.size + 2) (s.heap.objs.size + 3) [⟨s.heap.objs.size, l1, xs⟩, ⟨s.heap.objs.size + 1, l2, ys⟩] → (∀ ok, ZipAt ok (s.heap.objs.size + 4) (s.heap.objs.size + 2) (s.heap.objs.size + 3) [⟨s.heap.objs.size, l1, xs⟩, ⟨s.heap.objs.size + 1, l2, ys⟩] 0 h') →
      (∀ b o, s.heap.get? b = some o → h'.get? b = some o) → Q (.ref (s.heap.objs.size + 4)) { s with heap := h' }) : wpAny (model prog w) A (call (.type "zip") [.ref l1, .ref l2]) Q E s := by
  refine callType_new F.called_zip (by decide) (F.typeCall_zip_2 _ _) (F.newCall_zip_2 _ _) (fun obj => F.args_object_init_3 obj _ _) F.entry_zip_new (meets_zip2 b1 b2 l1 l2 xs ys) ⟨h1, h2, ?_⟩
  have z1 : (zA s.heap b1 l1).objs.size = s.heap.objs.size + 1 := Heap.size_push ..
  have z2 : (zB s.heap b1 b2 l1 l2).objs.size = s.heap.objs.size + 2 := by rw [Heap.size_push, z1]
  have z3 : (zC s.heap b1 b2 l1 l2).objs.size = s.heap.objs.size + 3 := by rw [Heap.size_push, z2]
  have z4 : (zD s.heap b1 b2 l1 l2).objs.size = s.heap.objs.size + 4 := by rw [Heap.size_push, z3]
  have g5 : (zE s.heap b1 b2 l1 l2).get? (zD s.heap b1 b2 l1 l2).objs.size = some _ := Heap.get?_push_size _ rfl
  have g4 : (zE s.heap b1 b2 l1 l2).get? (zC s.heap b1 b2 l1 l2).objs.size = some _ := Heap.get?_push_of_some _ (Heap.get?_push_size _ rfl)
  have g3 : (zE s.heap b1 b2 l1 l2).get? (zB s.heap b1 b2 l1 l2).objs.size = some _ := Heap.get?_push_of_some _ (Heap.get?_push_of_some _ (Heap.get?_push_size _ rfl))
  have g2 : (zE s.heap b1 b2 l1 l2).get? (zA s.heap b1 l1).objs.size = some _ := Heap.get?_push_of_some _ (Heap.get?_push_of_some _ (Heap.get?_push_of_some _ (Heap.get?_push_size _ rfl)))
  have g1 : (zE s.heap b1 b2 l1 l2).get? s.heap.objs.size = some _ := Heap.get?_push_of_some _ (Heap.get?_push_of_some _ (Heap.get?_push_of_some _ (Heap.get?_push_of_some _ (Heap.get?_push_size _ rfl))))
  have up : ∀ c o, s.heap.get? c = some o → (zE s.heap b1 b2 l1 l2).get? c = some o := fun c o x => Heap.get?_push_of_some _ (Heap.get?_push_of_some _ (Heap.get?_push_of_some _ (Heap.get?_push_of_some _ (Heap.get?_push_of_some _ x))))
  have S1 : Src b1 l1 xs (zE s.heap b1 b2 l1 l2) := ((((h1.push _).push _).push _).push _).push _
  have S2 : Src b2 l2 ys (zE s.heap b1 b2 l1 l2) := ((((h2.push _).push _).push _).push _).push _
  show _ ∧ _
  rw [z2, z3, z4] at g5
  rw [z1, z2] at g3
  rw [z3] at g4
  rw [z1] at g2
  rw [z4]
  have q1 : (l1 : Nat) < s.heap.objs.size := src_lt h1
  have q2 : (l2 : Nat) < s.heap.objs.size := src_lt h2
  refine ⟨⟨_, g5, rfl⟩, h _ ?_ (fun ok => ⟨⟨_, _, g5, .inl rfl⟩, g3, ⟨_, g4, rfl⟩, fun u hu => ?_⟩) up⟩
  · clear g1 g2 g3 g4 g5 up S1 S2 h z1 z2 z3 z4 h1 h2
    generalize s.heap.objs.size = n at *
    have l1' : ∀ m : Nat, l1 ≠ n + m := fun m e => Nat.not_lt.mpr (Nat.le_add_right _ m) (e ▸ q1)
    have l2' : ∀ m : Nat, l2 ≠ n + m := fun m e => Nat.not_lt.mpr (Nat.le_add_right _ m) (e ▸ q2)
    have l10 : l1 ≠ n := Nat.ne_of_lt q1
    have l20 : l2 ≠ n := Nat.ne_of_lt q2
    refine ⟨⟨by simp, fun u hu u' hu' => ?_⟩, by simp, by simp, by simp, fun u hu => ?_, by simp, by simp⟩
    · simp only [List.mem_cons, List.not_mem_nil, or_false] at hu hu'
      rcases hu with rfl | rfl <;> rcases hu' with rfl | rfl
      · exact Ne.symm l10
      · exact Ne.symm l20
      · exact Ne.symm (l1' 1)
      · exact Ne.symm (l2' 1)
    · simp only [List.mem_cons, List.not_mem_nil, or_false] at hu
      rcases hu with rfl | rfl
      · exact ⟨by simp, by simp, by simp, l1' 4, l1' 3⟩
      · exact ⟨by simp, by simp, by simp, l2' 4, l2' 3⟩
  · simp only [List.mem_cons, List.not_mem_nil, or_false] at hu
    rcases hu with rfl | rfl
    · exact src_at S1 g1
    · exact src_at S2 g2
theorem call_zip3 {b1 b2 b3 : Bool} {l1 l2 l3 : Addr} {xs ys zs : Array Value} {Q : Value → Shared → Prop} (h1 : Src b1 l1 xs s.heap) (h2 : Src b2 l2 ys s.heap) (h3 : Src b3 l3 zs s.heap)
    (h : ∀ h', ZipAp (s.heap.objs.size + 5) (s.heap.objs.size + 3) (s.heap.objs.size + 4) [⟨s.heap.objs.size, l1, xs⟩, ⟨s.heap.objs.size + 1, l2, ys⟩, ⟨s.heap.objs.size + 2, l3, zs⟩] → (∀ ok, ZipAt ok (s.heap.objs.size + 5) (s.heap.objs.size + 3) (s.heap.objs.size + 4) [⟨s.heap.objs.size, l1, xs⟩, ⟨s.heap.objs.size + 1, l2, ys⟩, ⟨s.heap.objs.size + 2, l3, zs⟩] 0 h') →
      (∀ b o, s.heap.get? b = some o → h'.get? b = some o) → Q (.ref (s.heap.objs.size + 5)) { s with heap := h' }) : wpAny (model prog w) A (call (.type "zip") [.ref l1, .ref l2, .ref l3]) Q E s := by
  refine callType_new F.called_zip (by decide) (typeCall_zip_3 _ _ _) (newCall_zip_3 _ _ _) (fun obj => args_object_init_4 obj _ _ _) F.entry_zip_new (meets_zip3 b1 b2 b3 l1 l2 l3 xs ys zs) ⟨h1, h2, h3, ?_⟩
  have z1 : (zA s.heap b1 l1).objs.size = s.heap.objs.size + 1 := Heap.size_push ..
  have z2 : (zB s.heap b1 b2 l1 l2).objs.size = s.heap.objs.size + 2 := by rw [Heap.size_push, z1]
  have z3 : (yC s.heap b1 b2 b3 l1 l2 l3).objs.size = s.heap.objs.size + 3 := by rw [Heap.size_push, z2]
  have z4 : (yD s.heap b1 b2 b3 l1 l2 l3).objs.size = s.heap.objs.size + 4 := by rw [Heap.size_push, z3]
  have z5 : (yE s.heap b1 b2 b3 l1 l2 l3).objs.size = s.heap.objs.size + 5 := by rw [Heap.size_push, z4]
  have g6 : (yF s.heap b1 b2 b3 l1 l2 l3).get? (yE s.heap b1 b2 b3 l1 l2 l3).objs.size = some _ := Heap.get?_push_size _ rfl
  have g5 : (yF s.heap b1 b2 b3 l1 l2 l3).get? (yD s.heap b1 b2 b3 l1 l2 l3).objs.size = some _ := Heap.get?_push_of_some _ (Heap.get?_push_size _ rfl)
  have g4 : (yF s.heap b1 b2 b3 l1 l2 l3).get? (yC s.heap b1 b2 b3 l1 l2 l3).objs.size = some _ := Heap.get?_push_of_some _ (Heap.get?_push_of_some _ (Heap.get?_push_size _ rfl))
  have g3 : (yF s.heap b1 b2 b3 l1 l2 l3).get? (zB s.heap b1 b2 l1 l2).objs.size = some _ := Heap.get?_push_of_some _ (Heap.get?_push_of_some _ (Heap.get?_push_of_some _ (Heap.get?_push_size _ rfl)))
  have g2 : (yF s.heap b1 b2 b3 l1 l2 l3).get? (zA s.heap b1 l1).objs.size = some _ := Heap.get?_push_of_some _ (Heap.get?_push_of_some _ (Heap.get?_push_of_some _ (Heap.get?_push_of_some _ (Heap.get?_push_size _ rfl))))
  have g1 : (yF s.heap b1 b2 b3 l1 l2 l3).get? s.heap.objs.size = some _ := Heap.get?_push_of_some _ (Heap.get?_push_of_some _ (Heap.get?_push_of_some _ (Heap.get?_push_of_some _ (Heap.get?_push_of_some _ (Heap.get?_push_size _ rfl)))))
  have up : ∀ c o, s.heap.get? c = some o → (yF s.heap b1 b2 b3 l1 l2 l3).get? c = some o := fun c o x => Heap.get?_push_of_some _ (Heap.get?_push_of_some _ (Heap.get?_push_of_some _ (Heap.get?_push_of_some _ (Heap.get?_push_of_some _ (Heap.get?_push_of_some _ x)))))
  have S1 : Src b1 l1 xs (yF s.heap b1 b2 b3 l1 l2 l3) := (((((h1.push _).push _).push _).push _).push _).push _
  have S2 : Src b2 l2 ys (yF s.heap b1 b2 b3 l1 l2 l3) := (((((h2.push _).push _).push _).push _).push _).push _
  have S3 : Src b3 l3 zs (yF s.heap b1 b2 b3 l1 l2 l3) := (((((h3.push _).push _).push _).push _).push _).push _
  show _ ∧ _
  rw [z3, z4, z5] at g6
  rw [z1, z2, z3] at g4
  rw [z4] at g5
  rw [z1] at g2
  rw [z2] at g3
  rw [z5]
  have q1 : (l1 : Nat) < s.heap.objs.size := src_lt h1
  have q2 : (l2 : Nat) < s.heap.objs.size := src_lt h2
  have q3 : (l3 : Nat) < s.heap.objs.size := src_lt h3
  refine ⟨⟨_, g6, rfl⟩, h _ ?_ (fun ok => ⟨⟨_, _, g6, .inl rfl⟩, g4, ⟨_, g5, rfl⟩, fun u hu => ?_⟩) up⟩
  · clear g1 g2 g3 g4 g5 g6 up S1 S2 S3 h z1 z2 z3 z4 z5 h1 h2 h3
    generalize s.heap.objs.size = n at *
    have l1' : ∀ m : Nat, l1 ≠ n + m := fun m e => Nat.not_lt.mpr (Nat.le_add_right _ m) (e ▸ q1)
    have l2' : ∀ m : Nat, l2 ≠ n + m := fun m e => Nat.not_lt.mpr (Nat.le_add_right _ m) (e ▸ q2)
    have l3' : ∀ m : Nat, l3 ≠ n + m := fun m e => Nat.not_lt.mpr (Nat.le_add_right _ m) (e ▸ q3)
    have l10 : l1 ≠ n := Nat.ne_of_lt q1
    have l20 : l2 ≠ n := Nat.ne_of_lt q2
    have l30 : l3 ≠ n := Nat.ne_of_lt q3
    refine ⟨⟨by simp, fun u hu u' hu' => ?_⟩, by simp, by simp, by simp, fun u hu => ?_, by simp, by simp⟩
    · simp only [List.mem_cons, List.not_mem_nil, or_false] at hu hu'
      rcases hu with rfl | rfl | rfl <;> rcases hu' with rfl | rfl | rfl
      · exact Ne.symm l10
      · exact Ne.symm l20
      · exact Ne.symm l30
      · exact Ne.symm (l1' 1)
      · exact Ne.symm (l2' 1)
      · exact Ne.symm (l3' 1)
      · exact Ne.symm (l1' 2)
      · exact Ne.symm (l2' 2)
      · exact Ne.symm (l3' 2)
    · simp only [List.mem_cons, List.not_mem_nil, or_false] at hu
      rcases hu with rfl | rfl | rfl
      · exact ⟨by simp, by simp, by simp, l1' 5, l1' 4⟩
      · exact ⟨by simp, by simp, by simp, l2' 5, l2' 4⟩
      · exact ⟨by simp, by simp, by simp, l3' 5, l3' 4⟩
  · simp only [List.mem_cons, List.not_mem_nil, or_false] at hu
    rcases hu with rfl | rfl | rfl
    · exact src_at S1 g1
    · exact src_at S2 g2
    · exact src_at S3 g3
theorem zip_self {z TI TO : Addr} {f0 f1 : Value} {Q : Value → Shared → Prop} (hz : s.heap.get? z = some (zipObj f0 f1 TI TO)) (h : Q (.ref z) s) : wpAny (model prog w) A (pyIter (.ref z)) Q E s := by
  have hT : s.TypeIs (.ref z) "zip" := ⟨_, hz, rfl⟩
  refine wpAny_pyIter_slot hT F.slot_zip_iter (wpAny_call_entry F.slot_zip_iter hT F.entry_zip_iter ?_ (F.args_zip_iter_1 _))
  exact wpAny_pure (a := PySem.Fin.done (.ret (.ref z))) ⟨_, rfl, "zip", _, hT, F.slot_zip_next.lookup, h⟩
theorem zip_go {t : Expr} {z TI TO : Addr} {f0 f1 v : Value} {Q : Unit → Shared → Prop} (hz : s.heap.get? z = some (zipObj f0 f1 TI TO)) (h0 : Q () s) (h : ∀ h', h'.get? z = some (zipObj .none f1 TI TO) → Heap.SameBut z s.heap h' → Q () { s with heap := h' }) :
    wpAny (model prog w) A (letOwnedTupleGo t (.ref z) v) Q E s := by
  refine letGo_any (fun a => ?_) h0
  delta letOwnedTupleGo
  dsimp only
  refine wpAny_bind (wpAny_load hz ?_)
  dsimp only
  split
  · exact wpAny_bind (wpAny_rule (wpAny_setField_rec hz (by simp) fun h' a b => h h' a b))
  · exact wpAny_pure h0
end
end Mine
end
noncomputable section
namespace Mine
open PySem PySem.W PySem.Calls PyProof.Rows
variable {X : Cx} {A A0 : Around} {k : Nat} {gs gi : Gm} {σ σ' τ : Sto} {pos : Pos} {K : Frag}
noncomputable abbrev SeqD (ds : List V) (d : V) : Prop := d = .list ds ∨ d = .tup ds
theorem rd_src {W : List Addr} {h : Heap} {v : Value} {d : V} {ds : List V} (r : Rd W h v d) (hd : SeqD ds d) : ∃ b a vs, v = .ref a ∧ Src b a vs h ∧ a ∉ W ∧ Rds W h vs.toList ds := by
  rcases hd with rfl | rfl
  · refine el3_4 (r.listI) fun a vs n e l na ra => ?_
    exact ⟨true, a, vs, e, IsL.isList l, na, ra⟩
  · refine el3_4 (r.tupI) fun a vs n e l na ra => ?_
    exact ⟨false, a, vs, e, ⟨_, l, rfl, _, rfl⟩, na, ra⟩
noncomputable abbrev UD := List (Sub × List V)
noncomputable abbrev UD.us (ud : UD) : List Sub := ud.map (·.1)
theorem pick_all {W : List Addr} {h : Heap} {i : Nat} : ∀ {ud : UD} {ds : List V}, (∀ p ∈ ud, Rds W h p.1.items.toList p.2) → ud.map (fun p => p.2[i]?) = ds.map some → ∃ xs, (UD.us ud).map (fun u => u.items[i]?) = xs.map some ∧ Rds W h xs ds
  | [], ds, _, e => by
    have : ds = [] := by cases ds with | nil => rfl | cons a l => simp at e
    subst this
    exact ⟨[], rfl, .nil⟩
  | p :: ud, ds, hr, e => by
    cases ds with
    | nil => simp at e
    | cons d ds =>
      simp only [List.map_cons, List.cons.injEq] at e
      refine el1_2 (pick_all (fun q hq => hr q (.tail _ hq)) e.2) fun xs h1 h2 => ?_
      refine el1_2 ((hr p (.head _)).get e.1) fun v hv r => ?_
      refine ⟨v :: xs, ?_, .cons r h2⟩
      simp only [List.map_cons, List.cons.injEq]
      exact ⟨by rw [← hv, Array.getElem?_toList], h1⟩
structure ZItems (ud : UD) (items : List V) : Prop where
  yes : ∀ (i : Nat) (d : V), items[i]? = some d → ∃ ds : List V, d = V.tup ds ∧ List.map (fun p : Sub × List V => p.2[i]?) ud = ds.map some
  no : ∀ i : Nat, items[i]? = none → ∃ p ∈ ud, p.2[i]? = none
noncomputable abbrev zOwn (z TI TO : Addr) (ud : UD) : List Addr := z :: TI :: TO :: (UD.us ud).map (·.it)
noncomputable def zP (W : List Addr) (z TI TO : Addr) (ud : UD) (i : Nat) (h : Heap) : Prop := ZipAt (fun T => T ∉ W) z TI TO (UD.us ud) i h ∧ ∀ p ∈ ud, Rds W h p.1.items.toList p.2
theorem itr_zip {W : List Addr} {z TI TO : Addr} {ud : UD} {items : List V} (D : ZipAp z TI TO (UD.us ud)) (hI : ZItems ud items) (hW : ∀ a ∈ zOwn z TI TO ud, a ∈ W) (htp : ∀ p ∈ ud, p.1.tp ∉ W) :
    Itr X k W (.ref z) (zOwn z TI TO ud) items (zP W z TI TO ud) where
  sub := hW
  frame := fun M i h h' hM hk ⟨Z, R⟩ => by
    have keep : ∀ b o, b ∉ M → h.get? b = some o → NotD o → h'.get? b = some o := fun b o hb e hn => by
      refine el1_2 (hk b o hb e) fun o' e' q => ?_
      rw [q.eq hn] at e'; exact e'
    have notM : ∀ b ∈ zOwn z TI TO ud, b ∉ M := fun b hb q => (hM b q).2 hb
    refine el2_2 (Z.zo) fun f0 f1 hz hf0 => ?_
    refine el1_2 (Z.to) fun ks hTO hks => ?_
    refine ⟨⟨⟨f0, f1, keep z _ (notM z (.head _)) hz nofun, ?_⟩, keep TI _ (notM TI (.tail _ (.head _))) Z.ti nofun, ⟨ks, keep TO _ (notM TO (.tail _ (.tail _ (.head _)))) hTO nofun, hks⟩, fun u hu => ?_⟩, fun p hp => (R p hp).move fun b o hb e => ⟨hk b o (fun q => hb (hM b q).1) e, hb⟩⟩
    · rcases hf0 with h0 | ⟨T, o, h0, hT, hok⟩
      · exact .inl h0
      · refine el1_2 (hk T o (fun q => hok (hM T q).1) hT) fun o' e' _ => ?_
        exact .inr ⟨T, o', h0, e', hok⟩
    · refine el1_2 (List.mem_map.mp hu) fun p hp y1 => ?_; obtain rfl := y1
      have nit : p.1.it ∉ M := notM _ (.tail _ (.tail _ (.tail _ (List.mem_map_of_mem (f := Sub.it) hu))))
      have ntp : p.1.tp ∉ M := fun q => htp p hp (hM _ q).1
      rcases Z.at' _ hu with ⟨⟨o, a, b, c⟩, o2, a2, b2, n2, c2⟩ | ⟨⟨o, a, b, c⟩, o2, a2, b2, n2, c2⟩
      · exact .inl ⟨⟨o, keep _ _ nit a (by intro es n q; rw [c] at q; cases q), b, c⟩, o2, keep _ _ ntp a2 (by intro es n q; rw [c2] at q; cases q), b2, n2, c2⟩
      · exact .inr ⟨⟨o, keep _ _ nit a (by intro es n q; rw [c] at q; cases q), b, c⟩, o2, keep _ _ ntp a2 (by intro es n q; rw [c2] at q; cases q), b2, n2, c2⟩
  live := fun i h ⟨Z, R⟩ a ha => by
    refine el2_2 (Z.zo) fun f0 f1 hz hf0 => ?_
    refine el1_2 (Z.to) fun ks hTO hks => ?_
    rcases List.mem_cons.mp ha with q | ha
    · exact ⟨_, q ▸ hz⟩
    rcases List.mem_cons.mp ha with q | ha
    · exact ⟨_, q ▸ Z.ti⟩
    rcases List.mem_cons.mp ha with q | ha
    · exact ⟨_, q ▸ hTO⟩
    · refine el1_2 (List.mem_map.mp ha) fun u hu y2 => ?_; obtain rfl := y2
      exact (Z.at' u hu).live.1
  next := fun A i s R B ⟨Z, Rd'⟩ => by
    have wr : ∀ {b : Addr}, b ∉ zOwn z TI TO ud → b ≠ z ∧ b ≠ TO ∧ b ∉ (UD.us ud).map (·.it) := fun {b} hb => ⟨fun q => hb (by rw [q]; exact .head _), fun q => hb (by rw [q]; exact .tail _ (.tail _ (.head _))), fun q => hb (.tail _ (.tail _ (.tail _ q)))⟩
    have hnew : ∀ T, s.heap.get? T = none → T ∉ W := fun T hT q => by refine el1_1 (B.old T q) fun o e => ?_; rw [hT] at e; exact noN e
    cases hi : items[i]? with
    | none =>
      refine el1_2 (hI.no i hi) fun p hp hpn => ?_
      refine zip_stop R.handled D Z ⟨p.1, List.mem_map_of_mem (f := (·.1)) hp, ?_⟩ fun h' hk => ⟨Kp.of fun b o hb e => hk b o (wr hb).1 (wr hb).2.1 (wr hb).2.2 e, rfl⟩
      have hl := (Rd' p hp).length
      rw [Array.length_toList] at hl
      rw [Array.getElem?_eq_none_iff]
      have := List.getElem?_eq_none_iff.mp hpn
      lia
    | some d =>
      refine el1_2 (hI.yes i d hi) fun ds y3 hds => ?_; obtain rfl := y3
      refine el1_2 (pick_all Rd' hds) fun xs hx rx => ?_
      refine zip_item D Z hx hnew fun h' T Z' hT hTn hk => ?_
      have K : Kp X.h0 (zOwn z TI TO ud) s { s with heap := h' } := Kp.of fun b o hb e => hk b o (wr hb).1 (wr hb).2.1 (wr hb).2.2 e
      exact ⟨K, .ref T, rfl, .tup (n := 0) hT (hnew T hTn) (rx.keep K hW), Z', fun p hp => (Rd' p hp).keep K hW⟩
  go := fun A t i s v R B ⟨Z, Rd'⟩ => by
    refine el2_2 (Z.zo) fun f0 f1 hz hf0 => ?_
    refine zip_go hz ⟨Kp.refl _ _, Z, Rd'⟩ fun h' hz' hs => ?_
    have K : Kp X.h0 (zOwn z TI TO ud) s { s with heap := h' } := Kp.of fun b o hb e => (hs.2 b (fun q => hb (by rw [q]; exact .head _))).trans e
    refine el1_2 (Z.to) fun ks hTO hks => ?_
    refine ⟨K, ⟨⟨_, _, hz', .inl rfl⟩, hs.extBut _ _ (Ne.symm D.zTI) Z.ti, ⟨ks, hs.extBut _ _ (Ne.symm D.zTO) hTO, hks⟩, fun u hu => (Z.at' u hu).at fun b o hb e => hs.extBut _ _ ?_ e⟩, fun p hp => (Rd' p hp).keep K hW⟩
    rcases hb with rfl | rfl
    · exact (D.it u hu).1
    · exact (D.it u hu).2.2.2.1
  self := fun A i s Q E R ⟨Z, _⟩ h => by
    refine el2_2 (Z.zo) fun f0 f1 hz _ => ?_
    exact zip_self hz h
theorem its_zip {W : List Addr} {s s1 s2 : Shared} {z TI TO : Addr} {ud : UD} {items : List V} (D : ZipAp z TI TO (UD.us ud)) (hZ : ∀ ok, ZipAt ok z TI TO (UD.us ud) 0 s2.heap) (hI : ZItems ud items) (k1 : Kp X.h0 [] s s1) (k2 : Kp X.h0 [] s1 s2) (hown : ∀ a ∈ zOwn z TI TO ud, s1.heap.get? a = none)
    (hd : ∀ p ∈ ud, p.1.tp ∉ W ∧ (∃ o, s1.heap.get? p.1.tp = some o) ∧ Rds W s1.heap p.1.items.toList p.2) : Its X k W s s2 (.ref z) items := by
  refine ⟨zOwn z TI TO ud, fun W' => zP W' z TI TO ud, fun a ha => get_grow k1 (hown a ha), fun W' w1 w2 w3 => ⟨itr_zip D hI w1 fun p hp q => ?_, hZ _, fun p hp => ?_⟩⟩
  · refine el0_3 (hd p hp) fun h1 y4 _ => ?_; refine el1_1 (y4) fun o h2 => ?_
    rcases w3 _ q with y | y | y
    · rw [hown _ y] at h2; exact noN h2
    · exact h1 y
    · have := get_grow k2 y
      rw [this] at h2; exact noN h2
  · refine ((hd p hp).2.2.weak (W' := W') fun b hb => ?_).keep0 k2
    rcases w3 b hb with y | y | y
    · exact .inr (hown b y)
    · exact .inl y
    · exact .inr (get_grow k2 y)
theorem zip_items2 {u1 u2 : Sub} {d1 d2 : List V} : ZItems [(u1, d1), (u2, d2)] ((d1.zip d2).map fun p => .tup [p.1, p.2]) := by
  refine ⟨fun i d h => ?_, fun i h => ?_⟩
  · rw [List.getElem?_map, Option.map_eq_some_iff] at h
    obtain ⟨⟨a, b⟩, h, rfl⟩ := h
    obtain ⟨h1, h2⟩ := List.getElem?_zip_eq_some.mp h
    exact ⟨[a, b], rfl, by simp only [List.map_cons, List.map_nil, h1, h2]⟩
  · rw [List.getElem?_eq_none_iff, List.length_map, List.length_zip] at h
    rcases Nat.le_total d1.length d2.length with q | q
    · exact ⟨_, .head _, List.getElem?_eq_none_iff.mpr (by show d1.length ≤ i; lia)⟩
    · exact ⟨_, .tail _ (.head _), List.getElem?_eq_none_iff.mpr (by show d2.length ≤ i; lia)⟩
theorem zip_items3 {u1 u2 u3 : Sub} {d1 d2 d3 : List V} : ZItems [(u1, d1), (u2, d2), (u3, d3)] ((d1.zip (d2.zip d3)).map fun p => .tup [p.1, p.2.1, p.2.2]) := by
  refine ⟨fun i d h => ?_, fun i h => ?_⟩
  · rw [List.getElem?_map, Option.map_eq_some_iff] at h
    obtain ⟨⟨a, b, c⟩, h, rfl⟩ := h
    obtain ⟨h1, h2⟩ := List.getElem?_zip_eq_some.mp h
    obtain ⟨h2, h3⟩ := List.getElem?_zip_eq_some.mp h2
    exact ⟨[a, b, c], rfl, by simp only [List.map_cons, List.map_nil, h1, h2, h3]⟩
  · rw [List.getElem?_eq_none_iff, List.length_map, List.length_zip, List.length_zip] at h
    by_cases q1 : d1.length ≤ i
    · exact ⟨_, .head _, List.getElem?_eq_none_iff.mpr q1⟩
    by_cases q2 : d2.length ≤ i
    · exact ⟨_, .tail _ (.head _), List.getElem?_eq_none_iff.mpr q2⟩
    · exact ⟨_, .tail _ (.tail _ (.head _)), List.getElem?_eq_none_iff.mpr (by show d3.length ≤ i; lia)⟩
theorem Iv.zip2 {func e1 e2 : Expr} {d1 d2 : V} {ds1 ds2 : List V} (hf : Ev X k gs σ func (.opq (.type "zip"))) (h1 : Ev X k gs σ e1 d1) (h2 : Ev X k gs σ e2 d2) (q1 : SeqD ds1 d1) (q2 : SeqD ds2 d2)
    (he' : ∀ env, eval (.Call func [e1, e2] [] pos) env = (do callWith pos (← eval func env) [] (backTo pos (starEach [e1, e2] env)) (backToKw pos (keywordEach [] env))) := by intro _; rfl)
    (hp : Plain [e1, e2] = true := by rfl) (hst : ∀ env, starEach [e1, e2] env = (false, eval e1 env) :: starEach [e2] env := by intro _; rfl) (hst2 : ∀ env, starEach [e2] env = (false, eval e2 env) :: starEach [] env := by intro _; rfl) :
    Iv X k gs σ (.Call func [e1, e2] [] pos) ((ds1.zip ds2).map fun p => .tup [p.1, p.2]) := by
  refine ⟨?_⟩
  intro A env M W s R S
  refine S.callE R hf (Evs.cons h1 (Evs.cons h2 Evs.nil hst2) hst) .type (fun vs s1 hvs k1 => ?_) he' hp
  refine el2_3 (Rds.i2 hvs) fun _ _ y9 r1 r2 => ?_; obtain rfl := y9
  refine el3_4 (rd_src r1 q1) fun b1 l1 xs y10 x1 n1 y1 => ?_; obtain rfl := y10
  refine el3_4 (rd_src r2 q2) fun b2 l2 ys y11 x2 n2 y2 => ?_; obtain rfl := y11
  refine call_zip2 x1 x2 fun h' D Z hk => ?_
  have K2 : Kp X.h0 [] s1 { s1 with heap := h' } := Kp.heapUp hk
  have new : ∀ m : Nat, s1.heap.get? (s1.heap.objs.size + m) = none := fun m => by
    cases e : s1.heap.get? (s1.heap.objs.size + m) with
    | none => rfl
    | some o => exact absurd (Heap.lt_size e) (Nat.not_lt.mpr (Nat.le_add_right _ _))
  refine ⟨k1.trans K2, ?_⟩
  refine el2_2 ((Z fun _ => True).zo) fun f0 f1 hz _ => ?_
  refine zip_self hz ⟨k1.trans K2, ?_⟩
  refine its_zip (ud := [(⟨s1.heap.objs.size, l1, xs⟩, ds1), (⟨s1.heap.objs.size + 1, l2, ys⟩, ds2)]) D Z zip_items2 k1 K2 (fun a ha => ?_) fun p hp => ?_
  · simp only [zOwn, UD.us, List.map_cons, List.map_nil, List.mem_cons, List.not_mem_nil, or_false] at ha
    rcases ha with rfl | rfl | rfl | rfl | rfl
    · exact new 4
    · exact new 2
    · exact new 3
    · exact new 0
    · exact new 1
  · simp only [List.mem_cons, List.not_mem_nil, or_false] at hp
    have lv : ∀ {b : Bool} {l : Addr} {xs : Array Value}, Src b l xs s1.heap → ∃ o, s1.heap.get? l = some o := fun {b l xs} x => by
      cases b
      · refine el1_2 (x) fun o e _ => ?_; exact ⟨o, e⟩
      · refine el1_2 (x) fun o e _ => ?_; exact ⟨o, e⟩
    rcases hp with rfl | rfl
    · exact ⟨n1, lv x1, y1⟩
    · exact ⟨n2, lv x2, y2⟩
end Mine
end
noncomputable section
namespace Mine
open PySem PySem.W PySem.Calls PyProof.Rows
variable {X : Cx} {A A0 : Around} {k : Nat} {gs gi : Gm} {σ σ' τ : Sto} {pos : Pos} {K : Frag}
theorem zip_no_len : typeLookup (.type "zip") "__len__" = pure none := by rw [typeLookup_type, builtinLookup_eq_fast]; kernel_rfl
theorem zip_no_hint : typeLookup (.type "zip") "__length_hint__" = pure none := by rw [typeLookup_type, builtinLookup_eq_fast]; kernel_rfl
theorem extend_itr {W own : List Addr} {I S : Addr} {items : List V} {P : Nat → Heap → Prop} {Rr : Result → Shared → Prop} (R : Room (k + 1) A) (T : Itr X k W (.ref I) own items P) (hSW : S ∈ W) (hSo : S ∉ own) (hz : items.length ≤ 1000000) (hown : ∀ a ∈ own, X.h0.get? a = none ∧ NF A a) (hS0 : X.h0.get? S = none ∧ NF A S) :
    ∀ (m i : Nat) (s : Shared) (acc : Array Value) (c : Nat), items.length - i = m → i ≤ items.length → Base X A W s → P i s.heap → IsL s.heap S acc c → Rds W s.heap acc.toList (items.take i) →
      (∀ s' acc' c', Kp X.h0 (S :: own) s s' → IsL s'.heap S acc' c' → Rds W s'.heap acc'.toList items → Rr (.ok (.ret .none)) s') → codeAny (model X.prog X.w) A (.builtin "list.extend.loop" ⟨[.ref S, .ref I, .none], []⟩) Rr s := by
  have e16 : sizeLine = 16777216 := by decide
  have sub : ∀ a ∈ own, a ∈ S :: own := fun a h => .tail _ h
  intro m
  induction m with
  | zero =>
    intro i s acc c hm hi B hP hS hr hQ
    have hi' : i = items.length := by lia
    subst hi'
    refine codeAny_builtin F.entry_extend_loop ?_
    rw [Around.under_plainId F.plain_extend_loop _]
    refine wpAny_bind (m := pyNext (.ref I)) (wpAny_mono (T.next A.in1 _ s R.in1 ⟨B.base, B.tabW, B.old, B.frs⟩ hP) ?_ (fun _ _ f => f.elim))
    rintro r s1 ⟨k1, h1⟩
    rw [List.getElem?_eq_none (Nat.le_refl _)] at h1
    subst h1
    rw [List.take_length] at hr
    exact wpAny_pure (hQ s1 acc c (k1.mono sub) (k1.get hSo hS nofun) (hr.keep k1 T.sub))
  | succ m ih =>
    intro i s acc c hm hi B hP hS hr hQ
    have hlt : i < items.length := by lia
    refine codeAny_builtin F.entry_extend_loop ?_
    rw [Around.under_plainId F.plain_extend_loop _]
    refine wpAny_bind (m := pyNext (.ref I)) (wpAny_mono (T.next A.in1 _ s R.in1 ⟨B.base, B.tabW, B.old, B.frs⟩ hP) ?_ (fun _ _ f => f.elim))
    rintro r s1 ⟨k1, h1⟩
    rw [List.getElem?_eq_getElem hlt] at h1
    obtain ⟨v, rfl, rv, hP1⟩ := h1
    have hS1 : IsL s1.heap S acc c := k1.get hSo hS nofun
    have hsz : acc.size ≤ 1000000 := by
      have := hr.length; rw [Array.length_toList, List.length_take] at this; lia
    refine wpAny_bind (m := updateSeq S (·.push v)) (wpAny_updateSeq hS1 rfl (wpAny_pure ⟨plainId_quiet F.plain_extend_loop _, ?_⟩) (by lia) (by rw [Array.size_push]; lia))
    have hS2 := IsL.update hS1 (·.push v)
    generalize hh2 : s1.heap.update S (Obj.mapSeq (·.push v)) = h2 at hS2
    have K2 : Kp X.h0 [S] s1 { s1 with heap := h2 } := Kp.of fun b o hb e => by
      rw [← hh2]; exact (Heap.get?_update_other _ _ (fun q => hb (by rw [← q]; exact .head _))).trans e
    have hSsub : ∀ a ∈ [S], a ∈ W := fun a h => by rw [List.mem_singleton.mp h]; exact hSW
    have B1 : Base X A W s1 := B.keep k1 fun b hb => ⟨(hown b hb).1, T.live _ _ hP1 b hb, .inl (hown b hb).2⟩
    have B2 : Base X A W { s1 with heap := h2 } := B1.keep K2 fun b hb => by rw [List.mem_singleton.mp hb]; exact ⟨hS0.1, ⟨_, hS2⟩, .inl hS0.2⟩
    refine ih (i + 1) { s1 with heap := h2 } (acc.push v) _ (by lia) hlt B2 ?_ hS2 ?_ fun s' acc' c' K3 hS3 hr3 => hQ s' acc' c' (((k1.mono sub).trans (K2.mono fun b hb => by rw [List.mem_singleton.mp hb]; exact .head _)).trans K3) hS3 hr3
    · exact T.frame [S] (i + 1) _ _ (fun a ha => by rw [List.mem_singleton.mp ha]; exact ⟨hSW, hSo⟩) (fun b o hb e => let ⟨o', e', q⟩ := K2.heap b o hb e; ⟨o', e', q.loose⟩) hP1
    · rw [List.take_add_one, List.getElem?_eq_getElem hlt, Array.toList_push]
      exact ((hr.keep k1 T.sub).keep K2 hSsub).append (.cons (rv.keep K2 hSsub) .nil)
theorem list_zip {W : List Addr} {s s1 s2 : Shared} {z TI TO : Addr} {ud : UD} {items : List V} {Q : Value → Shared → Prop} (R : Room (k + 4) A) (B2 : Base X A W s2) (D : ZipAp z TI TO (UD.us ud)) (hZ : ∀ ok, ZipAt ok z TI TO (UD.us ud) 0 s2.heap) (hI : ZItems ud items) (k1 : Kp X.h0 [] s s1) (k2 : Kp X.h0 [] s1 s2) (hown : ∀ a ∈ zOwn z TI TO ud, s1.heap.get? a = none)
    (hd : ∀ p ∈ ud, p.1.tp ∉ W ∧ (∃ o, s1.heap.get? p.1.tp = some o) ∧ Rds W s1.heap p.1.items.toList p.2) (B : Base X A W s) (hlen : items.length ≤ 1000000)
    (hQ : ∀ v s', Rd W s'.heap v (.list items) → Kp X.h0 [] s s' → Q v s') : wpAny (model X.prog X.w) A (call (.type "list") [.ref z]) Q No s2 := by
  have hnew := get_new s2.heap
  refine el0_3 (B2.new0 hnew) fun hS0 hSt hSW => ?_
  have hSn : s.heap.get? s2.heap.objs.size = none := get_grow (k1.trans k2) hnew
  have Z0 := hZ fun _ => True
  refine el2_2 (Z0.zo) fun f0 f1 hz _ => ?_
  have olive : ∀ a ∈ zOwn z TI TO ud, ∃ o, s2.heap.get? a = some o := fun a ha => by
    refine el1_2 (Z0.to) fun ks hTO _ => ?_
    rcases List.mem_cons.mp ha with q | ha
    · exact ⟨_, q ▸ hz⟩
    rcases List.mem_cons.mp ha with q | ha
    · exact ⟨_, q ▸ Z0.ti⟩
    rcases List.mem_cons.mp ha with q | ha
    · exact ⟨_, q ▸ hTO⟩
    · refine el1_2 (List.mem_map.mp ha) fun u hu y4 => ?_; obtain rfl := y4
      exact (Z0.at' u hu).live.1
  have hSo : s2.heap.objs.size ∉ zOwn z TI TO ud := fun q => by refine el1_1 (olive _ q) fun o e => ?_; rw [hnew] at e; exact noN e
  have onew : ∀ a ∈ zOwn z TI TO ud, s.heap.get? a = none := fun a ha => get_grow k1 (hown a ha)
  refine callType_codes (Q₁ := fun obj s₁ => obj = .ref s2.heap.objs.size ∧ s₁ = { s2 with heap := s2.heap.push { cls := .type "list", data := .seq #[] } }) F.called_list (F.typeCall_list_1 _) F.entry_list_init
    (code_list_new _ ⟨rfl, rfl⟩) fun obj s₁ h₁ => ?_
  refine el0_2 (h₁) fun y5 y6 => ?_; obtain rfl := y5; obtain rfl := y6
  have hS : IsL (s2.heap.push { cls := .type "list", data := .seq #[] }) s2.heap.objs.size #[] 0 := Heap.get?_push_size _ rfl
  have K3 : Kp X.h0 [] s2 { s2 with heap := s2.heap.push { cls := .type "list", data := .seq #[] } } := Kp.push _ _
  generalize hs3 : ({ s2 with heap := s2.heap.push { cls := .type "list", data := .seq #[] } } : Shared) = s3 at K3
  have hS3 : IsL s3.heap s2.heap.objs.size #[] 0 := by subst hs3; exact hS
  generalize s2.heap.objs.size = S at *
  have hz3 : s3.heap.get? z = some (zipObj f0 f1 TI TO) := K3.get nofun hz nofun
  refine ⟨⟨_, hS3, rfl⟩, F.args_list_init_2 _ _, ?_⟩
  show wpAny _ _ (do let old ← Builtin.List.listItems (.ref S); Builtin.List.listUpdate (.ref S) (fun _ => #[]); letGo old.toList.reverse; Builtin.List.listExtendWith (.ref S) (.ref z) .none) _ _ s3
  refine wpAny_bind (m := Builtin.List.listItems (.ref S)) ?_
  unfold Builtin.List.listItems
  refine wpAny_bind (wpAny_seqItems hS3 rfl (wpAny_pure ?_))
  refine wpAny_bind (m := updateSeq S (fun _ => #[])) (wpAny_updateSeq hS3 rfl ?_)
  have hS4 := IsL.update hS3 (fun _ => (#[] : Array Value))
  refine wpAny_bind (wpAny_letGo ?_)
  have hzS : z ≠ S := fun q => hSo (by rw [← q]; exact .head _)
  have ksame : ∀ (s' : Shared) (f : Array Value → Array Value), Kp X.h0 [S] s' { s' with heap := s'.heap.update S (Obj.mapSeq f) } := fun s' f => Kp.of fun b o hb e => (Heap.get?_update_other _ _ (fun q => hb (by rw [← q]; exact .head _))).trans e
  have K4 := ksame s3 fun _ => #[]
  generalize hs4 : ({ s3 with heap := s3.heap.update S (Obj.mapSeq fun _ => (#[] : Array Value)) } : Shared) = s4 at K4
  have hS4' : IsL s4.heap S #[] 0 := by subst hs4; simpa using hS4
  have nz : z ∉ [S] := fun q => hzS (List.mem_singleton.mp q)
  have hz4 : s4.heap.get? z = some (zipObj f0 f1 TI TO) := K4.get nz hz3 nofun
  have hT4 : s4.TypeIs (.ref z) "zip" := ⟨_, hz4, rfl⟩
  show wpAny _ _ (Builtin.List.listExtendWith (.ref S) (.ref z) .none) _ _ s4
  unfold Builtin.List.listExtendWith
  refine wpAny_bind (wpAny_typeOf hT4 ?_)
  have h1 : Builtin.List.listSameRef (.ref S) (.ref z) = false := by simp [Builtin.List.listSameRef, Ne.symm hzS]
  have h2 : (Value.type "zip" == Value.type "list") = false := by decide
  have h3 : (Value.type "zip" == Value.type "tuple") = false := by decide
  simp only [h1, h2, h3, Bool.or_false, Bool.false_eq_true, if_false]
  refine wpAny_bind (zip_self hz4 ?_)
  refine wpAny_bind (wpAny_holding ?_)
  unfold Builtin.List.listLengthHint
  refine wpAny_bind (wpAny_specialOf hT4 zip_no_len ?_)
  refine wpAny_bind (m := specialOf (.ref z) (Str.ofString "__length_hint__")) (wpAny_specialOf hT4 zip_no_hint ?_)
  refine wpAny_pure ?_
  refine wpAny_bind (m := rule "list.extend.makes-room") (wpAny_rule ?_)
  refine wpAny_bind (m := updateSeq S (·.push .none) >>= fun _ => updateSeq S (·.pop)) ?_
  refine wpAny_bind (wpAny_updateSeq hS4' rfl ?_)
  have hS5 := IsL.update hS4' (·.push Value.none)
  have K5 := ksame s4 (·.push Value.none)
  generalize hs5 : ({ s4 with heap := s4.heap.update S (Obj.mapSeq (·.push Value.none)) } : Shared) = s5 at K5
  have hS5' : IsL s5.heap S #[.none] 1 := by subst hs5; simpa using hS5
  show wpAny _ _ (updateSeq S (·.pop)) _ _ s5
  refine wpAny_updateSeq hS5' rfl ?_ (by decide) (by decide)
  have hS6 := IsL.update hS5' (·.pop)
  have K6 := ksame s5 (·.pop)
  generalize hs6 : ({ s5 with heap := s5.heap.update S (Obj.mapSeq (·.pop)) } : Shared) = s6 at K6
  obtain ⟨c6, hS6'⟩ : ∃ c, IsL s6.heap S #[] c := ⟨_, by subst hs6; simpa using hS6⟩
  have K36 : Kp X.h0 [S] s3 s6 := (K4.trans K5).trans K6
  refine wpAny_pure ⟨plainId_quiet F.plain_extend_loop _, ?_⟩
  show codeAny _ _ (.builtin "list.extend.loop" ⟨[.ref S, .ref z, .none], []⟩) _ s6
  have hSl3 : ∃ o, s3.heap.get? S = some o := ⟨_, hS3⟩
  have hx0 : ∀ a ∈ zOwn z TI TO ud, X.h0.get? a = none ∧ NF A a := fun a ha => ⟨(B.new0 (onew a ha)).1, B.nf (onew a ha)⟩
  have hS0' : X.h0.get? S = none ∧ NF A S := ⟨hS0, B.nf hSn⟩
  have k13 : Kp X.h0 [] s1 s3 := k2.trans K3
  have hW' : ∀ a ∈ S :: (zOwn z TI TO ud ++ W), a = S ∨ a ∈ zOwn z TI TO ud ∨ a ∈ W := fun a ha => (List.mem_cons.mp ha).imp id fun h => List.mem_append.mp h
  have B3 : Base X A (S :: (zOwn z TI TO ud ++ W)) s3 := by
    have := B2.keep0 K3
    refine ⟨this.base, .tail _ (List.mem_append_right _ this.tabW), fun a ha => ?_, this.frs⟩
    rcases hW' a ha with q | q | q
    · exact q ▸ hSl3
    · exact K3.live nofun (olive a q)
    · exact this.old a q
  have B6 : Base X A.in1 (S :: (zOwn z TI TO ud ++ W)) s6 := by
    have := B3.keep K36 fun b hb => by rw [List.mem_singleton.mp hb]; exact ⟨hS0, ⟨_, hS6'⟩, .inl hS0'.2⟩
    exact ⟨this.base, this.tabW, this.old, this.frs⟩
  have htp : ∀ p ∈ ud, p.1.tp ∉ S :: (zOwn z TI TO ud ++ W) := fun p hp q => by
    refine el0_3 (hd p hp) fun g1 y7 _ => ?_; refine el1_1 (y7) fun o g2 => ?_
    rcases hW' _ q with y | y | y
    · have := k2.live nofun ⟨o, g2⟩
      refine el1_1 (this) fun o' e => ?_
      rw [y, hnew] at e; exact noN e
    · rw [hown _ y] at g2; exact noN g2
    · exact g1 y
  have T := itr_zip (X := X) (k := k + 1) (W := S :: (zOwn z TI TO ud ++ W)) D hI (fun a ha => .tail _ (List.mem_append_left _ ha)) htp
  have hP2 : zP (S :: (zOwn z TI TO ud ++ W)) z TI TO ud 0 s2.heap := ⟨hZ _, fun p hp => ((hd p hp).2.2.weak fun b hb => by
    rcases hW' b hb with y | y | y
    · exact .inr (y ▸ get_grow k2 hnew)
    · exact .inr (hown b y)
    · exact .inl y).keep0 k2⟩
  have loose : ∀ {M : List Addr} {a b : Shared}, Kp X.h0 M a b → ∀ c o, c ∉ M → a.heap.get? c = some o → ∃ o', b.heap.get? c = some o' ∧ Loose o o' := fun K c o hc e => let ⟨o', e', q⟩ := K.heap c o hc e; ⟨o', e', q.loose⟩
  have hP3 := T.frame [] 0 _ _ nofun (loose K3) hP2
  have hP6 := T.frame [S] 0 _ _ (fun a ha => by rw [List.mem_singleton.mp ha]; exact ⟨.head _, hSo⟩) (loose K36) hP3
  refine extend_itr (k := k + 1) (A := A.in1) (R.in1.mono (by (exact Nat.le_succ _))) T (.head _) hSo hlen (fun a ha => hx0 a ha) hS0' items.length 0 s6 #[] c6 rfl (Nat.zero_le _) B6 hP6 hS6' .nil fun s' acc' c' K7 hS7 hr7 => ?_
  refine ⟨rfl, hQ _ s' (.list hS7 hSW (hr7.weak fun b hb => .inl (.tail _ (List.mem_append_right _ hb)))) ?_⟩
  have K03 : Kp X.h0 [] s s3 := k1.trans k13
  have K07 : Kp X.h0 (S :: zOwn z TI TO ud) s s' := (K03.nil.trans (K36.mono fun b hb => by rw [List.mem_singleton.mp hb]; exact .head _)).trans K7
  exact K07.fresh fun b hb => .inr ((List.mem_cons.mp hb).elim (fun y => y ▸ hSn) (onew b))
end Mine
end
noncomputable section
namespace Mine
open PySem PySem.W PySem.Calls PyProof.Rows
section
variable {prog : Program} {w : World} {A : Around} {E : Value → Shared → Prop} {s : Shared}
noncomputable abbrev enumObj (f0 f1 : Value) (it : Addr) (i : Int) (old : Value) : Obj := { cls := .type "enumerate", dict := none, data := .fields #[f0, f1, .ref it, rawInt i, .none, old], slots := #[] }
structure EnumAt (ok : Addr → Prop) (e : Addr) (u : Sub) (i : Nat) (h : Heap) : Prop where
  eo : ∃ f0 f1 old, h.get? e = some (enumObj f0 f1 u.it i old) ∧ (f0 = .none ∨ ∃ T o, f0 = rawInt (T : Nat) ∧ h.get? T = some o ∧ ok T)
  at' : u.At i h
theorem enum_item {ok : Addr → Prop} {e : Addr} {u : Sub} {i : Nat} {x : Value} {Q : Option Value → Shared → Prop} (h1 : u.it ≠ e) (h2 : u.tp ≠ e) (h3 : u.it ≠ u.tp) (Z : EnumAt ok e u i s.heap) (hx : u.items[i]? = some x) (hok : ∀ T, s.heap.get? T = none → ok T)
    (hQ : ∀ h' T t tk, EnumAt ok e u (i + 1) h' → h'.get? T = some (tupObj #[.int i t, x]) → s.heap.get? T = none → (∀ b o, b ≠ e → b ≠ u.it → s.heap.get? b = some o → h'.get? b = some o) → Q (some (.ref T)) { s with heap := h', toks := tk }) :
    wpAny (model prog w) A (pyNext (.ref e)) Q E s := by
  refine el3_2 (Z.eo) fun f0 f1 old he hf0 => ?_
  have hT : s.TypeIs (.ref e) "enumerate" := ⟨_, he, rfl⟩
  unfold pyNext
  refine wpAny_bind (wpAny_attempt (wpAny_callSpecial?_slot (name := Str.ofString "__next__") hT F.slot_enumerate_next (wpAny_call_entry F.slot_enumerate_next hT F.entry_enumerate_next ?_ (F.args_enumerate_next_1 _))))
  show wpAny _ _ (field (.ref e) 2 >>= _) _ _ _
  refine wpAny_bind (wpAny_field he rfl (x := .ref u.it) rfl ?_)
  refine wpAny_bind (Sub.item Z.at' h3 hx fun h₁ a1 s1 => ?_)
  have he₁ : h₁.get? e = some (enumObj f0 f1 u.it i old) := (s1.2 e (Ne.symm h1)).trans he
  refine wpAny_bind (m := field (.ref e) 3) (wpAny_field he₁ rfl (x := rawInt i) rfl ?_)
  refine wpAny_bind (m := field (.ref e) 4) (wpAny_field he₁ rfl (x := .none) rfl ?_)
  rw [if_pos (by rfl)]
  refine wpAny_bind (wpAny_mkInt ?_)
  refine wpAny_bind (m := setField (.ref e) 3 _) (wpAny_setField_rec he₁ (by simp) fun h₂ he₂ s2 => ?_)
  replace he₂ : h₂.get? e = some (enumObj f0 f1 u.it ((i : Int) + 1) old) := he₂
  refine wpAny_bind (m := setField (.ref e) 4 _) (wpAny_setField_rec he₂ (by simp) fun h₃ he₃ s3 => ?_)
  replace he₃ : h₃.get? e = some (enumObj f0 f1 u.it ((i : Int) + 1) old) := he₃
  refine wpAny_bind (wpAny_newTuple ?_)
  have he₄ : (h₃.push (tupObj #[.int i s.toks, x])).get? e = some (enumObj f0 f1 u.it ((i : Int) + 1) old) := Heap.get?_push_of_some _ he₃
  have hsz : h₃.objs.size = s.heap.objs.size := by rw [s3.1, s2.1, s1.1]
  have hel : e < h₃.objs.size := Heap.lt_size he₃
  have keep₄ : ∀ b o, b ≠ e → b ≠ u.it → s.heap.get? b = some o → (h₃.push (tupObj #[.int i s.toks, x])).get? b = some o := fun b o n1 n2 q => Heap.get?_push_of_some _ (s3.extBut b o n1 (s2.extBut b o n1 (s1.extBut b o n2 q)))
  have at₄ : u.At (i + 1) (h₃.push (tupObj #[.int i s.toks, x])) := a1.at fun b o hb q => Heap.get?_push_of_some _ (by
    have hbe : b ≠ e := by
      rcases hb with rfl | rfl
      · exact h1
      · exact h2
    exact s3.extBut b o hbe (s2.extBut b o hbe q))
  have new₄ : (h₃.push (tupObj #[.int i s.toks, x])).get? h₃.objs.size = some (tupObj #[.int i s.toks, x]) := Heap.get?_push_size _ rfl
  have hnone : s.heap.get? h₃.objs.size = none := by rw [hsz]; exact get_new _
  refine wpAny_bind ?_
  unfold Builtin.SmallTypes.ownedTupleIsFree
  refine wpAny_bind (wpAny_field he₄ rfl (x := f0) rfl ?_)
  rcases hf0 with rfl | ⟨T0, o0, rfl, hT0, hok0⟩
  · refine wpAny_pure ?_
    rw [if_pos rfl]
    refine wpAny_bind (wpAny_rule ?_)
    refine wpAny_bind (wpAny_field he₄ rfl (x := old) rfl ?_)
    refine wpAny_bind (wpAny_setField_rec he₄ (by simp) fun h₅ he₅ s5 => ?_)
    replace he₅ : h₅.get? e = some (enumObj .none f1 u.it ((i : Int) + 1) x) := he₅
    refine wpAny_bind (m := Builtin.SmallTypes.ownedTupleHandOut (.ref e) (.ref h₃.objs.size)) ?_
    unfold Builtin.SmallTypes.ownedTupleHandOut
    refine wpAny_bind (wpAny_setField_rec he₅ (by simp) fun h₆ he₆ s6 => ?_)
    replace he₆ : h₆.get? e = some (enumObj (rawInt h₃.objs.size) f1 u.it ((i : Int) + 1) x) := he₆
    refine wpAny_setField_rec he₆ (by simp) fun h₇ he₇ s7 => ?_
    replace he₇ : h₇.get? e = some (enumObj (rawInt h₃.objs.size) (.bool false) u.it ((i : Int) + 1) x) := he₇
    have up : ∀ b o, b ≠ e → (h₃.push (tupObj #[.int i s.toks, x])).get? b = some o → h₇.get? b = some o := fun b o n q => s7.extBut b o n (s6.extBut b o n (s5.extBut b o n q))
    have new₇ := up _ _ (Nat.ne_of_gt hel) new₄
    refine wpAny_bind (wpAny_letGo (wpAny_pure ⟨_, rfl, wpAny_pure (hQ h₇ h₃.objs.size s.toks _ ⟨⟨_, _, _, he₇, .inr ⟨h₃.objs.size, _, rfl, new₇, hok _ hnone⟩⟩, at₄.at fun b o hb q => up b o ?_ q⟩ new₇ hnone fun b o n1 n2 q => up b o n1 (keep₄ b o n1 n2 q))⟩))
    rcases hb with rfl | rfl
    · exact h1
    · exact h2
  · have hT4 : ∃ o, (h₃.push (tupObj #[.int i s.toks, x])).get? T0 = some o := by
      by_cases q1 : T0 = e
      · exact ⟨_, by rw [q1]; exact he₄⟩
      by_cases q2 : T0 = u.it
      · rw [q2]; exact at₄.live.1
      · exact ⟨_, keep₄ T0 o0 q1 q2 hT0⟩
    refine el1_1 (hT4) fun o4 hT4 => ?_
    have hal : ∀ {α : Type} {k : Option Obj → Sem α} {Q' : α → Shared → Prop} {E' : Value → Shared → Prop} {s' : Shared}, s'.heap.get? T0 = some o4 → wpAny (model prog w) A.in1 (k (some o4)) Q' E' s' → wpAny (model prog w) A.in1 (loadIfAlive T0 >>= k) Q' E' s' := fun ho h => by
      rw [← ho] at h
      exact wpAny_bind (m := loadIfAlive T0) (fun Γ p hΓ => h)
    refine hal hT4 ?_
    rw [if_neg (by simp)]
    refine wpAny_bind (wpAny_field he₄ rfl (x := f1) rfl ?_)
    dsimp only
    by_cases hf1 : (f1 != Value.bool true) = true
    · rw [if_pos hf1]
      refine wpAny_bind (wpAny_setField_rec he₄ (by simp) fun h₅ he₅ s5 => wpAny_pure ?_)
      replace he₅ : h₅.get? e = some (enumObj (rawInt T0) (.bool true) u.it ((i : Int) + 1) old) := he₅
      rw [if_neg (by decide)]
      have hT5 : ∃ o, h₅.get? T0 = some o := by
        by_cases q1 : T0 = e
        · exact ⟨_, by rw [q1]; exact he₅⟩
        · exact ⟨_, s5.extBut _ _ q1 hT4⟩
      refine el1_1 (hT5) fun o5 hT5 => ?_
      refine wpAny_pure ⟨_, rfl, wpAny_pure (hQ h₅ h₃.objs.size s.toks _ ⟨⟨_, _, _, he₅, .inr ⟨T0, o5, rfl, hT5, hok0⟩⟩, at₄.at fun b o hb q => s5.extBut b o ?_ q⟩ (s5.extBut _ _ (Nat.ne_of_gt hel) new₄) hnone fun b o n1 n2 q => s5.extBut b o n1 (keep₄ b o n1 n2 q))⟩
      rcases hb with rfl | rfl
      · exact h1
      · exact h2
    · rw [if_neg hf1]
      refine wpAny_pure ?_
      rw [if_neg (by decide)]
      exact wpAny_pure ⟨_, rfl, wpAny_pure (hQ _ h₃.objs.size s.toks _ ⟨⟨_, _, _, he₄, .inr ⟨T0, o4, rfl, hT4, hok0⟩⟩, at₄⟩ new₄ hnone keep₄)⟩
theorem enum_stop {ok : Addr → Prop} {e : Addr} {u : Sub} {i : Nat} {Q : Option Value → Shared → Prop} (hh : A.handled = none) (Z : EnumAt ok e u i s.heap) (hx : u.items[i]? = none)
    (hQ : ∀ h', (∀ b o, b ≠ u.it → s.heap.get? b = some o → h'.get? b = some o) → Q none { s with heap := h' }) : wpAny (model prog w) A (pyNext (.ref e)) Q E s := by
  refine el3_2 (Z.eo) fun f0 f1 old he hf0 => ?_
  have hT : s.TypeIs (.ref e) "enumerate" := ⟨_, he, rfl⟩
  unfold pyNext
  refine wpAny_bind (wpAny_attempt (wpAny_callSpecial?_slot (name := Str.ofString "__next__") hT F.slot_enumerate_next (wpAny_call_entry F.slot_enumerate_next hT F.entry_enumerate_next ?_ (F.args_enumerate_next_1 _))))
  show wpAny _ _ (field (.ref e) 2 >>= _) _ _ _
  refine wpAny_bind (wpAny_field he rfl (x := .ref u.it) rfl ?_)
  refine wpAny_bind (Sub.stop (A := A.in1) hh Z.at' hx fun h' er a b => ?_)
  refine el1_2 (b) fun o ho hc => ?_
  refine wpAny_bind (wpAny_isInstance (T := "StopIteration") (b := true) ⟨o, ho, hc⟩ isSubtype_stop ?_)
  exact wpAny_pure (hQ _ fun b o n q => a b o n q)
theorem enum_go {t : Expr} {e it : Addr} {i : Int} {f0 f1 old v : Value} {Q : Unit → Shared → Prop} (hz : s.heap.get? e = some (enumObj f0 f1 it i old)) (h0 : Q () s) (h : ∀ h', h'.get? e = some (enumObj .none f1 it i old) → Heap.SameBut e s.heap h' → Q () { s with heap := h' }) :
    wpAny (model prog w) A (letOwnedTupleGo t (.ref e) v) Q E s := by
  refine letGo_any (fun a => ?_) h0
  delta letOwnedTupleGo
  dsimp only
  refine wpAny_bind (wpAny_load hz ?_)
  dsimp only
  split
  · exact wpAny_bind (wpAny_rule (wpAny_setField_rec hz (by simp) fun h' a b => h h' a b))
  · exact wpAny_pure h0
end
end Mine
end
noncomputable section
namespace Mine
open PySem PySem.W PySem.Calls PyProof.Rows
variable {X : Cx} {A A0 : Around} {k : Nat} {gs gi : Gm} {σ σ' τ : Sto} {pos : Pos} {K : Frag}
noncomputable abbrev numbered (ds : List V) : List V := ds.mapIdx fun i d => .tup [N i, d]
noncomputable def eP (W : List Addr) (e : Addr) (u : Sub) (ds : List V) (i : Nat) (h : Heap) : Prop := EnumAt (fun T => T ∉ W) e u i h ∧ Rds W h u.items.toList ds
theorem itr_enum {W : List Addr} {e : Addr} {u : Sub} {ds : List V} (n1 : u.it ≠ e) (n2 : u.tp ≠ e) (n3 : u.it ≠ u.tp) (hW : ∀ a ∈ [e, u.it], a ∈ W) (htp : u.tp ∉ W) :
    Itr X k W (.ref e) [e, u.it] (numbered ds) (eP W e u ds) where
  sub := hW
  frame := fun M i h h' hM hk ⟨Z, R⟩ => by
    have keep : ∀ b o, b ∉ M → h.get? b = some o → NotD o → h'.get? b = some o := fun b o hb e hn => by
      refine el1_2 (hk b o hb e) fun o' e' q => ?_
      rw [q.eq hn] at e'; exact e'
    have notM : ∀ b ∈ [e, u.it], b ∉ M := fun b hb q => (hM b q).2 hb
    refine el3_2 (Z.eo) fun f0 f1 old hz hf0 => ?_
    have nit : u.it ∉ M := notM _ (.tail _ (.head _))
    have ntp : u.tp ∉ M := fun q => htp (hM _ q).1
    refine ⟨⟨⟨f0, f1, old, keep e _ (notM e (.head _)) hz nofun, ?_⟩, ?_⟩, R.move fun b o hb e => ⟨hk b o (fun q => hb (hM b q).1) e, hb⟩⟩
    · rcases hf0 with h0 | ⟨T, o, h0, hT, hok⟩
      · exact .inl h0
      · refine el1_2 (hk T o (fun q => hok (hM T q).1) hT) fun o' e' _ => ?_
        exact .inr ⟨T, o', h0, e', hok⟩
    · rcases Z.at' with ⟨⟨o, a, b, c⟩, o2, a2, b2, n2, c2⟩ | ⟨⟨o, a, b, c⟩, o2, a2, b2, n2, c2⟩
      · exact .inl ⟨⟨o, keep _ _ nit a (by intro es n q; rw [c] at q; cases q), b, c⟩, o2, keep _ _ ntp a2 (by intro es n q; rw [c2] at q; cases q), b2, n2, c2⟩
      · exact .inr ⟨⟨o, keep _ _ nit a (by intro es n q; rw [c] at q; cases q), b, c⟩, o2, keep _ _ ntp a2 (by intro es n q; rw [c2] at q; cases q), b2, n2, c2⟩
  live := fun i h ⟨Z, R⟩ a ha => by
    refine el3_2 (Z.eo) fun f0 f1 old hz hf0 => ?_
    rcases List.mem_cons.mp ha with q | ha
    · exact ⟨_, q ▸ hz⟩
    · rw [List.mem_singleton.mp ha]; exact Z.at'.live.1
  next := fun A i s R B ⟨Z, Rd'⟩ => by
    have wr : ∀ {b : Addr}, b ∉ [e, u.it] → b ≠ e ∧ b ≠ u.it := fun {b} hb => ⟨fun q => hb (by rw [q]; exact .head _), fun q => hb (by rw [q]; exact .tail _ (.head _))⟩
    have hnew : ∀ T, s.heap.get? T = none → T ∉ W := fun T hT q => by refine el1_1 (B.old T q) fun o e => ?_; rw [hT] at e; exact noN e
    have hl := Rd'.length
    rw [Array.length_toList] at hl
    cases hi : ds[i]? with
    | none =>
      have hi' : (numbered ds)[i]? = none := by simp [numbered, hi]
      rw [hi']
      refine enum_stop R.handled Z ?_ fun h' hk => ⟨Kp.of fun b o hb e => hk b o (wr hb).2 e, rfl⟩
      rw [Array.getElem?_eq_none_iff]
      have := List.getElem?_eq_none_iff.mp hi
      lia
    | some d =>
      have hi' : (numbered ds)[i]? = some (.tup [N i, d]) := by simp [numbered, hi]
      rw [hi']
      refine el1_2 (Rd'.get hi) fun x hx rx => ?_
      rw [Array.getElem?_toList] at hx
      refine enum_item n1 n2 n3 Z hx hnew fun h' T t tk Z' hT hTn hk => ?_
      have K : Kp X.h0 [e, u.it] s { s with heap := h', toks := tk } := Kp.of fun b o hb e => hk b o (wr hb).1 (wr hb).2 e
      exact ⟨K, .ref T, rfl, .tup (n := 0) hT (hnew T hTn) (.cons (.int _ _) (.cons (rx.keep K hW) .nil)), Z', Rd'.keep K hW⟩
  go := fun A t i s v R B ⟨Z, Rd'⟩ => by
    refine el3_2 (Z.eo) fun f0 f1 old hz hf0 => ?_
    refine enum_go hz ⟨Kp.refl _ _, Z, Rd'⟩ fun h' hz' hs => ?_
    have K : Kp X.h0 [e, u.it] s { s with heap := h' } := Kp.of fun b o hb e => (hs.2 b (fun q => hb (by rw [q]; exact .head _))).trans e
    refine ⟨K, ⟨⟨_, _, _, hz', .inl rfl⟩, Z.at'.at fun b o hb e => hs.extBut _ _ ?_ e⟩, Rd'.keep K hW⟩
    rcases hb with rfl | rfl
    · exact n1
    · exact n2
  self := fun A i s Q E R ⟨Z, _⟩ h => by
    refine el3_2 (Z.eo) fun f0 f1 old hz _ => ?_
    have hT : s.TypeIs (.ref e) "enumerate" := ⟨_, hz, rfl⟩
    refine wpAny_pyIter_slot hT F.slot_enumerate_iter (wpAny_call_entry F.slot_enumerate_iter hT F.entry_enumerate_iter ?_ (F.args_enumerate_iter_1 _))
    exact wpAny_pure (a := PySem.Fin.done (.ret (.ref e))) ⟨_, rfl, "enumerate", _, hT, F.slot_enumerate_next.lookup, h⟩
theorem Iv.enum {func e : Expr} {ds : List V} (hf : Ev X k gs σ func (.opq (.type "enumerate"))) (he : Ev X k gs σ e (.list ds))
    (he' : ∀ env, eval (.Call func [e] [] pos) env = (do callWith pos (← eval func env) [] (backTo pos (starEach [e] env)) (backToKw pos (keywordEach [] env))) := by intro _; rfl)
    (hp : Plain [e] = true := by rfl) (hst : ∀ env, starEach [e] env = (false, eval e env) :: starEach [] env := by intro _; rfl) :
    Iv X k gs σ (.Call func [e] [] pos) (numbered ds) := by
  refine ⟨?_⟩
  intro A env M W s R S
  refine S.callE R hf (Evs.cons he Evs.nil hst) .type (fun vs s1 hvs k1 => ?_) he' hp
  refine el1_2 (Rds.i1 hvs) fun _ y1 r1 => ?_; obtain rfl := y1
  refine el3_4 (r1.listI) fun l xs n y2 l1 n1 y1 => ?_; obtain rfl := y2
  refine call_enumerate_list (IsL.isList l1) fun h' hE hI hsz hk => ?_
  have K2 : Kp X.h0 [] s1 { s1 with heap := h' } := Kp.heapUp hk
  have hE' : h'.get? (s1.heap.objs.size + 1) = some (enumObj .none (.bool false) s1.heap.objs.size 0 .none) := hE
  have new : ∀ m : Nat, s1.heap.get? (s1.heap.objs.size + m) = none := fun m => by
    cases e : s1.heap.get? (s1.heap.objs.size + m) with
    | none => rfl
    | some o => exact absurd (Heap.lt_size e) (Nat.not_lt.mpr (Nat.le_add_right _ _))
  have hlt : l < s1.heap.objs.size := Heap.lt_size l1
  have Z : ∀ ok, EnumAt ok (s1.heap.objs.size + 1) ⟨s1.heap.objs.size, l, xs⟩ 0 h' := fun ok => ⟨⟨_, _, _, hE', .inl rfl⟩, .inl ⟨hI, (IsL.isList l1).at fun o x => hk l o x⟩⟩
  refine ⟨k1.trans K2, ?_⟩
  have hT : ({ s1 with heap := h' } : Shared).TypeIs (.ref (s1.heap.objs.size + 1)) "enumerate" := ⟨_, hE', rfl⟩
  refine wpAny_pyIter_slot hT F.slot_enumerate_iter (wpAny_call_entry F.slot_enumerate_iter hT F.entry_enumerate_iter ?_ (F.args_enumerate_iter_1 _))
  refine wpAny_pure (a := PySem.Fin.done (.ret (.ref (s1.heap.objs.size + 1)))) ⟨_, rfl, "enumerate", _, hT, F.slot_enumerate_next.lookup, ?_⟩
  refine ⟨k1.trans K2, [s1.heap.objs.size + 1, s1.heap.objs.size], fun W' => eP W' (s1.heap.objs.size + 1) ⟨s1.heap.objs.size, l, xs⟩ ds, fun a ha => get_grow k1 ?_, fun W' w1 w2 w3 => ⟨?_, Z _, ?_⟩⟩
  · rcases List.mem_cons.mp ha with rfl | ha
    · exact new 1
    · rw [List.mem_singleton.mp ha]; exact new 0
  · refine itr_enum (u := ⟨s1.heap.objs.size, l, xs⟩) (Nat.ne_of_lt (Nat.lt_succ_self _)) (Nat.ne_of_lt (Nat.lt_succ_of_lt hlt)) (Nat.ne_of_gt hlt) w1 fun q => ?_
    rcases w3 _ q with y | y | y
    · have y' : l = s1.heap.objs.size + 1 ∨ l = s1.heap.objs.size := by simpa using y
      rcases y' with y' | y'
      · exact absurd y' (Nat.ne_of_lt (Nat.lt_succ_of_lt hlt))
      · exact absurd y' (Nat.ne_of_lt hlt)
    · exact n1 y
    · have := get_grow K2 y
      exact absurd (this.symm.trans l1) nofun
  · refine (y1.weak (W' := W') fun b hb => ?_).keep0 K2
    rcases w3 b hb with y | y | y
    · refine .inr ?_
      rcases List.mem_cons.mp y with rfl | y
      · exact new 1
      · rw [List.mem_singleton.mp y]; exact new 0
    · exact .inl y
    · exact .inr (get_grow K2 y)
end Mine
end
noncomputable section
namespace Mine
open PySem PySem.W PySem.Calls PyProof.Rows
variable {X : Cx} {A : Around} {k : Nat} {gs gi : Gm} {σ σ' : Sto} {l r : Expr} {pos : Pos}
theorem compTurn_two (elt t1 i1 t2 i2 : Expr) (scope : Scope) (pos : Pos) (it acc : Value) (env : Env) :
    compTurn (.ListComp elt [⟨t1, i1, [], 0⟩, ⟨t2, i2, [], 0⟩] scope pos) 0 it acc env = (do
      standAt i1.pos
      match ← pyNext it with
      | none => pure (.done .next)
      | some v =>
        letOwnedTupleGo t1 it v
        assign t1 env v
        let x ← eval i2 env
        standAt i2.pos
        let x ← foldedSetIterable i2 env x
        let _ ← runOwn (.compStart (.ListComp elt [⟨t1, i1, [], 0⟩, ⟨t2, i2, [], 0⟩] scope pos) 1 (← holding [x] (pyIter x)) acc env) env
        again (.compLoop (.ListComp elt [⟨t1, i1, [], 0⟩, ⟨t2, i2, [], 0⟩] scope pos) 0 it acc env)) := by rfl
theorem compTurn_two1 (elt t1 i1 t2 i2 : Expr) (scope : Scope) (pos : Pos) (it acc : Value) (env : Env) :
    compTurn (.ListComp elt [⟨t1, i1, [], 0⟩, ⟨t2, i2, [], 0⟩] scope pos) 1 it acc env = (do
      standAt i2.pos
      match ← pyNext it with
      | none => pure (.done .next)
      | some v =>
        letOwnedTupleGo t2 it v
        assign t2 env v
        (do let _ ← call (.builtin "list.append") [acc, ← eval elt env])
        again (.compLoop (.ListComp elt [⟨t1, i1, [], 0⟩, ⟨t2, i2, [], 0⟩] scope pos) 1 it acc env)) := by rfl
theorem compStart_two {prog : Program} {w : World} {R : Result → Shared → Prop} {s : Shared} {elt t1 i1 t2 i2 scope pos it acc env}
    (h0 : codeAny (model prog w) A (.compLoop (.ListComp elt [⟨t1, i1, [], 0⟩, ⟨t2, i2, [], 0⟩] scope pos) 1 it acc env) R s)
    (h : wpAny (model prog w) A (pyIter it) (fun it' s' => codeAny (model prog w) A (.compLoop (.ListComp elt [⟨t1, i1, [], 0⟩, ⟨t2, i2, [], 0⟩] scope pos) 1 it' acc env) R s')
      (notedBy (model prog w) A env fun x s' => R (.error x) s') s) :
    codeAny (model prog w) A (.compStart (.ListComp elt [⟨t1, i1, [], 0⟩, ⟨t2, i2, [], 0⟩] scope pos) 1 it acc env) R s := by
  refine codeAny_of_tree ?_
  show wpAny _ _ ((compStart (.ListComp elt [⟨t1, i1, [], 0⟩, ⟨t2, i2, [], 0⟩] scope pos) 1 it acc env).onRaise (fun x => do noteFrame x env; standAt theWindowsPlace)) _ _ s
  refine wpAny_notedAt ?_
  unfold compStart
  show wpAny _ _ (ask >>= _) _ _ s
  refine wpAny_bind (wpAny_askSetting (wpAny_ite ?_))
  split
  · first
      | exact wpAny_bind (wpAny_pure (wpAny_pure (And.intro rfl h0)))
      | exact wpAny_pure (And.intro rfl h0)
  · first
      | exact wpAny_bind (wpAny_rule (wpAny_bind (wpAny_standAt (wpAny_bind (wpAny_mono h (fun it' s' h' => wpAny_pure (And.intro rfl h')) fun _ _ x => x)))))
      | (refine wpAny_bind (wpAny_rule ?_); show wpAny _ _ (standAt i2.pos >>= _) _ _ s; exact wpAny_bind (wpAny_standAt (wpAny_bind (wpAny_mono h (fun it' s' h' => wpAny_pure (And.intro rfl h')) fun _ _ x => x))))
section
variable {cenv : Env} {M W : List Addr} {s : Shared} {β : Type}
theorem comp_inner {elt t1 i1 t2 i2 : Expr} {sc : Scope} {D : Addr} {σ1 : Sto} {bs : List β} {b : β → V} {F : β → V} {ys : Array Value} {rows : List V} {γ : Type} {K : Sem γ} {E : Value → Shared → Prop} {Q : γ → Shared → Prop}
    (R : Room k A) (S : St X A cenv gi M W σ1 s) (hD : D ∈ W ∧ X.h0.get? D = none ∧ D ≠ cenv.locals ∧ (∀ n, cenv.cells.lookup n ≠ some D) ∧ NF A D ∧ D ∉ M)
    (hacc : s.heap.PlainList D ys) (hr : Rds W s.heap ys.toList rows) (hi : Iv X k gi σ1 i2 (bs.map b))
    (step : ∀ y ∈ bs, ∃ σ2, As X k gi t2 (b y) σ1 σ2 ∧ Le σ2 σ1 ∧ Ev X k gi σ2 elt (F y)) (hz : rows.length + bs.length ≤ 16777216) (hs : ∀ x, foldedSetIterable i2 cenv x = pure x)
    (h : ∀ s' ys', Kp X.h0 (D :: M) s s' → St X A cenv gi M W σ1 s' → s'.heap.PlainList D ys' → Rds W s'.heap ys'.toList (rows ++ bs.map F) → wpAny (model X.prog X.w) A K Q E s') :
    wpAny (model X.prog X.w) A (do
        let x ← eval i2 cenv
        standAt i2.pos
        let x ← foldedSetIterable i2 cenv x
        let _ ← runOwn (.compStart (.ListComp elt [⟨t1, i1, [], 0⟩, ⟨t2, i2, [], 0⟩] sc pos) 1 (← holding [x] (pyIter x)) (.ref D) cenv) cenv
        K) Q E s := by
  refine wpAny_bind (wpAny_mono (hi.run A cenv M W s R S) ?_ (fun _ _ f => f.elim))
  intro x s1 y1; refine el0_2 (y1) fun k1 h1 => ?_
  refine wpAny_bind (wpAny_standAt ?_)
  rw [hs x]
  refine wpAny_bind (wpAny_pure ?_)
  refine wpAny_bind (wpAny_holding (wpAny_mono h1 ?_ (fun _ _ f => f.elim)))
  intro it s2 y2; refine el0_2 (y2) fun k2 y3 => ?_; refine el2_2 (y3) fun own P' hfresh hW => ?_
  refine el0_2 (hW (own ++ W) (fun a h => List.mem_append_left _ h) (fun a h => List.mem_append_right _ h) fun a h => (List.mem_append.mp h).elim .inl fun q => .inr (.inl q)) fun T hP => ?_
  generalize P' (own ++ W) = P at T hP
  have hlive := T.live 0 _ hP
  have S2 : St X A cenv gi M (own ++ W) σ1 s2 := (S.keep k2).wide hlive s hfresh S k2
  have nown : ∀ a ∈ own, a ∉ W := fun a h q => by refine el1_1 (S.old a q) fun o e => ?_; rw [hfresh a h] at e; exact noN e
  have ownOk : ∀ a ∈ own, X.h0.get? a = none ∧ a ≠ cenv.locals ∧ (∀ n, cenv.cells.lookup n ≠ some a) ∧ NF A a ∧ a ∉ M := by
    intro a ha
    refine ⟨?_, fun e => nown a ha (e ▸ S.sub _ S.locM), fun n e => nown a ha (S.cells n a e).2.1, S.nf (hfresh a ha), fun q => nown a ha (S.sub a q)⟩
    cases q : X.h0.get? a with
    | none => rfl
    | some o =>
      have ht : a ≠ X.tab := fun e => nown a ha (e ▸ S.tabW)
      have := S.base a o ht q
      rw [hfresh a ha] at this; exact noN this
  refine el0_6 (hD) fun DW D0 DL DC DN DM => ?_
  have Do : D ∉ own := fun q => nown D q DW
  have mo : ∀ a ∈ own, a ∈ own ++ (D :: M) := fun a h => List.mem_append_left _ h
  have mD : ∀ a ∈ [D], a ∈ own ++ (D :: M) := fun a h => List.mem_append_right _ (by rw [List.mem_singleton.mp h]; exact .head _)
  have mM : ∀ a ∈ M, a ∈ own ++ (D :: M) := fun a h => List.mem_append_right _ (.tail _ h)
  have subD : ∀ a ∈ [D], a ∈ own ++ W := fun a h => List.mem_append_right _ (by rw [List.mem_singleton.mp h]; exact DW)
  refine wpAny_bind (wpAny_runOwn ?_)
  have w2 : Rds (own ++ W) s2.heap ys.toList rows := (hr.weak fun a ha => (List.mem_append.mp ha).elim (fun q => .inr (hfresh a q)) .inl).keep0 k2
  have l2 : s2.heap.PlainList D ys := plain_keep k2.toKh nofun hacc
  have loop : codeAny (model X.prog X.w) (A.mark none) (.compLoop (.ListComp elt [⟨t1, i1, [], 0⟩, ⟨t2, i2, [], 0⟩] sc pos) 1 it (.ref D) cenv) (fun r s' => match r with | .ok f => wpAny (model X.prog X.w) A K Q E s' | .error e => cameBackBy (model X.prog X.w) A cenv E e s') s2 := by
    show codeAny (model X.prog X.w) A _ _ _
    refine codeAny_loop rfl (fun n s' => ∃ i zs, n = bs.length + 1 - i ∧ i ≤ bs.length ∧ Kp X.h0 (own ++ (D :: M)) s s' ∧ St X A cenv gi M (own ++ W) σ1 s' ∧ P i s'.heap ∧ s'.heap.PlainList D zs ∧ Rds (own ++ W) s'.heap zs.toList (rows ++ (bs.take i).map F)) ?_
      (bs.length + 1) ⟨0, ys, rfl, Nat.zero_le _, k2.nil, S2, hP, l2, by simpa using w2⟩
    intro n s3 y4; refine el2_7 (y4) fun i zs y5 hi K3 S3 hP3 hl3 hr3 => ?_; obtain rfl := y5
    show wpAny _ A ((compTurn (.ListComp elt [⟨t1, i1, [], 0⟩, ⟨t2, i2, [], 0⟩] sc pos) 1 it (.ref D) cenv).onRaise (fun x => do noteFrame x cenv; theTreesLotGoes x)) _ _ s3
    refine wpAny_noted ?_
    rw [compTurn_two1]
    refine wpAny_bind (wpAny_standAt (wpAny_bind (wpAny_mono (T.next A i s3 R S3.toBase hP3) ?_ (fun _ _ f => f.elim))))
    intro r s4 y6; refine el0_2 (y6) fun k4 hr => ?_
    have K4 := K3.trans (k4.mono mo)
    have l4 : s4.heap.PlainList D zs := plain_keep k4.toKh Do hl3
    have lv4 : P (i + 1) s4.heap ∨ bs[i]? = none := by
      cases hx : bs[i]? with
      | none => exact .inr rfl
      | some y =>
        rw [show (bs.map b)[i]? = some (b y) by simp [hx]] at hr
        refine el1_3 (hr) fun v _ _ q => ?_
        exact .inl q
    cases hx : bs[i]? with
    | none =>
      have hi' : bs.length ≤ i := List.getElem?_eq_none_iff.mp hx
      rw [show (bs.map b)[i]? = none by simp [hx]] at hr
      subst hr
      rw [List.take_of_length_le hi'] at hr3
      have S4 : St X A cenv gi M W σ1 s4 := S3.keepN k4 S.sub S.tabW (fun n c h => (S.cells n c h).2.1) fun a ha => ⟨nown a ha, (ownOk a ha).1, (ownOk a ha).2.2.2.1⟩
      exact wpAny_pure (h s4 zs (K4.fresh fun a ha => (List.mem_append.mp ha).elim (fun q => .inr (hfresh a q)) .inl) S4 l4 ((hr3.keep k4 T.sub).weak fun a ha => .inl (List.mem_append_right _ ha)))
    | some y =>
      rw [show (bs.map b)[i]? = some (b y) by simp [hx]] at hr
      refine el1_3 (hr) fun v y7 hv hP4 => ?_; obtain rfl := y7
      have hlt : i < bs.length := (List.getElem?_eq_some_iff.mp hx).1
      have live4 := T.live _ _ hP4
      have S4 : St X A cenv gi M (own ++ W) σ1 s4 := S3.keepM k4 fun a ha => ⟨T.sub a ha, (ownOk a ha).1, live4 a ha, (ownOk a ha).2⟩
      refine wpAny_bind (wpAny_mono (T.go A t2 (i + 1) s4 v R S4.toBase hP4) ?_ (fun _ _ f => f.elim))
      intro _ s5 y8; refine el0_2 (y8) fun k5 hP5 => ?_
      have live5 := T.live _ _ hP5
      have S5 : St X A cenv gi M (own ++ W) σ1 s5 := S4.keepM k5 fun a ha => ⟨T.sub a ha, (ownOk a ha).1, live5 a ha, (ownOk a ha).2⟩
      have K5 := K4.trans (k5.mono mo)
      have l5 : s5.heap.PlainList D zs := plain_keep k5.toKh Do l4
      obtain ⟨σ2, has, hle, hel⟩ := step y (List.mem_of_getElem? hx)
      refine wpAny_bind (wpAny_mono (has.run A cenv M _ s5 v R S5 (hv.keep k5 T.sub)) ?_ (fun _ _ f => f.elim))
      intro _ s6 y9; refine el0_2 (y9) fun S6 k6 => ?_
      have K6 := K5.trans (k6.mono mM)
      have l6 : s6.heap.PlainList D zs := plain_keep k6.toKh DM l5
      refine wpAny_bind (wpAny_bind (wpAny_mono (hel.run A cenv M _ s6 R S6) ?_ (fun _ _ f => f.elim)))
      intro u s8 y10; refine el0_2 (y10) fun hu k8 => ?_
      have S8 := S6.keep k8
      have K8 := K6.trans k8.nil
      have l8 : s8.heap.PlainList D zs := plain_keep k8.toKh nofun l6
      have hP8 : P (i + 1) s8.heap := T.frame M (i + 1) _ _ (fun a ha => ⟨List.mem_append_right _ (S.sub a ha), fun q => nown a q (S.sub a ha)⟩) (fun b o hb e => let ⟨o', e', q⟩ := (k6.trans k8.nil).heap b o hb e; ⟨o', e', q.loose⟩) hP5
      have hr8 := (((hr3.keep k4 T.sub).keep k5 T.sub).keep k6 S5.sub).keep0 k8
      have hys : zs.size ≤ sizeLine := by
        have e1 := hr8.length
        have e2 : sizeLine = 16777216 := by decide
        rw [Array.length_toList, List.length_append, List.length_map, List.length_take] at e1
        omega
      refine wpAny_bind (wpAny_list_append_plain (hsz := hys) l8 fun h9 l9 hs9 => ?_)
      have k9 : Kp X.h0 [D] s8 { s8 with heap := h9 } := Kp.of fun b o hb e => (hs9.2 b (by simpa using hb)).trans e
      have S9 : St X A cenv gi M (own ++ W) σ2 { s8 with heap := h9 } := S8.keepM k9 fun a ha => by
        rw [List.mem_singleton.mp ha]
        exact ⟨List.mem_append_right _ DW, D0, let ⟨n, e⟩ := l9; ⟨_, e⟩, DL, DC, DN, DM⟩
      have hP9 : P (i + 1) h9 := T.frame [D] (i + 1) _ _ (fun b hb => ⟨subD b hb, by rw [List.mem_singleton.mp hb]; exact Do⟩) (fun b o hb e => let ⟨o', e', q⟩ := k9.heap b o hb e; ⟨o', e', q.loose⟩) hP8
      refine wpAny_pure (wpAny_pure ⟨rfl, bs.length + 1 - (i + 1), Nat.sub_lt_sub_left (Nat.lt_succ_of_lt hlt) (Nat.lt_succ_self i), i + 1, zs.push u, rfl, hlt, K8.trans (k9.mono mD), S9.weak hle, hP9, l9, ?_⟩)
      rw [List.take_add_one, hx, List.map_append, ← List.append_assoc, Array.toList_push]
      exact (hr8.keep k9 subD).append (.cons (hu.keep k9 subD) .nil)
  exact compStart_two loop (T.self A 0 _ _ _ R hP loop)
end
end Mine
end
noncomputable section
namespace Mine
open PySem PySem.W PySem.Calls PyProof.Rows
variable {X : Cx} {A : Around} {k : Nat} {gs gi : Gm} {σ σ' : Sto} {l r : Expr} {pos : Pos}
noncomputable def Step2 {α β : Type} (X : Cx) (k : Nat) (gi : Gm) (σ0 : Sto) (target t2 i2 elt : Expr) (xs : List α) (a : α → V) (bs : α → List β) (b : α → β → V) (F : α → β → V) : Prop :=
  ∀ x ∈ xs, ∃ σ1, As X k gi target (a x) σ0 σ1 ∧ Le σ1 σ0 ∧ Iv X k gi σ1 i2 ((bs x).map (b x)) ∧ ∀ y ∈ bs x, ∃ σ2, As X k gi t2 (b x y) σ1 σ2 ∧ Le σ2 σ1 ∧ Ev X k gi σ2 elt (F x y)
section
variable {env : Env} {M W : List Addr} {s : Shared} {A : Around} {α β : Type} {xs : List α} {a : α → V} {bs : α → List β} {b : α → β → V} {F : α → β → V}
theorem comp_loop2 {elt target iter t2 i2 : Expr} {sc : Scope} {it : Value} {s2 : Shared} {R : Result → Shared → Prop}
    (hR : Room k A) {cenv : Env} {D : Addr} {Mi own : List Addr} {σ0 : Sto} {P : Nat → Heap → Prop} (S : St X A env gs M W σ s) (K2 : Kp X.h0 [] s s2)
    (T : Itr X k (Mi ++ ((own ++ [D]) ++ W)) it own (xs.map a) P) (hP : P 0 s2.heap) (hz : xs.length ≤ sizeLine) (hMi : ∀ b ∈ Mi, s.heap.get? b = none ∧ b ∉ own ∧ b ≠ D) (hown : ∀ b ∈ own, s.heap.get? b = none) (hD : s.heap.get? D = none) (hDo : D ∉ own)
    (hc : ∀ n c, cenv.cells.lookup n = some c → c ∈ Mi ∨ c ∈ W) (hCm : cenv.locals ∈ Mi) (Si : St X A cenv gi Mi (Mi ++ ((own ++ [D]) ++ W)) σ0 s2) (hacc : s2.heap.PlainList D #[])
    (hst : Step2 X k gi σ0 target t2 i2 elt xs a bs b F)
    (hzz : (xs.flatMap fun x => (bs x).map (F x)).length ≤ 16777216) (hs2 : ∀ env x, foldedSetIterable i2 env x = pure x)
    (h : ∀ s5, Blk X W Mi cenv.locals s s5 → Rd (Mi ++ W) s5.heap (.ref D) (.list (xs.flatMap fun x => (bs x).map (F x))) → R (.ok .next) s5) :
    codeAny (model X.prog X.w) A (.compLoop (.ListComp elt [⟨target, iter, [], 0⟩, ⟨t2, i2, [], 0⟩] sc pos) 0 it (.ref D) cenv) R s2 := by
  have oldW : ∀ b ∈ W, ∃ o, s.heap.get? b = some o := S.old
  have DW : D ∉ W := fun q => by obtain ⟨o, e⟩ := oldW _ q; rw [hD] at e; exact noN e
  have oW : ∀ b ∈ own, b ∉ W := fun b hb q => by obtain ⟨o, e⟩ := oldW _ q; rw [hown b hb] at e; exact noN e
  have h0n : ∀ b, s.heap.get? b = none → X.h0.get? b = none := fun b hb => by
    cases q : X.h0.get? b with
    | none => rfl
    | some o =>
      have ht : b ≠ X.tab := fun z => by obtain ⟨o, e⟩ := oldW _ S.tabW; rw [← z, hb] at e; exact noN e
      rw [S.base b o ht q] at hb; cases hb
  have ownOk : ∀ {s' : Shared}, (∀ b ∈ own, ∃ o, s'.heap.get? b = some o) → ∀ b ∈ own, b ∈ Mi ++ ((own ++ [D]) ++ W) ∧ X.h0.get? b = none ∧ (∃ o, s'.heap.get? b = some o) ∧ b ≠ cenv.locals ∧ (∀ n, cenv.cells.lookup n ≠ some b) ∧ NF A b ∧ b ∉ Mi := fun hl b hb =>
    ⟨T.sub b hb, h0n b (hown b hb), hl b hb, fun z => (hMi _ hCm).2.1 (z ▸ hb), fun n z => (hc n b z).elim (fun q => (hMi _ q).2.1 hb) (oW b hb), S.nf (hown b hb), fun q => (hMi _ q).2.1 hb⟩
  have DOk : ∀ {s' : Shared}, (∃ o, s'.heap.get? D = some o) → ∀ b ∈ [D], b ∈ Mi ++ ((own ++ [D]) ++ W) ∧ X.h0.get? b = none ∧ (∃ o, s'.heap.get? b = some o) ∧ b ≠ cenv.locals ∧ (∀ n, cenv.cells.lookup n ≠ some b) ∧ NF A b ∧ b ∉ Mi := fun hl b hb => by
    rw [List.mem_singleton.mp hb]
    exact ⟨List.mem_append_right _ (List.mem_append_left _ (List.mem_append_right _ (.head _))), h0n _ hD, hl, fun z => (hMi _ hCm).2.2 z.symm, fun n z => (hc n D z).elim (fun q => (hMi _ q).2.2 rfl) DW, S.nf hD, fun q => (hMi _ q).2.2 rfl⟩
  refine codeAny_loop rfl (fun n s' => ∃ i ys, n = xs.length + 1 - i ∧ i ≤ xs.length ∧ Kp X.h0 (Mi ++ (own ++ [D])) s2 s' ∧ St X A cenv gi Mi (Mi ++ ((own ++ [D]) ++ W)) σ0 s' ∧ P i s'.heap ∧ s'.heap.PlainList D ys ∧ Rds (Mi ++ ((own ++ [D]) ++ W)) s'.heap ys.toList ((xs.take i).flatMap fun x => (bs x).map (F x))) ?_
    (xs.length + 1) ⟨0, #[], rfl, Nat.zero_le _, Kp.refl _ _, Si, hP, hacc, .nil⟩
  rintro n s3 ⟨i, ys, rfl, hi, K3, S3, hP3, hl3, hr3⟩
  show wpAny _ A ((compTurn (.ListComp elt [⟨target, iter, [], 0⟩, ⟨t2, i2, [], 0⟩] sc pos) 0 it (.ref D) cenv).onRaise (fun x => do noteFrame x cenv; theTreesLotGoes x)) _ _ s3
  refine wpAny_noted ?_
  rw [compTurn_two]
  refine wpAny_bind (wpAny_standAt (wpAny_bind (wpAny_mono (T.next A i s3 hR S3.toBase hP3) ?_ (fun _ _ f => f.elim))))
  rintro r s4 ⟨k4, hr⟩
  have mo : ∀ b ∈ own, b ∈ Mi ++ (own ++ [D]) := fun b hb => List.mem_append_right _ (List.mem_append_left _ hb)
  have mD : ∀ b ∈ [D], b ∈ Mi ++ (own ++ [D]) := fun b hb => List.mem_append_right _ (List.mem_append_right _ hb)
  have mM : ∀ b ∈ Mi, b ∈ Mi ++ (own ++ [D]) := fun b hb => List.mem_append_left _ hb
  have K4 := K3.trans (k4.mono mo)
  have l4 : s4.heap.PlainList D ys := plain_keep k4.toKh hDo hl3
  cases hx : xs[i]? with
  | none =>
    have hi' : xs.length ≤ i := List.getElem?_eq_none_iff.mp hx
    rw [show (xs.map a)[i]? = none by simp [hx]] at hr
    subst hr
    have hfull : xs.take i = xs := List.take_of_length_le hi'
    rw [hfull] at hr3
    have hr4 := hr3.keep k4 T.sub
    obtain ⟨n4, e4⟩ := l4
    have DM : D ∉ Mi ++ W := fun q => (List.mem_append.mp q).elim (fun z => (hMi D z).2.2 rfl) DW
    refine wpAny_pure (h s4 ⟨(K2.nil.trans K4).fresh fun b hb => .inr ?_, hCm, ?_, fun b hb => ⟨(hMi b hb).1, ?_, h0n b (hMi b hb).1⟩⟩ (.list e4 DM (hr4.weak fun b hb => .inl ?_)))
    · rcases List.mem_append.mp hb with q | q
      · exact (hMi b q).1
      · rcases List.mem_append.mp q with q | q
        · exact hown b q
        · rw [List.mem_singleton.mp q]; exact hD
    · obtain ⟨m, h⟩ := S3.ns
      exact ⟨m, k4.ns (fun z => (hMi _ hCm).2.1 z) h⟩
    · exact k4.live (hMi b hb).2.1 (S3.old b (List.mem_append_left _ hb))
    · rcases List.mem_append.mp hb with q | q
      · exact List.mem_append_left _ q
      · exact List.mem_append_right _ (List.mem_append_right _ q)
  | some x =>
    rw [show (xs.map a)[i]? = some (a x) by simp [hx]] at hr
    obtain ⟨v, rfl, hv, hP4⟩ := hr
    have hlt : i < xs.length := (List.getElem?_eq_some_iff.mp hx).1
    have hmem : x ∈ xs := List.mem_of_getElem? hx
    have S4 := S3.keepM k4 (ownOk (T.live _ _ hP4))
    refine wpAny_bind (wpAny_mono (T.go A target (i + 1) s4 v hR S4.toBase hP4) ?_ (fun _ _ f => f.elim))
    rintro _ s5 ⟨k5, hP5⟩
    have S5 := S4.keepM k5 (ownOk (T.live _ _ hP5))
    have K5 := K4.trans (k5.mono mo)
    have l5 : s5.heap.PlainList D ys := plain_keep k5.toKh hDo l4
    obtain ⟨σ1, has, hle, hin, hel⟩ := hst x hmem
    refine wpAny_bind (wpAny_mono (has.run A cenv Mi _ s5 v hR S5 (hv.keep k5 T.sub)) ?_ (fun _ _ f => f.elim))
    rintro _ s6 ⟨S6, k6⟩
    have K6 := K5.trans (k6.mono mM)
    have DMi : D ∉ Mi := fun z => (hMi D z).2.2 rfl
    have l6 : s6.heap.PlainList D ys := plain_keep k6.toKh DMi l5
    have frameM : ∀ (j : Nat) (s s' : Shared), Kh X.h0 (D :: Mi) s s' → P j s.heap → P j s'.heap := fun j s s' hk hp =>
      T.frame (D :: Mi) j _ _ (fun b hb => by
        rcases List.mem_cons.mp hb with rfl | hb
        · exact ⟨List.mem_append_right _ (List.mem_append_left _ (List.mem_append_right _ (.head _))), hDo⟩
        · exact ⟨List.mem_append_left _ hb, (hMi b hb).2.1⟩) (fun b o hb e => let ⟨o', e', q⟩ := hk.heap b o hb e; ⟨o', e', q.loose⟩) hp
    have hP6 := frameM _ _ _ (k6.toKh.mono fun b hb => .tail _ hb) hP5
    have hr6 := ((hr3.keep k4 T.sub).keep k5 T.sub).keep k6 S5.sub
    have e16 : sizeLine = 16777216 := by decide
    have lz : ((xs.take (i + 1)).flatMap fun x => (bs x).map (F x)).length ≤ 16777216 := by
      have e := congrArg List.length (congrArg (fun l => l.flatMap fun x => (bs x).map (F x)) (List.take_append_drop (i + 1) xs))
      rw [List.flatMap_append, List.length_append] at e
      lia
    have tk : ((xs.take (i + 1)).flatMap fun x => (bs x).map (F x)) = ((xs.take i).flatMap fun x => (bs x).map (F x)) ++ (bs x).map (F x) := by
      rw [List.take_add_one, hx, List.flatMap_append]; simp
    rw [tk, List.length_append, List.length_map] at lz
    have DO := DOk (s' := s6) (let ⟨n, e⟩ := l6; ⟨_, e⟩) D (.head _)
    refine comp_inner hR S6 ⟨DO.1, DO.2.1, DO.2.2.2.1, DO.2.2.2.2.1, DO.2.2.2.2.2.1, DO.2.2.2.2.2.2⟩ l6 hr6 hin hel lz (hs2 cenv) fun s9 ys' k9 S9 l9 hr9 => ?_
    have hP9 := frameM _ _ _ k9.toKh hP6
    refine wpAny_pure ⟨rfl, xs.length + 1 - (i + 1), Nat.sub_lt_sub_left (Nat.lt_succ_of_lt hlt) (Nat.lt_succ_self i), i + 1, ys', rfl, hlt, K6.trans (k9.mono fun b hb => ?_), S9.weak hle, hP9, l9, ?_⟩
    · rcases List.mem_cons.mp hb with rfl | hb
      · exact List.mem_append_right _ (List.mem_append_right _ (.head _))
      · exact List.mem_append_left _ hb
    · rw [tk]; exact hr9
theorem comp_go2 {elt target iter t2 i2 : Expr} {sc : Scope} {ts : List Str} {p0 : Pos} {E : Value → Shared → Prop} {use : Option (Value → Sem Unit)} {Q : Value → Shared → Prop}
    (R : Room k A) (S : St X A env gs M W σ s) (hi : Iv X k gs σ iter (xs.map a)) (hok : compOk sc ts gi.gs (gi.fr.map (·.1)) gi.cs gs.cs = true) (hfr : ∀ y d, (y, d) ∈ gi.fr → ((y, some d) ∈ σ ∧ d.isOwn = false) ∨ (y, d) ∈ gs.fr)
    (hz : xs.length ≤ sizeLine) (hzz : (xs.flatMap fun x => (bs x).map (F x)).length ≤ 16777216) (hs2 : ∀ env x, foldedSetIterable i2 env x = pure x) (hst : Step2 X k gi (ts.map fun t => (t, none)) target t2 i2 elt xs a bs b F)
    (h : ∀ C Mi D s5, Blk X W Mi C s s5 → Rd (Mi ++ W) s5.heap (.ref D) (.list (xs.flatMap fun x => (bs x).map (F x))) → compPost (model X.prog X.w) A E use Q (.ref D) C (.ok .next) s5)
    (hs : ∀ x, foldedSetIterable iter env x = pure x := by intro _; rfl) :
    wpAny (model X.prog X.w) A (comprehension (.ListComp elt [⟨target, iter, [], 0⟩, ⟨t2, i2, [], 0⟩] sc pos) sc env p0 (newList []) false (eval iter env) use) Q E s := by
  have O := compOk_of hok
  refine el1_2 (comp_env (gi := gi) S hok hfr) fun cl hcl hce => ?_
  refine wpAny_comprehension_free rfl hs hcl O.fn O.loc (wpAny_mono (hi.run A env M W s R S) ?_ (fun _ _ f => f.elim))
  intro x s1 y7; refine el0_2 (y7) fun k1 h1 => ?_
  refine wpAny_mono h1 ?_ (fun _ _ f => f.elim)
  intro it s2 y8; refine el0_2 (y8) fun k2 y9 => ?_; refine el2_2 (y9) fun own P hown hits => ?_
  refine wpAny_newObj_type (nfe_some ?_)
  have hD2 := get_new s2.heap
  have hD : s.heap.get? s2.heap.objs.size = none := get_grow k2 hD2
  generalize hs3 : ({ s2 with heap := s2.heap.push { cls := .type "list", dict := none, data := .seq ([] : List Value).toArray } } : Shared) = s3
  have k23 : Kp X.h0 [] s2 s3 := by subst hs3; exact Kp.push _ _
  have e3 : s3.heap.get? s2.heap.objs.size = some { cls := .type "list", dict := none, data := .seq #[] } := by subst hs3; exact Heap.get?_push_size _ rfl
  have k3 := k2.trans k23
  have hP2 : ∀ b ∈ own, ∃ o, s2.heap.get? b = some o := by
    refine el0_2 (hits (own ++ W) (fun b h => List.mem_append_left _ h) (fun b h => List.mem_append_right _ h) (fun b h => (List.mem_append.mp h).elim .inl fun q => .inr (.inl q))) fun T0 hP0 => ?_
    exact T0.live _ _ hP0
  have hDo : s2.heap.objs.size ∉ own := fun q => by refine el1_1 (hP2 _ q) fun o e => ?_; rw [hD2] at e; exact noN e
  obtain ⟨Mi, hMi, hc, hCm, Si⟩ := hce s3 (own ++ [s2.heap.objs.size]) k3 fun b hb => by
    rcases List.mem_append.mp hb with q | q
    · exact ⟨hown b q, k23.live nofun (hP2 b q)⟩
    · rw [List.mem_singleton.mp q]; exact ⟨hD, _, e3⟩
  have hMi2 : ∀ b ∈ Mi, s2.heap.get? b = none := fun b hb => get_grow k23 (hMi b hb)
  generalize hs4 : ({ s3 with heap := pushCells (s3.heap.push dictObj) sc.names } : Shared) = s4 at Si ⊢
  have k34 : Kp X.h0 [] s3 s4 := by subst hs4; exact Kp.of fun b o _ e => pushCells_keeps _ _ _ _ (Heap.get?_push_of_some _ e)
  obtain ⟨T, hP⟩ := hits (Mi ++ ((own ++ [s2.heap.objs.size]) ++ W)) (fun b h => List.mem_append_right _ (List.mem_append_left _ (List.mem_append_left _ h))) (fun b h => List.mem_append_right _ (List.mem_append_right _ h)) fun b h => by
    rcases List.mem_append.mp h with q | q
    · exact .inr (.inr (hMi2 b q))
    · rcases List.mem_append.mp q with q | q
      · rcases List.mem_append.mp q with q | q
        · exact .inl q
        · rw [List.mem_singleton.mp q]; exact .inr (.inr hD2)
      · exact .inr (.inl q)
  have hP4 := T.frame [] 0 _ s4.heap (fun b hb => nomatch hb) (fun b o _ e => let ⟨o', e', q⟩ := (k23.trans k34).heap b o nofun e; ⟨o', e', q.loose⟩) hP
  have hMi4 : ∀ b ∈ Mi, s.heap.get? b = none ∧ b ∉ own ∧ b ≠ s2.heap.objs.size := by
    intro b hb
    refine ⟨get_grow k2 (hMi2 b hb), fun q => ?_, fun q => ?_⟩
    · refine el1_1 (hP2 b q) fun o e => ?_
      rw [hMi2 b hb] at e; exact noN e
    · have := hMi b hb
      rw [q, e3] at this; cases this
  have loop := comp_loop2 (t2 := t2) (i2 := i2) (elt := elt) (iter := iter) (sc := sc) (pos := pos) (σ0 := ts.map fun t => (t, none)) R S (k3.trans k34) T hP4 hz hMi4 hown hD hDo hc hCm Si
    ⟨0, k34.get nofun e3 nofun⟩ hst hzz hs2 (R := fun r s' => compPost (model X.prog X.w) A E use Q (.ref s2.heap.objs.size) s3.heap.objs.size r s') fun s5 B r => h _ _ _ s5 B r
  subst hs4
  subst hs3
  refine codeAny_compStart_list ?_ ?_
  · exact loop
  · exact T.self A 0 _ _ _ R hP4 loop
end
section
variable {α β : Type} {xs : List α} {a : α → V} {bs : α → List β} {b : α → β → V} {F : α → β → V} {elt target iter t2 i2 : Expr} {sc : Scope} {ts : List Str}
theorem Ev.comp2 (gi : Gm) (ts : List Str) (xs : List α) (a : α → V) (bs : α → List β) (b : α → β → V) (F : α → β → V) (hi : Iv X k gs σ iter (xs.map a)) (hst : Step2 X k gi (ts.map fun t => (t, Option.none)) target t2 i2 elt xs a bs b F)
    (hok : compOk sc ts gi.gs (gi.fr.map (·.1)) gi.cs gs.cs = true) (hfr : ∀ y d, (y, d) ∈ gi.fr → ((y, some d) ∈ σ ∧ d.isOwn = false) ∨ (y, d) ∈ gs.fr)
    (hz : xs.length ≤ sizeLine) (hzz : (xs.flatMap fun x => (bs x).map (F x)).length ≤ 16777216) (hs : ∀ env x, foldedSetIterable iter env x = pure x := by intro _ _; rfl) (hs2 : ∀ env x, foldedSetIterable i2 env x = pure x := by intro _ _; rfl) : Ev X k gs σ (.ListComp elt [⟨target, iter, [], 0⟩, ⟨t2, i2, [], 0⟩] sc pos) (.list (xs.flatMap fun x => (bs x).map (F x))) := by
  refine ⟨?_⟩
  intro A env M W s R S
  rw [eval_ListComp]
  refine comp_go2 (use := Option.none) (gi := gi) (ts := ts) R S hi hok hfr hz hzz hs2 hst ?_ (hs env)
  intro C Mi D s5 B r
  refine el1_1 (B.ns) fun m hm => ?_
  refine ⟨m, hm, fun h' hh => ?_⟩
  have k1 : Kp X.h0 [C] s5 { s5 with heap := h' } := Kp.of fun b o hb e => (hh.2 b (by simpa using hb)).trans e
  have r1 := (r.keep k1 fun b hb => List.mem_append_left _ (by rw [List.mem_singleton.mp hb]; exact B.cm)).weak (W' := W) fun b hb => .inl (List.mem_append_right _ hb)
  exact ⟨r1, (B.kp.nil.trans k1).fresh fun b hb => .inr (by rw [List.mem_singleton.mp hb]; exact (B.new _ B.cm).1)⟩
theorem Es.asgC2 (gi : Gm) (ts : List Str) (xs : List α) (a : α → V) (bs : α → List β) (b : α → β → V) (F : α → β → V) {x : Str} {p : Pos} {Q : Res → Prop} {cp : Pos} (hi : Iv X k gs σ iter (xs.map a)) (hst : Step2 X k gi (ts.map fun t => (t, none)) target t2 i2 elt xs a bs b F) (hu : Upd x (.list (xs.flatMap fun x => (bs x).map (F x))) σ σ') (hq : Q (.next σ'))
    (hok : compOk sc ts gi.gs (gi.fr.map (·.1)) gi.cs gs.cs = true) (hfr : ∀ y d, (y, d) ∈ gi.fr → ((y, some d) ∈ σ ∧ d.isOwn = false) ∨ (y, d) ∈ gs.fr)
    (hz : xs.length ≤ sizeLine) (hzz : (xs.flatMap fun x => (bs x).map (F x)).length ≤ 16777216) (hs : ∀ env x, foldedSetIterable iter env x = pure x := by intro _ _; rfl) (hs2 : ∀ env x, foldedSetIterable i2 env x = pure x := by intro _ _; rfl)
    (hw : ∀ env, ∃ b, swapsWith (.ListComp elt [⟨target, iter, [], 0⟩, ⟨t2, i2, [], 0⟩] sc cp) (some (.Name x p)) pos.line env = pure b := by intro _; exact ⟨_, rfl⟩) :
    Es X k gs σ (.Assign [.Name x p] (.ListComp elt [⟨target, iter, [], 0⟩, ⟨t2, i2, [], 0⟩] sc cp) pos) Q := by
  refine ⟨?_⟩
  intro A env M W s R Ow S
  obtain ⟨bb, hb⟩ := hw env
  cases bb with
  | false =>
    refine wpAny_Assign_Name (wpAny_mono ((Ev.comp2 gi ts xs a bs b F hi hst hok hfr hz hzz hs hs2).run A env M W s R S) ?_ (fun _ _ f => f)) hb
    rintro v s1 ⟨hr, k1⟩
    refine wpAny_mono ((S.keep k1).store hr hu) ?_ (fun _ _ f => f)
    rintro _ s2 ⟨S2, k2⟩
    exact ⟨k1.nil.trans k2, _, hq, rfl, S2⟩
  | true =>
    rw [exec_Assign_Name_used _ _ _ _ hb]
    refine wpAny_bind (wpAny_standAt (wpAny_bind ?_))
    show wpAny _ A (do let _ ← comprehension (.ListComp elt [⟨target, iter, [], 0⟩, ⟨t2, i2, [], 0⟩] sc cp) sc env _ (newList []) false (eval iter env) (some (assign (.Name x p) env))) _ _ s
    refine wpAny_bind (wpAny_mono (comp_go2 (use := some (assign (.Name x p) env)) (Q := fun _ s' => Fin' X A env gs M W s Q .next s') (gi := gi) (ts := ts) R S hi hok hfr hz hzz hs2 hst ?_ (hs env)) (fun _ s' hq => wpAny_pure (wpAny_pure hq)) fun _ _ e => e)
    intro C Mi D s5 B r
    have S5 : St X A env gs M (Mi ++ W) σ s5 := (S.keep B.kp).wide (fun b hb => (B.new b hb).2.1) s (fun b hb => (B.new b hb).1) S B.kp
    show wpAny _ A (assign (.Name x p) env (.ref D)) _ _ _
    refine wpAny_mono ((As.name hu).run A env M (Mi ++ W) s5 _ R S5 r) ?_ (fun _ _ f => f.elim)
    rintro _ s6 ⟨S6, k6⟩
    have nW : ∀ b ∈ Mi, b ∉ W := fun b hb q => by obtain ⟨o, e⟩ := S.old b q; rw [(B.new b hb).1] at e; exact noN e
    obtain ⟨m, hm⟩ := B.ns
    refine ⟨m, k6.ns (fun q => nW _ B.cm (S.sub _ q)) hm, fun h' hh => ?_⟩
    have k7 : Kp X.h0 [C] s6 { s6 with heap := h' } := Kp.of fun b o hb e => (hh.2 b (by simpa using hb)).trans e
    have k7' : Kp X.h0 Mi s6 { s6 with heap := h' } := k7.mono fun b hb => by rw [List.mem_singleton.mp hb]; exact B.cm
    have S7 : St X A env gs M W σ' { s6 with heap := h' } := S6.keepN k7' S.sub S.tabW (fun n c hc => (S.cells n c hc).2.1) fun b hb => ⟨nW b hb, (B.new b hb).2.2, S.nf (B.new b hb).1⟩
    have K : Kp X.h0 (M ++ Mi) s { s6 with heap := h' } := (B.kp.nil.trans (k6.mono fun b hb => List.mem_append_left _ hb)).trans (k7'.mono fun b hb => List.mem_append_right _ hb)
    exact ⟨K.fresh fun b hb => (List.mem_append.mp hb).elim .inl fun q => .inr (B.new b q).1, _, hq, rfl, S7⟩
end
end Mine
end
noncomputable section
namespace Mine
open PySem PySem.W PySem.Calls PyProof.Rows
variable {X : Cx} {A A0 : Around} {k : Nat} {gs gi : Gm} {σ σ' τ : Sto} {pos : Pos} {K : Frag}
theorem St.callE1 {env : Env} {M W : List Addr} {s : Shared} {func e : Expr} {n : String} {Q : Value → Shared → Prop} (R : Room k A) (S : St X A env gs M W σ s) (hf : Ev X k gs σ func (.opq (.type n)))
    (h : ∀ s1, Kp X.h0 [] s s1 → St X A env gs M W σ s1 → wpAny (model X.prog X.w) A (eval e env) (fun v s2 => wpAny (model X.prog X.w) A (call (.type n) [v] []) Q No s2) No s1)
    (he : ∀ env, eval (.Call func [e] [] pos) env = (do callWith pos (← eval func env) [] (backTo pos (starEach [e] env)) (backToKw pos (keywordEach [] env))))
    (hp : Plain [e] = true := by rfl) (hst : ∀ env, starEach [e] env = (false, eval e env) :: starEach [] env := by intro _; rfl) : wpAny (model X.prog X.w) A (eval (.Call func [e] [] pos) env) Q No s := by
  rw [he]
  refine wpAny_bind (wpAny_mono (hf.run A env M W s R S) ?_ (fun _ _ f => f.elim))
  rintro v s1 ⟨hv, k1⟩
  cases hv
  have np := any_backTo (pos := pos) (env := env) (ds := []) (Plain.no hp)
  refine callWith_go np (evalArgs_all np ?_)
  rw [hst]
  show wpAny _ A (spliced ((false, eval e env) :: backTo pos (starEach [] env))) _ _ s1
  refine spliced_cons (wpAny_mono (h s1 k1 (S.keep k1)) ?_ (fun _ _ f => f))
  intro v s2 hv
  exact spliced_nil ⟨.inl fun a => nofun, hv⟩
theorem Ev.listZip3 {func f2 e1 e2 e3 : Expr} {p2 : Pos} {d1 d2 d3 : V} {ds1 ds2 ds3 : List V} (hf : Ev X (k + 4) gs σ func (.opq (.type "list"))) (hg : Ev X (k + 4) gs σ f2 (.opq (.type "zip"))) (h1 : Ev X (k + 4) gs σ e1 d1) (h2 : Ev X (k + 4) gs σ e2 d2) (h3 : Ev X (k + 4) gs σ e3 d3)
    (q1 : SeqD ds1 d1) (q2 : SeqD ds2 d2) (q3 : SeqD ds3 d3) (hlen : ds1.length ≤ 1000000)
    (he1 : ∀ env, eval (.Call func [.Call f2 [e1, e2, e3] [] p2] [] pos) env = (do callWith pos (← eval func env) [] (backTo pos (starEach [.Call f2 [e1, e2, e3] [] p2] env)) (backToKw pos (keywordEach [] env))) := by intro _; rfl)
    (he' : ∀ env, eval (.Call f2 [e1, e2, e3] [] p2) env = (do callWith p2 (← eval f2 env) [] (backTo p2 (starEach [e1, e2, e3] env)) (backToKw p2 (keywordEach [] env))) := by intro _; rfl)
    (hp : Plain [e1, e2, e3] = true := by rfl) (hst : ∀ env, starEach [e1, e2, e3] env = (false, eval e1 env) :: starEach [e2, e3] env := by intro _; rfl) (hst2 : ∀ env, starEach [e2, e3] env = (false, eval e2 env) :: starEach [e3] env := by intro _; rfl)
    (hst3 : ∀ env, starEach [e3] env = (false, eval e3 env) :: starEach [] env := by intro _; rfl) :
    Ev X (k + 4) gs σ (.Call func [.Call f2 [e1, e2, e3] [] p2] [] pos) (.list ((ds1.zip (ds2.zip ds3)).map fun p => .tup [p.1, p.2.1, p.2.2])) := by
  refine ⟨?_⟩
  intro A env M W s R S
  refine S.callE1 R hf (fun s0 k0 S0 => ?_) he1
  refine S0.callE (f := .type "zip") R hg (Evs.cons h1 (Evs.cons h2 (Evs.cons h3 Evs.nil hst3) hst2) hst) .type (fun vs s1 hvs k1 => ?_) he' hp
  refine el3_4 (Rds.i3 hvs) fun _ _ _ y2 r1 r2 r3 => ?_; obtain rfl := y2
  refine el3_4 (rd_src r1 q1) fun b1 l1 xs y3 x1 n1 y1 => ?_; obtain rfl := y3
  refine el3_4 (rd_src r2 q2) fun b2 l2 ys y4 x2 n2 y2 => ?_; obtain rfl := y4
  refine el3_4 (rd_src r3 q3) fun b3 l3 zs y5 x3 n3 y3 => ?_; obtain rfl := y5
  refine call_zip3 x1 x2 x3 fun h' D Z hk => ?_
  have K2 : Kp X.h0 [] s1 { s1 with heap := h' } := Kp.heapUp hk
  have new : ∀ m : Nat, s1.heap.get? (s1.heap.objs.size + m) = none := fun m => by
    cases e : s1.heap.get? (s1.heap.objs.size + m) with
    | none => rfl
    | some o => exact absurd (Heap.lt_size e) (Nat.not_lt.mpr (Nat.le_add_right _ _))
  have S2 := (S0.keep k1).keep K2
  refine list_zip (ud := [(⟨s1.heap.objs.size, l1, xs⟩, ds1), (⟨s1.heap.objs.size + 1, l2, ys⟩, ds2), (⟨s1.heap.objs.size + 2, l3, zs⟩, ds3)]) R S2.toBase D Z zip_items3 k1 K2 (fun a ha => ?_) (fun p hp => ?_) S0.toBase (by simp only [List.length_map, List.length_zip]; lia) fun v s' hv kk => ⟨hv, k0.trans kk⟩
  · simp only [zOwn, UD.us, List.map_cons, List.map_nil, List.mem_cons, List.not_mem_nil, or_false] at ha
    rcases ha with rfl | rfl | rfl | rfl | rfl | rfl
    · exact new 5
    · exact new 3
    · exact new 4
    · exact new 0
    · exact new 1
    · exact new 2
  · simp only [List.mem_cons, List.not_mem_nil, or_false] at hp
    have lv : ∀ {b : Bool} {l : Addr} {xs : Array Value}, Src b l xs s1.heap → ∃ o, s1.heap.get? l = some o := fun {b l xs} x => by
      cases b
      · refine el1_2 (x) fun o e _ => ?_; exact ⟨o, e⟩
      · refine el1_2 (x) fun o e _ => ?_; exact ⟨o, e⟩
    rcases hp with rfl | rfl | rfl
    · exact ⟨n1, lv x1, y1⟩
    · exact ⟨n2, lv x2, y2⟩
    · exact ⟨n3, lv x3, y3⟩
theorem Ev.listRange2 {func f2 e1 e2 : Expr} {p2 : Pos} {a b : Int} {n : Nat} (hf : Ev X k gs σ func (.opq (.type "list"))) (hg : Ev X k gs σ f2 (.opq (.type "range"))) (h1 : Ev X k gs σ e1 (.int a)) (h2 : Ev X k gs σ e2 (.int b))
    (hn : (n : Int) = if a < b then b - a else 0) (ha : -1000000000 ≤ a ∧ a ≤ 1000000000) (hb : -1000000000 ≤ b ∧ b ≤ 1000000000) (hlen : n ≤ 1000000)
    (he1 : ∀ env, eval (.Call func [.Call f2 [e1, e2] [] p2] [] pos) env = (do callWith pos (← eval func env) [] (backTo pos (starEach [.Call f2 [e1, e2] [] p2] env)) (backToKw pos (keywordEach [] env))) := by intro _; rfl)
    (he' : ∀ env, eval (.Call f2 [e1, e2] [] p2) env = (do callWith p2 (← eval f2 env) [] (backTo p2 (starEach [e1, e2] env)) (backToKw p2 (keywordEach [] env))) := by intro _; rfl)
    (hp : Plain [e1, e2] = true := by rfl) (hst : ∀ env, starEach [e1, e2] env = (false, eval e1 env) :: starEach [e2] env := by intro _; rfl) (hst2 : ∀ env, starEach [e2] env = (false, eval e2 env) :: starEach [] env := by intro _; rfl) :
    Ev X k gs σ (.Call func [.Call f2 [e1, e2] [] p2] [] pos) (.list (Mine.upto a n)) := by
  refine ⟨?_⟩
  intro A env M W s R S
  refine S.callE1 R hf (fun s0 k0 S0 => ?_) he1
  refine S0.callE (f := .type "range") R hg (Evs.cons h1 (Evs.cons h2 Evs.nil hst2) hst) .type (fun vs s1 hvs k1 => ?_) he' hp
  refine el2_3 (Rds.i2 hvs) fun _ _ y6 h h' => ?_; obtain rfl := y6
  refine el1_1 (Rd.intI h) fun t y7 => ?_; obtain rfl := y7
  refine el1_1 (Rd.intI h') fun u y8 => ?_; obtain rfl := y8
  refine call_range_2 ?_
  have K2 := (Kp.refl (B := X.h0) [] s1).pushT { cls := .type "range", data := .fields #[.int a t, .int b u, .int 1 s1.toks] } (s1.toks + 1)
  generalize hs2 : ({ s1 with heap := s1.heap.push { cls := .type "range", data := .fields #[.int a t, .int b u, .int 1 s1.toks] }, toks := s1.toks + 1 } : Shared) = s2 at K2
  have hr : IsRange s2.heap s1.heap.objs.size a b 1 t u s1.toks := by subst hs2; exact IsRange.new ..
  have hz : n ≤ 2 ^ 24 := by lia
  refine call_list_range R.handled hr (small_one ha.1 hb.2 ha.2 hb.1) (by rw [rangeSize_one, ← hn]) hz fun h' tk acc c hk hL hI => ?_
  have K3 : Kp X.h0 [] s2 { s2 with heap := h', toks := tk } := Kp.of fun b o _ e => hk b o e
  have S2 := (S0.keep k1).keep K2
  refine ⟨?_, ((k0.trans k1).trans K2).trans K3⟩
  refine .list (n := c) hL (fun q => ?_) ?_
  · refine el1_1 (S2.old _ q) fun o e => ?_
    exact absurd (Heap.lt_size e) (Nat.lt_irrefl _)
  · refine Rds.of_get (by simp [hI.1]) fun i v d hv hd => ?_
    have hv' : acc[i]? = some v := by simpa using hv
    refine el1_1 (hI.2 i v hv') fun tk y9 => ?_; obtain rfl := y9
    have hi : i < n := by
      have := (Array.getElem?_eq_some_iff.mp hv').1
      rw [hI.1] at this; exact this
    rw [show (Mine.upto a n)[i]? = some (V.int (a + (i : Int))) by simp [hi]] at hd
    obtain rfl := Option.some.inj hd
    rw [Int.mul_one]
    exact .int _ _
end Mine
end
noncomputable section
namespace Mine
open PySem PySem.W PySem.Calls PyProof.Rows
variable {X : Cx} {A : Around} {k : Nat} {gs gi : Gm} {σ σ' τ : Sto} {pos : Pos}
noncomputable abbrev wordsG : Gm := ⟨["ValueError", "str"], [], []⟩
theorem St.mark {env : Env} {M W : List Addr} {s : Shared} {h : Option Value} (S : St X A env gs M W σ s) : St X (A.mark h) env gs M W σ s :=
  ⟨⟨S.base, S.tabW, S.old, S.frs⟩, S.toEnvK, S.sub, S.new, S.ns, S.locM, S.loc, S.nodup, S.vars, S.free, S.cells, S.apart, S.cs, S.dis⟩
theorem words_ex {D : Ad} (P : PX X D) {f : Addr} {msg : Str} {env : Env} {M W : List Addr} {s : Shared} (hf : Callable X (.ref f)) (R : Room k A) (O : Own A env) (hk : env.kindOf "error" = some .local)
    (S : St X A env wordsG M W [("call", some (.opq (.ref f))), ("error", none)] s)
    (lam : ∀ s', Kp X.h0 [] s s' → Base X A W s' → wpAny (model X.prog X.w) A (call (.ref f) [] []) Never (Er X A [] s' "ValueError" (some msg)) s') :
    wpAny (model X.prog X.w) A (execs (bodyS (stm 17)) env) (fun fl s' => ∃ t, fl = .ret (.str msg t) ∧ Kp X.h0 M s s') No s := by
  refine el1_1 (O.top) fun outer hfr => ?_
  refine el1_1 (O.fr) fun L hfL => ?_
  refine wpAny_execs_cons ?_
  refine wpAny_Try_except (wpAny_mono (Q := Never) (E := Er X A [] s "ValueError" (some msg)) (wpAny_execs_cons (wpAny_Return_some (S.callE (k := k) (ds := []) R (Ev.name (.head _)) Evs.nil hf fun vs s2 hvs k2 => ?_))) (fun _ _ f => f.elim) ?_)
  · obtain rfl := Rds.nilI hvs
    exact wpAny_mono (lam s2 k2 (S.keep k2).toBase) (fun _ _ f => f.elim) fun v s3 h => h.back0 k2
  intro v s1 y1; refine el0_2 (y1) fun x1 y2 => ?_; refine el1_2 (y2) fun l1 hl1 F1 => ?_
  rw [hfr] at hl1; obtain rfl := Option.some.inj hl1
  refine x1.note hfr hfL F1 fun s2 x2 F2 => x2.flight F2 Option.none fun s3 x3 F3 => ?_
  obtain ⟨k3, lv3, e, oe, vs, rfl, h2, h3, h4, h5, h6, h7, h8⟩ := id x3
  have S3 := S.keep k3
  refine wpAny_handleBy_builtin_as (X := "ValueError") (T := "ValueError") (b := true) (isSubtype_of_subB (by decide +kernel)) (isSubtype_of_subB (by decide +kernel)) (isSubtype_of_subB (by decide +kernel)) (glob_at P.toXOk (.head _) P.valueError S3 ⟨rfl, ⟨oe, h3, h4⟩, ?_⟩)
  rw [if_pos rfl]
  refine x3.flight F3 Option.none fun s4 x4 F4 => ?_
  obtain ⟨k4, lv4, e4, oe4, vs4, q4, g2, g3, g4, g5, g6, g7, g8⟩ := x4
  obtain rfl := Value.ref.inj q4
  refine el3_3 (g7 msg rfl) fun T0 n tok t1 t2 t3 => ?_
  have S4 := S.keep k4
  refine wpAny_mono (S4.mark.store (d := .opq (.ref e)) (.opq _) u1) ?_ (fun _ _ f => f)
  intro _ s5 y3; refine el0_2 (y3) fun S5 k5 => ?_
  have nM : ∀ {b}, s.heap.get? b = none → b ∉ M := fun {b} hb q => by refine el1_1 (S.old b (S.sub b q)) fun o e => ?_; rw [hb] at e; exact noN e
  have e5 := k5.get (nM g2) g3 (by intro es n q; rw [g5] at q; cases q)
  have T5 := k5.get (nM t3) t2 nofun
  refine wpAny_execs_cons (wpAny_Return_some ?_)
  refine wpAny_bind (glob_at P.toXOk (.tail _ (.head _)) P.str S5 ?_)
  refine callWith_go rfl (evalArgs_all rfl ?_)
  refine spliced_cons (wpAny_Name (S5.load (d := .opq (.ref e)) (.tail _ (.head _)) rfl fun v hv => ?_) (S5.loc "error" _ (.tail _ (.head _))).2)
  refine el1_1 (S5.ns) fun m5 hm5 => ?_
  cases hv
  show wpAny _ _ (spliced []) _ _ _
  refine spliced_nil ⟨.inl fun a => nofun, ?_⟩
  refine PySem.P.str_of_exc_one (A := A.mark (some (.ref e))) (X := "ValueError") (t0 := T0) PySem.F.excStr_ValueError (by have := R.units; show A.units + 2 < cLine; omega) ⟨oe4, vs4, e5, g4, g5, t1⟩ ⟨_, n, T5, rfl, rfl⟩ ?_
  refine wpAny_nameGoes hk hm5 (by rw [S.fn]; rfl) fun h' m' hn hs => ⟨tok, rfl, ?_⟩
  refine (k4.nil.trans k5).trans (Kp.of fun b o hb q => (hs.2 b fun z => hb (by rw [z]; exact S.locM)).trans q)
end Mine
end
noncomputable section
namespace Mine
open PySem PySem.W PySem.Calls PyProof.Rows
variable {X : Cx} {A : Around} {k : Nat} {gs gi : Gm} {σ σ' τ : Sto} {pos : Pos}
theorem words_call {D : Ad} (P : PX X D) {f : Addr} {msg : Str} {W : List Addr} {s : Shared} (hf : Callable X (.ref f)) (R : Room (k + 1) A) (B : Base X A W s)
    (lam : ∀ A' W' s', Room k A' → Base X A' W' s' → Kp X.h0 [] s s' → wpAny (model X.prog X.w) A' (call (.ref f) [] []) Never (Er X A' [] s' "ValueError" (some msg)) s') :
    wpAny (model X.prog X.w) A (call (.ref D.words) [.ref f] []) (fun v s' => ∃ t, v = .str msg t ∧ Kp X.h0 [] s s') No s := by
  refine el7_1 (P.pWords) fun name qual kV doc pm an cd y1 => ?_; refine el1_1 (y1) fun ct F => ?_
  have Ok := fnOk_of (sc := scopeS (stm 17)) (ns := ["call"]) (ls := ["error"]) (gl := ["ValueError", "str"]) (cs := []) (by decide +kernel)
  refine el1_2 (F.obj) fun o ho hd => ?_
  refine el1_2 (F.code) fun c hc hct => ?_
  generalize hfd : fdS (stm 17) name qual .none kV doc pm an cd ct = fd at F hd hc
  have hbody : fd.body = .stmts (bodyS (stm 17)) := by subst hfd; rfl
  have hsc : fd.scope = scopeS (stm 17) := by subst hfd; rfl
  have hcd : s.heap.CodeRec fd.code fd.qualname := by
    have := F.crec
    rw [hc] at this ⊢
    refine el4_4 (this) fun c' o' vs' t e1 e2 e3 e4 => ?_
    obtain rfl := Value.ref.inj e1
    exact ⟨c, o', vs', t, rfl, B.base _ _ hct e2, e3, e4⟩
  have hbt : BindsTo s fd ⟨[.ref f], []⟩ ((["call"] : List Str).zip [.ref f]) := BindsTo.of_eq (by subst hfd; rfl)
  refine wpAny_call ?_
  refine codeAny_call_function (by have := R.depth; lia) (B.base _ _ F.ne ho) hd (by rw [hsc]; exact Ok.co) (by rw [hsc]; exact Ok.ge) hbody hcd (hbt _ _ _ _ ?_)
  rw [F.clo]
  refine wpAny_newFunctionEnv_cells (by rw [hsc]; exact Ok.fn) (fun x hx => ?_) fun env he s1 x => ?_
  · have e : x.1 = ("call" : Str) := by rw [List.mem_singleton.mp hx]
    rw [e, hsc]; exact .inl (show (scopeS (stm 17)).names.lookup ("call" : Str) = some .local from by decide +kernel)
  · subst he
    refine el0_2 (call_env (ds := [.opq (.ref f)]) (ns := ["call"]) (ls := ["error"]) (gl := ["ValueError", "str"]) (cs := []) F B (by rw [hsc]; decide +kernel) rfl (.cons (.opq _) .nil) x) fun K1 y2 => ?_; refine el1_2 (y2) fun M hM S1 => ?_
    refine ⟨(B.keep0 K1).lim P.toXOk, codeAny_func ?_⟩
    refine wpAny_mono (words_ex P hf (R.deeper _) ⟨let ⟨l, hl, _⟩ := B.frs; ⟨l, Around.frames_deeper hl⟩, ⟨_, rfl⟩⟩ ?_ S1 fun s' K' B' => lam _ _ _ (R.deeper _) B' (K1.trans K')) ?_ (fun _ _ f => f.elim)
    · show fd.scope.names.lookup ("error" : Str) = _
      rw [hsc]; decide +kernel
    intro fl s2 y3; refine el1_2 (y3) fun t y4 k2 => ?_; obtain rfl := y4
    exact ⟨t, rfl, K1.inner k2 hM⟩
end Mine
end
noncomputable section
namespace Mine
open PySem PySem.W PySem.Calls PyProof.Rows
variable {X : Cx} {A : Around} {k : Nat} {gs gi : Gm} {σ σ' τ : Sto} {pos : Pos} {cls : String} {msg : Option Str}
noncomputable def lamOk (sc : Scope) (gl fr : List Str) : Bool :=
  sc.kind == .function && !sc.isCoroutine && !sc.isGenerator && sc.names.all (fun y => y.2 != .cell) &&
  gl.all (fun g => sc.names.lookup g == some .globalImplicit && !(g == ("__debug__" : Str))) &&
  fr.all (fun y => sc.names.lookup y == some .free && !(y == ("__debug__" : Str)) && !(y == ("__classdict__" : Str)))
structure LamOk (sc : Scope) (gl fr : List Str) : Prop where
  fn : sc.kind = .function
  co : sc.isCoroutine = false
  ge : sc.isGenerator = false
  nc : ∀ y ∈ sc.names, y.2 ≠ .cell
  glk : ∀ g ∈ gl, sc.names.lookup g = some .globalImplicit ∧ (g == ("__debug__" : Str)) = false
  frk : ∀ y ∈ fr, sc.names.lookup y = some .free ∧ (y == ("__debug__" : Str)) = false ∧ (y == ("__classdict__" : Str)) = false
theorem lamOk_of {sc : Scope} {gl fr : List Str} (h : lamOk sc gl fr = true) : LamOk sc gl fr := by
  simp only [lamOk, Bool.and_eq_true, List.all_eq_true, beq_iff_eq, bne_iff_ne, ne_eq, Bool.not_eq_true'] at h
  refine el0_2 (h) fun y1 h6 => ?_; refine el0_2 (y1) fun y101 h5 => ?_; refine el0_2 (y101) fun y201 h4 => ?_; obtain ⟨⟨h1, h2⟩, h3⟩ := y201
  exact ⟨h1, h2, h3, fun y hy => h4 y hy, fun g hg => h5 g hg, fun y hy => ⟨(h6 y hy).1.1, (h6 y hy).1.2, (h6 y hy).2⟩⟩
theorem lam_call {f : Addr} {fd : FuncData} {body : Expr} {gl : List Str} {fr : List (Str × V)} {W : List Addr} {s : Shared} (OX : XOk X) (ho : ∃ o, X.h0.get? f = some o ∧ o.data = .func fd) (hft : f ≠ X.tab) (hgl : fd.globals = mainGlobals) (hbi : fd.builtins = builtinsNs)
    (hcode : ∃ c, fd.code = .ref c ∧ c ≠ X.tab) (hcrec : X.h0.CodeRec fd.code fd.qualname) (hbody : fd.body = .expr body) (hpar : bindArgs fd ⟨[], []⟩ = pure []) (hok : lamOk fd.scope gl (fr.map (·.1)) = true)
    (R : Room (k + 1) A) (B : Base X A W s) (hcl : ∀ n c, fd.closure.lookup n = some c → ∃ v, s.heap.IsCell c v) (hap : ∀ n n' c, fd.closure.lookup n = some c → fd.closure.lookup n' = some c → n = n')
    (hfr : ∀ x d, (x, d) ∈ fr → ∃ c v, fd.closure.lookup x = some c ∧ s.heap.IsCell c (some v) ∧ Rd (fd.closure.filterMap (fun y => fd.closure.lookup y.1) ++ W) s.heap v d)
    (h : EvR X k ⟨gl, fr, []⟩ [] body cls msg) : wpAny (model X.prog X.w) A (call (.ref f) [] []) Never (Er X A [] s cls msg) s := by
  have Ok := lamOk_of hok
  refine el1_2 (ho) fun o ho hd => ?_
  refine el1_2 (hcode) fun c hc hct => ?_
  have hcd : s.heap.CodeRec fd.code fd.qualname := by
    have := hcrec
    rw [hc] at this ⊢
    refine el4_4 (this) fun c' o' vs' t e1 e2 e3 e4 => ?_
    obtain rfl := Value.ref.inj e1
    exact ⟨c, o', vs', t, rfl, B.base _ _ hct e2, e3, e4⟩
  refine el1_2 (id B.frs) fun lo hlo _ => ?_
  refine wpAny_call ?_
  refine kla_callFunE (by have := R.depth; lia) (B.base _ _ hft ho) hd Ok.co Ok.ge hbody hcd ?_
  rw [hpar]
  refine wpAny_pure (wpAny_newFunctionEnv Ok.nc (fun x hx => nomatch hx) (fun h' hns hsb => ?_) Ok.fn)
  have hkeep : ∀ b o, s.heap.get? b = some o → h'.get? b = some o := fun b o e => hsb.extBut b o (Nat.ne_of_lt (Heap.lt_size e)) (Heap.get?_push_of_some _ e)
  have K1 : Kp X.h0 [] s { s with heap := h', toks := s.toks + ([] : List (Str × Value)).length } := Kp.of fun b o _ e => hkeep b o e
  have B1 := B.keep0 K1
  refine ⟨B1.lim OX, kla_codeExpr ?_⟩
  generalize hs1 : ({ s with heap := h', toks := s.toks + ([] : List (Str × Value)).length } : Shared) = s1 at K1 B1 ⊢
  have hh : s1.heap = h' := by subst hs1; rfl
  have hnew := get_new s.heap
  refine el0_3 (B.new0 hnew) fun hL0 hLt hLW => ?_
  have cellK : ∀ {c v}, s.heap.IsCell c v → s1.heap.IsCell c v := fun {c v} q => K1.toKh.cell nofun q
  have cne : ∀ {c v}, s.heap.IsCell c v → c ≠ s.heap.objs.size := fun {c v} q e => by
    refine el1_2 (q) fun o q _ => ?_
    rw [e, hnew] at q; exact noN q
  have mem : ∀ n c, fd.closure.lookup n = some c → c ∈ fd.closure.filterMap fun y => fd.closure.lookup y.1 := fun n c h => List.mem_filterMap.mpr ⟨(n, c), mem_of_lookup h, h⟩
  have mem' : ∀ c ∈ fd.closure.filterMap (fun y => fd.closure.lookup y.1), ∃ n, fd.closure.lookup n = some c := fun c h => by
    refine el1_2 (List.mem_filterMap.mp h) fun y _ hy => ?_
    exact ⟨y.1, hy⟩
  generalize hC : fd.closure.filterMap (fun y => fd.closure.lookup y.1) = C at mem mem' hfr
  have S1 : St X (A.deeper (newEnv fd.scope s.heap.objs.size fd.globals fd.closure (fd.qualname ++ ".<locals>.") (some f) fd.code Option.none fd.builtins)) (newEnv fd.scope s.heap.objs.size fd.globals fd.closure (fd.qualname ++ ".<locals>.") (some f) fd.code Option.none fd.builtins) ⟨gl, fr, []⟩ [s.heap.objs.size] ([s.heap.objs.size] ++ (C ++ W)) [] s1 := by
    refine ⟨⟨B1.base, List.mem_append_right _ (List.mem_append_right _ B1.tabW), fun b hb => ?_, ?_⟩, ⟨Ok.fn, hgl, hbi, fun g hg => Ok.glk g hg⟩, fun b hb => List.mem_append_left _ hb, fun b hb => by rw [List.mem_singleton.mp hb]; exact hL0, ⟨_, by rw [hh]; exact hns⟩, .head _, fun x o hx => (nomatch hx), by simp, fun x d hx => (nomatch hx), fun x d hx => ?_,
      fun n c h => ?_, hap, fun x hx => (nomatch hx), fun x o y d hx _ => (nomatch hx)⟩
    · rcases List.mem_append.mp hb with q | q
      · rw [List.mem_singleton.mp q, hh]; refine el3_2 (hns) fun o _ _ e _ => ?_; exact ⟨o, e⟩
      · rcases List.mem_append.mp q with q | q
        · refine el1_1 (mem' b q) fun n hn => ?_
          refine el1_1 (hcl n b hn) fun v hv => ?_
          refine el1_2 (cellK hv) fun o e _ => ?_
          exact ⟨o, e⟩
        · exact B1.old b q
    · refine el1_2 (B1.frs) fun l hl' hf => ?_
      refine ⟨_, Around.frames_deeper hl', fun e he => ?_⟩
      rcases List.mem_cons.mp he with rfl | he
      · exact ⟨by show fd.scope.kind ≠ _; rw [Ok.fn]; decide, s.heap.objs.size, rfl, ⟨hL0, hLt⟩, _, by rw [hh]; exact hns⟩
      · exact hf e he
    · refine el2_3 (hfr x d hx) fun c v h1 h2 h3 => ?_
      refine el0_3 (Ok.frk x (List.mem_map_of_mem (f := Prod.fst) hx)) fun g1 g2 g3 => ?_
      refine ⟨⟨v, ⟨.inl g1, c, h1, cellK h2⟩, (h3.weak (W' := [s.heap.objs.size] ++ (C ++ W)) fun b hb => ?_).keep0 K1⟩, g2, g3⟩
      rcases List.mem_append.mp hb with q | q
      · exact .inr (by rw [List.mem_singleton.mp q]; exact hnew)
      · exact .inl q
    · refine el1_1 (hcl n c h) fun v hv => ?_
      exact ⟨⟨v, cellK hv⟩, List.mem_append_right _ (List.mem_append_left _ (mem n c h)), cne hv⟩
  refine wpAny_mono (h.run _ _ _ _ s1 (R.deeper _) S1) (fun _ _ f => f.elim) ?_
  intro v s2 y2; refine el0_2 (y2) fun x2 y3 => ?_; refine el1_2 (y3) fun l2 hl2 F2 => ?_
  have hl2' := hl2
  rw [Around.frames_deeper hlo] at hl2'; obtain rfl := Option.some.inj hl2'
  refine x2.leave (Around.frames_deeper hlo) rfl F2 fun s3 x3 F3 => ?_
  exact ⟨(x3.back0 K1).weak, lo, hlo, fun e he => F3 e (.tail _ he)⟩
end Mine
end
noncomputable section
namespace Mine
open PySem PySem.W PySem.Calls PyProof.Rows
variable {X : Cx} {A : Around} {k : Nat} {gs gi : Gm} {σ σ' τ : Sto} {pos : Pos} {cls : String} {msg : Option Str}
noncomputable abbrev Cx.on (X : Cx) (h : Heap) : Cx := { X with h0 := h }
noncomputable abbrev Over (X : Cx) (h : Heap) : Prop := ∀ b o, X.h0.get? b = some o → h.get? b = some o
theorem FnAt.on {h : Heap} {a : Addr} {fd : FuncData} (u : Over X h) (F : FnAt X a fd) : FnAt (X.on h) a fd :=
  ⟨F.obj.imp fun _ y => ⟨u _ _ y.1, y.2⟩, F.ne, F.gl, F.bi, F.clo, F.code, el4_4 (F.crec) fun c o vs t e1 e2 e3 e4 => ⟨c, o, vs, t, e1, u _ _ e2, e3, e4⟩⟩
theorem ns_on {h : Heap} (u : Over X h) {a : Addr} {m : Str → Option Value} (n : X.h0.Ns a m) : h.Ns a m := let ⟨o, es, ep, e, r⟩ := n; ⟨o, es, ep, u _ _ e, r⟩
theorem PFn.on {h : Heap} {a : Addr} {st : Stmt} (u : Over X h) (F : PFn X a st) : PFn (X.on h) a st := el8_1 F fun n q kV doc pm an cd ct F => ⟨n, q, kV, doc, pm, an, cd, ct, F.on u⟩
theorem BFn.on {h : Heap} {a : Addr} {st : Stmt} (u : Over X h) (F : BFn X a st) : BFn (X.on h) a st := by
  obtain ⟨n, q, T, KD, doc, pm, an, cd, ct, F, h1, h2, ⟨o, t, m, e, d⟩, mk, h4, h5⟩ := F
  exact ⟨n, q, T, KD, doc, pm, an, cd, ct, F.on u, h1, h2, ⟨o, t, m, u _ _ e, d⟩, mk, ns_on u h4, h5⟩
theorem PB.on {h : Heap} {D : Ad} (u : Over X h) (P : PB X D) : PB (X.on h) D := by
  obtain ⟨⟨⟨⟨mg, mb, n1, n2, n3⟩, tabs, mc, l1, l2⟩, a1, a2, a3, a4, a5, a6, a7, a8, a9, a10, a11, a12, a13, a14, a15, a16, a17, a18, a19, a20, a21, a22, a23, a24, q1, q2, q3, q4, q5, q6, q7, q8, q9, q10, q11⟩, b1, b2⟩ := P
  exact ⟨⟨⟨⟨mg, mb, ns_on u n1, ns_on u n2, n3⟩, tabs, mc, ns_on u l1, l2⟩, a1, a2, a3, a4, a5, a6, a7, a8, a9, a10, a11, a12, a13, a14, a15, a16, a17, a18, a19, a20, a21, a22, a23, a24, q1.on u, q2.on u, q3.on u, q4.on u, q5.on u, q6.on u, q7.on u, q8.on u, q9.on u, q10.on u, q11⟩, b1.on u, b2.on u⟩
theorem Kp.down {B B' : Heap} (u : ∀ b o, B.get? b = some o → B'.get? b = some o) {M : List Addr} {s s' : Shared} (k : Kp B' M s s') : Kp B M s s' := by
  refine ⟨⟨fun b o hb e => ?_, k.drawn, k.os⟩, k.gens, k.bare⟩
  refine el1_2 (k.heap b o hb e) fun o' e' q => ?_
  refine ⟨o', e', q.imp id fun ⟨x, y, z⟩ => ⟨x, ?_, z⟩⟩
  cases g : B.get? b with
  | none => rfl
  | some o2 => rw [u b o2 g] at y; cases y
end Mine
end
noncomputable section
namespace Mine
open PySem PySem.W PySem.Calls PyProof.Rows
variable {X : Cx} {A : Around} {k : Nat} {gs gi : Gm} {σ σ' τ : Sto} {pos : Pos} {cls : String}
structure Tb (X : Cx) (env : Env) : Prop where
  tab0 : X.h0.get? X.tab = none
  code : ∃ c, env.code = .ref c ∧ CodeHd X.h0 c X.tab
  bm : ∃ mg, X.h0.Ns mainGlobals mg ∧ X.h0.BuiltinsAt mg X.tab
theorem Base.less {W : List Addr} {s : Shared} (B : Base X A W s) : Base X A [X.tab] s := ⟨B.base, .head _, fun a ha => by rw [List.mem_singleton.mp ha]; exact B.old _ B.tabW, B.frs⟩
theorem words_lam {D : Ad} (P : PB X D) {env : Env} {M W : List Addr} {s : Shared} {ps : Array Value} {params : Arguments} {body : Expr} {scope : Scope} {lpos np : Pos} {gl : List Str} {fr : List (Str × V)} {msg : Str}
    (hA : A.frames = some [env]) (hf : env.frame = some env.locals) (Y : Tb X env) (R : Room (k + 2) A) (S : St X A env gs M W σ s) (hP : s.heap.get? X.tab = some (tabObj ps)) (ht : TriplesOk ps.toList) (hnf : codeAmong lpos ps.toList = none)
    (hgw : ("_law_words" : Str) ∈ gs.gs) (hpar : ∀ fd : FuncData, fd.params = params → fd.scope = scope → fd.defaults = .none → fd.kwdefaults = .none → fd.body = .expr body → bindArgs fd ⟨[], []⟩ = pure [])
    (hdef : defaultsOf params env = ([], [])) (hok : lamOk scope gl (fr.map (·.1)) = true) (hfree : ∀ y ∈ scope.names, y.2 = .free → y.1 ∈ gs.cs)
    (hfr : ∀ x d, (x, d) ∈ fr → (x, some d) ∈ σ ∧ d.isOwn = false ∧ env.kindOf x = some .cell)
    (h : ∀ X' : Cx, PB X' D → EvR X' k ⟨gl, fr, []⟩ [] body "ValueError" (some msg))
    (he : ∀ env, eval (.Call (.Name "_law_words" np) [.Lambda params body scope lpos] [] pos) env = (do callWith pos (← eval (.Name "_law_words" np) env) [] (backTo pos (starEach [.Lambda params body scope lpos] env)) (backToKw pos (keywordEach [] env))))
    (hst : ∀ env, starEach [.Lambda params body scope lpos] env = (false, eval (.Lambda params body scope lpos) env) :: starEach [] env) :
    wpAny (model X.prog X.w) A (eval (.Call (.Name "_law_words" np) [.Lambda params body scope lpos] [] pos) env)
      (fun v s' => (∃ t, v = .str msg t) ∧ Kp X.h0 [X.tab] s s' ∧ ∃ c, s'.heap.get? X.tab = some (tabObj (ps ++ #[rawInt lpos.line, rawInt lpos.col, c]))) No s := by
  have Ok := lamOk_of hok
  refine el1_2 (Y.code) fun c hc hCd => ?_
  refine el1_2 (Y.bm) fun mg hmg hbm => ?_
  refine el1_3 (closureFor_ok (sc := scope) (env := env) fun y hy hk => (S.cs _ (hfree y hy hk)).2) fun cl e1 e2 e3 => ?_
  have up0 : ∀ b o, X.h0.get? b = some o → s.heap.get? b = some o := fun b o e => S.base b o (fun q => by rw [q, Y.tab0] at e; exact noN e) e
  have hmgs : s.heap.Ns mainGlobals mg := S.toBase.ns hmg (Ne.symm P.tabs.1)
  have hbms : s.heap.BuiltinsAt mg X.tab := let ⟨bm, o, b1, b2, b3, b4, b5, r⟩ := hbm; ⟨bm, o, b1, b2, b3, b4, up0 _ _ b5, r⟩
  rw [he]
  refine wpAny_bind (glob_at P.toXOk hgw P.words S ?_)
  refine callWith_go rfl (evalArgs_all rfl ?_)
  rw [hst]
  show wpAny _ _ (spliced ((false, eval (.Lambda params body scope lpos) env) :: backTo pos (starEach [] env))) _ _ _
  refine spliced_cons (kla_eval hdef (kla_makeFunction e1 S.gl hmgs hc (hCd.keeps up0) hP ht hnf (Ne.symm P.tabs.1) hbms fun c' ctv h' tk hx hge hlt hrec htb => ?_))
  show wpAny _ _ (spliced []) _ _ _
  refine spliced_nil ?_
  have keepO : ∀ b o, b ≠ X.tab → s.heap.get? b = some o → (h'.push (kla_obj "<lambda>" (env.qual ++ "<lambda>") params body scope cl ((mg "__name__").getD .none) c' ctv)).get? b = some o := fun b o hb e => Heap.get?_push_of_some _ (hx b o hb e)
  have K1 : Kp X.h0 [X.tab] s { s with heap := h'.push (kla_obj "<lambda>" (env.qual ++ "<lambda>") params body scope cl ((mg "__name__").getD .none) c' ctv), toks := tk } := Kp.of fun b o hb e => keepO b o (fun q => hb (by rw [q]; exact .head _)) e
  have hfun : (h'.push (kla_obj "<lambda>" (env.qual ++ "<lambda>") params body scope cl ((mg "__name__").getD .none) c' ctv)).get? h'.objs.size = some (kla_obj "<lambda>" (env.qual ++ "<lambda>") params body scope cl ((mg "__name__").getD .none) c' ctv) := Heap.get?_push_size _ rfl
  have htab : (h'.push (kla_obj "<lambda>" (env.qual ++ "<lambda>") params body scope cl ((mg "__name__").getD .none) c' ctv)).get? X.tab = some (tabObj (ps ++ #[rawInt lpos.line, rawInt lpos.col, .ref c'])) := Heap.get?_push_of_some _ htb
  have hrec' : (h'.push (kla_obj "<lambda>" (env.qual ++ "<lambda>") params body scope cl ((mg "__name__").getD .none) c' ctv)).CodeRec (.ref c') (env.qual ++ "<lambda>") := by
    refine el4_3 (hrec) fun c2 o vs t q1 q2 q3 => ?_
    exact ⟨c2, o, vs, t, q1, Heap.get?_push_of_some _ q2, q3⟩
  have ltab : X.tab < s.heap.objs.size := Heap.lt_size hP
  have lL : env.locals < s.heap.objs.size := by refine el4_2 (S.ns) fun m o _ _ e _ => ?_; exact Heap.lt_size e
  have fgt : s.heap.objs.size < h'.objs.size := Nat.lt_of_le_of_lt hge hlt
  generalize hs1 : ({ s with heap := h'.push (kla_obj "<lambda>" (env.qual ++ "<lambda>") params body scope cl ((mg "__name__").getD .none) c' ctv), toks := tk } : Shared) = s1 at K1
  have hh1 : s1.heap = h'.push (kla_obj "<lambda>" (env.qual ++ "<lambda>") params body scope cl ((mg "__name__").getD .none) c' ctv) := by subst hs1; rfl
  rw [← hh1] at hfun htab hrec' keepO
  have tabM : X.tab ≠ env.locals := fun q => by refine el4_3 (S.ns) fun m o _ _ e d _ => ?_; rw [← q, hP] at e; obtain rfl := Option.some.inj e; cases d
  have tabC : ∀ n, env.cells.lookup n ≠ some X.tab := fun n q => by refine el0_2 (S.cells n _ q) fun y1 _ => ?_; refine el2_2 (y1) fun v o e d => ?_; rw [hP] at e; obtain rfl := Option.some.inj e; cases d
  have B1 : Base X A W s1 := by
    refine el1_2 (S.frs) fun l hl hF => ?_
    exact S.toBase.keep K1 fun b hb => by rw [List.mem_singleton.mp hb]; exact ⟨Y.tab0, ⟨_, htab⟩, .inl fun l' hl' e he q => by rw [hl] at hl'; obtain rfl := Option.some.inj hl'; refine el0_2 (hF e he) fun _ y2 => ?_; refine el1_3 (y2) fun L1 hL1 y101 _ => ?_; refine el0_2 (y101) fun _ n2 => ?_; rw [q] at hL1; obtain rfl := Option.some.inj hL1; exact n2 rfl⟩
  let hid : List Addr := [X.tab, env.locals]
  let g := hideAll s1.heap hid
  have sub1 : ∀ b o, X.h0.get? b = some o → s1.heap.get? b = some o := fun b o e => B1.base b o (fun q => by rw [q, Y.tab0] at e; exact noN e) e
  have hL0 : X.h0.get? env.locals = none := S.new _ S.locM
  have over : Over X g := fun b o e => hideAll_get hid (sub1 b o e) fun q => by
    rcases List.mem_cons.mp q with q | q
    · rw [q, Y.tab0] at e; exact noN e
    · rw [List.mem_singleton.mp q, hL0] at e; exact noN e
  have inG : ∀ {b o}, s1.heap.get? b = some o → b ≠ X.tab → b ≠ env.locals → g.get? b = some o := fun {b o} e n1 n2 => hideAll_get hid e (by simp [hid, n1, n2])
  have ne1 : ∀ {b : Addr}, s.heap.objs.size ≤ b → b ≠ X.tab ∧ b ≠ env.locals := fun {b} hb => ⟨fun q => by rw [q] at hb; exact absurd ltab (Nat.not_lt.mpr hb), fun q => by rw [q] at hb; exact absurd lL (Nat.not_lt.mpr hb)⟩
  have fne := ne1 (Nat.le_of_lt fgt)
  have cne := ne1 hge
  have P' : PB (X.on g) D := P.on over
  have B' : Base (X.on g) A W s1 := by
    refine ⟨fun b o hb e => of_hideAll hid e, B1.tabW, B1.old, _, hA, fun e he => ?_⟩
    rw [List.mem_singleton.mp he]
    refine el1_2 (B1.frs) fun l hl hF => ?_
    rw [hA] at hl; obtain rfl := Option.some.inj hl
    refine el0_2 (hF env (.head _)) fun hk y3 => ?_; refine el1_3 (y3) fun L h1 y102 h4 => ?_; refine el0_2 (y102) fun h2 h3 => ?_
    rw [hf] at h1; obtain rfl := Option.some.inj h1
    exact ⟨hk, _, hf, ⟨hideAll_none hid (.tail _ (.head _)), h3⟩, h4⟩
  have gf := inG hfun fne.1 fne.2
  refine el7_1 (P.pWords) fun wn wq wk wd wp wa wc y4 => ?_; refine el1_1 (y4) fun wt FW => ?_
  refine el1_2 (FW.obj) fun ow how hdw => ?_
  refine ⟨.inr ⟨_, ow, _, rfl, B1.base _ _ FW.ne how, hdw⟩, ?_⟩
  have crecG : (X.on g).h0.CodeRec (.ref c') (env.qual ++ "<lambda>") := by
    refine el4_3 (hrec') fun c2 o vs t q1 q2 q3 => ?_
    obtain rfl := Value.ref.inj q1
    exact ⟨c', o, vs, t, rfl, inG q2 cne.1 cne.2, q3⟩
  have cellE : ∀ n c, cl.lookup n = some c → env.cells.lookup n = some c := fun n c q => (e2 n c (mem_of_lookup q)).1
  refine wpAny_mono (words_call (X := X.on g) (k := k + 1) (A := A) (W := W) (f := h'.objs.size) (msg := msg) P'.toPX (.fn gf rfl fne.1) R B' fun A' W' s' R' B2 K2 => ?_) ?_ (fun _ _ f => f)
  · have up : ∀ b o, s.heap.get? b = some o → b ≠ X.tab → b ≠ env.locals → s'.heap.get? b = some o := fun b o e q1 q2 => B2.base b o q1 (inG (keepO b o q1 e) q1 q2)
    refine lam_call (X := X.on g) (fd := kla_fn "<lambda>" (env.qual ++ "<lambda>") params body scope cl ((mg "__name__").getD .none) (.ref c') ctv) P'.toXOk ⟨_, gf, rfl⟩ fne.1 rfl rfl ⟨c', rfl, cne.1⟩ crecG rfl (hpar _ rfl rfl rfl rfl rfl) hok R' B2.less (fun n c q => ?_) (fun n n' c q q' => S.apart n n' c (cellE n c q) (cellE n' c q')) (fun x d hx => ?_) (h _ P')
    · have q' := cellE n c q
      refine el0_3 (S.cells n c q') fun y5 _ q2 => ?_; refine el2_2 (y5) fun v o e d => ?_
      exact ⟨v, o, up c o e (fun z => tabC n (by rw [← z]; exact q')) q2, d⟩
    · refine el0_3 (hfr x d hx) fun h1 h2 h3 => ?_
      refine el1_2 (S.vars x d h1) fun v hv hr => ?_
      rcases hv with ⟨q, _⟩ | ⟨_, c, hc2, o, eo, dd⟩
      · rw [h3] at q; cases q
      · refine el0_3 (Ok.frk x (List.mem_map_of_mem (f := Prod.fst) hx)) fun g1 _ _ => ?_
        refine el1_1 (e3 (x, .free) (mem_of_lookup g1) rfl) fun c3 hc3 => ?_
        refine el1_1 (lookup_of_mem hc3) fun c4 hc4 => ?_
        have := cellE x c4 hc4
        rw [hc2] at this; obtain rfl := Option.some.inj this
        refine el0_3 (S.cells x c hc2) fun _ cW cL => ?_
        have hr' : Rd W s.heap v d := hr.rd h2
        refine ⟨c, v, hc4, ⟨o, up c o eo (fun z => tabC x (by rw [← z]; exact hc2)) cL, dd⟩, hr'.move fun b o hb e => ⟨⟨o, up b o e (fun z => hb (by rw [z]; exact S.tabW)) (fun z => hb (by rw [z]; exact S.sub _ S.locM)), .refl⟩, fun q => ?_⟩⟩
        rcases List.mem_append.mp q with q | q
        · refine el1_2 (List.mem_filterMap.mp q) fun y _ hy => ?_
          exact hb (S.cells _ _ (cellE _ _ hy)).2.1
        · exact hb (by rw [List.mem_singleton.mp q]; exact S.tabW)
  · intro v s2 y6; refine el1_2 (y6) fun t y7 K2 => ?_; obtain rfl := y7
    exact ⟨⟨t, rfl⟩, K1.trans (K2.down over).nil, _, K2.get nofun htab nofun⟩
end Mine
end
noncomputable section
namespace Mine
open PySem PySem.W PySem.Calls PyProof.Rows
variable {X : Cx} {k : Nat} {gs gi : Gm} {σ σ' : Sto} {l r : Expr} {pos : Pos} {D : Ad} {Q : Res → Prop}
noncomputable def lst (i : Nat) : Stmt := (bodyS (stm 18)).getD i (.Pass ⟨0, 0, 0, 0⟩)
noncomputable abbrev gL : Gm := ⟨["enumerate", "_law_leads", "range", "max", "list", "zip", "_law_words"], [], ["script", "cells", "free", "sizes"]⟩
noncomputable abbrev lSto (script cells leads free texts cuts moved longest sizes stands typed ended words one two rows turned : Option V) : Sto :=
  [("script", script), ("cells", cells), ("leads", leads), ("free", free), ("texts", texts), ("cuts", cuts), ("moved", moved), ("longest", longest), ("sizes", sizes), ("stands", stands), ("typed", typed), ("ended", ended), ("words", words), ("one", one), ("two", two), ("rows", rows), ("turned", turned)]
noncomputable def cellN (script : List Int) (p : Nat × Nat) : Nat := (((p.2 : Int) + (pickL script (some (p.1 : Int)) (some 60) (some 4)).sum) % 1000000).toNat
noncomputable abbrev seeds : List (Nat × Nat) := [(0, 1618), (1, 1), (2, 7), (3, 23)]
noncomputable abbrev cellsN (script : List Int) : List Nat := seeds.map (cellN script)
theorem law_fn : fnOk (scopeS (stm 18)) ["script"] ["cells", "leads", "free", "texts", "cuts", "moved", "longest", "sizes", "stands", "typed", "ended", "words", "one", "two", "rows", "turned"] gL.gs gL.cs = true := by decide +kernel
variable {vscript vcells vleads vfree vtexts vcuts vmoved vlongest vsizes vstands vtyped vended vwords vone vtwo vrows vturned : Option V}
theorem l0 (P : PB X D) (script : List Int) (hz : script.length ≤ 1000) (hq : Q (.next (lSto (some (intsV script)) (some (natsV (cellsN script))) vleads vfree vtexts vcuts vmoved vlongest vsizes vstands vtyped vended vwords vone vtwo vrows vturned))) :
    Es X k gL (lSto (some (intsV script)) vcells vleads vfree vtexts vcuts vmoved vlongest vsizes vstands vtyped vended vwords vone vtwo vrows vturned) (lst 0) Q := by
  have e16 : sizeLine = 16777216 := by decide
  refine Es.asgM ["sum"] ["script"] [intsV script] [] ["place", "first"] seeds (fun p => .tup [N p.1, N p.2]) (cellN script) N
    (Iv.enum (ds := [N 1618, N 1, N 7, N 23]) (Ev.glob P.toXOk (.head _) P.enumerate) (Ev.listD (Evs.cons (Ev.natc 1618) (Evs.cons (Ev.natc 1) (Evs.cons (Ev.natc 7) (Evs.cons (Ev.natc 23) Evs.nil))))))
    (.s (.head _) .nil) (fun p hp => ⟨_, As.tup a0 a1, .drop (.drop .nil), ?_⟩) (by decide) u1 hq
  have h : (((p.2 : Int) + (pickL script (some (p.1 : Int)) (some 60) (some 4)).sum).fmod (10 ^ (6 : Int).toNat)) = (cellN script p : Int) := by
    unfold cellN
    have e : ((10 : Int) ^ (6 : Int).toNat) = 1000000 := by decide
    rw [e, Int.fmod_eq_emod_of_nonneg _ (by decide), Int.toNat_of_nonneg (Int.emod_nonneg _ (by decide))]
  refine Eq.mp (congrArg (fun d => Ev X k _ _ _ (.int d)) h) ?_
  refine Ev.bin (Ev.bin Ev.n1 (Ev.call (Ev.glob P.toXOk (.head _) P.sum) (Evs.cons (d := intsV (pickL script (some (p.1 : Int)) (some 60) (some 4))) ?_ Evs.nil) .builtin OpN.sum) Op2.add) (Ev.bin Ev.int Ev.int (Op2.pow (by decide) (by decide) (by decide))) (Op2.mod (by decide))
  rw [show intsV (pickL script (some (p.1 : Int)) (some 60) (some 4)) = .list ((pickL script (some (p.1 : Int)) (some 60) (some 4)).map V.int) from rfl, ← pickL_map]
  exact Ev.sliceL Ev.f0 (.some Ev.n0) (.some Ev.int) (.some Ev.int) (by decide) (by rw [List.length_map]; lia)
theorem two_le {α : Type} {a b : α} : [a, b].length ≤ 16777216 := by simp
theorem l1 (P : PB X D) {c0 c1 c2 c3 : Nat} (hq : Q (.next (lSto vscript (some (natsV [c0, c1, c2, c3])) (some (.list [leadV (leadsOf c0 c1).1, leadV (leadsOf c0 c1).2])) vfree vtexts vcuts vmoved vlongest vsizes vstands vtyped vended vwords vone vtwo vrows vturned))) :
    Es X (k + 2) gL (lSto vscript (some (natsV [c0, c1, c2, c3])) vleads vfree vtexts vcuts vmoved vlongest vsizes vstands vtyped vended vwords vone vtwo vrows vturned) (lst 1) Q :=
  Es.asg (Ev.call (Ev.glob P.toXOk (.tail _ (.head _)) P.leads) (Evs.cons (Ev.itemN Ev.n1 (Ev.natc 0) rfl) (Evs.cons (Ev.itemN Ev.n1 (Ev.natc 1) rfl) Evs.nil)) P.pLeads.callable (leads_ok P.toPX)) u2 hq
noncomputable def freeN (c : Nat) : List Nat := (List.range (c % 3)).map fun p => 1 + c / 3 / 4 ^ p % 4
theorem l2 (P : PB X D) {c0 c1 c2 c3 : Nat} (hq : Q (.next (lSto vscript (some (natsV [c0, c1, c2, c3])) vleads (some (natsV (freeN c2))) vtexts vcuts vmoved vlongest vsizes vstands vtyped vended vwords vone vtwo vrows vturned))) :
    Es X k gL (lSto vscript (some (natsV [c0, c1, c2, c3])) vleads vfree vtexts vcuts vmoved vlongest vsizes vstands vtyped vended vwords vone vtwo vrows vturned) (lst 2) Q := by
  have h3 : c2 % 3 < 3 := Nat.mod_lt _ (by decide)
  refine Es.asgM [] ["cells"] [natsV [c0, c1, c2, c3]] [] ["place"] (List.range (c2 % 3)) N (fun p => 1 + c2 / 3 / 4 ^ p % 4) N
    (Iv.rangeN (Ev.glob P.toXOk (.tail _ (.tail _ (.head _))) P.range) (Ev.bin (Ev.itemN Ev.n1 (Ev.natc 2) rfl) (Ev.natc 3) (Op2.modN (by decide))) (by lia)) (.s (.tail _ (.head _)) .nil) (fun p hp => ⟨_, a0, .drop .nil, ?_⟩) (by rw [List.length_range]; lia) u3 hq
  have hp' := List.mem_range.mp hp
  have h4 : 0 < 4 ^ p ∧ 4 ^ p < 1073741824 := by
    have : p = 0 ∨ p = 1 ∨ p = 2 := by lia
    rcases this with rfl | rfl | rfl <;> decide
  exact Ev.bin (Ev.natc 1) (Ev.bin (Ev.bin (Ev.bin (Ev.itemN Ev.f0 (Ev.natc 2) rfl) (Ev.natc 3) (Op2.divN (by decide) (by decide))) (Ev.bin (Ev.natc 4) Ev.n0 (Op2.powN (by lia) (by decide))) (Op2.divN h4.1 h4.2)) (Ev.natc 4) (Op2.modN (by decide))) Op2.addN
theorem l3 (P : PB X D) {L1 L2 : List Nat × Nat} (H1 : Lead L1.1 L1.2) (H2 : Lead L2.1 L2.2) (hq : Q (.next (lSto vscript vcells (some (.list [leadV L1, leadV L2])) vfree (some (.list [T (leadText L1.1 L1.2), T (leadText L2.1 L2.2)])) vcuts vmoved vlongest vsizes vstands vtyped vended vwords vone vtwo vrows vturned))) :
    Es X (k + 1) gL (lSto vscript vcells (some (.list [leadV L1, leadV L2])) vfree vtexts vcuts vmoved vlongest vsizes vstands vtyped vended vwords vone vtwo vrows vturned) (lst 3) Q := by
  refine Es.asgM ["_law_text"] [] [] [] ["runs", "blanks"] [L1, L2] leadV (fun l => leadText l.1 l.2) T (Iv.list Ev.n2) .nil (fun l hl => ⟨_, As.tup a0 a1, .drop (.drop .nil), ?_⟩) two_le u4 hq
  have H : Lead l.1 l.2 := by
    rcases List.mem_cons.mp hl with rfl | hl
    · exact H1
    · rw [List.mem_singleton.mp hl]; exact H2
  exact Ev.call (Ev.glob P.toXOk (.head _) P.text) (Evs.cons Ev.n0 (Evs.cons Ev.n1 Evs.nil)) P.pText.callable (text_ok P.toPX H)
noncomputable def cutN (free : List Nat) (l : List Nat × Nat) : List Nat × Nat := (leadText (leftGo free ⟨l.1, l.2, 0⟩).runs (leftGo free ⟨l.1, l.2, 0⟩).blanks, (leftGo free ⟨l.1, l.2, 0⟩).ground)
noncomputable abbrev cutV (c : List Nat × Nat) : V := .tup [T c.1, N c.2]
theorem l4 (P : PB X D) {free : List Nat} {L1 L2 : List Nat × Nat} (H1 : Lead L1.1 L1.2) (H2 : Lead L2.1 L2.2) (hf : ∀ x ∈ free, 1 ≤ x ∧ x ≤ 100)
    (hq : Q (.next (lSto vscript vcells vleads (some (natsV free)) (some (.list [T (leadText L1.1 L1.2), T (leadText L2.1 L2.2)])) (some (.list [cutV (cutN free L1), cutV (cutN free L2)])) vmoved vlongest vsizes vstands vtyped vended vwords vone vtwo vrows vturned))) :
    Es X (k + 2) gL (lSto vscript vcells vleads (some (natsV free)) (some (.list [T (leadText L1.1 L1.2), T (leadText L2.1 L2.2)])) vcuts vmoved vlongest vsizes vstands vtyped vended vwords vone vtwo vrows vturned) (lst 4) Q := by
  refine Es.asgM ["_law_cut"] ["free"] [natsV free] [] ["text"] [L1, L2] (fun l => T (leadText l.1 l.2)) (cutN free) cutV (Iv.list Ev.n4) (.s (.tail _ (.tail _ (.tail _ (.head _)))) .nil) (fun l hl => ⟨_, a0, .drop .nil, ?_⟩) two_le u5 hq
  have H : Lead l.1 l.2 := by
    rcases List.mem_cons.mp hl with rfl | hl
    · exact H1
    · rw [List.mem_singleton.mp hl]; exact H2
  exact Ev.call (Ev.glob P.toXOk (.head _) P.cut) (Evs.cons Ev.n0 (Evs.cons Ev.f0 Evs.nil)) P.pCut.callable (cut_ok P.toPX H hf)
theorem l5 (P : PB X D) {free : List Nat} {L1 L2 : List Nat × Nat} (H1 : Lead L1.1 L1.2) (H2 : Lead L2.1 L2.2) (hA : Asc (cutN free L1).1 ∧ Asc (cutN free L2).1)
    (hq : Q (.next (lSto vscript vcells (some (.list [leadV L1, leadV L2])) (some (natsV free)) vtexts (some (.list [cutV (cutN free L1), cutV (cutN free L2)])) vmoved vlongest vsizes vstands vtyped vended vwords vone vtwo vrows vturned))) :
    Es X (k + 2) gL (lSto vscript vcells (some (.list [leadV L1, leadV L2])) (some (natsV free)) vtexts (some (.list [cutV (cutN free L1), cutV (cutN free L2)])) vmoved vlongest vsizes vstands vtyped vended vwords vone vtwo vrows vturned) (lst 5) Q := by
  have hok : ∀ x ∈ [L1, L2].map (cutN free), Asc x.1 ∧ Any x.2 := by
    intro x hx
    simp only [List.map_cons, List.map_nil, List.mem_cons, List.not_mem_nil, or_false] at hx
    rcases hx with rfl | rfl
    · exact ⟨hA.1, trivial⟩
    · exact ⟨hA.2, trivial⟩
  refine Es.ite (b := decide ([L1, L2].map (cutN free) ≠ [L1, L2].map (cutN free))) (Tr.cmp Ev.n5 (Ev.compM ["_law_left"] ["free"] [natsV free] [] ["runs", "blanks"] [L1, L2] leadV (cutN free) cutV (Iv.list Ev.n2) (.s (.tail _ (.tail _ (.tail _ (.head _)))) .nil) (fun l hl => ⟨_, As.tup a0 a1, .drop (.drop .nil), ?_⟩) two_le) (Op2.ned (Eqb.pair Eqb.txt Eqb.nat).list _ _ hok hok)) (fun h => by simp at h) (fun _ => Ex.nil hq)
  have H : Lead l.1 l.2 := by
    rcases List.mem_cons.mp hl with rfl | hl
    · exact H1
    · rw [List.mem_singleton.mp hl]; exact H2
  exact Ev.call (Ev.glob P.toXOk (.head _) P.left) (Evs.cons Ev.n0 (Evs.cons Ev.n1 (Evs.cons Ev.f0 Evs.nil))) P.pLeft.callable (left_ok P.toPX H)
noncomputable def movedN (c : List Nat × Nat) : List Nat := c.1 ++ List.replicate c.2 32
theorem l6 (P : PB X D) {c1 c2 : List Nat × Nat} (h1 : c1.1.length + c1.2 ≤ 1000) (h2 : c2.1.length + c2.2 ≤ 1000)
    (hq : Q (.next (lSto vscript vcells vleads vfree vtexts (some (.list [cutV c1, cutV c2])) (some (.list [T (movedN c1), T (movedN c2)])) vlongest vsizes vstands vtyped vended vwords vone vtwo vrows vturned))) :
    Es X k gL (lSto vscript vcells vleads vfree vtexts (some (.list [cutV c1, cutV c2])) vmoved vlongest vsizes vstands vtyped vended vwords vone vtwo vrows vturned) (lst 6) Q := by
  have e16 : sizeLine = 16777216 := by decide
  refine Es.asgM [] [] [] [] ["rest", "ground"] [c1, c2] cutV movedN T (Iv.list Ev.n5) .nil (fun c hc => ⟨_, As.tup a0 a1, .drop (.drop .nil), ?_⟩) two_le u6 hq
  have H : c.1.length + c.2 ≤ 1000 := by
    rcases List.mem_cons.mp hc with rfl | hc
    · exact h1
    · rw [List.mem_singleton.mp hc]; exact h2
  exact Ev.bin Ev.n0 (Ev.bin (Ev.txt [32]) Ev.n1 (Op2.mulcN (by lia))) (Op2.addt (by rw [List.length_replicate]; lia))
end Mine
end
noncomputable section
namespace Mine
open PySem PySem.W PySem.Calls PyProof.Rows
variable {X : Cx} {k : Nat} {gs gi : Gm} {σ σ' : Sto} {l r : Expr} {pos : Pos} {D : Ad} {Q : Res → Prop}
variable {vscript vcells vleads vfree vtexts vcuts vmoved vlongest vsizes vstands vtyped vended vwords vone vtwo vrows vturned : Option V}
noncomputable def maxOf (l : List Nat) : Nat := l.foldl max 0
theorem foldl_max (l : List Nat) : ∀ m, m ≤ l.foldl max m ∧ (∀ a ∈ l, a ≤ l.foldl max m) ∧ (l.foldl max m = m ∨ l.foldl max m ∈ l) := by
  induction l with
  | nil => exact fun m => ⟨Nat.le_refl _, fun _ h => (nomatch h), .inl rfl⟩
  | cons a r ih =>
    intro m
    refine el0_3 (ih (max m a)) fun h1 h2 h3 => ?_
    refine ⟨Nat.le_trans (Nat.le_max_left _ _) h1, fun b hb => ?_, ?_⟩
    · rcases List.mem_cons.mp hb with rfl | hb
      · exact Nat.le_trans (Nat.le_max_right _ _) h1
      · exact h2 b hb
    · rcases h3 with h3 | h3
      · show (r.foldl max (max m a) = m ∨ r.foldl max (max m a) ∈ a :: r)
        rw [h3]
        rcases Nat.le_total m a with q | q
        · rw [Nat.max_eq_right q]; exact .inr (.head _)
        · rw [Nat.max_eq_left q]; exact .inl rfl
      · exact .inr (.tail _ h3)
theorem maxOf_mem {l : List Nat} (h : l ≠ []) : maxOf l ∈ l := by
  cases l with
  | nil => exact absurd rfl h
  | cons a r =>
    show r.foldl max (max 0 a) ∈ a :: r
    rw [Nat.zero_max]
    rcases (foldl_max r a).2.2 with q | q
    · rw [q]; exact .head _
    · exact .tail _ q
theorem OpN.maxN {ns : List Nat} (h : ns ≠ []) : OpN X k (.builtin "max") [natsV ns] (N (maxOf ns)) := by
  have := OpN.maxL (X := X) (k := k) (ns := ns.map fun (n : Nat) => (n : Int)) (m := (maxOf ns : Int)) (List.mem_map_of_mem (maxOf_mem h)) fun a ha => by
    refine el1_2 (List.mem_map.mp ha) fun n hn y1 => ?_; obtain rfl := y1
    exact Int.ofNat_le.mpr ((foldl_max ns 0).2.1 n hn)
  rw [intsV, List.map_map] at this
  exact this
noncomputable abbrev longestN (m1 m2 : List Nat) : Nat := maxOf ((splitC 9 (m1 ++ 9 :: m2)).map List.length)
theorem splitC_sum (c : Nat) : ∀ x : List Nat, ((splitC c x).map List.length).sum ≤ x.length ∧ (splitC c x).length ≤ x.length + 1
  | [] => ⟨by simp [splitC], by simp [splitC]⟩
  | a :: r => by
    have ih := splitC_sum c r
    unfold splitC
    split
    · simp only [List.map_cons, List.sum_cons, List.length_nil, List.length_cons]; lia
    · split
      · simp
      · rename_i p ps e
        rw [e] at ih
        simp only [List.map_cons, List.sum_cons, List.length_cons] at ih ⊢
        lia
theorem le_sum {l : List Nat} {a : Nat} (h : a ∈ l) : a ≤ l.sum := by
  induction l with
  | nil => cases h
  | cons b r ih =>
    rw [List.sum_cons]
    rcases List.mem_cons.mp h with rfl | h
    · (exact Nat.le_add_right _ _)
    · have := ih h; lia
theorem splitC_mem {c : Nat} {x p : List Nat} (h : p ∈ splitC c x) : p.length ≤ x.length := by
  have h1 := le_sum (List.mem_map_of_mem (f := List.length) h)
  have := (splitC_sum c x).1
  (exact Nat.le_trans (by assumption) (by assumption))
theorem l7 (P : PB X D) {m1 m2 : List Nat} (h1 : m1.length ≤ 1000) (h2 : m2.length ≤ 1000) (a1 : Asc m1) (a2 : Asc m2)
    (hq : Q (.next (lSto vscript vcells vleads vfree vtexts vcuts (some (.list [T m1, T m2])) (some (N (longestN m1 m2))) vsizes vstands vtyped vended vwords vone vtwo vrows vturned))) :
    Es X k gL (lSto vscript vcells vleads vfree vtexts vcuts (some (.list [T m1, T m2])) vlongest vsizes vstands vtyped vended vwords vone vtwo vrows vturned) (lst 7) Q := by
  have hg : glue [9] [m1, m2] = m1 ++ 9 :: m2 := by simp [glue]
  have hne : m1 ++ 9 :: m2 ≠ [] := by simp
  have hlen : (m1 ++ 9 :: m2).length ≤ 2001 := by simp only [List.length_append, List.length_cons]; lia
  have hasc : Asc (m1 ++ 9 :: m2) := fun c hc => by
    rcases List.mem_append.mp hc with q | q
    · exact a1 c q
    · rcases List.mem_cons.mp q with rfl | q
      · decide
      · exact a2 c q
  have hj : OpN X k (.builtin "str.join") [T [9], .list [T m1, T m2]] (T (m1 ++ 9 :: m2)) := by
    have := OpN.join (X := X) (k := k) (sep := [9]) (ls := [m1, m2]) (by simp only [List.map_cons, List.map_nil, List.sum_cons, List.sum_nil, List.length_cons, List.length_nil]; lia)
    rw [hg] at this; exact this
  refine Es.asg (Ev.call (Ev.glob P.toXOk (.tail _ (.tail _ (.tail _ (.head _)))) P.max) (Evs.cons (Ev.compM ["len"] [] [] [] ["part"] (splitC 9 (m1 ++ 9 :: m2)) T List.length N
    (Iv.list (Ev.meth MethS.split (Ev.meth MethS.join (Ev.txt [9]) (Evs.cons Ev.n6 Evs.nil) hj) (Evs.cons (Ev.txt [9]) Evs.nil) (OpN.split hne hasc (by decide) (by lia)))) .nil
    (fun p hp => ⟨_, a0, .drop .nil, Ev.call (Ev.glob P.toXOk (.head _) P.len) (Evs.cons Ev.n0 Evs.nil) .builtin (OpN.lenT ?_)⟩) ?_) Evs.nil) .builtin (OpN.maxN ?_)) u7 hq
  · have := splitC_mem hp; lia
  · have := (splitC_sum 9 (m1 ++ 9 :: m2)).2; lia
  · refine el2_1 (splitC_ne (c := 9) (m1 ++ 9 :: m2)) fun p ps e => ?_
    rw [e]; simp
noncomputable def sizesN (longest c3 : Nat) : List Nat := List.range' 1 (longest + 1) ++ [128 + c3]
theorem upto_nats (n : Nat) : Mine.upto 1 n = (List.range' 1 n).map N := by
  apply List.ext_getElem?
  intro i
  by_cases h : i < n
  · simp [Mine.upto, h, N]
  · simp [Mine.upto, h]
theorem l8 (P : PB X D) {c0 c1 c2 c3 lg : Nat} (hl : lg ≤ 100000) (hq : Q (.next (lSto vscript (some (natsV [c0, c1, c2, c3])) vleads vfree vtexts vcuts vmoved (some (N lg)) (some (natsV (sizesN lg c3))) vstands vtyped vended vwords vone vtwo vrows vturned))) :
    Es X k gL (lSto vscript (some (natsV [c0, c1, c2, c3])) vleads vfree vtexts vcuts vmoved (some (N lg)) vsizes vstands vtyped vended vwords vone vtwo vrows vturned) (lst 8) Q := by
  have hb : ((lg + 2 : Nat) : Int) ≤ 1000000000 := by omega
  have e := upto_nats (lg + 1)
  have hR : Ev X k gL (lSto vscript (some (natsV [c0, c1, c2, c3])) vleads vfree vtexts vcuts vmoved (some (N lg)) vsizes vstands vtyped vended vwords vone vtwo vrows vturned) (match lst 8 with | .Assign _ (.BinOp l _ _ _) _ => l | _ => .Constant .none 0 ⟨0, 0, 0, 0⟩) (.list ((List.range' 1 (lg + 1)).map N)) := by
    rw [← e]
    exact Ev.listRange2 (b := ((lg + 2 : Nat) : Int)) (n := lg + 1) (Ev.glob P.toXOk (.tail _ (.tail _ (.tail _ (.tail _ (.head _))))) P.list) (Ev.glob P.toXOk (.tail _ (.tail _ (.head _))) P.range) Ev.int (Ev.bin Ev.n7 (Ev.natc 2) Op2.addN) (by rw [if_pos (by omega)]; omega) (by decide) ⟨by omega, hb⟩ (by omega)
  exact Es.asg (Ev.bin hR (Ev.listD (Evs.cons (Ev.bin (Ev.natc 128) (Ev.itemN Ev.n1 (Ev.natc 3) rfl) Op2.addN) Evs.nil)) (Op2.addm (f := N) (xs := List.range' 1 (lg + 1)) (ys := [128 + c3]) (by rw [List.length_range']; simp only [List.length_cons, List.length_nil]; omega))) u8 hq
end Mine
end
noncomputable section
namespace Mine
open PySem PySem.W PySem.Calls PyProof.Rows
variable {X : Cx} {k : Nat} {gs gi : Gm} {σ σ' : Sto} {l r : Expr} {pos : Pos} {D : Ad} {Q : Res → Prop}
variable {vscript vcells vleads vfree vtexts vcuts vmoved vlongest vsizes vstands vtyped vended vwords vone vtwo vrows vturned : Option V}
noncomputable def standsN (free sizes : List Nat) (l : List Nat × Nat) : List Nat := sizes.map (stand l.1 l.2 free)
theorem l9 (P : PB X D) {free sizes : List Nat} {L1 L2 : List Nat × Nat} (H1 : Lead L1.1 L1.2) (H2 : Lead L2.1 L2.2) (hf : free.length ≤ 100) (hs : ∀ z ∈ sizes, 0 < z ∧ z < 1073741824) (hz : sizes.length ≤ 100000)
    (hq : Q (.next (lSto vscript vcells (some (.list [leadV L1, leadV L2])) (some (natsV free)) vtexts vcuts vmoved vlongest (some (natsV sizes)) (some (.list [natsV (standsN free sizes L1), natsV (standsN free sizes L2)])) vtyped vended vwords vone vtwo vrows vturned))) :
    Es X (k + 1) gL (lSto vscript vcells (some (.list [leadV L1, leadV L2])) (some (natsV free)) vtexts vcuts vmoved vlongest (some (natsV sizes)) vstands vtyped vended vwords vone vtwo vrows vturned) (lst 9) Q := by
  refine Es.asgM [] ["free", "sizes"] [natsV free, natsV sizes] ["runs", "blanks", "free"] ["runs", "blanks"] [L1, L2] leadV (standsN free sizes) natsV (Iv.list Ev.n2) (.s (.tail _ (.tail _ (.tail _ (.head _)))) (.s (.tail _ (.tail _ (.tail _ (.tail _ (.tail _ (.tail _ (.tail _ (.tail _ (.head _))))))))) .nil)) (fun l hl => ⟨_, As.tup a0 a1, .drop (.drop .nil), ?_⟩) two_le u9 hq
  have H : Lead l.1 l.2 := by
    rcases List.mem_cons.mp hl with rfl | hl
    · exact H1
    · rw [List.mem_singleton.mp hl]; exact H2
  refine Ev.compM ["_law_stand"] ["runs", "blanks", "free"] [natsV l.1, N l.2, natsV free] [] ["size"] sizes N (stand l.1 l.2 free) N (Iv.list Ev.f1) (.s (.head _) (.s (.tail _ (.head _)) (.f (.head _) .nil))) (fun z hz => ⟨_, a0, .drop .nil, ?_⟩) (by lia)
  exact Ev.call (Ev.glob P.toXOk (.head _) P.stand) (Evs.cons Ev.f0 (Evs.cons Ev.f1 (Evs.cons Ev.f2 (Evs.cons Ev.n0 Evs.nil)))) P.pStand.callable (stand_ok P.toPX (by have := H.len; lia) hf (hs z hz).1 (hs z hz).2)
theorem two_leS {α : Type} {a b : α} : [a, b].length ≤ sizeLine := by
  have e : sizeLine = 16777216 := by decide
  rw [e]; simp
structure Ruler (n : Nat) (row : List Nat) : Prop where
  ok : ∀ m, (gSeq (n + 2) none row).2 ≠ .raise m
  pos : ∀ x ∈ rulerOf n row, 1 ≤ x
noncomputable def tyN (row text : List Nat) : Nat := typedOf (stopsOf (rulerOf text.length row)) text
theorem typed_ok' {text row : List Nat} {left : Bool} (P : PB X D) (hz : text.length ≤ 1000) (R : Ruler text.length row) : OpN X (k + 5) (.ref D.typed) [T text, natsV row, .bool left] (N (tyN row text)) := typed_ok P hz R.ok R.pos
noncomputable def typedN (free sizes text : List Nat) : List Nat := sizes.map fun z => tyN (free ++ [z, 0, 9]) text
theorem l10 (P : PB X D) {free sizes t1 t2 : List Nat} (z1 : t1.length ≤ 1000) (z2 : t2.length ≤ 1000) (hf : free.length ≤ 100) (hr : ∀ z ∈ sizes, Ruler t1.length (free ++ [z, 0, 9]) ∧ Ruler t2.length (free ++ [z, 0, 9])) (hz : sizes.length ≤ 100000)
    (hq : Q (.next (lSto vscript vcells vleads (some (natsV free)) (some (.list [T t1, T t2])) vcuts vmoved vlongest (some (natsV sizes)) vstands (some (.list [natsV (typedN free sizes t1), natsV (typedN free sizes t2)])) vended vwords vone vtwo vrows vturned))) :
    Es X (k + 5) gL (lSto vscript vcells vleads (some (natsV free)) (some (.list [T t1, T t2])) vcuts vmoved vlongest (some (natsV sizes)) vstands vtyped vended vwords vone vtwo vrows vturned) (lst 10) Q := by
  refine Es.asgM [] ["free", "sizes"] [natsV free, natsV sizes] ["text", "left", "free"] ["text", "left"] [(t1, false), (t2, true)] (fun p => .tup [T p.1, .bool p.2]) (fun p => typedN free sizes p.1) natsV
    (Iv.zip2 (ds1 := [T t1, T t2]) (ds2 := [.bool false, .bool true]) (Ev.glob P.toXOk (.tail _ (.tail _ (.tail _ (.tail _ (.tail _ (.head _)))))) P.zip) Ev.n4 (Ev.tupD (Evs.cons Ev.bool (Evs.cons Ev.bool Evs.nil))) (.inl rfl) (.inr rfl))
    (.s (.tail _ (.tail _ (.tail _ (.head _)))) (.s (.tail _ (.tail _ (.tail _ (.tail _ (.tail _ (.tail _ (.tail _ (.tail _ (.head _))))))))) .nil)) (fun p hp => ⟨_, As.tup a0 a1, .drop (.drop .nil), ?_⟩) two_le u10 hq
  have H : p.1.length ≤ 1000 ∧ ∀ z ∈ sizes, Ruler p.1.length (free ++ [z, 0, 9]) := by
    rcases List.mem_cons.mp hp with rfl | hp
    · exact ⟨z1, fun z hz => (hr z hz).1⟩
    · rw [List.mem_singleton.mp hp]; exact ⟨z2, fun z hz => (hr z hz).2⟩
  refine Ev.compM ["_law_typed"] ["text", "left", "free"] [T p.1, .bool p.2, natsV free] [] ["size"] sizes N (fun z => tyN (free ++ [z, 0, 9]) p.1) N (Iv.list Ev.f1) (.s (.head _) (.s (.tail _ (.head _)) (.f (.head _) .nil))) (fun z hz => ⟨_, a0, .drop .nil, ?_⟩) (by lia)
  have e : N z = N z := rfl
  exact Ev.call (Ev.glob P.toXOk (.head _) P.typed) (Evs.cons Ev.f0 (Evs.cons (Ev.bin Ev.f2 (Ev.listD (ds := [N z, N 0, N 9]) (Evs.cons Ev.n0 (Evs.cons (Ev.natc 0) (Evs.cons (Ev.natc 9) Evs.nil)))) (Op2.addm (f := N) (xs := free) (ys := [z, 0, 9]) (by simp only [List.length_cons, List.length_nil]; lia))) (Evs.cons Ev.f1 Evs.nil))) P.pTyped.callable (typed_ok' P H.1 (H.2 z hz))
noncomputable def endedN (free t1 t2 : List Nat) : List Nat := [tyN free t1, tyN (free ++ [127, 3]) t1, tyN free t2, tyN (free ++ [127, 3]) t2]
theorem l11 (P : PB X D) {free t1 t2 : List Nat} (z1 : t1.length ≤ 1000) (z2 : t2.length ≤ 1000) (hf : free.length ≤ 100) (hr : (Ruler t1.length free ∧ Ruler t2.length free) ∧ (Ruler t1.length (free ++ [127, 3]) ∧ Ruler t2.length (free ++ [127, 3])))
    (hq : Q (.next (lSto vscript vcells vleads (some (natsV free)) (some (.list [T t1, T t2])) vcuts vmoved vlongest vsizes vstands vtyped (some (natsV (endedN free t1 t2))) vwords vone vtwo vrows vturned))) :
    Es X (k + 5) gL (lSto vscript vcells vleads (some (natsV free)) (some (.list [T t1, T t2])) vcuts vmoved vlongest vsizes vstands vtyped vended vwords vone vtwo vrows vturned) (lst 11) Q := by
  refine Es.asgC2 (inG ["_law_typed"] ["free"] [natsV free] []) ["text", "left", "row"] [(t1, true), (t2, false)] (fun p => .tup [T p.1, .bool p.2]) (fun _ => [free, free ++ [127, 3]]) (fun _ r => natsV r) (fun p r => N (tyN r p.1))
    (Iv.zip2 (ds1 := [T t1, T t2]) (ds2 := [.bool true, .bool false]) (Ev.glob P.toXOk (.tail _ (.tail _ (.tail _ (.tail _ (.tail _ (.head _)))))) P.zip) Ev.n4 (Ev.tupD (Evs.cons Ev.bool (Evs.cons Ev.bool Evs.nil))) (.inl rfl) (.inr rfl))
    (fun p hp => ⟨_, As.tup a0 a1, .drop (.drop (.same .nil)), Iv.tup (Ev.tupD (Evs.cons Ev.f0 (Evs.cons (Ev.bin Ev.f0 (Ev.listD (ds := [N 127, N 3]) (Evs.cons (Ev.natc 127) (Evs.cons (Ev.natc 3) Evs.nil))) (Op2.addm (f := N) (xs := free) (ys := [127, 3]) (by simp only [List.length_cons, List.length_nil]; lia))) Evs.nil)) two_leS), fun r hr' => ⟨_, a2, .same (.same (.drop .nil)), ?_⟩⟩)
    u11 hq (by show compOk _ ["text", "left", "row"] ["_law_typed"] ["free"] [] ["script", "cells", "free", "sizes"] = true; decide +kernel) (fun y d h => ?_) two_leS (by simp)
  · have H : p.1.length ≤ 1000 ∧ Ruler p.1.length r := by
      simp only [List.mem_cons, List.not_mem_nil, or_false] at hr' hp
      rcases hp with rfl | rfl <;> rcases hr' with rfl | rfl
      · exact ⟨z1, hr.1.1⟩
      · exact ⟨z1, hr.2.1⟩
      · exact ⟨z2, hr.1.2⟩
      · exact ⟨z2, hr.2.2⟩
    exact Ev.call (Ev.glob P.toXOk (.head _) P.typed) (Evs.cons Ev.n0 (Evs.cons Ev.n2 (Evs.cons Ev.n1 Evs.nil))) P.pTyped.callable (typed_ok' P H.1 H.2)
  · have h' : (y, d) = (("free" : Str), natsV free) := by simpa using h
    cases h'
    exact .inl ⟨.tail _ (.tail _ (.tail _ (.head _))), rfl⟩
theorem l12 (P : PB X D) {S1 S2 : List Nat} {a b : Nat} (h1 : S1[0]? = some a) (h2 : S2[0]? = some b)
    (hq : Q (.next (lSto vscript vcells vleads vfree vtexts vcuts vmoved vlongest vsizes (some (.list [natsV S1, natsV S2])) (some (.list [natsV S1, natsV S2])) (some (natsV [a, a, b, b])) vwords vone vtwo vrows vturned))) :
    Es X k gL (lSto vscript vcells vleads vfree vtexts vcuts vmoved vlongest vsizes (some (.list [natsV S1, natsV S2])) (some (.list [natsV S1, natsV S2])) (some (natsV [a, a, b, b])) vwords vone vtwo vrows vturned) (lst 12) Q := by
  refine Es.ite (b := decide ([S1, S2] ≠ [S1, S2]) || decide ([a, a, b, b] ≠ [a, a, b, b])) (Tr.or (Tr.cmp Ev.n10 Ev.n9 (Op2.ned Eqb.nat.list.list [S1, S2] [S1, S2] (fun _ _ _ _ => trivial) (fun _ _ _ _ => trivial)))
    fun _ => Tr.cmp Ev.n11 (Ev.comp2 (inG ["range"] [] [] []) ["row", "again"] [(S1, a), (S2, b)] (fun p => natsV p.1) (fun _ => [0, 1]) (fun _ i => N i) (fun p _ => N p.2) (Iv.list Ev.n9) (fun p hp => ⟨_, a0, .drop (.same .nil), Iv.rangeN (n := 2) (Ev.glob P.toXOk (.head _) P.range) (Ev.natc 2) (by decide), fun i hi => ⟨_, a1, .same (.drop .nil), Ev.itemN Ev.n0 (Ev.natc 0) ?_⟩⟩) (by show compOk _ ["row", "again"] ["range"] [] [] ["script", "cells", "free", "sizes"] = true; decide +kernel) (fun y d h => by simp at h) two_leS (by simp)) (Op2.ned Eqb.nat.list [a, a, b, b] [a, a, b, b] (fun _ _ => trivial) (fun _ _ => trivial))) (fun h => by simp at h) (fun _ => Ex.nil hq)
  simp only [List.mem_cons, List.not_mem_nil, or_false] at hp
  rcases hp with rfl | rfl
  · show (S1.map N)[0]? = _; rw [List.getElem?_map, h1]; rfl
  · show (S2.map N)[0]? = _; rw [List.getElem?_map, h2]; rfl
end Mine
end
noncomputable section
namespace Mine
open PySem PySem.W PySem.Calls PyProof.Rows
variable {X : Cx} {A : Around} {k : Nat} {gs gi : Gm} {σ σ' : Sto} {l r : Expr} {pos : Pos} {D : Ad} {Q : Res → Prop}
variable {vscript vcells vleads vfree vtexts vcuts vmoved vlongest vsizes vstands vtyped vended vwords vone vtwo vrows vturned : Option V}
noncomputable abbrev wInv : List Nat := [105, 110, 118, 97, 108, 105, 100, 32, 103, 114, 111, 117, 112, 105, 110, 103]
noncomputable abbrev wNeg : List Nat := [108, 111, 32, 109, 117, 115, 116, 32, 98, 101, 32, 110, 111, 110, 45, 110, 101, 103, 97, 116, 105, 118, 101]
theorem wInv_e : ("invalid grouping" : Str) = txt wInv := by with_unfolding_all rfl
theorem wNeg_e : ("lo must be non-negative" : Str) = txt wNeg := by with_unfolding_all rfl
theorem noArgs {body : Expr} {ps : Arguments} {scope : Scope} (h : ps = ⟨[], [], none, [], [], none, []⟩) : ∀ fd : FuncData, fd.params = ps → fd.scope = scope → fd.defaults = .none → fd.kwdefaults = .none → fd.body = .expr body → bindArgs fd ⟨[], []⟩ = pure [] := by
  subst h
  intro fd h1 _ h2 h3 _
  obtain ⟨n, q, p, b, sc, g, cl, dv, kv, dc, pm, an, cd, ct, bi⟩ := fd
  simp only at h1 h2 h3
  subst h1 h2 h3
  rfl
theorem St.tabKeep {env : Env} {M W : List Addr} {s s' : Shared} {ps ps' : Array Value} (S : St X A env gs M W σ s) (h0 : X.h0.get? X.tab = none) (htM : X.tab ∉ M) (hP : s.heap.get? X.tab = some (tabObj ps)) (hP' : s'.heap.get? X.tab = some (tabObj ps')) (K : Kp X.h0 [X.tab] s s') : St X A env gs M W σ s' := by
  refine S.keepM K fun a ha => ?_
  rw [List.mem_singleton.mp ha]
  refine ⟨S.tabW, h0, ⟨_, hP'⟩, fun q => ?_, fun n q => ?_, fun l hl e he q => ?_, fun q => ?_⟩
  · refine el4_3 (S.ns) fun m o _ _ e d _ => ?_; rw [← q, hP] at e; obtain rfl := Option.some.inj e; cases d
  · refine el0_2 (S.cells n _ q) fun y1 _ => ?_; refine el2_2 (y1) fun v o e d => ?_; rw [hP] at e; obtain rfl := Option.some.inj e; cases d
  · refine el1_2 (S.frs) fun l' hl' hF => ?_
    rw [hl] at hl'; obtain rfl := Option.some.inj hl'
    refine el0_2 (hF e he) fun _ y2 => ?_; refine el1_3 (y2) fun L1 hL1 y101 _ => ?_; refine el0_2 (y101) fun _ n2 => ?_; rw [q] at hL1; obtain rfl := Option.some.inj hL1; exact n2 rfl
  · exact htM q
theorem lam1 {D : Ad} {free : List Nat} (hz : free.length ≤ 1000) : ∀ X' : Cx, PB X' D → EvR X' (k + 5) ⟨["_law_typed"], [("free", natsV free)], []⟩ [] (match lst 13 with | .Assign _ (.List [.Call _ [.Lambda _ b _ _] _ _, _, _] _) _ => b | _ => .Constant .none 0 ⟨0, 0, 0, 0⟩) "ValueError" (some "invalid grouping") := fun X' P =>
  EvR.call (Ev.glob P.toXOk (.head _) P.typed) (Evs.cons (Ev.txt []) (Evs.cons (Ev.bin (Ev.listD (ds := [N 0]) (Evs.cons (Ev.natc 0) Evs.nil)) Ev.f0 (Op2.addm (f := N) (xs := [0]) (ys := free) (by simp only [List.length_cons, List.length_nil]; lia))) (Evs.cons Ev.bool Evs.nil))) P.pTyped.callable (typed_raise P)
theorem lam2 {D : Ad} {d : V} : ∀ X' : Cx, PB X' D → EvR X' (k + 5) ⟨["bisect_right"], [("sizes", d)], []⟩ [] (match lst 13 with | .Assign _ (.List [_, .Call _ [.Lambda _ b _ _] _ _, _] _) _ => b | _ => .Constant .none 0 ⟨0, 0, 0, 0⟩) "ValueError" (some "lo must be non-negative") := fun X' P =>
  EvR.call (Ev.glob P.toXOk (.head _) P.bright) (Evs.cons Ev.f0 (Evs.cons (Ev.natc 0) (Evs.cons Ev.minus Evs.nil))) P.pBright.callable (bright_raise P)
theorem lam3 {D : Ad} {d : V} : ∀ X' : Cx, PB X' D → EvR X' (k + 5) ⟨["bisect_left"], [("sizes", d)], []⟩ [] (match lst 13 with | .Assign _ (.List [_, _, .Call _ [.Lambda _ b _ _] _ _] _) _ => b | _ => .Constant .none 0 ⟨0, 0, 0, 0⟩) "ValueError" (some "lo must be non-negative") := fun X' P =>
  EvR.call (Ev.glob P.toXOk (.head _) P.bleft) (Evs.cons Ev.f0 (Evs.cons (Ev.natc 0) (Evs.cons Ev.minus Evs.nil))) P.pBleft.callable (bleft_raise P)
noncomputable abbrev wordsV : V := .list [T wInv, T wNeg, T wNeg]
theorem l13 (P : PB X D) {env : Env} {M W : List Addr} {s : Shared} {free : List Nat} {vz : V} (hzf : free.length ≤ 1000) (hvz : vz.isOwn = false) (hA : A.frames = some [env]) (hf : env.frame = some env.locals) (Y : Tb X env) (R : Room (k + 7) A) (htM : X.tab ∉ M)
    (S : St X A env gL M W (lSto vscript vcells vleads (some (natsV free)) vtexts vcuts vmoved vlongest (some vz) vstands vtyped vended vwords vone vtwo vrows vturned) s) (hP : s.heap.get? X.tab = some (tabObj #[])) (hk1 : env.kindOf ("free" : Str) = some .cell) (hk2 : env.kindOf ("sizes" : Str) = some .cell) :
    wpAny (model X.prog X.w) A (exec (lst 13) env) (fun f s' => f = .next ∧ Kp X.h0 (X.tab :: M) s s' ∧ St X A env gL M W (lSto vscript vcells vleads (some (natsV free)) vtexts vcuts vmoved vlongest (some vz) vstands vtyped vended (some wordsV) vone vtwo vrows vturned) s' ∧ ∃ ps, s'.heap.get? X.tab = some (tabObj ps)) No s := by
  have hgw : ("_law_words" : Str) ∈ gL.gs := by decide
  refine wpAny_Assign_Name (wpAny_List ?_) rfl
  refine spliced_cons (wpAny_mono (words_lam (k := k + 5) (ps := #[]) (gl := ["_law_typed"]) (fr := [("free", natsV free)]) (msg := "invalid grouping") P hA hf Y R S hP trivial rfl hgw (noArgs rfl) rfl (by show lamOk _ ["_law_typed"] ["free"] = true; decide +kernel) (by decide +kernel) (fun x d hx => ?_) (lam1 hzf) (fun _ => rfl) (fun _ => rfl)) ?_ (fun _ _ f => f))
  · have : (x, d) = (("free" : Str), natsV free) := by simpa using hx
    cases this
    exact ⟨.tail _ (.tail _ (.tail _ (.head _))), rfl, hk1⟩
  rintro v1 s1 ⟨⟨t1, rfl⟩, K1, c1, hP1⟩
  have S1 := S.tabKeep Y.tab0 htM hP hP1 K1
  have hfr : ∀ x d, (x, d) ∈ ([("sizes", vz)] : List (Str × V)) → (x, some d) ∈ (lSto vscript vcells vleads (some (natsV free)) vtexts vcuts vmoved vlongest (some vz) vstands vtyped vended vwords vone vtwo vrows vturned) ∧ d.isOwn = false ∧ env.kindOf x = some .cell := fun x d hx => by
    have : (x, d) = (("sizes" : Str), vz) := by simpa using hx
    cases this
    exact ⟨.tail _ (.tail _ (.tail _ (.tail _ (.tail _ (.tail _ (.tail _ (.tail _ (.head _)))))))), hvz, hk2⟩
  refine spliced_cons (wpAny_mono (words_lam (k := k + 5) (gl := ["bisect_right"]) (fr := [("sizes", vz)]) (msg := "lo must be non-negative") P hA hf Y R S1 hP1 ?_ ?_ hgw (noArgs rfl) rfl (by show lamOk _ ["bisect_right"] ["sizes"] = true; decide +kernel) (by decide +kernel) hfr lam2 (fun _ => rfl) (fun _ => rfl)) ?_ (fun _ _ f => f))
  · exact TriplesOk_snoc _ _ _ [] trivial
  · rfl
  rintro v2 s2 ⟨⟨t2, rfl⟩, K2, c2, hP2⟩
  have S2 := S1.tabKeep Y.tab0 htM hP1 hP2 K2
  refine spliced_cons (wpAny_mono (words_lam (k := k + 5) (gl := ["bisect_left"]) (fr := [("sizes", vz)]) (msg := "lo must be non-negative") P hA hf Y R S2 hP2 ?_ ?_ hgw (noArgs rfl) rfl (by show lamOk _ ["bisect_left"] ["sizes"] = true; decide +kernel) (by decide +kernel) hfr lam3 (fun _ => rfl) (fun _ => rfl)) ?_ (fun _ _ f => f))
  · simp [TriplesOk, rawInt]
  · rfl
  rintro v3 s3 ⟨⟨t3, rfl⟩, K3, c3, hP3⟩
  have S3 := S2.tabKeep Y.tab0 htM hP2 hP3 K3
  refine spliced_nil ?_
  have K : Kp X.h0 [X.tab] s s3 := (K1.trans K2).trans K3
  refine ⟨by show 3 ≤ sizeLine; decide, ?_⟩
  have S4 := S3.keep (Kp.push s3 { cls := .type "list", data := .seq ([Value.str "invalid grouping" t1, .str "lo must be non-negative" t2, .str "lo must be non-negative" t3] : List Value).toArray })
  have r : Rds W s3.heap ([Value.str "invalid grouping" t1, .str "lo must be non-negative" t2, .str "lo must be non-negative" t3] : List Value) [T wInv, T wNeg, T wNeg] := by
    rw [T, T, ← wInv_e, ← wNeg_e]
    exact .cons (.str _ _) (.cons (.str _ _) (.cons (.str _ _) .nil))
  refine wpAny_mono (S4.store (d := wordsV) (Rd.newList S3.old (by simpa using r)) u12) ?_ (fun _ _ f => f)
  rintro _ s5 ⟨S5, k5⟩
  exact ⟨rfl, (K.mono fun b hb => by rw [List.mem_singleton.mp hb]; exact .head _).trans ((Kp.push _ _).trans (k5.mono fun b hb => .tail _ hb)), S5, _, k5.get htM (Heap.get?_push_of_some _ hP3) nofun⟩
theorem l14 (P : PB X D) (hq : Q (.next (lSto vscript vcells vleads vfree vtexts vcuts vmoved vlongest vsizes vstands vtyped vended (some wordsV) vone vtwo vrows vturned))) :
    Es X k gL (lSto vscript vcells vleads vfree vtexts vcuts vmoved vlongest vsizes vstands vtyped vended (some wordsV) vone vtwo vrows vturned) (lst 14) Q :=
  Es.ite (b := decide ([wInv, wNeg, wNeg] ≠ [wInv, wNeg, wNeg])) (Tr.cmp Ev.n12 (Ev.listD (ds := [T wInv, T wNeg, T wNeg]) (Evs.cons (Ev.txt wInv) (Evs.cons (Ev.txt wNeg) (Evs.cons (Ev.txt wNeg) Evs.nil)))) (Op2.ned Eqb.txt.list [wInv, wNeg, wNeg] [wInv, wNeg, wNeg] (by decide) (by decide))) (fun h => by simp at h) (fun _ => Ex.nil hq)
end Mine
end
noncomputable section
namespace Mine
open PySem PySem.W PySem.Calls PyProof.Rows
variable {X : Cx} {A : Around} {k : Nat} {gs gi : Gm} {σ σ' : Sto} {l r : Expr} {pos : Pos} {D : Ad} {Q : Res → Prop} {K : Frag}
variable {vscript vcells vleads vfree vtexts vcuts vmoved vlongest vsizes vstands vtyped vended vwords vone vtwo vrows vturned : Option V}
noncomputable def bt : List Nat → Bool
  | [] => false
  | [_] => false
  | c :: d :: r => (decide (c = 32) && decide (d = 9)) || bt (d :: r)
theorem subAt2 {x : List Nat} {a b i : Nat} (h : i + 2 ≤ x.length) : Builtin.Str.subAt (txt x) (txt [a, b]) i = true ↔ x[i]? = some a ∧ x[i + 1]? = some b := by
  unfold Builtin.Str.subAt
  show ((x.toArray.extract i (i + 2)) == [a, b].toArray) = true ↔ _
  have e : x.toArray.extract i (i + 2) = #[x[i], x[i + 1]] := by
    apply Array.ext
    · simp; lia
    · intro j h1 h2
      have : j = 0 ∨ j = 1 := by
        have h3 : j < 2 := by simpa using h2
        lia
      rcases this with rfl | rfl <;> simp
  rw [e, beq_iff_eq, List.getElem?_eq_getElem (show i < x.length by lia), List.getElem?_eq_getElem (show i + 1 < x.length by lia)]
  simp
theorem bt_iff : ∀ x : List Nat, bt x = true ↔ ∃ i, i + 2 ≤ x.length ∧ x[i]? = some 32 ∧ x[i + 1]? = some 9
  | [] => by simp [bt]
  | [c] => by simp [bt]
  | c :: d :: r => by
    have ih := bt_iff (d :: r)
    rw [bt, Bool.or_eq_true, ih, Bool.and_eq_true, decide_eq_true_iff, decide_eq_true_iff]
    constructor
    · rintro (⟨rfl, rfl⟩ | ⟨i, h1, h2, h3⟩)
      · exact ⟨0, by simp, rfl, rfl⟩
      · exact ⟨i + 1, by simp only [List.length_cons] at h1 ⊢; (exact Nat.lt_succ_of_le (by assumption)), h2, h3⟩
    · rintro ⟨i, h1, h2, h3⟩
      cases i with
      | zero => simp at h2 h3; exact .inl ⟨h2, h3⟩
      | succ i => exact .inr ⟨i, by simp only [List.length_cons] at h1 ⊢; lia, h2, h3⟩
theorem found2 (x : List Nat) : (!(Builtin.Str.occurrences (txt x) (txt [32, 9]) 0 (txt x).length 1).isEmpty) = bt x := by
  rw [Bool.eq_iff_iff, StrLaws.found_iff, bt_iff]
  constructor
  · intro y2; refine el1_2 (y2) fun i h1 h2 => ?_
    rw [txt_length, txt_length] at h1
    exact ⟨i, h1, (subAt2 h1).mp h2⟩
  · intro y3; refine el1_2 (y3) fun i h1 h2 => ?_
    exact ⟨i, by rw [txt_length, txt_length]; exact h1, (subAt2 h1).mpr h2⟩
theorem Op2.notIn2 {x : List Nat} : Op2 X k (compareOp .NotIn) (T [32, 9]) (T x) (.bool (!bt x)) := by
  refine ⟨?_⟩
  intro A W s v w R B z0 z1; obtain ⟨_, rfl⟩ := Rd.strI z0; obtain ⟨_, rfl⟩ := Rd.strI z1
  refine PySem.P.notIn_str ?_
  rw [found2]
  exact ⟨.bool _, Kp.refl _ _⟩
noncomputable def wsOf (m : List Nat) : WsD := wsD (m ++ [120, 9, 32]) m
noncomputable abbrev wsV (D : Ad) (m : List Nat) : V := .ws D.ws (wsOf m)
structure Mv (m : List Nat) : Prop where
  sg : ∀ c ∈ m, c = 32 ∨ c = 9
  len : m.length ≤ 1000
  sm : Sm (wsOf m)
theorem Mv.asc {m : List Nat} (h : Mv m) : Asc m := fun c hc => by
  rcases h.sg c hc with rfl | rfl <;> decide
theorem two_all {α : Type} {p : α → Prop} {a b : α} (h1 : p a) (h2 : p b) : ∀ x ∈ [a, b], p x := fun x hx => by
  rcases List.mem_cons.mp hx with rfl | hx
  · exact h1
  · rw [List.mem_singleton.mp hx]; exact h2
theorem l15 (P : PK X D K) {m1 m2 : List Nat} (H1 : Mv m1) (H2 : Mv m2) (hq : Q (.next (lSto vscript vcells vleads vfree vtexts vcuts (some (.list [T m1, T m2])) vlongest vsizes vstands vtyped vended vwords (some (wsV D m1)) (some (wsV D m2)) vrows vturned))) :
    Es X (k + 3) gL (lSto vscript vcells vleads vfree vtexts vcuts (some (.list [T m1, T m2])) vlongest vsizes vstands vtyped vended vwords vone vtwo vrows vturned) (lst 15) Q := by
  have e16 : sizeLine = 16777216 := by decide
  refine Es.asgT (d := .list [wsV D m1, wsV D m2]) (Ev.compM ["Whitespace"] [] [] [] ["text"] [m1, m2] T wsOf (fun d => .ws D.ws d) (Iv.list Ev.n6) .nil (fun m hm => ⟨_, a0, .drop .nil, ?_⟩) two_le) (As.tupL a13 a14) hq
  have H := two_all H1 H2 m hm
  exact Ev.make P (Ev.glob P.toXOk (.head _) P.toPB.toPX.ws) (Evs.cons (Ev.bin Ev.n0 (Ev.txt [120, 9, 32]) (Op2.addt (by have := H.len; simp only [List.length_cons, List.length_nil]; lia))) Evs.nil) (make_ok P rfl H.sg H.len)
end Mine
end
noncomputable section
namespace Mine
open PySem PySem.W PySem.Calls PyProof.Rows
variable {X : Cx} {A : Around} {k : Nat} {gs gi : Gm} {σ σ' : Sto} {l r : Expr} {pos : Pos} {D : Ad} {Q : Res → Prop} {K : Frag}
variable {vscript vcells vleads vfree vtexts vcuts vmoved vlongest vsizes vstands vtyped vended vwords vone vtwo vrows vturned : Option V}
theorem Op2.isNotB {a b : Bool} : Op2 X k (compareOp .IsNot) (.bool a) (.bool b) (.bool (decide (a ≠ b))) := by
  refine ⟨?_⟩
  intro A W s v w R B z0 z1; obtain rfl := Rd.boolI z0; obtain rfl := Rd.boolI z1
  refine wpAny_isNot_plain rfl ⟨?_, Kp.refl _ _⟩
  rw [show (!(Value.bool a == Value.bool b) : Bool) = decide (a ≠ b) from by cases a <;> cases b <;> rfl]
  exact .bool _
theorem l16 (P : PK X D K) {m1 m2 : List Nat} (H1 : Mv m1) (H2 : Mv m2) (s1 : decide ((wsOf m1).count.length ≤ 1) = !bt m1) (s2 : decide ((wsOf m2).count.length ≤ 1) = !bt m2)
    (hq : Q (.next (lSto vscript vcells vleads vfree vtexts vcuts (some (.list [T m1, T m2])) vlongest vsizes vstands vtyped vended vwords (some (wsV D m1)) (some (wsV D m2)) vrows vturned))) :
    Es X k gL (lSto vscript vcells vleads vfree vtexts vcuts (some (.list [T m1, T m2])) vlongest vsizes vstands vtyped vended vwords (some (wsV D m1)) (some (wsV D m2)) vrows vturned) (lst 16) Q := by
  have e16 : sizeLine = 16777216 := by decide
  have hA : ∀ x ∈ ([m1, m2].map fun m => m ++ [120, 9, 32]), Asc x := by
    intro x hx
    refine el1_2 (List.mem_map.mp hx) fun m hm y1 => ?_; obtain rfl := y1
    have H := two_all H1 H2 m hm
    intro c hc
    rcases List.mem_append.mp hc with q | q
    · exact H.asc c q
    · exact (show Asc [120, 9, 32] by decide) c q
  have c1 : Ev X k gL (lSto vscript vcells vleads vfree vtexts vcuts (some (.list [T m1, T m2])) vlongest vsizes vstands vtyped vended vwords (some (wsV D m1)) (some (wsV D m2)) vrows vturned) (match lst 16 with | .If (.BoolOp _ [.Compare l _ _ _, _] _) _ _ _ => l | _ => .Constant .none 0 ⟨0, 0, 0, 0⟩) (.list (([m1, m2].map fun m => m ++ [120, 9, 32]).map T)) :=
    Ev.listD (ds := [T (m1 ++ [120, 9, 32]), T (m2 ++ [120, 9, 32])]) (Evs.cons (Ev.attr P Ev.n13 .raw) (Evs.cons (Ev.attr P Ev.n14 .raw) Evs.nil)) two_leS
  refine Es.ite (b := decide (([m1, m2].map fun m => m ++ [120, 9, 32]) ≠ ([m1, m2].map fun m => m ++ [120, 9, 32])) || decide ([true, true] ≠ [true, true])) (Tr.or (Tr.cmp c1 (Ev.compM [] [] [] [] ["text"] [m1, m2] T (fun m => m ++ [120, 9, 32]) T (Iv.list Ev.n6) .nil (fun m hm => ⟨_, a0, .drop .nil, ?_⟩) two_le) (Op2.ned Eqb.txt.list _ _ hA hA))
    fun _ => Tr.cmp (Ev.compM [] [] [] [] ["lead", "text"] [m1, m2] (fun m => .tup [wsV D m, T m]) (fun _ => true) V.bool
      (Iv.zip2 (ds1 := [wsV D m1, wsV D m2]) (ds2 := [T m1, T m2]) (Ev.glob P.toXOk (.tail _ (.tail _ (.tail _ (.tail _ (.tail _ (.head _)))))) P.zip) (Ev.tupD (Evs.cons Ev.n13 (Evs.cons Ev.n14 Evs.nil)) two_leS) Ev.n6 (.inr rfl) (.inl rfl)) .nil (fun m hm => ⟨_, As.tup a0 a1, .drop (.drop .nil), ?_⟩) two_le)
      (Ev.listD (ds := [V.bool true, V.bool true]) (Evs.cons Ev.bool (Evs.cons Ev.bool Evs.nil))) (Op2.ned Eqb.bool.list [true, true] [true, true] (fun _ _ => trivial) (fun _ _ => trivial))) (fun h => by simp at h) (fun _ => Ex.nil hq)
  · have H := two_all H1 H2 m hm
    exact Ev.bin Ev.n0 (Ev.txt [120, 9, 32]) (Op2.addt (by have := H.len; simp only [List.length_cons, List.length_nil]; omega))
  · have e := two_all (p := fun m => decide ((wsOf m).count.length ≤ 1) = !bt m) s1 s2 m hm
    have b : decide (decide ((wsOf m).count.length ≤ 1) = !bt m) = true := decide_eq_true e
    rw [← b]
    exact Ev.cmp (Ev.attr P Ev.n0 .simple) (Ev.cmp (Ev.txt [32, 9]) Ev.n1 Op2.notIn2) Op2.isBool
theorem l17 (P : PK X D K) {m1 m2 sizes S1 S2 : List Nat} (H1 : Mv m1) (H2 : Mv m2) (hs : ∀ z ∈ sizes, 0 < z ∧ z < 1000000000) (hz : sizes.length ≤ 100000) (i1 : sizes.map (indentL (wsOf m1)) = S1) (i2 : sizes.map (indentL (wsOf m2)) = S2) (n1 : S1[0]? = some (wsOf m1).n) (n2 : S2[0]? = some (wsOf m2).n)
    (hq : Q (.next (lSto vscript vcells vleads vfree vtexts vcuts vmoved vlongest (some (natsV sizes)) (some (.list [natsV S1, natsV S2])) vtyped vended vwords (some (wsV D m1)) (some (wsV D m2)) vrows vturned))) :
    Es X (k + 1) gL (lSto vscript vcells vleads vfree vtexts vcuts vmoved vlongest (some (natsV sizes)) (some (.list [natsV S1, natsV S2])) vtyped vended vwords (some (wsV D m1)) (some (wsV D m2)) vrows vturned) (lst 17) Q := by
  subst i1 i2
  have hh : ∀ p ∈ ([(sizes.map (indentL (wsOf m1)), (wsOf m1).n), (sizes.map (indentL (wsOf m2)), (wsOf m2).n)] : List (List Nat × Nat)), p.1[0]? = some p.2 := two_all n1 n2
  have c1 : Ev X (k + 1) gL (lSto vscript vcells vleads vfree vtexts vcuts vmoved vlongest (some (natsV sizes)) (some (.list [natsV (sizes.map (indentL (wsOf m1))), natsV (sizes.map (indentL (wsOf m2)))])) vtyped vended vwords (some (wsV D m1)) (some (wsV D m2)) vrows vturned) (match lst 17 with | .If (.BoolOp _ [_, .Compare l _ _ _] _) _ _ _ => l | _ => .Constant .none 0 ⟨0, 0, 0, 0⟩) (.list ([(wsOf m1).n, (wsOf m2).n].map N)) :=
    Ev.listD (ds := [N (wsOf m1).n, N (wsOf m2).n]) (Evs.cons (Ev.attr P Ev.n13 .n) (Evs.cons (Ev.attr P Ev.n14 .n) Evs.nil)) two_leS
  refine Es.ite (b := decide (([m1, m2].map fun m => sizes.map (indentL (wsOf m))) ≠ [sizes.map (indentL (wsOf m1)), sizes.map (indentL (wsOf m2))]) || decide ([(wsOf m1).n, (wsOf m2).n] ≠ [(wsOf m1).n, (wsOf m2).n])) (Tr.or (Tr.cmp (Ev.compM [] ["sizes"] [natsV sizes] ["lead"] ["lead"] [m1, m2] (wsV D) (fun m => sizes.map (indentL (wsOf m))) natsV (Iv.tup (Ev.tupD (Evs.cons Ev.n13 (Evs.cons Ev.n14 Evs.nil)) two_leS)) (.s (.tail _ (.tail _ (.tail _ (.tail _ (.tail _ (.tail _ (.tail _ (.tail _ (.head _))))))))) .nil) (fun m hm => ⟨_, a0, .drop .nil, ?_⟩) two_le) Ev.n9 (Op2.ned Eqb.nat.list.list _ [sizes.map (indentL (wsOf m1)), sizes.map (indentL (wsOf m2))] (fun _ _ _ _ => trivial) (fun _ _ _ _ => trivial)))
    fun _ => Tr.cmp c1 (Ev.compM [] [] [] [] ["row"] [(sizes.map (indentL (wsOf m1)), (wsOf m1).n), (sizes.map (indentL (wsOf m2)), (wsOf m2).n)] (fun p => natsV p.1) (fun p => p.2) N (Iv.list Ev.n9) .nil (fun p hp => ⟨_, a0, .drop .nil, Ev.itemN Ev.n0 (Ev.natc 0) ?_⟩) two_le) (Op2.ned Eqb.nat.list [(wsOf m1).n, (wsOf m2).n] [(wsOf m1).n, (wsOf m2).n] (fun _ _ => trivial) (fun _ _ => trivial))) (fun h => by simp at h) (fun _ => Ex.nil hq)
  · have H := two_all H1 H2 m hm
    exact Ev.compM [] ["lead"] [wsV D m] [] ["size"] sizes N (indentL (wsOf m)) N (Iv.list Ev.f0) (.s (.head _) .nil) (fun z hz => ⟨_, a0, .drop .nil, Ev.mcall P P.mIndent Ev.f0 (Evs.cons Ev.n0 Evs.nil) fun f hf => indent_ok P H.sm (hs z hz).1 (hs z hz).2 hf⟩) (by omega)
  · show (p.1.map N)[0]? = _
    rw [List.getElem?_map, hh p hp]; rfl
noncomputable def rowsN (sizes a b : List Nat) : List (Nat × Nat × Nat) := sizes.zip (a.zip b)
theorem rows_e (sizes a b : List Nat) : (((sizes.map N).zip ((a.map N).zip (b.map N))).map fun p => V.tup [p.1, p.2.1, p.2.2]) = (rowsN sizes a b).map tripV := by
  unfold rowsN
  rw [List.zip_map, List.zip_map, List.map_map]
  exact List.map_congr_left fun p _ => rfl
theorem l18 (P : PB X D) {sizes S1 S2 : List Nat} (hz : sizes.length ≤ 1000000) (hq : Q (.next (lSto vscript vcells vleads vfree vtexts vcuts vmoved vlongest (some (natsV sizes)) (some (.list [natsV S1, natsV S2])) vtyped vended vwords vone vtwo (some (.list ((rowsN sizes S1 S2).map tripV))) vturned))) :
    Es X (k + 4) gL (lSto vscript vcells vleads vfree vtexts vcuts vmoved vlongest (some (natsV sizes)) (some (.list [natsV S1, natsV S2])) vtyped vended vwords vone vtwo vrows vturned) (lst 18) Q := by
  rw [← rows_e] at hq
  exact Es.asg (Ev.listZip3 (Ev.glob P.toXOk (.tail _ (.tail _ (.tail _ (.tail _ (.head _))))) P.list) (Ev.glob P.toXOk (.tail _ (.tail _ (.tail _ (.tail _ (.tail _ (.head _)))))) P.zip) Ev.n8 (Ev.itemN (d := natsV S1) Ev.n9 (Ev.natc 0) rfl) (Ev.itemN (d := natsV S2) Ev.n9 (Ev.natc 1) rfl) (.inl rfl) (.inl rfl) (.inl rfl) (by rw [List.length_map]; exact hz)) u15 hq
theorem l19 (P : PB X D) {sizes S1 S2 : List Nat} (hz : sizes.length ≤ 1000000) (hq : Q (.next (lSto vscript vcells vleads vfree vtexts vcuts vmoved vlongest (some (natsV sizes)) (some (.list [natsV S1, natsV S2])) vtyped vended vwords vone vtwo vrows (some (.list ((rowsN sizes S2 S1).map tripV)))))) :
    Es X (k + 4) gL (lSto vscript vcells vleads vfree vtexts vcuts vmoved vlongest (some (natsV sizes)) (some (.list [natsV S1, natsV S2])) vtyped vended vwords vone vtwo vrows vturned) (lst 19) Q := by
  rw [← rows_e] at hq
  exact Es.asg (Ev.listZip3 (Ev.glob P.toXOk (.tail _ (.tail _ (.tail _ (.tail _ (.head _))))) P.list) (Ev.glob P.toXOk (.tail _ (.tail _ (.tail _ (.tail _ (.tail _ (.head _)))))) P.zip) Ev.n8 (Ev.itemN (d := natsV S2) Ev.n9 (Ev.natc 1) rfl) (Ev.itemN (d := natsV S1) Ev.n9 (Ev.natc 0) rfl) (.inl rfl) (.inl rfl) (.inl rfl) (by rw [List.length_map]; exact hz)) u16 hq
theorem item1 {σ : Sto} {x : Str} {p p2 : Pos} {u : Nat} {t : Nat × Nat × Nat} (h : Ev X k gs σ (.Name x p) (tripV t)) : Ev X k gs σ (.Subscript (.Name x p) (.Constant (.int 1) u p2) pos) (N t.2.1) := Ev.itemT h Ev.int (by decide) (by decide) rfl
theorem item2 {σ : Sto} {x : Str} {p p2 : Pos} {u : Nat} {t : Nat × Nat × Nat} (h : Ev X k gs σ (.Name x p) (tripV t)) : Ev X k gs σ (.Subscript (.Name x p) (.Constant (.int 2) u p2) pos) (N t.2.2) := Ev.itemT h Ev.int (by decide) (by decide) rfl
noncomputable abbrev geT (t : Nat × Nat × Nat) : Bool := decide (t.2.2 ≤ t.2.1)
noncomputable abbrev neT (t : Nat × Nat × Nat) : Bool := decide (t.2.1 ≠ t.2.2)
noncomputable abbrev EqT := Eqb.list (Eqb.triple Eqb.nat Eqb.nat Eqb.nat)
theorem okT (l : List (Nat × Nat × Nat)) : ∀ x ∈ l, Any x.1 ∧ Any x.2.1 ∧ Any x.2.2 := fun _ _ => ⟨trivial, trivial, trivial⟩
theorem l20 (P : PK X D K) {m1 m2 : List Nat} {r t : List (Nat × Nat × Nat)} (H1 : Mv m1) (H2 : Mv m2) (hr : r.length ≤ 1000000) (ht : t.length ≤ 1000000)
    (e1 : witL (fun a b => decide (b ≤ a)) (wsOf m1) (wsOf m2) = r.dropLast.filter geT) (e2 : witL (fun a b => decide (b ≤ a)) (wsOf m2) (wsOf m1) = t.dropLast.filter geT)
    (hq : Q (.next (lSto vscript vcells vleads vfree vtexts vcuts vmoved vlongest vsizes vstands vtyped vended vwords (some (wsV D m1)) (some (wsV D m2)) (some (.list (r.map tripV))) (some (.list (t.map tripV)))))) :
    Es X (k + 2) gL (lSto vscript vcells vleads vfree vtexts vcuts vmoved vlongest vsizes vstands vtyped vended vwords (some (wsV D m1)) (some (wsV D m2)) (some (.list (r.map tripV))) (some (.list (t.map tripV)))) (lst 20) Q := by
  have l1 : r.dropLast.length ≤ 16777216 := by rw [List.length_dropLast]; lia
  have l2 : t.dropLast.length ≤ 16777216 := by rw [List.length_dropLast]; lia
  refine Es.ite (b := decide (witL (fun a b => decide (b ≤ a)) (wsOf m1) (wsOf m2) ≠ r.dropLast.filter geT) || decide (witL (fun a b => decide (b ≤ a)) (wsOf m2) (wsOf m1) ≠ t.dropLast.filter geT))
    (Tr.or (Tr.cmp (Ev.mcall P P.mNotLess Ev.n13 (Evs.cons Ev.n14 Evs.nil) fun f hf => notLess_ok P H1.sm H2.sm hf) (Ev.compP [] [] [] [] ["row"] r.dropLast tripV geT tripV (Iv.list (Ev.butLast Ev.n15 (by lia))) .nil (fun x hx => ⟨_, a0, .drop .nil, Trs.one (Tr.cmp (item1 Ev.n0) (item2 Ev.n0) Op2.geN), fun _ => Ev.n0⟩) l1) (Op2.ned EqT _ _ (okT _) (okT _)))
    fun _ => Tr.cmp (Ev.mcall P P.mNotLess Ev.n14 (Evs.cons Ev.n13 Evs.nil) fun f hf => notLess_ok P H2.sm H1.sm hf) (Ev.compP [] [] [] [] ["row"] t.dropLast tripV geT tripV (Iv.list (Ev.butLast Ev.n16 (by lia))) .nil (fun x hx => ⟨_, a0, .drop .nil, Trs.one (Tr.cmp (item1 Ev.n0) (item2 Ev.n0) Op2.geN), fun _ => Ev.n0⟩) l2) (Op2.ned EqT _ _ (okT _) (okT _))) (fun h => ?_) (fun _ => Ex.nil hq)
  rw [e1, e2] at h
  simp at h
theorem l21 (P : PK X D K) {m1 m2 S1 S2 : List Nat} {r : List (Nat × Nat × Nat)} (H1 : Mv m1) (H2 : Mv m2) (hr : r.length ≤ 1000000)
    (e1 : witL (fun a b => decide (a ≠ b)) (wsOf m1) (wsOf m2) = r.dropLast.filter neT) (e2 : decide (((wsOf m1).count, (wsOf m1).b) = ((wsOf m2).count, (wsOf m2).b)) = decide (S1 = S2))
    (hq : Q (.next (lSto vscript vcells vleads vfree vtexts vcuts vmoved vlongest vsizes (some (.list [natsV S1, natsV S2])) vtyped vended vwords (some (wsV D m1)) (some (wsV D m2)) (some (.list (r.map tripV))) vturned))) :
    Es X (k + 2) gL (lSto vscript vcells vleads vfree vtexts vcuts vmoved vlongest vsizes (some (.list [natsV S1, natsV S2])) vtyped vended vwords (some (wsV D m1)) (some (wsV D m2)) (some (.list (r.map tripV))) vturned) (lst 21) Q := by
  have l1 : r.dropLast.length ≤ 16777216 := by rw [List.length_dropLast]; lia
  refine Es.ite (b := decide (witL (fun a b => decide (a ≠ b)) (wsOf m1) (wsOf m2) ≠ r.dropLast.filter neT) || decide (decide (((wsOf m1).count, (wsOf m1).b) = ((wsOf m2).count, (wsOf m2).b)) ≠ decide (S1 = S2)))
    (Tr.or (Tr.cmp (Ev.mcall P P.mNotEq Ev.n13 (Evs.cons Ev.n14 Evs.nil) fun f hf => notEq_ok P H1.sm H2.sm hf) (Ev.compP [] [] [] [] ["row"] r.dropLast tripV neT tripV (Iv.list (Ev.butLast Ev.n15 (by lia))) .nil (fun x hx => ⟨_, a0, .drop .nil, Trs.one (Tr.cmp (item1 Ev.n0) (item2 Ev.n0) Op2.neN), fun _ => Ev.n0⟩) l1) (Op2.ned EqT _ _ (okT _) (okT _)))
    fun _ => Tr.cmp (Ev.mcall P P.mEqual Ev.n13 (Evs.cons Ev.n14 Evs.nil) fun f hf => equal_ok P hf) (Ev.cmp (Ev.itemN (d := natsV S1) Ev.n9 (Ev.natc 0) rfl) (Ev.itemN (d := natsV S2) Ev.n9 (Ev.natc 1) rfl) (Op2.eqd Eqb.nat.list S1 S2 (fun _ _ => trivial) (fun _ _ => trivial))) Op2.isNotB) (fun h => ?_) (fun _ => Ex.nil hq)
  rw [e1, e2] at h
  simp at h
theorem l22 (P : PK X D K) {m1 m2 : List Nat} {r t : List (Nat × Nat × Nat)} (H1 : Mv m1) (H2 : Mv m2) (hr : r.length ≤ 1000000) (ht : t.length ≤ 1000000)
    (e1 : lessL (wsOf m1) (wsOf m2) = decide (r.filter geT = [])) (e2 : lessL (wsOf m2) (wsOf m1) = decide (t.filter geT = [])) (hq : Q (.ret (.bool true))) :
    Es X (k + 2) gL (lSto vscript vcells vleads vfree vtexts vcuts vmoved vlongest vsizes vstands vtyped vended vwords (some (wsV D m1)) (some (wsV D m2)) (some (.list (r.map tripV))) (some (.list (t.map tripV)))) (lst 22) Q := by
  refine Es.ret (Ev.and (a := decide (lessL (wsOf m1) (wsOf m2) = decide (r.filter geT = []))) (b := decide (lessL (wsOf m2) (wsOf m1) = decide (t.filter geT = []))) (Ev.cmp (Ev.mcall P P.mLess Ev.n13 (Evs.cons Ev.n14 Evs.nil) fun f hf => less_ok P H1.sm H2.sm hf) (Ev.cmp (Ev.compP [] [] [] [] ["row"] r tripV geT tripV (Iv.list Ev.n15) .nil (fun x hx => ⟨_, a0, .drop .nil, Trs.one (Tr.cmp (item1 Ev.n0) (item2 Ev.n0) Op2.geN), fun _ => Ev.n0⟩) (by lia)) (Ev.listD Evs.nil) (Op2.eqd EqT _ [] (okT _) (okT _))) Op2.isBool)
    fun _ => Ev.cmp (Ev.mcall P P.mLess Ev.n14 (Evs.cons Ev.n13 Evs.nil) fun f hf => less_ok P H2.sm H1.sm hf) (Ev.cmp (Ev.compP [] [] [] [] ["row"] t tripV geT tripV (Iv.list Ev.n16) .nil (fun x hx => ⟨_, a0, .drop .nil, Trs.one (Tr.cmp (item1 Ev.n0) (item2 Ev.n0) Op2.geN), fun _ => Ev.n0⟩) (by lia)) (Ev.listD Evs.nil) (Op2.eqd EqT _ [] (okT _) (okT _))) Op2.isBool) ?_
  rw [e1, e2]
  simpa using hq
end Mine
end
noncomputable section
namespace Mine
open PySem PySem.W PySem.Calls PyProof.Rows
variable {X : Cx} {A : Around} {k : Nat} {gs gi : Gm} {σ σ' σ1 : Sto} {l r : Expr} {pos : Pos} {D : Ad} {K : Frag}
theorem es_step {st : Stmt} {rest : List Stmt} {env : Env} {M W : List Addr} {s : Shared} {Q : Flow → Shared → Prop} (h : Es X k gs σ st (fun r => r = .next σ1)) (R : Room k A) (O : Own A env) (S : St X A env gs M W σ s)
    (hk : ∀ s1, Kp X.h0 M s s1 → St X A env gs M W σ1 s1 → wpAny (model X.prog X.w) A (execs rest env) Q No s1) : wpAny (model X.prog X.w) A (execs (st :: rest) env) Q No s := by
  refine wpAny_execs_cons (wpAny_mono (h.run A env M W s R O S) ?_ (fun _ _ f => f))
  rintro f s1 ⟨k1, r, rfl, rfl, S1⟩
  exact hk s1 k1 S1
structure PL (c0 c1 c2 c3 : Nat) (free : List Nat) (L1 L2 : List Nat × Nat) (t1 t2 : List Nat) (u1 u2 : List Nat × Nat) (m1 m2 : List Nat) (lg : Nat) (sizes S1 S2 : List Nat) (a b : Nat) : Prop where
  eF : free = freeN c2
  eL1 : L1 = (leadsOf c0 c1).1
  eL2 : L2 = (leadsOf c0 c1).2
  eT1 : t1 = leadText L1.1 L1.2
  eT2 : t2 = leadText L2.1 L2.2
  eU1 : u1 = cutN free L1
  eU2 : u2 = cutN free L2
  eM1 : m1 = movedN u1
  eM2 : m2 = movedN u2
  eG : lg = longestN m1 m2
  eZ : sizes = sizesN lg c3
  eS1 : S1 = standsN free sizes L1
  eS2 : S2 = standsN free sizes L2
  lead1 : Lead L1.1 L1.2
  lead2 : Lead L2.1 L2.2
  fr : ∀ x ∈ free, 1 ≤ x ∧ x ≤ 100
  frl : free.length ≤ 100
  cu1 : u1.1.length + u1.2 ≤ 1000 ∧ Asc u1.1
  cu2 : u2.1.length + u2.2 ≤ 1000 ∧ Asc u2.1
  mv1 : Mv m1
  mv2 : Mv m2
  lgl : lg ≤ 100000
  sz : ∀ z ∈ sizes, 0 < z ∧ z < 1000000000
  szl : sizes.length ≤ 100000
  tl1 : t1.length ≤ 1000
  tl2 : t2.length ≤ 1000
  ru : ∀ z ∈ sizes, Ruler t1.length (free ++ [z, 0, 9]) ∧ Ruler t2.length (free ++ [z, 0, 9])
  ruE : (Ruler t1.length free ∧ Ruler t2.length free) ∧ (Ruler t1.length (free ++ [127, 3]) ∧ Ruler t2.length (free ++ [127, 3]))
  ty1 : typedN free sizes t1 = S1
  ty2 : typedN free sizes t2 = S2
  h1 : S1[0]? = some a
  h2 : S2[0]? = some b
  en : endedN free t1 t2 = [a, a, b, b]
  si1 : decide ((wsOf m1).count.length ≤ 1) = !bt m1
  si2 : decide ((wsOf m2).count.length ≤ 1) = !bt m2
  in1 : sizes.map (indentL (wsOf m1)) = S1
  in2 : sizes.map (indentL (wsOf m2)) = S2
  n1 : S1[0]? = some (wsOf m1).n
  n2 : S2[0]? = some (wsOf m2).n
  w12 : witL (fun a b => decide (b ≤ a)) (wsOf m1) (wsOf m2) = (rowsN sizes S1 S2).dropLast.filter geT
  w21 : witL (fun a b => decide (b ≤ a)) (wsOf m2) (wsOf m1) = (rowsN sizes S2 S1).dropLast.filter geT
  wne : witL (fun a b => decide (a ≠ b)) (wsOf m1) (wsOf m2) = (rowsN sizes S1 S2).dropLast.filter neT
  eq : decide (((wsOf m1).count, (wsOf m1).b) = ((wsOf m2).count, (wsOf m2).b)) = decide (S1 = S2)
  le12 : lessL (wsOf m1) (wsOf m2) = decide ((rowsN sizes S1 S2).filter geT = [])
  le21 : lessL (wsOf m2) (wsOf m1) = decide ((rowsN sizes S2 S1).filter geT = [])
theorem law_e : bodyS (stm 18) = [lst 0, lst 1, lst 2, lst 3, lst 4, lst 5, lst 6, lst 7, lst 8, lst 9, lst 10, lst 11, lst 12, lst 13, lst 14, lst 15, lst 16, lst 17, lst 18, lst 19, lst 20, lst 21, lst 22] := rfl
theorem law_body (P : PK X D K) {script : List Int} (hsc : script.length ≤ 1000) {free : List Nat} {L1 L2 : List Nat × Nat} {t1 t2 : List Nat} {u1 u2 : List Nat × Nat} {m1 m2 : List Nat} {lg : Nat} {sizes S1 S2 : List Nat} {a b : Nat}
    (F : PL (cellN script (0, 1618)) (cellN script (1, 1)) (cellN script (2, 7)) (cellN script (3, 23)) free L1 L2 t1 t2 u1 u2 m1 m2 lg sizes S1 S2 a b)
    {env : Env} {M W : List Addr} {s : Shared} (hA : A.frames = some [env]) (hf : env.frame = some env.locals) (Y : Tb X env) (R : Room (k + 8) A) (htM : X.tab ∉ M)
    (S : St X A env gL M W (lSto (some (intsV script)) none none none none none none none none none none none none none none none none) s) (hP : s.heap.get? X.tab = some (tabObj #[])) (hk1 : env.kindOf ("free" : Str) = some .cell) (hk2 : env.kindOf ("sizes" : Str) = some .cell) :
    wpAny (model X.prog X.w) A (execs (bodyS (stm 18)) env) (fun f s' => f = .ret (.bool true) ∧ Kp X.h0 (X.tab :: M) s s' ∧ ∃ ps, s'.heap.get? X.tab = some (tabObj ps)) No s := by
  have O : Own A env := ⟨⟨[], hA⟩, ⟨_, hf⟩⟩
  have PBx := P.toPB
  have rl : (rowsN sizes S1 S2).length ≤ 1000000 := by have := F.szl; unfold rowsN; rw [List.length_zip]; lia
  have rl' : (rowsN sizes S2 S1).length ≤ 1000000 := by have := F.szl; unfold rowsN; rw [List.length_zip]; lia
  have sz' : ∀ z ∈ sizes, 0 < z ∧ z < 1073741824 := fun z hz => ⟨(F.sz z hz).1, by have := (F.sz z hz).2; lia⟩
  rw [law_e]
  refine es_step (l0 (k := k) PBx script hsc rfl) (R.mono (by (exact Nat.le_add_right _ _))) O S fun s1 K1 S1' => ?_
  refine es_step (l1 (k := k) PBx rfl) (R.mono (by (exact Nat.add_le_add_left (Nat.le_of_ble_eq_true rfl) _))) O S1' fun s2 K2 S2' => ?_
  rw [← F.eL1, ← F.eL2] at S2'
  refine es_step (l2 (k := k) PBx rfl) (R.mono (by (exact Nat.le_add_right _ _))) O S2' fun s3 K3 S3' => ?_
  rw [← F.eF] at S3'
  refine es_step (l3 (k := k) PBx F.lead1 F.lead2 rfl) (R.mono (by (exact Nat.add_le_add_left (Nat.le_of_ble_eq_true rfl) _))) O S3' fun s4 K4 S4' => ?_
  refine es_step (l4 (k := k) PBx F.lead1 F.lead2 F.fr rfl) (R.mono (by (exact Nat.add_le_add_left (Nat.le_of_ble_eq_true rfl) _))) O S4' fun s5 K5 S5' => ?_
  rw [← F.eT1, ← F.eT2] at S5'
  refine es_step (l5 (k := k) PBx F.lead1 F.lead2 ⟨by rw [← F.eU1]; exact F.cu1.2, by rw [← F.eU2]; exact F.cu2.2⟩ rfl) (R.mono (by (exact Nat.add_le_add_left (Nat.le_of_ble_eq_true rfl) _))) O S5' fun s6 K6 S6' => ?_
  rw [← F.eU1, ← F.eU2] at S6'
  refine es_step (l6 (k := k) PBx F.cu1.1 F.cu2.1 rfl) (R.mono (by (exact Nat.le_add_right _ _))) O S6' fun s7 K7 S7' => ?_
  rw [← F.eM1, ← F.eM2] at S7'
  refine es_step (l7 (k := k) PBx F.mv1.len F.mv2.len F.mv1.asc F.mv2.asc rfl) (R.mono (by (exact Nat.le_add_right _ _))) O S7' fun s8 K8 S8' => ?_
  rw [← F.eG] at S8'
  refine es_step (l8 (k := k) PBx F.lgl rfl) (R.mono (by (exact Nat.le_add_right _ _))) O S8' fun s9 K9 S9' => ?_
  rw [← F.eZ] at S9'
  refine es_step (l9 (k := k) PBx F.lead1 F.lead2 F.frl sz' F.szl rfl) (R.mono (by (exact Nat.add_le_add_left (Nat.le_of_ble_eq_true rfl) _))) O S9' fun s10 K10 S10' => ?_
  rw [← F.eS1, ← F.eS2] at S10'
  refine es_step (l10 (k := k) PBx F.tl1 F.tl2 F.frl F.ru F.szl rfl) (R.mono (by (exact Nat.add_le_add_left (Nat.le_of_ble_eq_true rfl) _))) O S10' fun s11 K11 S11' => ?_
  rw [F.ty1, F.ty2] at S11'
  refine es_step (l11 (k := k) PBx F.tl1 F.tl2 F.frl F.ruE rfl) (R.mono (by (exact Nat.add_le_add_left (Nat.le_of_ble_eq_true rfl) _))) O S11' fun s12 K12 S12' => ?_
  rw [F.en] at S12'
  refine es_step (l12 (k := k) PBx F.h1 F.h2 rfl) (R.mono (by (exact Nat.le_add_right _ _))) O S12' fun s13 K13 S13' => ?_
  have Ka : Kp X.h0 M s s13 := (((((((((((K1.trans K2).trans K3).trans K4).trans K5).trans K6).trans K7).trans K8).trans K9).trans K10).trans K11).trans K12).trans K13
  have hP13 := Ka.get htM hP nofun
  refine wpAny_execs_cons (wpAny_mono (l13 (k := k) PBx (by have := F.frl; lia) rfl hA hf Y (R.mono (by (exact Nat.le_succ _))) htM S13' hP13 hk1 hk2) ?_ (fun _ _ f => f))
  rintro _ s14 ⟨rfl, K14, S14', ps14, hP14⟩
  refine es_step (l14 (k := k) PBx rfl) (R.mono (by (exact Nat.le_add_right _ _))) O S14' fun s15 K15 S15' => ?_
  refine es_step (l15 (k := k) P F.mv1 F.mv2 rfl) (R.mono (by (exact Nat.add_le_add_left (Nat.le_of_ble_eq_true rfl) _))) O S15' fun s16 K16 S16' => ?_
  refine es_step (l16 (k := k) P F.mv1 F.mv2 F.si1 F.si2 rfl) (R.mono (by (exact Nat.le_add_right _ _))) O S16' fun s17 K17 S17' => ?_
  refine es_step (l17 (k := k) P F.mv1 F.mv2 F.sz F.szl F.in1 F.in2 F.n1 F.n2 rfl) (R.mono (by (exact Nat.add_le_add_left (Nat.le_of_ble_eq_true rfl) _))) O S17' fun s18 K18 S18' => ?_
  refine es_step (l18 (k := k) PBx (by have := F.szl; lia) rfl) (R.mono (by (exact Nat.add_le_add_left (Nat.le_of_ble_eq_true rfl) _))) O S18' fun s19 K19 S19' => ?_
  refine es_step (l19 (k := k) PBx (by have := F.szl; lia) rfl) (R.mono (by (exact Nat.add_le_add_left (Nat.le_of_ble_eq_true rfl) _))) O S19' fun s20 K20 S20' => ?_
  refine es_step (l20 (k := k) P F.mv1 F.mv2 rl rl' F.w12 F.w21 rfl) (R.mono (by (exact Nat.add_le_add_left (Nat.le_of_ble_eq_true rfl) _))) O S20' fun s21 K21 S21' => ?_
  refine es_step (l21 (k := k) P F.mv1 F.mv2 rl F.wne F.eq rfl) (R.mono (by (exact Nat.add_le_add_left (Nat.le_of_ble_eq_true rfl) _))) O S21' fun s22 K22 S22' => ?_
  have Kb : Kp X.h0 M s14 s22 := (((((((K15.trans K16).trans K17).trans K18).trans K19).trans K20).trans K21).trans K22)
  have mt : ∀ b ∈ M, b ∈ X.tab :: M := fun b hb => .tail _ hb
  refine wpAny_execs_cons (wpAny_mono ((l22 (k := k) (Q := fun r => r = .ret (.bool true)) P F.mv1 F.mv2 rl rl' F.le12 F.le21 rfl).run A env M W s22 (R.mono (by (exact Nat.add_le_add_left (Nat.le_of_ble_eq_true rfl) _))) O S22') ?_ (fun _ _ f => f))
  rintro f s23 ⟨K23, r, rfl, v, rfl, hv⟩
  refine ⟨?_, ((Ka.mono mt).trans K14).trans ((Kb.trans K23).mono mt), _, (Kb.trans K23).get htM hP14 nofun⟩
  cases hv with
  | data q => obtain rfl := Rd.boolI q; rfl
end Mine
end
noncomputable section
namespace Mine
noncomputable def marksB : Nat → List Nat → List Nat
  | _, [] => []
  | b, f :: r => (b + f) :: marksB (b + f) r
theorem stops_marks : ∀ (F : List Nat) (b : Nat), (List.range F.length).map (fun c => b + (F.take (c + 1)).sum) = marksB b F
  | [], b => rfl
  | f :: r, b => by
    rw [List.length_cons, List.range_succ_eq_map, List.map_cons, List.map_map, marksB, ← stops_marks r (b + f)]
    congr 1
    refine List.map_congr_left fun c _ => ?_
    simp only [Function.comp, List.take_succ_cons, List.sum_cons]
    lia
theorem stopsOf_marks (F : List Nat) : stopsOf F = marksB 0 F := by
  rw [← stops_marks F 0]
  unfold stopsOf
  refine List.map_congr_left fun c _ => ?_
  rw [Nat.zero_add]
noncomputable def goM (d : Nat) : List Nat → Nat → Nat → Nat
  | [], _, _ => d
  | f :: r, b, c => if c < b + f then b + f else goM d r (b + f) c
theorem filter_go (d c : Nat) : ∀ (F : List Nat) (b : Nat), (match (marksB b F).filter (fun m => decide (c < m)) with | m :: _ => m | [] => d) = goM d F b c
  | [], b => rfl
  | f :: r, b => by
    rw [marksB, List.filter_cons, goM]
    by_cases h : c < b + f
    · rw [if_pos h, if_pos (decide_eq_true h)]
    · rw [if_neg h, if_neg (by simpa using h)]
      exact filter_go d c r (b + f)
theorem nxt_go (F : List Nat) (c : Nat) : nxt (marksB 0 F) c = goM (c + 1) F 0 c := filter_go (c + 1) c F 0
theorem stand_go (F : List Nat) (z c r : Nat) : standStep F z c r = goM (F.sum + z * ((c + r - F.sum) / z + 1)) F 0 (c + r) := by
  unfold standStep
  rw [stopsOf_marks]
  exact filter_go _ _ F 0
noncomputable def std (z : Nat) : List Nat → Nat → Nat → Nat
  | [], b, c => b + z * ((c - b) / z + 1)
  | f :: r, b, c => if c < b + f then b + f else std z r (b + f) c
theorem go_std (z : Nat) : ∀ (F : List Nat) (b c : Nat), goM ((b + F.sum) + z * ((c - (b + F.sum)) / z + 1)) F b c = std z F b c
  | [], b, c => by simp [goM, std]
  | f :: r, b, c => by
    rw [goM, std]
    split
    · rfl
    · have := go_std z r (b + f) c
      rw [List.sum_cons, ← Nat.add_assoc]; exact this
theorem stand_std (F : List Nat) (z c r : Nat) : standStep F z c r = std z F 0 (c + r) := by
  have := go_std z F 0 (c + r)
  rw [Nat.zero_add] at this
  rw [stand_go, this]
theorem rep_std (z d : Nat) (hz : 0 < z) : ∀ (k b c : Nat), b ≤ c → c < b + k * z → goM d (List.replicate k z) b c = b + z * ((c - b) / z + 1)
  | 0, b, c, h1, h2 => by lia
  | k + 1, b, c, h1, h2 => by
    rw [List.replicate_succ, goM]
    by_cases h : c < b + z
    · rw [if_pos h, Nat.div_eq_of_lt (by lia)]; lia
    · rw [if_neg h, rep_std z d hz k (b + z) c (by (exact Nat.le_of_not_lt (by assumption))) (by rw [Nat.succ_mul] at h2; lia)]
      have e : (c - b) / z = (c - (b + z)) / z + 1 := by
        rw [show c - b = (c - (b + z)) + z by lia, Nat.add_div_right _ hz]
      rw [e, Nat.mul_add z ((c - (b + z)) / z + 1) 1]; lia
theorem go_take (z d K : Nat) (hz : 0 < z) : ∀ (F : List Nat) (n b c : Nat), b ≤ c → c < b + ((F ++ List.replicate K z).take n).sum → goM d ((F ++ List.replicate K z).take n) b c = std z F b c
  | [], n, b, c, h1, h2 => by
    rw [List.nil_append, List.take_replicate] at h2 ⊢
    rw [List.sum_replicate_nat] at h2
    exact rep_std z d hz _ b c h1 h2
  | f :: r, 0, b, c, h1, h2 => by simp at h2; lia
  | f :: r, n + 1, b, c, h1, h2 => by
    rw [List.cons_append, List.take_succ_cons] at h2 ⊢
    rw [goM, std]
    by_cases h : c < b + f
    · rw [if_pos h, if_pos h]
    · rw [if_neg h, if_neg h]
      exact go_take z d K hz r n (b + f) c (by (exact Nat.le_of_not_lt (by assumption))) (by rw [List.sum_cons] at h2; lia)
theorem go_end : ∀ (F : List Nat) (b c : Nat), b ≤ c → goM (c + 1) F b c = std 1 F b c
  | [], b, c, h => by simp [goM, std]; lia
  | f :: r, b, c, h => by
    rw [goM, std]
    split
    · rfl
    · exact go_end r (b + f) c (by (exact Nat.le_of_not_lt (by assumption)))
theorem go_le (d : Nat) : ∀ (R : List Nat) (j b c : Nat), j < R.length → c < b + (R.take (j + 1)).sum → goM d R b c ≤ b + (R.take (j + 1)).sum
  | [], j, b, c, h, _ => by simp at h
  | f :: r, j, b, c, h, h2 => by
    rw [goM]
    rw [List.take_succ_cons, List.sum_cons] at h2 ⊢
    split
    · lia
    · cases j with
      | zero => simp at h2; lia
      | succ j =>
        have := go_le d r j (b + f) c (by simpa using h) (by lia)
        lia
noncomputable def typedS (z : Nat) (F : List Nat) (text : List Nat) : Nat := text.foldl (fun c s => if s = 9 then std z F 0 c else c + 1) 0
theorem typed_fold {z K : Nat} {F : List Nat} (hz : 0 < z) (R : List Nat) (n : Nat) (hR : R = (F ++ List.replicate K z).take (n + 1)) (hl : R.length = n + 1) (hp : ∀ x ∈ R, 1 ≤ x) :
    ∀ (text : List Nat) (j c : Nat), j + text.length = n → c < (R.take (j + 1)).sum → text.foldl (fun c s => if s = 9 then nxt (marksB 0 R) c else c + 1) c = text.foldl (fun c s => if s = 9 then std z F 0 c else c + 1) c
  | [], j, c, h, h2 => rfl
  | s :: text, j, c, h, h2 => by
    rw [List.length_cons] at h
    have hj : j + 1 < R.length := by lia
    have e2 : (R.take (j + 1 + 1)).sum = (R.take (j + 1)).sum + R[j + 1] := by
      rw [List.take_add_one, List.getElem?_eq_getElem hj, List.sum_append]; simp
    have hp' := hp R[j + 1] (List.getElem_mem hj)
    rw [List.foldl_cons, List.foldl_cons]
    have hle : (R.take (j + 1)).sum ≤ R.sum := by
      have := congrArg List.sum (List.take_append_drop (j + 1) R)
      rw [List.sum_append] at this; lia
    by_cases hs : s = 9
    · rw [if_pos hs, if_pos hs]
      have e : nxt (marksB 0 R) c = std z F 0 c := by
        rw [nxt_go, hR]
        exact go_take z (c + 1) K hz F (n + 1) 0 c (Nat.zero_le _) (by rw [← hR]; lia)
      have hb : nxt (marksB 0 R) c ≤ (R.take (j + 1)).sum := by
        rw [nxt_go]
        have := go_le (c + 1) R j 0 c (by (exact Nat.le_of_lt (by assumption))) (by lia)
        lia
      rw [e] at hb ⊢
      exact typed_fold hz R n hR hl hp text (j + 1) (std z F 0 c) (by lia) (by lia)
    · rw [if_neg hs, if_neg hs]
      exact typed_fold hz R n hR hl hp text (j + 1) (c + 1) (by lia) (by lia)
theorem std_end (F : List Nat) (c : Nat) : nxt (marksB 0 F) c = std 1 F 0 c := by rw [nxt_go]; exact go_end F 0 c (Nat.zero_le _)
theorem fold_blanks (g : Nat → Nat) : ∀ (r c : Nat), (List.replicate r 32).foldl (fun c s => if s = 9 then g c else c + 1) c = c + r
  | 0, c => rfl
  | r + 1, c => by rw [List.replicate_succ, List.foldl_cons, if_neg (by decide), fold_blanks g r]; lia
theorem fold_lead (g : Nat → Nat) : ∀ (runs : List Nat) (blanks c : Nat), (leadText runs blanks).foldl (fun c s => if s = 9 then g c else c + 1) c = runs.foldl (fun c r => g (c + r)) c + blanks
  | [], blanks, c => by unfold leadText; simp [fold_blanks]
  | r :: runs, blanks, c => by
    have e : leadText (r :: runs) blanks = List.replicate r 32 ++ [9] ++ leadText runs blanks := by simp [leadText]
    rw [e, List.foldl_append, List.foldl_append, fold_blanks, List.foldl_cons, List.foldl_nil, if_pos rfl, fold_lead g runs blanks, List.foldl_cons]
theorem typed_stand (z : Nat) (F runs : List Nat) (blanks : Nat) : typedS z F (leadText runs blanks) = stand runs blanks F z := by
  unfold typedS stand
  rw [fold_lead]
  congr 1
  congr 1
  funext c r
  rw [stand_std]
end Mine
end
noncomputable section
namespace Mine
theorem gSeq_free (K : Nat) : ∀ (F : List Nat) (last : Option Nat), (∀ x ∈ F, x ≠ 0 ∧ x ≠ 127) → gSeq K last F = (F, .stop)
  | [], last, _ => by cases last <;> rfl
  | x :: r, last, h => by
    rw [gSeq_cons (h x (.head _)).2 (h x (.head _)).1, gSeq_free K r (some x) fun y hy => h y (.tail _ hy)]
theorem gSeq_stop (K : Nat) (rest : List Nat) : ∀ (F : List Nat) (last : Option Nat), (∀ x ∈ F, x ≠ 0 ∧ x ≠ 127) → gSeq K last (F ++ 127 :: rest) = (F, .stop)
  | [], last, _ => gSeq_max
  | x :: r, last, h => by
    rw [List.cons_append, gSeq_cons (h x (.head _)).2 (h x (.head _)).1, gSeq_stop K rest r (some x) fun y hy => h y (.tail _ hy)]
theorem gSeq_size (K z : Nat) (rest : List Nat) (hz : z ≠ 0 ∧ z ≠ 127) : ∀ (F : List Nat) (last : Option Nat), (∀ x ∈ F, x ≠ 0 ∧ x ≠ 127) → gSeq K last (F ++ z :: 0 :: rest) = (F ++ z :: List.replicate K z, .more)
  | [], last, _ => by rw [List.nil_append, gSeq_cons hz.2 hz.1, gSeq_more]; rfl
  | x :: r, last, h => by
    rw [List.cons_append, gSeq_cons (h x (.head _)).2 (h x (.head _)).1, gSeq_size K z rest hz r (some x) fun y hy => h y (.tail _ hy)]
    rfl
section
variable {F : List Nat} (hF : ∀ x ∈ F, 1 ≤ x ∧ x ≤ 100)
include hF
theorem F_ne : ∀ x ∈ F, x ≠ 0 ∧ x ≠ 127 := fun x hx => by have := hF x hx; lia
theorem ruler_size {z : Nat} (hz : 1 ≤ z) (hz' : z ≠ 127) (n : Nat) : rulerOf n (F ++ [z, 0, 9]) = (F ++ List.replicate (n + 3) z).take (n + 1) := by
  unfold rulerOf
  rw [gSeq_size _ z [9] ⟨by (exact Nat.ne_of_gt (by assumption)), hz'⟩ F none (F_ne hF)]
  rfl
theorem ruler_free (n : Nat) : rulerOf n F = F.take (n + 1) := by
  unfold rulerOf
  rw [gSeq_free _ F none (F_ne hF)]
theorem ruler_stop (n : Nat) (rest : List Nat) : rulerOf n (F ++ 127 :: rest) = F.take (n + 1) := by
  unfold rulerOf
  rw [gSeq_stop _ rest F none (F_ne hF)]
theorem rep_pos {z k : Nat} (hz : 1 ≤ z) : ∀ x ∈ F ++ List.replicate k z, 1 ≤ x := fun x hx => by
  rcases List.mem_append.mp hx with q | q
  · exact (hF x q).1
  · rw [List.eq_of_mem_replicate q]; exact hz
theorem Ruler.size {z : Nat} (hz : 1 ≤ z) (hz' : z ≠ 127) (n : Nat) : Ruler n (F ++ [z, 0, 9]) := by
  refine ⟨fun m => ?_, fun x hx => ?_⟩
  · rw [gSeq_size _ z [9] ⟨by lia, hz'⟩ F none (F_ne hF)]; nofun
  · rw [ruler_size hF hz hz'] at hx
    exact rep_pos hF hz x (List.mem_of_mem_take hx)
theorem Ruler.free (n : Nat) : Ruler n F := by
  refine ⟨fun m => ?_, fun x hx => ?_⟩
  · rw [gSeq_free _ F none (F_ne hF)]; nofun
  · rw [ruler_free hF] at hx
    exact (hF x (List.mem_of_mem_take hx)).1
theorem Ruler.stop (n : Nat) (rest : List Nat) : Ruler n (F ++ 127 :: rest) := by
  refine ⟨fun m => ?_, fun x hx => ?_⟩
  · rw [gSeq_stop _ rest F none (F_ne hF)]; nofun
  · rw [ruler_stop hF] at hx
    exact (hF x (List.mem_of_mem_take hx)).1
theorem tyN_size {z : Nat} (hz : 1 ≤ z) (hz' : z ≠ 127) (runs : List Nat) (blanks : Nat) : tyN (F ++ [z, 0, 9]) (leadText runs blanks) = stand runs blanks F z := by
  unfold tyN typedOf
  rw [stopsOf_marks, ruler_size hF hz hz', ← typed_stand]
  have hl : ((F ++ List.replicate ((leadText runs blanks).length + 3) z).take ((leadText runs blanks).length + 1)).length = (leadText runs blanks).length + 1 := by
    rw [List.length_take, List.length_append, List.length_replicate]; lia
  refine typed_fold hz _ (leadText runs blanks).length rfl hl (fun x hx => rep_pos hF hz x (List.mem_of_mem_take hx)) (leadText runs blanks) 0 0 (by (exact Nat.add_comm _ _)) ?_
  generalize hR : (F ++ List.replicate ((leadText runs blanks).length + 3) z).take ((leadText runs blanks).length + 1) = R at hl
  cases R with
  | nil => simp at hl
  | cons a r =>
    have := rep_pos hF hz a (List.mem_of_mem_take (by rw [hR]; exact .head _))
    rw [List.take_succ_cons, List.sum_cons]; assumption
theorem tyN_end (hl : F.length ≤ 2) (runs : List Nat) (blanks : Nat) (row : List Nat) (hr : rulerOf (leadText runs blanks).length row = F.take ((leadText runs blanks).length + 1)) : tyN row (leadText runs blanks) = stand runs blanks F 1 := by
  unfold tyN typedOf
  rw [stopsOf_marks, hr, ← typed_stand]
  unfold typedS
  cases ht : leadText runs blanks with
  | nil => rfl
  | cons s t =>
    rw [List.take_of_length_le (by rw [List.length_cons]; lia)]
    congr 1
    funext c s
    rw [std_end]
end
end Mine
end
noncomputable section
namespace Mine
theorem std_shift (z k : Nat) : ∀ (F : List Nat) (b c : Nat), std z F (b + k) (c + k) = std z F b c + k
  | [], b, c => by simp only [std]; rw [Nat.add_sub_add_right]; lia
  | f :: r, b, c => by
    rw [std, std]
    have e : b + k + f = b + f + k := by lia
    rw [e, std_shift z k r (b + f) c]
    by_cases h : c < b + f
    · rw [if_pos (by lia), if_pos h]
    · rw [if_neg (by lia), if_neg h]
noncomputable abbrev foldS (z : Nat) (F : List Nat) (c : Nat) (runs : List Nat) : Nat := runs.foldl (fun c r => std z F 0 (c + r)) c
theorem stand_fold (z : Nat) (F runs : List Nat) (bl : Nat) : stand runs bl F z = foldS z F 0 runs + bl := by
  unfold stand
  congr 2
  funext c r
  rw [stand_std]
theorem fold_shift (z f : Nat) (F : List Nat) : ∀ (runs : List Nat) (c : Nat), foldS z (f :: F) (c + f) runs = foldS z F c runs + f
  | [], c => rfl
  | r :: rs, c => by
    show foldS z (f :: F) (std z (f :: F) 0 (c + f + r)) rs = foldS z F (std z F 0 (c + r)) rs + f
    have e : std z (f :: F) 0 (c + f + r) = std z F 0 (c + r) + f := by
      rw [std, if_neg (by lia), show c + f + r = c + r + f by lia, std_shift]
    rw [e, fold_shift z f F rs]
theorem fold_even (z : Nat) (hz : 0 < z) : ∀ (runs : List Nat) (k : Nat), foldS z [] (z * k) runs = z * (k + (runs.map fun r => r / z + 1).sum)
  | [], k => by simp
  | r :: rs, k => by
    show foldS z [] (std z [] 0 (z * k + r)) rs = _
    have e : std z [] 0 (z * k + r) = z * (k + (r / z + 1)) := by
      rw [std, Nat.zero_add, Nat.sub_zero, Nat.mul_add_div hz]; rfl
    rw [e, fold_even z hz rs, List.map_cons, List.sum_cons]
    congr 1; lia
theorem left_stand (z : Nat) (hz : 0 < z) : ∀ (F runs : List Nat) (bl g : Nat), foldS z F 0 runs + bl + g = z * ((leftGo F ⟨runs, bl, g⟩).runs.map fun r => r / z + 1).sum + ((leftGo F ⟨runs, bl, g⟩).blanks + (leftGo F ⟨runs, bl, g⟩).ground)
  | [], runs, bl, g => by
    have := fold_even z hz runs 0
    rw [Nat.mul_zero, Nat.zero_add] at this
    rw [this]; simp only [leftGo]; lia
  | f :: F, [], bl, g => by
    unfold leftGo
    split
    · simp [foldS]
    · have := left_stand z hz F [] (bl - f) (g + f)
      rw [← this]
      show 0 + bl + g = 0 + (bl - f) + (g + f)
      lia
  | f :: F, r :: rs, bl, g => by
    unfold leftGo
    rw [← left_stand z hz F _ bl (g + f)]
    have key : foldS z (f :: F) 0 (r :: rs) = foldS z F 0 (if r < f then rs else (r - f) :: rs) + f := by
      show foldS z (f :: F) (std z (f :: F) 0 (0 + r)) rs = _
      by_cases h : r < f
      · rw [if_pos h, std, if_pos (by lia)]
        exact fold_shift z f F rs 0
      · rw [if_neg h, std, if_neg (by lia)]
        have e : std z F (0 + f) (0 + r) = std z F 0 (0 + (r - f)) + f := by
          rw [show 0 + r = (0 + (r - f)) + f by lia, std_shift]
        rw [e, fold_shift z f F rs]
        rfl
    rw [key]; lia
noncomputable def mvR (F : List Nat) (L : List Nat × Nat) : List Nat := (leftGo F ⟨L.1, L.2, 0⟩).runs
noncomputable def mvB (F : List Nat) (L : List Nat × Nat) : Nat := (leftGo F ⟨L.1, L.2, 0⟩).blanks + (leftGo F ⟨L.1, L.2, 0⟩).ground
theorem moved_lead (F : List Nat) (L : List Nat × Nat) : movedN (cutN F L) = leadText (mvR F L) (mvB F L) := by
  unfold movedN cutN mvR mvB leadText
  rw [List.append_assoc, List.replicate_append_replicate]
noncomputable def evenI (z : Nat) (rs : List Nat) (b : Nat) : Nat := z * (rs.map fun r => r / z + 1).sum + b
theorem stand_even (z : Nat) (hz : 0 < z) (F : List Nat) (L : List Nat × Nat) : stand L.1 L.2 F z = evenI z (mvR F L) (mvB F L) := by
  rw [stand_fold]
  exact left_stand z hz F L.1 L.2 0
theorem bump_length (c : List Nat) (b : Nat) : (bump c b).length = max c.length (b + 1) := by
  unfold bump stretch
  rw [List.length_set]
  split
  · rw [List.length_append, List.length_replicate]; lia
  · lia
theorem stretch_get (c : List Nat) (b i : Nat) : (stretch c b).getD i 0 = c.getD i 0 := by
  unfold stretch
  split
  · rw [List.getD_eq_getElem?_getD, List.getD_eq_getElem?_getD]
    by_cases h : i < c.length
    · rw [List.getElem?_append_left h]
    · rw [List.getElem?_append_right (by (exact Nat.le_of_not_lt (by assumption))), show c[i]? = none from List.getElem?_eq_none (by (exact Nat.le_of_not_lt (by assumption))), List.getElem?_replicate]
      split <;> rfl
  · rfl
theorem bump_get (c : List Nat) (b i : Nat) : (bump c b).getD i 0 = c.getD i 0 + if b = i then 1 else 0 := by
  have hl := stretch_len c b
  have hs := stretch_get c b
  unfold bump
  rw [List.getD_eq_getElem?_getD, List.getElem?_set]
  by_cases h : b = i
  · subst h
    rw [if_pos rfl, if_pos hl, if_pos rfl, hs]; rfl
  · rw [if_neg h, if_neg h, ← List.getD_eq_getElem?_getD, hs]; rfl
noncomputable def hist (rs : List Nat) : List Nat := rs.foldl bump []
theorem hist_gen : ∀ (rs c : List Nat), (∀ i, (rs.foldl bump c).getD i 0 = c.getD i 0 + rs.count i) ∧ (rs.foldl bump c).length = rs.foldl (fun l r => max l (r + 1)) c.length
  | [], c => ⟨fun i => by simp, rfl⟩
  | r :: rs, c => by
    refine el0_2 (hist_gen rs (bump c r)) fun h1 h2 => ?_
    refine ⟨fun i => ?_, ?_⟩
    · rw [List.foldl_cons, h1 i, bump_get, List.count_cons]
      by_cases h : r = i
      · subst h; simp; lia
      · have : (r == i) = false := by simpa using h
        rw [if_neg h, this]; simp
    · rw [List.foldl_cons, h2, bump_length]; rfl
theorem hist_get (rs : List Nat) (i : Nat) : (hist rs).getD i 0 = rs.count i := by
  have := (hist_gen rs []).1 i
  simpa [hist] using this
noncomputable def top1 (rs : List Nat) : Nat := rs.foldl (fun l r => max l (r + 1)) 0
theorem hist_len (rs : List Nat) : (hist rs).length = top1 rs := (hist_gen rs []).2
theorem run_blanks : ∀ (r : Nat) (st : Ws4), (List.replicate r 32).foldl wsStep st = ⟨st.n + r, st.nt, st.count, st.b + r⟩
  | 0, st => rfl
  | r + 1, st => by
    rw [List.replicate_succ, List.foldl_cons, run_blanks r]
    unfold wsStep
    rw [if_pos rfl]
    simp only [Ws4.mk.injEq, true_and]
    lia
theorem run_lead : ∀ (rs : List Nat) (b n nt : Nat) (c : List Nat), (leadText rs b).foldl wsStep ⟨n, nt, c, 0⟩ = ⟨n + (rs.map (· + 1)).sum + b, nt + rs.length, rs.foldl bump c, b⟩
  | [], b, n, nt, c => by
    show (([] : List (List Nat)).flatten ++ List.replicate b 32).foldl wsStep _ = _
    rw [List.flatten_nil, List.nil_append, run_blanks]
    simp
  | r :: rs, b, n, nt, c => by
    have e : leadText (r :: rs) b = List.replicate r 32 ++ [9] ++ leadText rs b := by simp [leadText]
    rw [e, List.foldl_append, List.foldl_append, run_blanks, List.foldl_cons, List.foldl_nil]
    have e2 : wsStep ⟨n + r, nt, c, 0 + r⟩ 9 = ⟨n + r + 1, nt + 1, bump c r, 0⟩ := by
      unfold wsStep; rw [if_neg (by decide), Nat.zero_add]
    rw [e2, run_lead rs b]
    simp only [Ws4.mk.injEq, List.map_cons, List.sum_cons, List.length_cons, List.foldl_cons, and_true, true_and]
    lia
theorem wsRun_lead (rs : List Nat) (b : Nat) : wsRun (leadText rs b) = ⟨(rs.map (· + 1)).sum + b, rs.length, hist rs, b⟩ := by
  unfold wsRun
  rw [run_lead]
  simp [hist]
theorem sum_add {α : Type} (f g : α → Nat) : ∀ l : List α, (l.map fun i => f i + g i).sum = (l.map f).sum + (l.map g).sum
  | [] => rfl
  | a :: l => by simp only [List.map_cons, List.sum_cons, sum_add f g l]; lia
theorem sum_zero {α : Type} (f : α → Nat) : ∀ l : List α, (∀ i ∈ l, f i = 0) → (l.map f).sum = 0
  | [], _ => rfl
  | a :: l, h => by
    rw [List.map_cons, List.sum_cons, h a (.head _), sum_zero f l fun i hi => h i (.tail _ hi)]
theorem sum_ones : ∀ l : List Nat, (l.map fun _ => 1).sum = l.length
  | [] => rfl
  | a :: l => by rw [List.map_cons, List.sum_cons, sum_ones l, List.length_cons]; (exact Nat.add_comm _ _)
theorem sum_one (f : Nat → Nat) (r : Nat) : ∀ len, r < len → ((List.range len).map fun i => f i * if r = i then 1 else 0).sum = f r
  | 0, h => by lia
  | n + 1, h => by
    rw [List.range_succ, List.map_append, List.sum_append]
    by_cases hr : r = n
    · subst hr
      rw [sum_zero _ _ fun i hi => by rw [if_neg (by have := List.mem_range.mp hi; (exact Nat.ne_of_gt (by assumption)))]; rfl]
      simp
    · rw [sum_one f r n (by lia)]
      simp [hr]
theorem sum_count (f : Nat → Nat) (len : Nat) : ∀ rs : List Nat, (∀ r ∈ rs, r < len) → ((List.range len).map fun i => f i * rs.count i).sum = (rs.map f).sum
  | [], _ => sum_zero _ _ fun i _ => by simp
  | r :: rs, h => by
    have e : (fun i => f i * (r :: rs).count i) = fun i => f i * rs.count i + f i * if r = i then 1 else 0 := by
      funext i
      rw [List.count_cons, Nat.mul_add]
      by_cases q : r = i
      · simp [q]
      · have : (r == i) = false := by simpa using q
        rw [this, if_neg q]; rfl
    rw [e, sum_add, sum_count f len rs fun x hx => h x (.tail _ hx), sum_one f r len (h r (.head _)), List.map_cons, List.sum_cons]
    (exact Nat.add_comm _ _)
theorem top1_gen : ∀ (rs : List Nat) (l : Nat), l ≤ rs.foldl (fun l r => max l (r + 1)) l ∧ (∀ r ∈ rs, r < rs.foldl (fun l r => max l (r + 1)) l) ∧ (rs.foldl (fun l r => max l (r + 1)) l = l ∨ ∃ r ∈ rs, rs.foldl (fun l r => max l (r + 1)) l = r + 1)
  | [], l => ⟨Nat.le_refl _, fun _ h => (nomatch h), .inl rfl⟩
  | a :: rs, l => by
    refine el0_3 (top1_gen rs (max l (a + 1))) fun h1 h2 h3 => ?_
    rw [List.foldl_cons]
    refine ⟨by lia, fun r hr => ?_, ?_⟩
    · rcases List.mem_cons.mp hr with rfl | hr
      · lia
      · exact h2 r hr
    · rcases h3 with h3 | ⟨r, hr, h3⟩
      · rw [h3]
        rcases Nat.le_total l (a + 1) with q | q
        · exact .inr ⟨a, .head _, by lia⟩
        · exact .inl (by lia)
      · exact .inr ⟨r, .tail _ hr, h3⟩
theorem top1_lt {rs : List Nat} {r : Nat} (h : r ∈ rs) : r < top1 rs := (top1_gen rs 0).2.1 r h
theorem top1_is (rs : List Nat) : (rs = [] ∧ top1 rs = 0) ∨ ∃ r ∈ rs, top1 rs = r + 1 := by
  rcases (top1_gen rs 0).2.2 with h | h
  · cases rs with
    | nil => exact .inl ⟨rfl, rfl⟩
    | cons a l => have := (top1_gen (a :: l) 0).2.1 a (.head _); omega
  · exact .inr h
theorem indent_even {ts : Nat} (hz : 0 < ts) (raw rs : List Nat) (b : Nat) : indentL (wsD raw (leadText rs b)) ts = evenI ts rs b := by
  unfold indentL wsD evenI
  rw [wsRun_lead]
  show b + ts * (((List.range' ts ((hist rs).length - ts)).map fun i => i / ts * (hist rs).getD i 0).sum + rs.length) = _
  have e1 : ((List.range' ts ((hist rs).length - ts)).map fun i => i / ts * (hist rs).getD i 0).sum = ((List.range (hist rs).length).map fun i => i / ts * rs.count i).sum := by
    have e0 : (fun i => i / ts * (hist rs).getD i 0) = fun i => i / ts * rs.count i := by funext i; rw [hist_get]
    rw [e0]
    by_cases h : ts ≤ (hist rs).length
    · have e : List.range (hist rs).length = List.range ts ++ List.range' ts ((hist rs).length - ts) := by
        rw [List.range_eq_range', List.range_eq_range']
        have := List.range'_append_1 (s := 0) (m := ts) (n := (hist rs).length - ts)
        rw [Nat.zero_add] at this
        rw [this]; congr 1; omega
      rw [e, List.map_append, List.sum_append, sum_zero _ (List.range ts) fun i hi => by rw [Nat.div_eq_of_lt (List.mem_range.mp hi), Nat.zero_mul], Nat.zero_add]
    · rw [show (hist rs).length - ts = 0 by omega]
      rw [sum_zero _ (List.range (hist rs).length) fun i hi => by rw [Nat.div_eq_of_lt (by have := List.mem_range.mp hi; omega), Nat.zero_mul]]
      rfl
  rw [e1, hist_len, sum_count (fun i => i / ts) (top1 rs) rs fun r hr => top1_lt hr]
  have e2 : (rs.map fun r => r / ts + 1).sum = (rs.map fun r => r / ts).sum + rs.length := by
    rw [sum_add, sum_ones]
  rw [e2]; (exact Nat.add_comm _ _)
end Mine
end
noncomputable section
namespace Mine
theorem wsOf_count (rs : List Nat) (b : Nat) : (wsOf (leadText rs b)).count = hist rs := by unfold wsOf wsD; rw [wsRun_lead]
theorem wsOf_b (rs : List Nat) (b : Nat) : (wsOf (leadText rs b)).b = b := by unfold wsOf wsD; rw [wsRun_lead]
theorem wsOf_nt (rs : List Nat) (b : Nat) : (wsOf (leadText rs b)).nt = rs.length := by unfold wsOf wsD; rw [wsRun_lead]
theorem wsOf_n (rs : List Nat) (b : Nat) : (wsOf (leadText rs b)).n = (rs.map (· + 1)).sum + b := by unfold wsOf wsD; rw [wsRun_lead]
theorem wsOf_indent {ts : Nat} (h : 0 < ts) (rs : List Nat) (b : Nat) : indentL (wsOf (leadText rs b)) ts = evenI ts rs b := indent_even h _ rs b
noncomputable def longR (rs : List Nat) (b : Nat) : Nat := max (top1 rs - 1) b
theorem wsOf_long (rs : List Nat) (b : Nat) : longRun (wsOf (leadText rs b)) = longR rs b := by
  unfold longRun longR; rw [wsOf_count, wsOf_b, hist_len]
theorem split_run (x : List Nat) : ∀ r, splitC 9 (List.replicate r 32 ++ 9 :: x) = List.replicate r 32 :: splitC 9 x
  | 0 => by simp [splitC]
  | r + 1 => by
    rw [List.replicate_succ, List.cons_append]
    rw [splitC, if_neg (by decide), split_run x r]
theorem split_end : ∀ r, splitC 9 (List.replicate r 32) = [List.replicate r 32]
  | 0 => rfl
  | r + 1 => by rw [List.replicate_succ, splitC, if_neg (by decide), split_end r]
theorem lead_cons (r : Nat) (rs : List Nat) (b : Nat) : leadText (r :: rs) b = List.replicate r 32 ++ 9 :: leadText rs b := by simp [leadText]
theorem lead_nil (b : Nat) : leadText [] b = List.replicate b 32 := by simp [leadText]
theorem split_lead (x : List Nat) : ∀ (rs : List Nat) (b : Nat), (splitC 9 (leadText rs b ++ 9 :: x)).map List.length = rs ++ b :: (splitC 9 x).map List.length
  | [], b => by rw [lead_nil, split_run]; simp
  | r :: rs, b => by
    rw [lead_cons, List.append_assoc, List.cons_append, split_run, List.map_cons, split_lead x rs b]; simp
theorem split_lead1 : ∀ (rs : List Nat) (b : Nat), (splitC 9 (leadText rs b)).map List.length = rs ++ [b]
  | [], b => by rw [lead_nil, split_end]; simp
  | r :: rs, b => by rw [lead_cons, split_run, List.map_cons, split_lead1 rs b]; simp
theorem maxOf_le {l : List Nat} {m : Nat} (h : ∀ a ∈ l, a ≤ m) : maxOf l ≤ m := by
  cases l with
  | nil => exact Nat.zero_le _
  | cons a r => exact h _ (maxOf_mem (by simp))
theorem le_maxOf {l : List Nat} {a : Nat} (h : a ∈ l) : a ≤ maxOf l := (foldl_max l 0).2.1 a h
theorem top1_le {rs : List Nat} {m : Nat} (h : ∀ r ∈ rs, r ≤ m) : top1 rs - 1 ≤ m :=
  (top1_is rs).elim (fun y => by rw [y.2]; exact Nat.zero_le _) fun y => y.elim fun r y => by rw [y.2]; exact h r y.1
theorem longest_lead (rs rs' : List Nat) (b b' : Nat) : longestN (leadText rs b) (leadText rs' b') = max (longR rs b) (longR rs' b') := by
  unfold longestN
  rw [split_lead, split_lead1]
  unfold longR
  apply Nat.le_antisymm
  · refine maxOf_le fun a ha => ?_
    refine (List.mem_append.mp ha).elim (fun h => Nat.le_trans (Nat.le_sub_one_of_lt (top1_lt h)) (Nat.le_trans (Nat.le_max_left _ _) (Nat.le_max_left _ _))) fun ha => (List.mem_cons.mp ha).elim (fun e => e ▸ Nat.le_trans (Nat.le_max_right _ _) (Nat.le_max_left _ _)) fun ha => ?_
    exact (List.mem_append.mp ha).elim (fun h => Nat.le_trans (Nat.le_sub_one_of_lt (top1_lt h)) (Nat.le_trans (Nat.le_max_left _ _) (Nat.le_max_right _ _))) fun ha => List.mem_singleton.mp ha ▸ Nat.le_trans (Nat.le_max_right _ _) (Nat.le_max_right _ _)
  · exact Nat.max_le.mpr ⟨Nat.max_le.mpr ⟨top1_le fun r hr => le_maxOf (List.mem_append_left _ hr), le_maxOf (List.mem_append_right _ (.head _))⟩, Nat.max_le.mpr ⟨top1_le fun r hr => le_maxOf (List.mem_append_right _ (.tail _ (List.mem_append_left _ hr))), le_maxOf (List.mem_append_right _ (.tail _ (List.mem_append_right _ (.head _))))⟩⟩
theorem bt_ne {c : Nat} (h : c ≠ 32) : ∀ x, bt (c :: x) = bt x
  | [] => rfl
  | d :: r => by rw [bt, decide_eq_false h]; simp
theorem bt_run (x : List Nat) : ∀ r, bt (List.replicate r 32 ++ 9 :: x) = (decide (1 ≤ r) || bt x)
  | 0 => by rw [List.replicate_zero, List.nil_append, bt_ne (by decide)]; simp
  | 1 => by simp [bt]
  | r + 2 => by
    have ih := bt_run x (r + 1)
    rw [List.replicate_succ, List.cons_append, List.replicate_succ, List.cons_append, bt]
    rw [List.replicate_succ, List.cons_append] at ih
    rw [ih]; simp
theorem bt_end : ∀ r, bt (List.replicate r 32) = false
  | 0 => rfl
  | 1 => rfl
  | r + 2 => by
    have ih := bt_end (r + 1)
    rw [List.replicate_succ, List.replicate_succ, bt]
    rw [List.replicate_succ] at ih
    rw [ih]; decide
theorem bt_lead : ∀ (rs : List Nat) (b : Nat), bt (leadText rs b) = true ↔ ∃ r ∈ rs, 1 ≤ r
  | [], b => by rw [lead_nil, bt_end]; simp
  | r :: rs, b => by
    rw [lead_cons, bt_run, Bool.or_eq_true, decide_eq_true_iff, bt_lead rs b]
    simp
theorem simple_lead (rs : List Nat) (b : Nat) : decide ((wsOf (leadText rs b)).count.length ≤ 1) = !bt (leadText rs b) := by
  rw [wsOf_count, hist_len, Bool.eq_iff_iff, decide_eq_true_iff, Bool.not_eq_true', ← Bool.not_eq_true, bt_lead]
  constructor
  · rintro h ⟨r, hr, h1⟩
    have := top1_lt hr; lia
  · intro h
    rcases top1_is rs with ⟨_, q⟩ | ⟨r, hr, q⟩
    · lia
    · have : ¬ 1 ≤ r := fun z => h ⟨r, hr, z⟩
      lia
theorem rows_map (sizes : List Nat) (f g : Nat → Nat) : rowsN sizes (sizes.map f) (sizes.map g) = sizes.map fun z => (z, f z, g z) := by
  unfold rowsN
  rw [List.zip_map']
  have := List.zip_map' (f := fun z : Nat => z) (g := fun z => (f z, g z)) (l := sizes)
  rw [List.map_id'] at this
  exact this
theorem wit_rows (q : Nat × Nat × Nat → Bool) (h : Nat → Nat × Nat × Nat) : ∀ A : List Nat, (A.filterMap fun z => if q (h z) = true then some (h z) else none) = (A.map h).filter q
  | [] => rfl
  | a :: r => by
    rw [List.map_cons, List.filter_cons, List.filterMap_cons, wit_rows q h r]
    by_cases hq : q (h a) = true
    · rw [if_pos hq, if_pos hq]
    · rw [if_neg hq, if_neg hq]
theorem wit_all (p : Nat → Nat → Bool) (d e : WsD) (lg c3 : Nat) (ht : topTs d e = lg + 1) :
    witL p d e = (rowsN (sizesN lg c3) ((sizesN lg c3).map (indentL d)) ((sizesN lg c3).map (indentL e))).dropLast.filter (fun t => p t.2.1 t.2.2) := by
  rw [rows_map]
  unfold sizesN witL
  rw [List.map_append, List.map_cons, List.map_nil, List.dropLast_concat, ht]
  exact wit_rows (fun t => p t.2.1 t.2.2) (fun z => (z, indentL d z, indentL e z)) (List.range' 1 (lg + 1))
end Mine
end
noncomputable section
namespace Mine
theorem sum_add1 (z : Nat) (rs : List Nat) : (rs.map fun r => r / z + 1).sum = (rs.map fun r => r / z).sum + rs.length := by rw [sum_add, sum_ones]
theorem div_zero_sum {z : Nat} {rs : List Nat} (h : ∀ r ∈ rs, r < z) : (rs.map fun r => r / z).sum = 0 := sum_zero _ _ fun r hr => Nat.div_eq_of_lt (h r hr)
theorem even_big {z : Nat} {rs : List Nat} (b : Nat) (h : ∀ r ∈ rs, r < z) : evenI z rs b = z * rs.length + b := by
  unfold evenI; rw [sum_add1, div_zero_sum h, Nat.zero_add]
theorem big_lt {rs : List Nat} {b z : Nat} (h : longR rs b < z) : (∀ r ∈ rs, r < z) ∧ b < z := by
  unfold longR at h
  refine ⟨fun r hr => ?_, by omega⟩
  have := top1_lt hr; omega
theorem perm_sum {l l' : List Nat} (f : Nat → Nat) (h : l.Perm l') : (l.map f).sum = (l'.map f).sum := by
  induction h with
  | nil => rfl
  | cons x _ ih => simp only [List.map_cons, List.sum_cons, ih]
  | swap x y l => simp only [List.map_cons, List.sum_cons]; lia
  | trans _ _ h1 h2 => exact h1.trans h2
theorem perm_hist {l l' : List Nat} (h : l.Perm l') : hist l = hist l' := by
  have ht : top1 l = top1 l' := by
    apply Nat.le_antisymm
    · rcases top1_is l with ⟨_, q⟩ | ⟨r, hr, q⟩
      · lia
      · have := top1_lt (h.mem_iff.mp hr); lia
    · rcases top1_is l' with ⟨_, q⟩ | ⟨r, hr, q⟩
      · lia
      · have := top1_lt (h.mem_iff.mpr hr); lia
  have hl : (hist l).length = (hist l').length := by rw [hist_len, hist_len, ht]
  apply List.ext_getElem hl
  intro i h1 h2
  have e1 := hist_get l i
  have e2 := hist_get l' i
  rw [List.getD_eq_getElem?_getD, List.getElem?_eq_getElem h1] at e1
  rw [List.getD_eq_getElem?_getD, List.getElem?_eq_getElem h2] at e2
  simp only [Option.getD_some] at e1 e2
  rw [e1, e2, h.count_eq]
theorem hist_perm {l l' : List Nat} (h : hist l = hist l') : l.Perm l' := by
  rw [List.perm_iff_count]
  intro i
  rw [← hist_get l i, ← hist_get l' i, h]
theorem small_perm {l l' : List Nat} (h : ∀ r ∈ l, r ≤ 4) (h' : ∀ r ∈ l', r ≤ 4) (hl : l.length = l'.length) (hs : ∀ z, 0 < z → (l.map fun r => r / z).sum = (l'.map fun r => r / z).sum) : l.Perm l' := by
  have key : ∀ z, 0 < z → ((List.range 5).map fun i => i / z * l.count i).sum = ((List.range 5).map fun i => i / z * l'.count i).sum := fun z hz => by
    rw [sum_count (fun i => i / z) 5 l fun r hr => by have := h r hr; (exact Nat.lt_succ_of_le (by assumption)), sum_count (fun i => i / z) 5 l' fun r hr => by have := h' r hr; (exact Nat.lt_succ_of_le (by assumption))]
    exact hs z hz
  have key0 : ((List.range 5).map fun i => 1 * l.count i).sum = ((List.range 5).map fun i => 1 * l'.count i).sum := by
    rw [sum_count (fun _ => 1) 5 l fun r hr => by have := h r hr; (exact Nat.lt_succ_of_le (by assumption)), sum_count (fun _ => 1) 5 l' fun r hr => by have := h' r hr; (exact Nat.lt_succ_of_le (by assumption)), sum_ones, sum_ones, hl]
  have k1 := key 1 (by decide)
  have k2 := key 2 (by decide)
  have k3 := key 3 (by decide)
  have k4 := key 4 (by decide)
  have er : List.range 5 = [0, 1, 2, 3, 4] := by decide
  rw [er] at k1 k2 k3 k4 key0
  simp only [List.map_cons, List.map_nil, List.sum_cons, List.sum_nil, Nat.div_one, Nat.one_mul, Nat.zero_div, Nat.zero_mul, Nat.zero_add, Nat.add_zero] at k1 k2 k3 k4 key0
  simp only [Nat.reduceDiv, Nat.zero_mul, Nat.one_mul, Nat.zero_add] at k2 k3 k4
  rw [List.perm_iff_count]
  intro i
  by_cases hi : i ≤ 4
  · have : i = 0 ∨ i = 1 ∨ i = 2 ∨ i = 3 ∨ i = 4 := by lia
    have e4 : l.count 4 = l'.count 4 := k4
    rw [e4] at k3 k2 k1 key0
    have e3 : l.count 3 = l'.count 3 := Nat.add_right_cancel k3
    rw [e3] at k2 k1 key0
    have e2 : l.count 2 = l'.count 2 := Nat.add_right_cancel k2
    rw [e2] at k1 key0
    have e1 : l.count 1 = l'.count 1 := Nat.add_right_cancel k1
    rw [e1] at key0
    rcases this with rfl | rfl | rfl | rfl | rfl
    · exact Nat.add_right_cancel key0
    · exact e1
    · exact e2
    · exact e3
    · exact e4
  · rw [List.count_eq_zero_of_not_mem fun q => hi (h i q), List.count_eq_zero_of_not_mem fun q => hi (h' i q)]
theorem mem_sizes {lg c3 z : Nat} : z ∈ sizesN lg c3 ↔ (1 ≤ z ∧ z ≤ lg + 1) ∨ z = 128 + c3 := by
  unfold sizesN
  rw [List.mem_append, List.mem_range', List.mem_singleton]
  constructor
  · rintro (⟨i, hi, rfl⟩ | h)
    · exact .inl (by lia)
    · exact .inr h
  · rintro (h | h)
    · exact .inl ⟨z - 1, by lia, by lia⟩
    · exact .inr h
section
variable {rs rs' : List Nat} {b b' lg c3 : Nat} (h : ∀ r ∈ rs, r ≤ 4) (h' : ∀ r ∈ rs', r ≤ 4) (hlg : lg = max (longR rs b) (longR rs' b'))
include hlg
theorem top_big : ((∀ r ∈ rs, r < lg + 1) ∧ b < lg + 1) ∧ ((∀ r ∈ rs', r < lg + 1) ∧ b' < lg + 1) := ⟨big_lt (by lia), big_lt (by lia)⟩
include h h'
theorem even_inj (e : (sizesN lg c3).map (fun z => evenI z rs b) = (sizesN lg c3).map (fun z => evenI z rs' b')) : rs.Perm rs' ∧ b = b' := by
  refine el0_3 (top_big hlg) fun y1 B3 B4 => ?_; refine el0_2 (y1) fun B1 B2 => ?_
  have at' : ∀ z ∈ sizesN lg c3, evenI z rs b = evenI z rs' b' := List.map_inj_left.mp e
  have eT := at' (lg + 1) (mem_sizes.mpr (.inl (by lia)))
  rw [even_big b B1, even_big b' B3] at eT
  have hb : b = b' := by
    have := congrArg (· % (lg + 1)) eT
    simp only [Nat.mul_add_mod] at this
    rwa [Nat.mod_eq_of_lt B2, Nat.mod_eq_of_lt B4] at this
  have hk : rs.length = rs'.length := by
    rw [hb] at eT
    exact Nat.eq_of_mul_eq_mul_left (by (exact Nat.succ_pos _)) (Nat.add_right_cancel eT)
  refine ⟨small_perm h h' hk fun z hz => ?_, hb⟩
  by_cases hzT : z ≤ lg + 1
  · have ez := at' z (mem_sizes.mpr (.inl ⟨hz, hzT⟩))
    unfold evenI at ez
    rw [hb] at ez
    have := Nat.eq_of_mul_eq_mul_left hz (Nat.add_right_cancel ez)
    rw [sum_add1, sum_add1] at this
    lia
  · rw [div_zero_sum fun r hr => by have := B1 r hr; lia, div_zero_sum fun r hr => by have := B3 r hr; lia]
theorem equal_iff : decide ((hist rs, b) = (hist rs', b')) = decide ((sizesN lg c3).map (fun z => evenI z rs b) = (sizesN lg c3).map (fun z => evenI z rs' b')) := by
  rw [Bool.eq_iff_iff, decide_eq_true_iff, decide_eq_true_iff]
  constructor
  · intro e
    refine el0_2 (Prod.mk.injEq .. ▸ e) fun e1 e2 => ?_
    subst e2
    refine List.map_congr_left fun z _ => ?_
    unfold evenI
    rw [perm_sum _ (hist_perm e1)]
  · intro e
    refine el0_2 (even_inj h h' hlg e) fun e1 e2 => ?_
    rw [perm_hist e1, e2]
end
theorem n_even (rs : List Nat) (b : Nat) : evenI 1 rs b = (rs.map (· + 1)).sum + b := by
  unfold evenI
  rw [Nat.one_mul]
  congr 3
  funext r
  rw [Nat.div_one]
section
variable {rs rs' : List Nat} {b b' lg c3 : Nat} (hlg : lg = max (longR rs b) (longR rs' b'))
include hlg
theorem great_lt (hT : evenI (lg + 1) rs b < evenI (lg + 1) rs' b') {Z : Nat} (hZ : lg + 1 ≤ Z) : evenI Z rs b < evenI Z rs' b' := by
  refine el0_3 (top_big hlg) fun y2 B3 B4 => ?_; refine el0_2 (y2) fun B1 B2 => ?_
  rw [even_big b B1, even_big b' B3] at hT
  rw [even_big b fun r hr => by have := B1 r hr; (exact Nat.lt_of_lt_of_le (by assumption) (by assumption)), even_big b' fun r hr => by have := B3 r hr; (exact Nat.lt_of_lt_of_le (by assumption) (by assumption))]
  have hk : rs.length ≤ rs'.length := by
    apply Decidable.byContradiction
    intro q
    have : (lg + 1) * (rs'.length + 1) ≤ (lg + 1) * rs.length := Nat.mul_le_mul_left _ (by (exact Nat.lt_of_not_le (by assumption)))
    rw [Nat.mul_add] at this
    lia
  refine el1_1 (Nat.exists_eq_add_of_le hZ) fun d y3 => ?_; obtain rfl := y3
  have : d * rs.length ≤ d * rs'.length := Nat.mul_le_mul_left _ hk
  rw [Nat.add_mul (lg + 1) d rs.length, Nat.add_mul (lg + 1) d rs'.length]
  lia
theorem less_iff : (if (rs'.map (· + 1)).sum + b' ≤ (rs.map (· + 1)).sum + b then false else if decide ((hist rs).length ≤ 1) && decide ((hist rs').length ≤ 1) then decide (rs.length ≤ rs'.length) else (List.range' 2 lg).all fun ts => decide (evenI ts rs b < evenI ts rs' b'))
    = decide (∀ z ∈ sizesN lg c3, evenI z rs b < evenI z rs' b') := by
  rw [← n_even, ← n_even, Bool.eq_iff_iff, decide_eq_true_iff]
  by_cases h1 : evenI 1 rs' b' ≤ evenI 1 rs b
  · rw [if_pos h1]
    constructor
    · intro q; cases q
    · intro q
      have := q 1 (mem_sizes.mpr (.inl (by lia)))
      lia
  · rw [if_neg h1]
    by_cases hs : (decide ((hist rs).length ≤ 1) && decide ((hist rs').length ≤ 1)) = true
    · rw [if_pos hs, decide_eq_true_iff]
      rw [Bool.and_eq_true, decide_eq_true_iff, decide_eq_true_iff, hist_len, hist_len] at hs
      have z1 : ∀ r ∈ rs, r < 1 := fun r hr => by have := top1_lt hr; lia
      have z2 : ∀ r ∈ rs', r < 1 := fun r hr => by have := top1_lt hr; lia
      have ev : ∀ z, 1 ≤ z → evenI z rs b = z * rs.length + b ∧ evenI z rs' b' = z * rs'.length + b' := fun z hz => ⟨even_big b fun r hr => by have := z1 r hr; (exact Nat.lt_of_lt_of_le (by assumption) (by assumption)), even_big b' fun r hr => by have := z2 r hr; (exact Nat.lt_of_lt_of_le (by assumption) (by assumption))⟩
      rw [(ev 1 (by (exact Nat.le_refl _))).1, (ev 1 (by (exact Nat.le_refl _))).2] at h1
      constructor
      · intro hk z hz
        have hz1 : 1 ≤ z := by
          rcases mem_sizes.mp hz with q | q <;> lia
        rw [(ev z hz1).1, (ev z hz1).2]
        refine el1_1 (Nat.exists_eq_add_of_le hz1) fun d y4 => ?_; obtain rfl := y4
        have : d * rs.length ≤ d * rs'.length := Nat.mul_le_mul_left _ hk
        rw [Nat.add_mul, Nat.add_mul]
        lia
      · intro q
        refine el0_3 (top_big hlg) fun y5 B3 B4 => ?_; refine el0_2 (y5) fun B1 B2 => ?_
        have := q (lg + 1) (mem_sizes.mpr (.inl (by lia)))
        rw [even_big b B1, even_big b' B3] at this
        apply Decidable.byContradiction
        intro w
        have : (lg + 1) * (rs'.length + 1) ≤ (lg + 1) * rs.length := Nat.mul_le_mul_left _ (by (exact Nat.lt_of_not_le (by assumption)))
        rw [Nat.mul_add] at this
        lia
    · rw [if_neg hs, List.all_eq_true]
      constructor
      · intro q z hz
        have all : ∀ ts, 1 ≤ ts → ts ≤ lg + 1 → evenI ts rs b < evenI ts rs' b' := fun ts t1 t2 => by
          by_cases e : ts = 1
          · rw [e]; (exact Nat.lt_of_not_le (by assumption))
          · exact of_decide_eq_true (q ts (List.mem_range'.mpr ⟨ts - 2, by lia, by lia⟩))
        by_cases hz' : lg + 1 ≤ z
        · exact great_lt hlg (all (lg + 1) (by (exact Nat.succ_pos _)) (Nat.le_refl _)) hz'
        · rcases mem_sizes.mp hz with w | w
          · exact all z w.1 w.2
          · exact all z (by lia) (by lia)
      · intro q ts hts
        refine el1_2 (List.mem_range'.mp hts) fun i hi y6 => ?_; obtain rfl := y6
        exact decide_eq_true (q _ (mem_sizes.mpr (.inl (by lia))))
end
end Mine
end
noncomputable section
namespace Mine
theorem leadOf_lead (n : Nat) : Lead (leadRuns n) (leadBlanks n) ∧ leadBlanks n ≤ 2 := by
  have h : leadBlanks n ≤ 2 := by unfold leadBlanks; have := Nat.mod_lt (n / 1000) (show 0 < 3 by decide); lia
  refine ⟨⟨leadRuns_len n, fun r hr => ?_, by (exact Nat.le_succ_of_le (by assumption))⟩, h⟩
  refine el1_2 (List.mem_map.mp hr) fun p _ y1 => ?_; obtain rfl := y1
  have := Nat.mod_lt (n / 8 / 5 ^ p) (show 0 < 5 by decide); lia
theorem leadsOf_lead (a b : Nat) : Lead (leadsOf a b).1.1 (leadsOf a b).1.2 ∧ Lead (leadsOf a b).2.1 (leadsOf a b).2.2 := by
  refine el0_2 (leadOf_lead a) fun H hb => ?_
  refine ⟨H, ?_⟩
  by_cases h0 : b % 4 = 0
  · simp only [leadsOf, h0, if_true]
    exact (leadOf_lead (b / 4)).1
  by_cases h1 : b % 4 = 1
  · simp only [leadsOf, h1, if_true]
    exact ⟨by have := H.len; simpa using this, fun r hr => H.run r (by simpa using hr), H.blanks⟩
  by_cases h2 : b % 4 = 2
  · simp only [leadsOf, h2, if_true]
    exact ⟨H.len, H.run, by show leadBlanks a + 1 ≤ 3; (exact Nat.lt_succ_of_le (by assumption))⟩
  · simp only [leadsOf, h0, h1, h2, if_false]
    refine ⟨?_, fun r hr => ?_, H.blanks⟩
    · have := H.len
      simp only [List.length_append, List.length_take, List.length_reverse, List.length_drop]; omega
    · rcases List.mem_append.mp hr with q | q
      · exact H.run r (List.mem_of_mem_take q)
      · exact H.run r (List.mem_of_mem_drop (List.mem_reverse.mp q))
theorem freeN_ok (c : Nat) : (∀ x ∈ freeN c, 1 ≤ x ∧ x ≤ 4) ∧ (freeN c).length ≤ 2 := by
  unfold freeN
  refine ⟨fun x hx => ?_, ?_⟩
  · refine el1_2 (List.mem_map.mp hx) fun p _ y2 => ?_; obtain rfl := y2
    have := Nat.mod_lt (c / 3 / 4 ^ p) (show 0 < 4 by decide); lia
  · rw [List.length_map, List.length_range]; have := Nat.mod_lt c (show 0 < 3 by decide); lia
theorem leftGo_ground : ∀ (F : List Nat) (st : Ls), (leftGo F st).ground ≤ st.ground + F.sum
  | [], st => by simp [leftGo]
  | f :: F, ⟨[], b, g⟩ => by
    unfold leftGo
    split
    · simp
    · have := leftGo_ground F ⟨[], b - f, g + f⟩
      simp only [List.sum_cons] at this ⊢; lia
  | f :: F, ⟨r :: rs, b, g⟩ => by
    unfold leftGo
    have := leftGo_ground F ⟨if r < f then rs else (r - f) :: rs, b, g + f⟩
    simp only [List.sum_cons] at this ⊢; lia
theorem lead_signs (rs : List Nat) (b : Nat) : ∀ c ∈ leadText rs b, c = 32 ∨ c = 9 := by
  intro c hc
  unfold leadText at hc
  rcases List.mem_append.mp hc with q | q
  · refine el1_2 (List.mem_flatten.mp q) fun l hl hc' => ?_
    refine el1_2 (List.mem_map.mp hl) fun r _ y3 => ?_; obtain rfl := y3
    rcases List.mem_append.mp hc' with q | q
    · exact .inl (List.eq_of_mem_replicate q)
    · exact .inr (List.mem_singleton.mp q)
  · exact .inl (List.eq_of_mem_replicate q)
theorem sum_small : ∀ (F : List Nat), F.length ≤ 2 → (∀ x ∈ F, x ≤ 4) → F.sum ≤ 8
  | [], _, _ => by simp
  | [a], _, h => by have := h a (.head _); simp; lia
  | [a, b], _, h => by have := h a (.head _); have := h b (.tail _ (.head _)); simp; lia
  | _ :: _ :: _ :: _, h, _ => by simp at h
structure Made (F : List Nat) (L : List Nat × Nat) : Prop where
  lead : Lead (leftGo F ⟨L.1, L.2, 0⟩).runs (leftGo F ⟨L.1, L.2, 0⟩).blanks
  ground : (leftGo F ⟨L.1, L.2, 0⟩).ground ≤ 8
theorem made_of {F : List Nat} {L : List Nat × Nat} (H : Lead L.1 L.2) (hF : F.length ≤ 2 ∧ ∀ x ∈ F, x ≤ 4) : Made F L := by
  refine ⟨leftGo_lead F _ H, ?_⟩
  have := leftGo_ground F ⟨L.1, L.2, 0⟩
  have := sum_small F hF.1 hF.2
  simp only at *
  lia
section
variable {F : List Nat} {L : List Nat × Nat} (M : Made F L)
include M
theorem made_b : mvB F L ≤ 11 := by have := M.lead.blanks; have := M.ground; unfold mvB; lia
theorem made_r : ∀ r ∈ mvR F L, r ≤ 4 := M.lead.run
theorem made_top : top1 (mvR F L) ≤ 5 := by
  rcases top1_is (mvR F L) with ⟨_, h⟩ | ⟨r, hr, h⟩
  · lia
  · have := made_r M r hr; lia
theorem made_long : longR (mvR F L) (mvB F L) ≤ 11 := by have := made_top M; have := made_b M; unfold longR; omega
theorem made_cut : (cutN F L).1.length + (cutN F L).2 ≤ 1000 ∧ Asc (cutN F L).1 := by
  refine ⟨?_, fun c hc => ?_⟩
  · have := M.lead.size; have := M.ground; unfold cutN; simp only; lia
  · rcases lead_signs _ _ c hc with rfl | rfl <;> decide
theorem made_mv : Mv (movedN (cutN F L)) := by
  have e := moved_lead F L
  refine ⟨by rw [e]; exact lead_signs _ _, ?_, ?_, ?_⟩
  · have := (made_cut M).1
    unfold movedN; rw [List.length_append, List.length_replicate]; lia
  · rw [e, wsOf_count, hist_len]; have := made_top M; lia
  · rw [e, wsOf_b]; have := made_b M; lia
end
theorem map_indent {F : List Nat} {L : List Nat × Nat} {sizes : List Nat} (h : ∀ z ∈ sizes, 0 < z) : sizes.map (indentL (wsOf (movedN (cutN F L)))) = standsN F sizes L := by
  unfold standsN
  refine List.map_congr_left fun z hz => ?_
  rw [moved_lead, wsOf_indent (h z hz), stand_even z (h z hz)]
theorem map_even {F : List Nat} {L : List Nat × Nat} {sizes : List Nat} (h : ∀ z ∈ sizes, 0 < z) : standsN F sizes L = sizes.map fun z => evenI z (mvR F L) (mvB F L) := by
  unfold standsN
  exact List.map_congr_left fun z hz => stand_even z (h z hz) F L
theorem map_typed {F : List Nat} {L : List Nat × Nat} {sizes : List Nat} (hF : ∀ x ∈ F, 1 ≤ x ∧ x ≤ 100) (h : ∀ z ∈ sizes, 1 ≤ z ∧ z ≠ 127) : typedN F sizes (leadText L.1 L.2) = standsN F sizes L := by
  unfold typedN standsN
  exact List.map_congr_left fun z hz => tyN_size hF (h z hz).1 (h z hz).2 L.1 L.2
theorem sizes_head (lg c3 : Nat) (f : Nat → Nat) : ((sizesN lg c3).map f)[0]? = some (f 1) := by
  unfold sizesN; rw [List.range'_succ]; rfl
theorem filter_nil {sizes : List Nat} {f g : Nat → Nat} : (rowsN sizes (sizes.map f) (sizes.map g)).filter geT = [] ↔ ∀ z ∈ sizes, f z < g z := by
  rw [rows_map, List.filter_eq_nil_iff]
  constructor
  · intro h z hz
    have := h _ (List.mem_map_of_mem hz)
    simp only [geT, decide_eq_true_eq] at this
    (exact Nat.lt_of_not_le (by assumption))
  · intro h t ht
    refine el1_2 (List.mem_map.mp ht) fun z hz y4 => ?_; obtain rfl := y4
    have := h z hz
    simp only [geT, decide_eq_true_eq]
    (exact Nat.not_le_of_lt (by assumption))
theorem top_made {F : List Nat} {L L' : List Nat × Nat} : topTs (wsOf (movedN (cutN F L))) (wsOf (movedN (cutN F L'))) = longestN (movedN (cutN F L)) (movedN (cutN F L')) + 1 := by
  unfold topTs
  rw [moved_lead, moved_lead, wsOf_long, wsOf_long, longest_lead]
theorem less_made {F : List Nat} {L L' : List Nat × Nat} {lg c3 : Nat} (hlg : lg = max (longR (mvR F L) (mvB F L)) (longR (mvR F L') (mvB F L'))) (ht : topTs (wsOf (movedN (cutN F L))) (wsOf (movedN (cutN F L'))) = lg + 1) :
    lessL (wsOf (movedN (cutN F L))) (wsOf (movedN (cutN F L'))) = decide ((rowsN (sizesN lg c3) (standsN F (sizesN lg c3) L) (standsN F (sizesN lg c3) L')).filter geT = []) := by
  have pos : ∀ z ∈ sizesN lg c3, 0 < z := fun z hz => by rcases mem_sizes.mp hz with q | q <;> lia
  rw [map_even pos, map_even pos]
  have e : decide ((rowsN (sizesN lg c3) ((sizesN lg c3).map fun z => evenI z (mvR F L) (mvB F L)) ((sizesN lg c3).map fun z => evenI z (mvR F L') (mvB F L'))).filter geT = []) = decide (∀ z ∈ sizesN lg c3, evenI z (mvR F L) (mvB F L) < evenI z (mvR F L') (mvB F L')) := by
    rw [Bool.eq_iff_iff, decide_eq_true_iff, decide_eq_true_iff]; exact filter_nil
  rw [e, ← less_iff hlg]
  unfold lessL
  rw [ht]
  rw [moved_lead, moved_lead, wsOf_n, wsOf_n, wsOf_count, wsOf_count, wsOf_nt, wsOf_nt, Nat.add_sub_cancel]
  have eall : ((List.range' 2 lg).all fun ts => decide (indentL (wsOf (leadText (mvR F L) (mvB F L))) ts < indentL (wsOf (leadText (mvR F L') (mvB F L'))) ts)) = (List.range' 2 lg).all fun ts => decide (evenI ts (mvR F L) (mvB F L) < evenI ts (mvR F L') (mvB F L')) := by
    have : ∀ ts ∈ List.range' 2 lg, decide (indentL (wsOf (leadText (mvR F L) (mvB F L))) ts < indentL (wsOf (leadText (mvR F L') (mvB F L'))) ts) = decide (evenI ts (mvR F L) (mvB F L) < evenI ts (mvR F L') (mvB F L')) := fun ts hts => by
      refine el1_2 (List.mem_range'.mp hts) fun i _ y5 => ?_; obtain rfl := y5
      rw [wsOf_indent (by lia), wsOf_indent (by lia)]
    rw [Bool.eq_iff_iff, List.all_eq_true, List.all_eq_true]
    exact ⟨fun h ts hts => by rw [← this ts hts]; exact h ts hts, fun h ts hts => by rw [this ts hts]; exact h ts hts⟩
  rw [eall]
theorem pl_of (c0 c1 c2 c3 : Nat) (h3 : c3 < 1000000) :
    PL c0 c1 c2 c3 (freeN c2) (leadsOf c0 c1).1 (leadsOf c0 c1).2 (leadText (leadsOf c0 c1).1.1 (leadsOf c0 c1).1.2) (leadText (leadsOf c0 c1).2.1 (leadsOf c0 c1).2.2) (cutN (freeN c2) (leadsOf c0 c1).1) (cutN (freeN c2) (leadsOf c0 c1).2)
      (movedN (cutN (freeN c2) (leadsOf c0 c1).1)) (movedN (cutN (freeN c2) (leadsOf c0 c1).2)) (longestN (movedN (cutN (freeN c2) (leadsOf c0 c1).1)) (movedN (cutN (freeN c2) (leadsOf c0 c1).2)))
      (sizesN (longestN (movedN (cutN (freeN c2) (leadsOf c0 c1).1)) (movedN (cutN (freeN c2) (leadsOf c0 c1).2))) c3)
      (standsN (freeN c2) (sizesN (longestN (movedN (cutN (freeN c2) (leadsOf c0 c1).1)) (movedN (cutN (freeN c2) (leadsOf c0 c1).2))) c3) (leadsOf c0 c1).1)
      (standsN (freeN c2) (sizesN (longestN (movedN (cutN (freeN c2) (leadsOf c0 c1).1)) (movedN (cutN (freeN c2) (leadsOf c0 c1).2))) c3) (leadsOf c0 c1).2)
      (stand (leadsOf c0 c1).1.1 (leadsOf c0 c1).1.2 (freeN c2) 1) (stand (leadsOf c0 c1).2.1 (leadsOf c0 c1).2.2 (freeN c2) 1) := by
  refine el0_2 (leadsOf_lead c0 c1) fun H1 H2 => ?_
  refine el0_2 (freeN_ok c2) fun f1 f2 => ?_
  generalize hF : freeN c2 = F at *
  generalize hL1 : (leadsOf c0 c1).1 = L1 at *
  generalize hL2 : (leadsOf c0 c1).2 = L2 at *
  have M1 := made_of H1 ⟨f2, fun x hx => (f1 x hx).2⟩
  have M2 := made_of H2 ⟨f2, fun x hx => (f1 x hx).2⟩
  have hfr : ∀ x ∈ F, 1 ≤ x ∧ x ≤ 100 := fun x hx => by have := f1 x hx; lia
  have hlg : longestN (movedN (cutN F L1)) (movedN (cutN F L2)) = max (longR (mvR F L1) (mvB F L1)) (longR (mvR F L2) (mvB F L2)) := by rw [moved_lead, moved_lead, longest_lead]
  have htop := top_made (F := F) (L := L1) (L' := L2)
  have htop' : topTs (wsOf (movedN (cutN F L2))) (wsOf (movedN (cutN F L1))) = longestN (movedN (cutN F L1)) (movedN (cutN F L2)) + 1 := by
    rw [← htop]; unfold topTs; rw [Nat.max_comm]
  generalize hlgv : longestN (movedN (cutN F L1)) (movedN (cutN F L2)) = lg at *
  have hlg11 : lg ≤ 11 := by have := made_long M1; have := made_long M2; lia
  have hsz : ∀ z ∈ sizesN lg c3, 0 < z ∧ z < 1000000000 ∧ z ≠ 127 := fun z hz => by rcases mem_sizes.mp hz with q | q <;> lia
  have pos : ∀ z ∈ sizesN lg c3, 0 < z := fun z hz => (hsz z hz).1
  have t1 := H1.size
  have t2 := H2.size
  refine ⟨hF.symm, hL1.symm, hL2.symm, rfl, rfl, rfl, rfl, rfl, rfl, hlgv.symm, rfl, rfl, rfl, H1, H2, hfr, by lia, made_cut M1, made_cut M2, made_mv M1, made_mv M2, by lia, fun z hz => ⟨(hsz z hz).1, (hsz z hz).2.1⟩, ?_, by lia, by lia,
    fun z hz => ⟨Ruler.size hfr (pos z hz) (hsz z hz).2.2 _, Ruler.size hfr (pos z hz) (hsz z hz).2.2 _⟩, ⟨⟨Ruler.free hfr _, Ruler.free hfr _⟩, Ruler.stop hfr _ [3], Ruler.stop hfr _ [3]⟩, map_typed hfr fun z hz => ⟨pos z hz, (hsz z hz).2.2⟩, map_typed hfr fun z hz => ⟨pos z hz, (hsz z hz).2.2⟩,
    sizes_head lg c3 _, sizes_head lg c3 _, ?_, by rw [moved_lead]; exact simple_lead _ _, by rw [moved_lead]; exact simple_lead _ _, map_indent pos, map_indent pos, ?_, ?_, ?_, ?_, ?_, ?_, less_made hlg htop, ?_⟩
  · unfold sizesN; rw [List.length_append, List.length_range']; simp only [List.length_cons, List.length_nil]; lia
  · unfold endedN
    rw [tyN_end hfr f2 _ _ F (ruler_free hfr _), tyN_end hfr f2 _ _ (F ++ [127, 3]) (ruler_stop hfr _ [3]), tyN_end hfr f2 _ _ F (ruler_free hfr _), tyN_end hfr f2 _ _ (F ++ [127, 3]) (ruler_stop hfr _ [3])]
  · rw [map_even pos, sizes_head, moved_lead, wsOf_n, n_even]
  · rw [map_even pos, sizes_head, moved_lead, wsOf_n, n_even]
  · rw [← map_indent pos, ← map_indent pos]; exact wit_all _ _ _ lg c3 htop
  · rw [← map_indent pos, ← map_indent pos]; exact wit_all _ _ _ lg c3 htop'
  · rw [← map_indent pos, ← map_indent pos]; exact wit_all _ _ _ lg c3 htop
  · rw [map_even pos, map_even pos, moved_lead, moved_lead, wsOf_count, wsOf_count, wsOf_b, wsOf_b]
    exact equal_iff (made_r M1) (made_r M2) hlg
  · exact less_made (by rw [hlg, Nat.max_comm]) htop'
end Mine
end
noncomputable section
namespace Mine
open PySem PySem.W PySem.Calls PyProof.Rows
noncomputable def kS (x : String) (t : Nat) : Value := .str (Str.ofString x) t
noncomputable def kD (P : Params) (l : List (String × Nat × Value)) (n : Nat) : Obj := ⟨.type "dict", none, .dict (l.map fun e => (⟨PyData.keyHash P (Str.ofString e.1), kS e.1 e.2.1, e.2.2⟩ : DictEntry)).toArray n, #[]⟩
noncomputable def kC (c : String) (l : List Value) : Obj := ⟨.type c, none, .fields l.toArray, #[]⟩
noncomputable def kF (st : Stmt) (n q : String) (dv kv pm : Value) (c : Nat) : Obj := ⟨.type "function", none, .func (fdS st n q dv kv .none pm none (.ref c) .none), #[]⟩
noncomputable def KM (P : Params) : Frag := [
(2, { cls := .none, data := .dict #[] }),
(3, kD P [("__name__", 165, kS "law_rs0161_01" 348), ("__doc__", 166, .none), ("__package__", 167, .none), ("__loader__", 168, .builtin "__main__.__loader__#opaque"), ("__spec__", 169, .none), ("__annotations__", 170, .ref 6), ("__builtins__", 171, .ref 4), ("__file__", 173, kS "/claim/cut.py" 172), ("__cached__", 174, .none), ("Whitespace", 294, .ref 76), ("bisect_right", 310, .ref 89), ("bisect_left", 324, .ref 98), ("CHAR_MAX", 328, .int 127 327), ("_grouping_intervals", 337, .ref 105), ("_strip_padding", 347, .ref 112), ("_law_lead", 355, .ref 117), ("_law_leads", 365, .ref 124), ("_law_text", 371, .ref 129), ("_law_stand", 377, .ref 134), ("_law_left", 388, .ref 141), ("_law_cut", 400, .ref 148), ("_law_typed", 414, .ref 155), ("_law_words", 422, .ref 162), ("law", 428, .ref 167)] 24),
(30, kC "code" [kS "__init__" 206, kS "Whitespace.__init__" 207, kS "/claim/cut.py" 208, .int 5 0, .int 2 0, .int 0 0, .int 0 0, .int 3 0, .ref 25, .bool true, .int 181 0, .ref 26, .none, .ref 27, .ref 28, .ref 29, .int 218 0, .int 5 0, kS "/claim/cut.py" 219]),
(31, kF (mst 1) "__init__" "Whitespace.__init__" (.none) (.none) (kS "cpy313.tabnanny" 187) 30),
(37, kC "code" [kS "longest_run_of_spaces" 221, kS "Whitespace.longest_run_of_spaces" 222, kS "/claim/cut.py" 223, .int 28 0, .int 1 0, .int 0 0, .int 0 0, .int 3 0, .ref 32, .bool true, .int 181 0, .ref 33, .none, .ref 34, .ref 35, .ref 36, .int 227 0, .int 28 0, kS "/claim/cut.py" 228]),
(38, kF (mst 2) "longest_run_of_spaces" "Whitespace.longest_run_of_spaces" (.none) (.none) (kS "cpy313.tabnanny" 187) 37),
(44, kC "code" [kS "indent_level" 230, kS "Whitespace.indent_level" 231, kS "/claim/cut.py" 232, .int 32 0, .int 2 0, .int 0 0, .int 0 0, .int 3 0, .ref 39, .bool true, .int 181 0, .ref 40, .none, .ref 41, .ref 42, .ref 43, .int 239 0, .int 32 0, kS "/claim/cut.py" 240]),
(45, kF (mst 3) "indent_level" "Whitespace.indent_level" (.none) (.none) (kS "cpy313.tabnanny" 187) 44),
(51, kC "code" [kS "equal" 242, kS "Whitespace.equal" 243, kS "/claim/cut.py" 244, .int 39 0, .int 2 0, .int 0 0, .int 0 0, .int 3 0, .ref 46, .bool true, .int 181 0, .ref 47, .none, .ref 48, .ref 49, .ref 50, .int 247 0, .int 39 0, kS "/claim/cut.py" 248]),
(52, kF (mst 4) "equal" "Whitespace.equal" (.none) (.none) (kS "cpy313.tabnanny" 187) 51),
(58, kC "code" [kS "not_equal_witness" 250, kS "Whitespace.not_equal_witness" 251, kS "/claim/cut.py" 252, .int 42 0, .int 2 0, .int 0 0, .int 0 0, .int 3 0, .ref 53, .bool true, .int 181 0, .ref 54, .none, .ref 55, .ref 56, .ref 57, .int 258 0, .int 42 0, kS "/claim/cut.py" 259]),
(59, kF (mst 5) "not_equal_witness" "Whitespace.not_equal_witness" (.none) (.none) (kS "cpy313.tabnanny" 187) 58),
(65, kC "code" [kS "less" 261, kS "Whitespace.less" 262, kS "/claim/cut.py" 263, .int 50 0, .int 2 0, .int 0 0, .int 0 0, .int 3 0, .ref 60, .bool true, .int 181 0, .ref 61, .none, .ref 62, .ref 63, .ref 64, .int 268 0, .int 50 0, kS "/claim/cut.py" 269]),
(66, kF (mst 6) "less" "Whitespace.less" (.none) (.none) (kS "cpy313.tabnanny" 187) 65),
(72, kC "code" [kS "not_less_witness" 271, kS "Whitespace.not_less_witness" 272, kS "/claim/cut.py" 273, .int 61 0, .int 2 0, .int 0 0, .int 0 0, .int 3 0, .ref 67, .bool true, .int 181 0, .ref 68, .none, .ref 69, .ref 70, .ref 71, .int 279 0, .int 61 0, kS "/claim/cut.py" 280]),
(73, kF (mst 7) "not_less_witness" "Whitespace.not_less_witness" (.none) (.none) (kS "cpy313.tabnanny" 187) 72),
(75, kD P [("__module__", 196, kS "cpy313.tabnanny" 187), ("__firstlineno__", 200, .int 2 199), ("S", 204, kS " " 202), ("T", 205, kS "\t" 203), ("__init__", 220, .ref 31), ("longest_run_of_spaces", 229, .ref 38), ("indent_level", 241, .ref 45), ("equal", 249, .ref 52), ("not_equal_witness", 260, .ref 59), ("less", 270, .ref 66), ("not_less_witness", 281, .ref 73), ("__static_attributes__", 287, .ref 74), ("__dict__", 289, .ref 77), ("__weakref__", 291, .ref 78), ("__doc__", 292, .none)] 4),
(76, ⟨.type "type", none, .cls { name := "Whitespace", bases := [.type "object"], mro := [.ref 76, .type "object"], ns := 75, qualname := "Whitespace" }, #[none, none, some (kS "Whitespace" 189), some (kS "Whitespace" 197), some (.builtin "object.__new__"), some (.bool true)]⟩),
(77, kC "getset_descriptor" [kS "__dict__" 288, .ref 76, .builtin "function.__dict__", .builtin "function.__dict__#set"]),
(78, kC "getset_descriptor" [kS "__weakref__" 290, .ref 76, .builtin "ExceptionGroup.__weakref__", .none]),
(81, ⟨.type "tuple", none, .seq #[.int 0 297, .none], #[]⟩),
(82, kD P [("key", 298, .none)] 1),
(88, kC "code" [kS "bisect_right" 299, kS "bisect_right" 300, kS "/claim/cut.py" 301, .int 69 0, .int 4 0, .int 0 0, .int 1 0, .int 3 0, .ref 83, .bool true, .int 181 0, .ref 84, .none, .ref 85, .ref 86, .ref 87, .int 308 0, .int 69 0, kS "/claim/cut.py" 309]),
(89, kF (stm 3) "bisect_right" "bisect_right" (.ref 81) (.ref 82) (kS "cpy313.bisect" 295) 88),
(90, ⟨.type "tuple", none, .seq #[.int 0 311, .none], #[]⟩),
(91, kD P [("key", 312, .none)] 1),
(97, kC "code" [kS "bisect_left" 313, kS "bisect_left" 314, kS "/claim/cut.py" 315, .int 89 0, .int 4 0, .int 0 0, .int 1 0, .int 3 0, .ref 92, .bool true, .int 181 0, .ref 93, .none, .ref 94, .ref 95, .ref 96, .int 322 0, .int 89 0, kS "/claim/cut.py" 323]),
(98, kF (stm 4) "bisect_left" "bisect_left" (.ref 90) (.ref 91) (kS "cpy313.bisect" 295) 97),
(104, kC "code" [kS "_grouping_intervals" 329, kS "_grouping_intervals" 330, kS "/claim/cut.py" 331, .int 111 0, .int 1 0, .int 0 0, .int 0 0, .int 35 0, .ref 99, .bool true, .int 181 0, .ref 100, .none, .ref 101, .ref 102, .ref 103, .int 335 0, .int 111 0, kS "/claim/cut.py" 336]),
(105, kF (stm 7) "_grouping_intervals" "_grouping_intervals" (.none) (.none) (kS "cpy313.locale" 325) 104),
(111, kC "code" [kS "_strip_padding" 338, kS "_strip_padding" 339, kS "/claim/cut.py" 340, .int 123 0, .int 2 0, .int 0 0, .int 0 0, .int 3 0, .ref 106, .bool true, .int 181 0, .ref 107, .none, .ref 108, .ref 109, .ref 110, .int 345 0, .int 123 0, kS "/claim/cut.py" 346]),
(112, kF (stm 8) "_strip_padding" "_strip_padding" (.none) (.none) (kS "cpy313.locale" 325) 111),
(116, kC "code" [kS "_law_lead" 350, kS "_law_lead" 351, kS "/claim/cut.py" 352, .int 134 0, .int 1 0, .int 0 0, .int 0 0, .int 3 0, .ref 113, .bool true, .int 181 0, .ref 114, .none, .none, .none, .ref 115, .int 353 0, .int 134 0, kS "/claim/cut.py" 354]),
(117, kF (stm 10) "_law_lead" "_law_lead" (.none) (.none) (kS "law_rs0161_01" 348) 116),
(123, kC "code" [kS "_law_leads" 356, kS "_law_leads" 357, kS "/claim/cut.py" 358, .int 136 0, .int 2 0, .int 0 0, .int 0 0, .int 3 0, .ref 118, .bool true, .int 181 0, .ref 119, .none, .ref 120, .ref 121, .ref 122, .int 363 0, .int 136 0, kS "/claim/cut.py" 364]),
(124, kF (stm 11) "_law_leads" "_law_leads" (.none) (.none) (kS "law_rs0161_01" 348) 123),
(128, kC "code" [kS "_law_text" 366, kS "_law_text" 367, kS "/claim/cut.py" 368, .int 139 0, .int 2 0, .int 0 0, .int 0 0, .int 3 0, .ref 125, .bool true, .int 181 0, .ref 126, .none, .none, .none, .ref 127, .int 369 0, .int 139 0, kS "/claim/cut.py" 370]),
(129, kF (stm 12) "_law_text" "_law_text" (.none) (.none) (kS "law_rs0161_01" 348) 128),
(133, kC "code" [kS "_law_stand" 372, kS "_law_stand" 373, kS "/claim/cut.py" 374, .int 141 0, .int 4 0, .int 0 0, .int 0 0, .int 3 0, .ref 130, .bool true, .int 181 0, .ref 131, .none, .none, .none, .ref 132, .int 375 0, .int 141 0, kS "/claim/cut.py" 376]),
(134, kF (stm 13) "_law_stand" "_law_stand" (.none) (.none) (kS "law_rs0161_01" 348) 133),
(140, kC "code" [kS "_law_left" 378, kS "_law_left" 379, kS "/claim/cut.py" 380, .int 149 0, .int 3 0, .int 0 0, .int 0 0, .int 3 0, .ref 135, .bool true, .int 181 0, .ref 136, .none, .ref 137, .ref 138, .ref 139, .int 386 0, .int 149 0, kS "/claim/cut.py" 387]),
(141, kF (stm 14) "_law_left" "_law_left" (.none) (.none) (kS "law_rs0161_01" 348) 140),
(147, kC "code" [kS "_law_cut" 389, kS "_law_cut" 390, kS "/claim/cut.py" 391, .int 158 0, .int 2 0, .int 0 0, .int 0 0, .int 3 0, .ref 142, .bool true, .int 181 0, .ref 143, .none, .ref 144, .ref 145, .ref 146, .int 398 0, .int 158 0, kS "/claim/cut.py" 399]),
(148, kF (stm 15) "_law_cut" "_law_cut" (.none) (.none) (kS "law_rs0161_01" 348) 147),
(154, kC "code" [kS "_law_typed" 401, kS "_law_typed" 402, kS "/claim/cut.py" 403, .int 171 0, .int 3 0, .int 0 0, .int 0 0, .int 3 0, .ref 149, .bool true, .int 181 0, .ref 150, .none, .ref 151, .ref 152, .ref 153, .int 412 0, .int 171 0, kS "/claim/cut.py" 413]),
(155, kF (stm 16) "_law_typed" "_law_typed" (.none) (.none) (kS "law_rs0161_01" 348) 154),
(161, kC "code" [kS "_law_words" 415, kS "_law_words" 416, kS "/claim/cut.py" 417, .int 184 0, .int 1 0, .int 0 0, .int 0 0, .int 3 0, .ref 156, .bool true, .int 181 0, .ref 157, .none, .ref 158, .ref 159, .ref 160, .int 420 0, .int 184 0, kS "/claim/cut.py" 421]),
(162, kF (stm 17) "_law_words" "_law_words" (.none) (.none) (kS "law_rs0161_01" 348) 161),
(166, kC "code" [kS "law" 423, kS "law" 424, kS "/claim/cut.py" 425, .int 189 0, .int 1 0, .int 0 0, .int 0 0, .int 3 0, .ref 163, .bool true, .int 181 0, .ref 164, .none, .none, .none, .ref 165, .int 426 0, .int 189 0, kS "/claim/cut.py" 427]),
(167, kF (stm 18) "law" "law" (.none) (.none) (kS "law_rs0161_01" 348) 166)]
noncomputable def asM : List Addr := [2, 3, 30, 31, 37, 38, 44, 45, 51, 52, 58, 59, 65, 66, 72, 73, 75, 76, 77, 78, 81, 82, 88, 89, 90, 91, 97, 98, 104, 105, 111, 112, 116, 117, 123, 124, 128, 129, 133, 134, 140, 141, 147, 148, 154, 155, 161, 162, 166, 167]
noncomputable def vw : Program := let p := PySem.Challenge.pw_rs0161_01; { p with main := { p.main with body := [1, 6, 7, 8, 10, 11, 12, 13, 14, 15, 16, 17, 18].map stm } }
noncomputable def looseM : List Str := ["Whitespace", "bisect_right", "bisect_left"]
theorem said9 : OpenLaw.wellSaid PySem.Challenge.rw_rs0161_01 = true := by
  first
  | (refine (congrFun PySem.W.Fast.te9446332074065402090 PySem.Challenge.rw_rs0161_01).trans ?_
     delta PySem.W.Fast.tw9446332074065402090
     repeat' with_reducible refine look_both ?_ ?_
     all_goals try (delta PySem.W.Fast.tw17960256430627541270; repeat' with_reducible refine look_both ?_ ?_)
     all_goals try (delta PySem.W.Fast.tw2436336058641802641; repeat' with_reducible refine look_both ?_ ?_)
     all_goals try (delta PySem.W.Fast.tw12908688711261696721; repeat' with_reducible refine look_both ?_ ?_)
     all_goals as_aux_lemma => kernel_rfl)
  | kernel_rfl
theorem as9 : ∀ P, asM = (KM P).map (·.1) := fun _ => by kernel_rfl
noncomputable def hookM : Hook := kmHook KM asM as9 [164]
noncomputable def TopP (w : World) : Prop := (openEnds treeTable PySem.Challenge.pw_rs0161_01 w 2040).map (fun s => (openSeen vw looseM (importedModules PySem.Challenge.pw_rs0161_01.main.body) (fun s => xlAt vw [] s && recOk (RowW.records (OpenRow.toRowW PySem.Challenge.rw_rs0161_01.row)) s) true s, Hook.obs hookM s)) = some (openGood vw looseM, Hook.val hookM w)
theorem top9f (w : World) : TopP (w.withFollow "special-get-raises" false) := by
  delta TopP openEnds topFrom
  try rw [PySem.W.Fast.te14082659384304107361, PySem.W.Fast.te14364793385576792824, PySem.W.Fast.te4187177175401517315]
  kernel_rfl
theorem top9t (w : World) : TopP (w.withFollow "special-get-raises" true) := by
  delta TopP openEnds topFrom
  try rw [PySem.W.Fast.te14082659384304107361, PySem.W.Fast.te14364793385576792824, PySem.W.Fast.te4187177175401517315]
  kernel_rfl
theorem top9 : LeftO PySem.Challenge.pw_rs0161_01 vw looseM (fun s => xlAt vw [] s && recOk (RowW.records (OpenRow.toRowW PySem.Challenge.rw_rs0161_01.row)) s) (Hook.obs hookM) (Hook.val hookM) 2040 := byRow2 (P := TopP) "special-get-raises" top9f top9t
end Mine
end
noncomputable section
namespace Mine
open PySem PySem.W PySem.Calls PyProof.Rows
noncomputable abbrev AdL : Ad := ⟨117, 124, 129, 134, 141, 148, 155, 162, 105, 112, 89, 98, 76⟩
noncomputable abbrev KL (p : Params) : Frag := KM p
noncomputable abbrev glL (t : Tok) : List (Str × Value) := [("range", .type "range"), ("len", .builtin "len"), ("sum", .builtin "sum"), ("max", .builtin "max"), ("list", .type "list"), ("tuple", .type "tuple"), ("zip", .type "zip"), ("enumerate", .type "enumerate"), ("str", .type "str"), ("ValueError", .type "ValueError"), ("IndexError", .type "IndexError"),
  ("_law_lead", .ref 117), ("_law_leads", .ref 124), ("_law_text", .ref 129), ("_law_stand", .ref 134), ("_law_left", .ref 141), ("_law_cut", .ref 148), ("_law_typed", .ref 155), ("_law_words", .ref 162), ("_grouping_intervals", .ref 105), ("_strip_padding", .ref 112), ("bisect_right", .ref 89), ("bisect_left", .ref 98), ("Whitespace", .ref 76), ("CHAR_MAX", .int 127 t)]
section
variable {w : World} {h : Heap} {mg mb : Str → Option Value}
noncomputable abbrev gLow (h : Heap) : Heap := ghostOf h [(166, 164)]
noncomputable abbrev XLw (prog : Program) (w : World) (h : Heap) (t : Tok) : Cx := ⟨prog, w, gLow h, 164, glL t, 76⟩
theorem k_low (KX : (KL w.params).In h) : (KL w.params).In (gLow h) := fun a o e => hideAll_get _ (KX a o e) fun q => by
  have : a = 164 := by simpa using q
  subst this
  have e' : (KL w.params).lookup 164 = none := rfl
  rw [e'] at e; exact noN e
theorem ne164 {a : Addr} (h : Nat.beq a 164 = false) : a ≠ 164 := Nat.ne_of_beq_eq_false h
theorem fn_lead {prog : Program} {t : Tok} (KX : (KL w.params).In (gLow h)) : PFn (XLw prog w h t) 117 (stm 10) :=
  ⟨_, _, _, _, _, _, _, _, ⟨⟨_, KX 117 _ rfl, rfl⟩, ne164 rfl, rfl, rfl, rfl, ⟨_, rfl, ne164 rfl⟩, ⟨_, _, _, _, rfl, KX _ _ rfl, rfl, rfl⟩⟩⟩
theorem fn_leads {prog : Program} {t : Tok} (KX : (KL w.params).In (gLow h)) : PFn (XLw prog w h t) 124 (stm 11) :=
  ⟨_, _, _, _, _, _, _, _, ⟨⟨_, KX 124 _ rfl, rfl⟩, ne164 rfl, rfl, rfl, rfl, ⟨_, rfl, ne164 rfl⟩, ⟨_, _, _, _, rfl, KX _ _ rfl, rfl, rfl⟩⟩⟩
theorem fn_text {prog : Program} {t : Tok} (KX : (KL w.params).In (gLow h)) : PFn (XLw prog w h t) 129 (stm 12) :=
  ⟨_, _, _, _, _, _, _, _, ⟨⟨_, KX 129 _ rfl, rfl⟩, ne164 rfl, rfl, rfl, rfl, ⟨_, rfl, ne164 rfl⟩, ⟨_, _, _, _, rfl, KX _ _ rfl, rfl, rfl⟩⟩⟩
theorem fn_stand {prog : Program} {t : Tok} (KX : (KL w.params).In (gLow h)) : PFn (XLw prog w h t) 134 (stm 13) :=
  ⟨_, _, _, _, _, _, _, _, ⟨⟨_, KX 134 _ rfl, rfl⟩, ne164 rfl, rfl, rfl, rfl, ⟨_, rfl, ne164 rfl⟩, ⟨_, _, _, _, rfl, KX _ _ rfl, rfl, rfl⟩⟩⟩
theorem fn_left {prog : Program} {t : Tok} (KX : (KL w.params).In (gLow h)) : PFn (XLw prog w h t) 141 (stm 14) :=
  ⟨_, _, _, _, _, _, _, _, ⟨⟨_, KX 141 _ rfl, rfl⟩, ne164 rfl, rfl, rfl, rfl, ⟨_, rfl, ne164 rfl⟩, ⟨_, _, _, _, rfl, KX _ _ rfl, rfl, rfl⟩⟩⟩
theorem fn_cut {prog : Program} {t : Tok} (KX : (KL w.params).In (gLow h)) : PFn (XLw prog w h t) 148 (stm 15) :=
  ⟨_, _, _, _, _, _, _, _, ⟨⟨_, KX 148 _ rfl, rfl⟩, ne164 rfl, rfl, rfl, rfl, ⟨_, rfl, ne164 rfl⟩, ⟨_, _, _, _, rfl, KX _ _ rfl, rfl, rfl⟩⟩⟩
theorem fn_typed {prog : Program} {t : Tok} (KX : (KL w.params).In (gLow h)) : PFn (XLw prog w h t) 155 (stm 16) :=
  ⟨_, _, _, _, _, _, _, _, ⟨⟨_, KX 155 _ rfl, rfl⟩, ne164 rfl, rfl, rfl, rfl, ⟨_, rfl, ne164 rfl⟩, ⟨_, _, _, _, rfl, KX _ _ rfl, rfl, rfl⟩⟩⟩
theorem fn_words {prog : Program} {t : Tok} (KX : (KL w.params).In (gLow h)) : PFn (XLw prog w h t) 162 (stm 17) :=
  ⟨_, _, _, _, _, _, _, _, ⟨⟨_, KX 162 _ rfl, rfl⟩, ne164 rfl, rfl, rfl, rfl, ⟨_, rfl, ne164 rfl⟩, ⟨_, _, _, _, rfl, KX _ _ rfl, rfl, rfl⟩⟩⟩
theorem fn_strip {prog : Program} {t : Tok} (KX : (KL w.params).In (gLow h)) : PFn (XLw prog w h t) 112 (stm 8) :=
  ⟨_, _, _, _, _, _, _, _, ⟨⟨_, KX 112 _ rfl, rfl⟩, ne164 rfl, rfl, rfl, rfl, ⟨_, rfl, ne164 rfl⟩, ⟨_, _, _, _, rfl, KX _ _ rfl, rfl, rfl⟩⟩⟩
theorem fn_group {prog : Program} {t : Tok} (KX : (KL w.params).In (gLow h)) : PFn (XLw prog w h t) 105 (stm 7) :=
  ⟨_, _, _, _, _, _, _, _, ⟨⟨_, KX 105 _ rfl, rfl⟩, ne164 rfl, rfl, rfl, rfl, ⟨_, rfl, ne164 rfl⟩, ⟨_, _, _, _, rfl, KX _ _ rfl, rfl, rfl⟩⟩⟩
noncomputable def keysOk (es : Array DictEntry) : Bool := es.toList.all fun e => match e.key with | .str _ _ => true | _ => false
theorem keysOk_of {es : Array DictEntry} (k : keysOk es = true) : StrKeys es := by
  intro en hen
  have h := List.all_eq_true.mp k en (by simpa using hen)
  generalize en.key = kk at h
  cases kk with
  | str n t => exact ⟨n, t, rfl⟩
  | _ => cases h
theorem ns_dict {h : Heap} {a : Addr} {o : Obj} {es : Array DictEntry} {ep : Nat} {x : Str} {v : Value} (e : h.get? a = some o) (d : o.data = .dict es ep) (k : keysOk es = true) (hx : nsFind es x = some v) : ∃ m, h.Ns a m ∧ m x = some v :=
  ⟨fun y => nsFind es y, ⟨o, es, ep, e, d, keysOk_of k, fun _ => rfl⟩, hx⟩
theorem fn_bright {prog : Program} {t : Tok} (KX : (KL w.params).In (gLow h)) : BFn (XLw prog w h t) 89 (stm 3) :=
  ⟨⟨_, _, _, _, _, _, _, _, _, ⟨⟨_, KX 89 _ rfl, rfl⟩, ne164 rfl, rfl, rfl, rfl, ⟨_, rfl, ne164 rfl⟩, ⟨_, _, _, _, rfl, KX _ _ rfl, rfl, rfl⟩⟩, ne164 rfl, ne164 rfl, ⟨_, _, _, KX _ _ rfl, rfl⟩, ns_dict (KX _ _ rfl) rfl rfl rfl⟩⟩
theorem fn_bleft {prog : Program} {t : Tok} (KX : (KL w.params).In (gLow h)) : BFn (XLw prog w h t) 98 (stm 4) :=
  ⟨⟨_, _, _, _, _, _, _, _, _, ⟨⟨_, KX 98 _ rfl, rfl⟩, ne164 rfl, rfl, rfl, rfl, ⟨_, rfl, ne164 rfl⟩, ⟨_, _, _, _, rfl, KX _ _ rfl, rfl, rfl⟩⟩, ne164 rfl, ne164 rfl, ⟨_, _, _, KX _ _ rfl, rfl⟩, ns_dict (KX _ _ rfl) rfl rfl rfl⟩⟩
theorem fn_law {prog : Program} {t : Tok} (KX : (KL w.params).In (gLow h)) : ∃ name qual kV doc pm an ct, FnAt (XLw prog w h t) 167 (fdS (stm 18) name qual .none kV doc pm an (.ref 166) ct) :=
  ⟨_, _, _, _, _, _, _, ⟨⟨_, KX 167 _ rfl, rfl⟩, ne164 rfl, rfl, rfl, rfl, ⟨_, rfl, ne164 rfl⟩, ⟨_, _, _, _, rfl, KX _ _ rfl, rfl, rfl⟩⟩⟩
theorem kc_ok {p : Params} : KC (KL p) 76 where
  makes := rfl
  ga := rfl
  gat := rfl
  sa := rfl
  plain := rfl
  cd := ⟨_, rfl, rfl⟩
  fld := fun y hy => by
    simp only [wsNames, List.mem_cons, List.not_mem_nil, or_false] at hy
    rcases hy with rfl | rfl | rfl | rfl | rfl <;> rfl
  reads := rfl
  S := ⟨_, rfl⟩
  T := ⟨_, rfl⟩
theorem m_Init {prog : Program} {t : Tok} (KX : (KL w.params).In (gLow h)) : MethK (XLw prog w h t) (KL w.params) 76 "__init__" (mst 1) :=
  ⟨by decide, ⟨_, rfl, rfl, ⟨_, _, _, _, _, _, _, _, ⟨⟨_, KX _ _ rfl, rfl⟩, ne164 rfl, rfl, rfl, rfl, ⟨_, rfl, ne164 rfl⟩, ⟨_, _, _, _, rfl, KX _ _ rfl, rfl, rfl⟩⟩⟩⟩⟩
theorem m_Long {prog : Program} {t : Tok} (KX : (KL w.params).In (gLow h)) : MethK (XLw prog w h t) (KL w.params) 76 "longest_run_of_spaces" (mst 2) :=
  ⟨by decide, ⟨_, rfl, rfl, ⟨_, _, _, _, _, _, _, _, ⟨⟨_, KX _ _ rfl, rfl⟩, ne164 rfl, rfl, rfl, rfl, ⟨_, rfl, ne164 rfl⟩, ⟨_, _, _, _, rfl, KX _ _ rfl, rfl, rfl⟩⟩⟩⟩⟩
theorem m_Indent {prog : Program} {t : Tok} (KX : (KL w.params).In (gLow h)) : MethK (XLw prog w h t) (KL w.params) 76 "indent_level" (mst 3) :=
  ⟨by decide, ⟨_, rfl, rfl, ⟨_, _, _, _, _, _, _, _, ⟨⟨_, KX _ _ rfl, rfl⟩, ne164 rfl, rfl, rfl, rfl, ⟨_, rfl, ne164 rfl⟩, ⟨_, _, _, _, rfl, KX _ _ rfl, rfl, rfl⟩⟩⟩⟩⟩
theorem m_Equal {prog : Program} {t : Tok} (KX : (KL w.params).In (gLow h)) : MethK (XLw prog w h t) (KL w.params) 76 "equal" (mst 4) :=
  ⟨by decide, ⟨_, rfl, rfl, ⟨_, _, _, _, _, _, _, _, ⟨⟨_, KX _ _ rfl, rfl⟩, ne164 rfl, rfl, rfl, rfl, ⟨_, rfl, ne164 rfl⟩, ⟨_, _, _, _, rfl, KX _ _ rfl, rfl, rfl⟩⟩⟩⟩⟩
theorem m_NotEq {prog : Program} {t : Tok} (KX : (KL w.params).In (gLow h)) : MethK (XLw prog w h t) (KL w.params) 76 "not_equal_witness" (mst 5) :=
  ⟨by decide, ⟨_, rfl, rfl, ⟨_, _, _, _, _, _, _, _, ⟨⟨_, KX _ _ rfl, rfl⟩, ne164 rfl, rfl, rfl, rfl, ⟨_, rfl, ne164 rfl⟩, ⟨_, _, _, _, rfl, KX _ _ rfl, rfl, rfl⟩⟩⟩⟩⟩
theorem m_Less {prog : Program} {t : Tok} (KX : (KL w.params).In (gLow h)) : MethK (XLw prog w h t) (KL w.params) 76 "less" (mst 6) :=
  ⟨by decide, ⟨_, rfl, rfl, ⟨_, _, _, _, _, _, _, _, ⟨⟨_, KX _ _ rfl, rfl⟩, ne164 rfl, rfl, rfl, rfl, ⟨_, rfl, ne164 rfl⟩, ⟨_, _, _, _, rfl, KX _ _ rfl, rfl, rfl⟩⟩⟩⟩⟩
theorem m_NotLess {prog : Program} {t : Tok} (KX : (KL w.params).In (gLow h)) : MethK (XLw prog w h t) (KL w.params) 76 "not_less_witness" (mst 7) :=
  ⟨by decide, ⟨_, rfl, rfl, ⟨_, _, _, _, _, _, _, _, ⟨⟨_, KX _ _ rfl, rfl⟩, ne164 rfl, rfl, rfl, rfl, ⟨_, rfl, ne164 rfl⟩, ⟨_, _, _, _, rfl, KX _ _ rfl, rfl, rfl⟩⟩⟩⟩⟩
theorem low_ns {a : Addr} {m : Str → Option Value} (n : h.Ns a m) (ha : a ≠ 164) : (gLow h).Ns a m := let ⟨o, es, ep, e, r⟩ := n; ⟨o, es, ep, hideAll_get _ e (by simpa using ha), r⟩
theorem al_c {Q : Str → Value → Prop} {g : Str} {v : Value} {l : List (Str × Value)} (a : Q g v) (b : ∀ g v, (g, v) ∈ l → Q g v) : ∀ g' v', (g', v') ∈ (g, v) :: l → Q g' v' :=
  fun g' v' h => (List.mem_cons.mp h).elim (fun e => by obtain ⟨rfl, rfl⟩ := Prod.mk.inj e; exact a) (b g' v')
theorem names_ok (KX : (KL w.params).In h) (hg : h.Ns mainGlobals mg) (hb : ∀ x : Str, x ≠ "__name__" → mb x = bootBuiltins x) :
    ∃ t, ∀ g v, (g, v) ∈ glL t → mg g = some v ∨ (mg g = none ∧ mb g = some v) := by
  have bi : ∀ {x : Str} {v : Value}, nsIn (KL w.params) mainGlobals x = some none → (x == "__name__") = false → bootBuiltins x = some v → mg x = some v ∨ (mg x = none ∧ mb x = some v) := fun {x v} e n b => .inr ⟨mg_none_of KX hg e, by rw [hb x (by simpa using n)]; exact b⟩
  have fu : ∀ {x : Str} {v : Value}, nsIn (KL w.params) mainGlobals x = some (some v) → mg x = some v ∨ (mg x = none ∧ mb x = some v) := fun {x v} e => .inl (mg_of KX hg e)
  have cm : ∃ t, nsIn (KL w.params) mainGlobals "CHAR_MAX" = some (some (.int 127 t)) := ⟨_, rfl⟩
  exact cm.elim fun t ht => ⟨t, al_c (bi rfl (by decide) rfl) <| al_c (bi rfl (by decide) rfl) <| al_c (bi rfl (by decide) rfl) <| al_c (bi rfl (by decide) rfl) <| al_c (bi rfl (by decide) rfl) <| al_c (bi rfl (by decide) rfl) <| al_c (bi rfl (by decide) rfl) <| al_c (bi rfl (by decide) rfl) <| al_c (bi rfl (by decide) rfl) <| al_c (bi rfl (by decide) rfl) <| al_c (bi rfl (by decide) rfl) <| al_c (fu rfl) <| al_c (fu rfl) <| al_c (fu rfl) <| al_c (fu rfl) <| al_c (fu rfl) <| al_c (fu rfl) <| al_c (fu rfl) <| al_c (fu rfl) <| al_c (fu rfl) <| al_c (fu rfl) <| al_c (fu rfl) <| al_c (fu rfl) <| al_c (fu rfl) <| al_c (fu ht) fun _ _ h => noM h⟩
theorem pk_ok {prog : Program} (KX : (KL w.params).In h) (hg : h.Ns mainGlobals mg) (hbn : h.Ns builtinsNs mb) (hlim : h.NoLimit) (hb : ∀ x : Str, x ≠ "__name__" → mb x = bootBuiltins x) : ∃ t, PK (XLw prog w h t) AdL (KL w.params) := by
  refine el1_1 (names_ok KX hg hb) fun t ht => ?_
  have KG := k_low KX
  refine ⟨t, ⟨⟨⟨⟨⟨mg, mb, low_ns hg (by decide), low_ns hbn (by decide), ht⟩, ⟨Ne.symm (ne164 rfl), Ne.symm (ne164 rfl), Ne.symm (ne164 rfl)⟩, let ⟨mc, l1, l2⟩ := hlim; ⟨mc, low_ns l1 (by decide), l2⟩⟩, ?_, ?_, ?_, ?_, ?_, ?_, ?_, ?_, ?_, ?_, ?_, ?_, ?_, ?_, ?_, ?_, ?_, ?_, ?_, ?_, ?_, ?_, ?_, ?_, fn_lead KG, fn_leads KG, fn_text KG, fn_stand KG, fn_left KG, fn_cut KG, fn_typed KG, fn_words KG, fn_strip KG, fn_group KG, ⟨t, ?_⟩⟩, fn_bright KG, fn_bleft KG⟩, KG, rfl, kc_ok, ⟨_, _, KG 76 _ rfl, rfl⟩, m_Init KG, m_Long KG, m_Indent KG, m_Equal KG, m_NotEq KG, m_Less KG, m_NotLess KG⟩⟩
  all_goals
    show (_, _) ∈ glL t
    repeat (first | exact List.Mem.head _ | apply List.Mem.tail)
end
end Mine
end
noncomputable section
namespace Mine
open PySem PySem.W PySem.Calls PyProof.Rows
variable {w : World} {mg mb : Str → Option Value}
theorem cell_lt (script : List Int) (p : Nat × Nat) : cellN script p < 1000000 := by
  unfold cellN
  have h1 := Int.emod_nonneg ((p.2 : Int) + (pickL script (some (p.1 : Int)) (some 60) (some 4)).sum) (show (1000000 : Int) ≠ 0 by decide)
  have h2 := Int.emod_lt_of_pos ((p.2 : Int) + (pickL script (some (p.1 : Int)) (some 60) (some 4)).sum) (show (0 : Int) < 1000000 by decide)
  lia
theorem low_tab {h : Heap} : (gLow h).get? 164 = none := hideAll_none [164] (.head _)
theorem up_low {h : Heap} {b : Addr} {o : Obj} (e : h.get? b = some o) (hb : b ≠ 164) : (gLow h).get? b = some o := hideAll_get _ e (by simpa using hb)
theorem law_call {prog : Program} {s : Shared} {l : Addr} {vs : Array Value} {n : Nat} {script : List Int} (KX : (KL w.params).In s.heap) (hg : s.heap.Ns mainGlobals mg) (hbn : s.heap.Ns builtinsNs mb) (hlim : s.heap.NoLimit) (hb : ∀ x : Str, x ≠ "__name__" → mb x = bootBuiltins x)
    (hbm : s.heap.BuiltinsAt mg 164) (hcd : CodeHd s.heap 166 164) (hP : s.heap.get? 164 = some (tabObj #[])) (hl : IsL s.heap l vs n) (hv : Rds [164] s.heap vs.toList (script.map V.int)) (hsc : script.length ≤ 1000) :
    wpAny (model prog w) callerA (call (.ref 167) [.ref l] []) (fun v s' => v = .bool true ∧ Kp (gLow s.heap) [164] s s' ∧ ∃ ps, s'.heap.get? 164 = some (tabObj ps)) No s := by
  refine el1_1 (pk_ok (prog := prog) KX hg hbn hlim hb) fun t P => ?_
  refine el7_1 (fn_law (prog := prog) (t := t) (k_low KX)) fun name qual kV doc pm an ct F => ?_
  have hl164 : l ≠ 164 := fun q => by have hl' : s.heap.get? l = _ := hl; rw [q, hP] at hl'; cases hl'
  have B : Base (XLw prog w s.heap t) callerA [164] s := by
    refine ⟨fun b o _ e => of_hideAll _ e, .head _, fun a ha => by rw [List.mem_singleton.mp ha]; exact ⟨_, hP⟩, [], rfl, fun e he => nomatch he⟩
  have rd : Rds [164] s.heap [.ref l] [intsV script] := .cons (.list hl (by simpa using hl164) hv) .nil
  have Ok := fnOk_of law_fn
  refine el1_2 (F.obj) fun o ho hd => ?_
  have hcd0 : s.heap.CodeRec (.ref 166) qual := by
    refine el4_4 (F.crec) fun c' o' vs' t e1 e2 e3 e4 => ?_
    exact ⟨c', o', vs', t, e1, of_hideAll _ e2, e3, e4⟩
  have Rm : Room 20 callerA := ⟨rfl, by decide, by decide⟩
  refine wpAny_call ?_
  refine codeAny_call_function (by decide) (of_hideAll _ ho) hd Ok.co Ok.ge rfl hcd0 ?_
  refine (BindsTo.of_eq (fd := fdS (stm 18) name qual .none kV doc pm an (.ref 166) ct) (args := ⟨[.ref l], []⟩) (binds := (["script"] : List Str).zip [.ref l]) (by kernel_rfl)) _ _ _ _ ?_
  refine wpAny_newFunctionEnv_cells Ok.fn (fun x hx => ?_) fun env he s1 x => ?_
  · have e : x.1 = ("script" : Str) := by rw [List.mem_singleton.mp hx]
    refine .inr ⟨by rw [e]; exact (show (scopeS (stm 18)).names.lookup ("script" : Str) = some .cell from by decide +kernel), ?_⟩
    refine el1_1 (cellsFrom_has (scopeS (stm 18)).names (s.heap.objs.size + 1) [] x.1 (.inl (mem_of_lookup (by rw [e]; decide +kernel)))) fun c hc => ?_
    refine el1_1 (lookup_of_mem hc) fun c' hc' => ?_
    have hc2 : (cellsFrom (s.heap.objs.size + 1) (fdS (stm 18) name qual .none kV doc pm an (.ref 166) ct).scope.names []).lookup x.1 = some c' := hc'
    rw [hc2]; rfl
  · subst he
    refine el0_2 (call_env (ds := [intsV script]) F B law_fn rfl rd x) fun K1 y1 => ?_; refine el1_2 (y1) fun M hM S1 => ?_
    refine ⟨(B.keep0 K1).lim P.toXOk, codeAny_func ?_⟩
    have htM : (164 : Addr) ∉ M := fun q => by have := hM _ q; rw [hP] at this; cases this
    have PLx := pl_of (cellN script (0, 1618)) (cellN script (1, 1)) (cellN script (2, 7)) (cellN script (3, 23)) (cell_lt _ _)
    refine wpAny_mono (law_body (k := 10) P hsc PLx rfl rfl ⟨low_tab, ⟨166, rfl, ?_⟩, mg, low_ns hg (by decide), ?_⟩ (Room.deeper (k := 18) (Rm.mono (by (exact Nat.le_add_left _ _))) _) htM S1 (K1.get nofun hP nofun) (show (scopeS (stm 18)).names.lookup ("free" : Str) = some .cell from by decide +kernel) (show (scopeS (stm 18)).names.lookup ("sizes" : Str) = some .cell from by decide +kernel)) ?_ (fun _ _ f => f.elim)
    · refine el7_1 (hcd) fun o vs file tf flags tg inF y2 => ?_; refine el2_2 (y2) fun text tt e r => ?_
      exact ⟨o, vs, file, tf, flags, tg, inF, text, tt, up_low e (by decide), r⟩
    · refine el2_6 (hbm) fun bm ob b1 b2 b3 b4 b5 r => ?_
      exact ⟨bm, ob, b1, b2, b3, b4, up_low b5 b4, r⟩
    intro f s2 y3; refine el0_3 (y3) fun y4 k2 y5 => ?_; obtain rfl := y4; refine el1_1 (y5) fun ps hps => ?_
    refine ⟨rfl, (K1.nil.trans k2).fresh fun b hb => ?_, ps, hps⟩
    rcases List.mem_cons.mp hb with rfl | hb
    · exact .inl (.head _)
    · exact .inr (hM b hb)
end Mine
end
open PySem PySem.W PyProof.Rows
namespace Mine
theorem ints_rds {h : Heap} {vs : List Value} {ns : List Int} (x : IntsAre vs ns) : Rds [164] h vs (ns.map V.int) := by
  induction x with
  | nil => exact .nil
  | cons n t _ i => exact .cons (.int n t) i
theorem arg_ok {p : Params} {h : Heap} {l : Addr} {vs : List Value} {script : List Int} (hL : h.IsList l vs.toArray) (w1 : Well p h (.ref l) (ofPy (PyData.list (script.map PyData.int)))) : ∃ n, IsL h l vs.toArray n := by
  obtain ⟨xs, e⟩ : ∃ xs, ofPy (PyData.list (script.map PyData.int)) = WData.list xs := ⟨_, rfl⟩
  rw [e] at w1
  obtain ⟨o, ho, hc, n, hd⟩ := hL
  cases w1 with
  | list e2 _ =>
    rw [ho] at e2
    cases e2
    cases hd
    exact ⟨_, ho⟩
theorem good_ok {s₀ s₁ s' : Shared} {script : List Int} {v : Value} (hg : s₁.gens = #[]) (hcd : CodeHd s₁.heap 166 164) (hP : s₁.heap.get? 164 = some (tabObj #[])) (hv : v = .bool true) (k : Kp (gLow s₁.heap) [164] s₁ s') (ht : ∃ ps, s'.heap.get? 164 = some (tabObj ps)) :
    GoodWG Challenge.rw_rs0161_01.row.claim (classAt s₀.heap) (ExcName.means s₀.heap) [ofPy (PyData.list (script.map PyData.int))] s₁ (.ok (.ret v)) s' := by
  subst hv
  obtain ⟨ps, hps⟩ := ht
  have new164 : ∀ {b o}, s₁.heap.get? b = some o → b ≠ 164 → s'.heap.get? b = some o := fun {b o} e hb => by
    obtain ⟨o', e', q⟩ := k.heap b o (by simpa using hb) e
    rcases q with rfl | ⟨_, q, _⟩
    · exact e'
    · rw [up_low e hb] at q; cases q
  refine ⟨.inl ⟨.bool true, ofPy (.bool true), [], rfl, fun _ => rfl, .bool true, by kernel_rfl, fun _ => ⟨.nil, fun a ha => nomatch ha⟩⟩, ⟨fun b o e => ?_, fun b o e => ?_⟩, k.os, k.bare (AllBare.of_eq hg)⟩
  · by_cases hb : b = 164
    · subst hb
      rw [hP] at e; cases e
      obtain ⟨oc, vs, file, tf, flags, tg, inF, text, tt, c1, c2, c3, c4, _⟩ := hcd
      exact .inr (.inl ⟨⟨166, oc, vs, c1, c2, c3, c4⟩, rfl, #[], ps, rfl, by rw [hps]; simp⟩)
    · exact .inl (new164 e hb)
  · by_cases hb : b = 164
    · subst hb; exact ⟨_, hps⟩
    · exact ⟨o, new164 e hb⟩
theorem bm_ok {h : Heap} {mg : Str → Option Value} (hg : h.Ns mainGlobals mg) (b : ∃ bm ob, mg "__builtins__" = some (.ref bm) ∧ bm ≠ builtinsNs ∧ h.get? bm = some ob ∧ ob.cls = .type "module" ∧ ob.dict = some builtinsNs ∧ ob.data = .plain) (hP : h.get? 164 = some (tabObj #[])) : h.BuiltinsAt mg 164 := by
  obtain ⟨bm, ob, b1, b2, b3, b4, b5, b6⟩ := b
  refine ⟨bm, ob, b1, b2, fun q => ?_, fun q => ?_, b3, b4, b5, b6⟩
  · obtain ⟨o, es, ep, e, hd, _⟩ := hg
    rw [q, e] at b3; cases b3; rw [hd] at b6; cases b6
  · rw [q, hP] at b3; cases b3; cases b4
end Mine
noncomputable def Mine.dkM : DefRec × List (Str × Expr) := (defOf Mine.vw (OpenRow.toRowW PySem.Challenge.rw_rs0161_01.row).name).get (by kernel_rfl)
theorem PySem.Challenge.cw_rs0161_01_holds : PySem.Challenge.rw_rs0161_01.Holds := by
  w_on
  refine holds_law Mine.said9 fun said => ?_
  refine holds_open (d := Mine.dkM.1) (kwd := Mine.dkM.2) (q := Mine.vw) (loose := Mine.looseM) (Xt := fun s => xlAt Mine.vw [] s && recOk (RowW.records (OpenRow.toRowW PySem.Challenge.rw_rs0161_01.row)) s) (XP := XL Mine.vw []) (Yf := Hook.obs Mine.hookM) (Ya := Hook.val Mine.hookM) (YP := Hook.says Mine.hookM) (N := 2040) Mine.top9 (Hook.of Mine.hookM) (Hook.keeps Mine.hookM) (fun s e => xl_of s (Bool.and_eq_true_iff.mp e).1) XL.keeps (by kernel_rfl) (by kernel_rfl) (by kernel_rfl) (fun s e => recFacts_of (Bool.and_eq_true_iff.mp e).2) (by rfl) (by assumption) (by decide +kernel) ⟨rfl, rfl, rfl, rfl, rfl, by decide +kernel⟩ ?hw ?hc
  case hw => w_witness2
  intro w s₀ s₁ mg mb G Y fa o pm cd doc dV kV ho hd' hcd hD hmg hg args vals as hpre hlay hrd hwl hlo
  have KX := km_in_of Y
  have hT8 := km_tabs_of Y
  refine Ground.open G ?_
  intro T B D TE TW
  try (refine guard_noD D (by decide +kernel) ?_; clear D)
  clear hd' ho
  have hlaw := hmg.symm.trans (PySem.W.mg_of (n := "law") (v := .ref 167) KX T.g rfl)
  cases hlaw
  clear hcd hD hmg
  wrow_args hpre hlay hrd hwl hlo
  all_goals (
    rename_i script _ _ _ _ _ _ _ l vs _ hL _ w1 _ hI _ hc63 _
    have hP := hT8 164 (List.Mem.head _)
    have hCd := codeHd_of_K (c := 166) (P := 164) KX (by kernel_rfl)
    obtain ⟨n, hl⟩ := Mine.arg_ok hL w1
    exact wpAny_mono (Mine.law_call KX T.g T.b T.nolimit T.builtins (Mine.bm_ok T.g T.bmain hP) hCd hP hl (by simpa using Mine.ints_rds hI) (by omega)) (fun v s' h => Mine.good_ok hg hCd hP h.1 h.2.1 h.2.2) (fun _ _ f => f.elim))
