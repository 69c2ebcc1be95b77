import PyProof.Rows.All
import Wide.All
import OpenK.AllK
import Wide.FinOn
import PySem.Challenge.RW_of0013_01
set_option rowWalk.seconds 0
set_option Elab.async false
set_option maxRecDepth 100000
set_option linter.all false
set_option compiler.extract_closed false
open PySem PySem.W PyProof.Rows
section
open PySem PySem.W PyProof.Rows PySem.W.X
set_option maxHeartbeats 8000000
namespace Mine
noncomputable def kyHook (K : Params → Frag) (as : List Addr) (e : ∀ P, as = (K P).map (·.1)) (ts : List Addr) (_ : Unit) : Hook where
  α := (kmHook K as e ts).α × Bool × Option Obj × Option Obj
  obs := fun s => ((kmHook K as e ts).obs s, (s.heap.get? (nat_lit 1)).isSome, s.heap.get? (nat_lit 4), s.heap.get? (nat_lit 5))
  val := fun w => ((kmHook K as e ts).val w, true, some { cls := .type "module", dict := some (nat_lit 0) }, some { cls := .type "module", dict := some (nat_lit 3) })
  says := fun w h => (kmHook K as e ts).says w h ∧ (∃ o, h.get? (nat_lit 1) = some o) ∧ h.get? (nat_lit 4) = some { cls := .type "module", dict := some (nat_lit 0) } ∧ h.get? (nat_lit 5) = some { cls := .type "module", dict := some (nat_lit 3) }
  of := fun w s x => ⟨(kmHook K as e ts).of w s (congrArg Prod.fst x), Option.isSome_iff_exists.mp (congrArg (fun y => y.2.1) x), congrArg (fun y => y.2.2.1) x, congrArg (fun y => y.2.2.2) x⟩
  keeps := fun w h h' x k => ⟨(kmHook K as e ts).keeps w h h' x.1 k, x.2.1.elim fun o p => ⟨o, k _ _ p⟩, k _ _ x.2.2.1, k _ _ x.2.2.2⟩
noncomputable def keepAt : List Bool → List Stmt → List Stmt
  | true :: bs, x :: xs => x :: keepAt bs xs
  | false :: bs, _ :: xs => keepAt bs xs
  | _, _ => []
noncomputable def vw : Program := { PySem.Challenge.pw_of0013_01 with main := { PySem.Challenge.pw_of0013_01.main with body := keepAt [true, false, true, true, false, true, true, true, true, true, false, true, false, true, true, false, true, true, true, true, true] PySem.Challenge.pw_of0013_01.main.body } }
theorem hopen {r : OpenRow} (H : Hook) {d : DefRec} {kwd : List (PySem.Str × PySem.Expr)} (left : LeftO r.prog vw [] (fun s => xlAt vw [] s && recOk (RowW.records r.toRowW) s) H.obs H.val 1606)
    (hdef : defOf vw r.name = some (d, kwd)) (hp : r.prog.theDef r.name = some (d.params, d.body, d.scope)) (hk : kwWritten? d.params.kwonlyargs d.params.kw_defaults = some kwd) (hwr : (!r.writes || r.records.isEmpty) = true)
    (k1 : r.wellSaid = true) (ok : (chainsOk vw && opensWell r.prog && (frees r.toRowW && r.within.isEmpty)) = true) (hb : r.prog.bare) (hw : r.toRowW.promised)
    (walk : WalkO vw [] (XL vw []) H.says r.toRowW d kwd fun f vs => PySem.call f vs) : r.Holds :=
  holds_open (XP := XL vw []) left H.of H.keeps (fun s e => xl_of s (Bool.and_eq_true_iff.mp e).1) XL.keeps hdef hp hk (fun s e => recFacts_of (Bool.and_eq_true_iff.mp e).2) hwr k1 ok hb hw walk
end Mine
local macro_rules | `(tactic| o_law) => `(tactic| refine holds_law (by decide +kernel) fun said => ?_)
local macro_rules | `(tactic| o_head ($_ $k $a $e $t)) => `(tactic| (refine Mine.hopen (Mine.kyHook $k $a $e $t ()) ?hl (by rfl) (by rfl) (by rfl) (by rfl) (by first | assumption | decide +kernel) (by decide +kernel) ⟨rfl, rfl, rfl, rfl, rfl, by decide +kernel⟩ ?hw ?hc; (case hl => intro w; kernel_rfl)))
open_top hd for PySem.Challenge.rw_of0013_01
end
namespace Mine
open PySem PySem.W PyProof.Rows in
def RS : Prop := ∀ (M : Model) (A : Around) (Q : Unit → Shared → Prop) (E : Value → Shared → Prop) (s : Shared), Q () s → wpAny M A (pure ()) Q E s
end Mine
open PySem PySem.W PyProof.Rows in
example : Mine.RS := by intro M A Q E s h; w_top off; first | walk1 | skip; all_goals first | exact h | exact wpAny_pure h
open PySem.W in
local macro_rules | `(tactic| k_room) => `(tactic| ktr_room)
open PySem.W in
local macro_rules | `(tactic| k_units) => `(tactic| ktr_units)
section
namespace Mine
noncomputable def pick {α : Type} (ne : Nonempty α) (P : α → Prop) : α := @Classical.epsilon α ne (fun x => ¬ P x)
theorem pick_all {α : Type} (ne : Nonempty α) {P : α → Prop} (h : P (pick ne P)) : ∀ x, P x := fun x => Classical.byContradiction fun hn => (Classical.epsilon_spec (p := fun x => ¬ P x) ⟨x, hn⟩) h
noncomputable def PickOn : Prop := True
theorem pickOn : PickOn := trivial
theorem pick_allM {α : Type} (_ : PickOn) (ne : Nonempty α) {P : α → Prop} (h : P (pick ne P)) : ∀ x, P x := pick_all ne h
theorem neW : Nonempty World := ⟨aWorld 1⟩
theorem neA : Nonempty PySem.Around := ⟨({} : PySem.Around)⟩
theorem neS : Nonempty Shared := ⟨{}⟩
theorem neD : Nonempty Drawn := ⟨{}⟩
theorem neP : Nonempty Params := ⟨(aWorld 1).params⟩
noncomputable abbrev TE {α : Type} (x b : α) : Prop := x = b → x = b
theorem pad {P : Prop} (h : Unit → P) : P := h ()
noncomputable def pP {α1 α2 α3 α4 α5 α6 α7 α8 α9 α10 α11 α12 α13 α14 α15 α16 : Type} (P : α1 → α2 → α3 → α4 → α5 → α6 → α7 → α8 → α9 → α10 → α11 → α12 → α13 → α14 → α15 → α16 → Prop) (t : α1 × α2 × α3 × α4 × α5 × α6 × α7 × α8 × α9 × α10 × α11 × α12 × α13 × α14 × α15 × α16) : Prop := P t.1 t.2.1 t.2.2.1 t.2.2.2.1 t.2.2.2.2.1 t.2.2.2.2.2.1 t.2.2.2.2.2.2.1 t.2.2.2.2.2.2.2.1 t.2.2.2.2.2.2.2.2.1 t.2.2.2.2.2.2.2.2.2.1 t.2.2.2.2.2.2.2.2.2.2.1 t.2.2.2.2.2.2.2.2.2.2.2.1 t.2.2.2.2.2.2.2.2.2.2.2.2.1 t.2.2.2.2.2.2.2.2.2.2.2.2.2.1 t.2.2.2.2.2.2.2.2.2.2.2.2.2.2.1 t.2.2.2.2.2.2.2.2.2.2.2.2.2.2.2
theorem pN {α1 α2 α3 α4 α5 α6 α7 α8 α9 α10 α11 α12 α13 α14 α15 α16 : Type} (n1 : Nonempty α1) (n2 : Nonempty α2) (n3 : Nonempty α3) (n4 : Nonempty α4) (n5 : Nonempty α5) (n6 : Nonempty α6) (n7 : Nonempty α7) (n8 : Nonempty α8) (n9 : Nonempty α9) (n10 : Nonempty α10) (n11 : Nonempty α11) (n12 : Nonempty α12) (n13 : Nonempty α13) (n14 : Nonempty α14) (n15 : Nonempty α15) (n16 : Nonempty α16) : Nonempty (α1 × α2 × α3 × α4 × α5 × α6 × α7 × α8 × α9 × α10 × α11 × α12 × α13 × α14 × α15 × α16) := n1.elim fun x1 => n2.elim fun x2 => n3.elim fun x3 => n4.elim fun x4 => n5.elim fun x5 => n6.elim fun x6 => n7.elim fun x7 => n8.elim fun x8 => n9.elim fun x9 => n10.elim fun x10 => n11.elim fun x11 => n12.elim fun x12 => n13.elim fun x13 => n14.elim fun x14 => n15.elim fun x15 => n16.elim fun x16 => ⟨(x1, x2, x3, x4, x5, x6, x7, x8, x9, x10, x11, x12, x13, x14, x15, x16)⟩
noncomputable def pT16 {α1 α2 α3 α4 α5 α6 α7 α8 α9 α10 α11 α12 α13 α14 α15 α16 : Type} {n1 : Nonempty α1} {n2 : Nonempty α2} {n3 : Nonempty α3} {n4 : Nonempty α4} {n5 : Nonempty α5} {n6 : Nonempty α6} {n7 : Nonempty α7} {n8 : Nonempty α8} {n9 : Nonempty α9} {n10 : Nonempty α10} {n11 : Nonempty α11} {n12 : Nonempty α12} {n13 : Nonempty α13} {n14 : Nonempty α14} {n15 : Nonempty α15} {n16 : Nonempty α16} (P : α1 → α2 → α3 → α4 → α5 → α6 → α7 → α8 → α9 → α10 → α11 → α12 → α13 → α14 → α15 → α16 → Prop) : α1 × α2 × α3 × α4 × α5 × α6 × α7 × α8 × α9 × α10 × α11 × α12 × α13 × α14 × α15 × α16 := pick (pN n1 n2 n3 n4 n5 n6 n7 n8 n9 n10 n11 n12 n13 n14 n15 n16) (pP P)
theorem pk16 {α1 α2 α3 α4 α5 α6 α7 α8 α9 α10 α11 α12 α13 α14 α15 α16 : Type} (n1 : Nonempty α1) (n2 : Nonempty α2) (n3 : Nonempty α3) (n4 : Nonempty α4) (n5 : Nonempty α5) (n6 : Nonempty α6) (n7 : Nonempty α7) (n8 : Nonempty α8) (n9 : Nonempty α9) (n10 : Nonempty α10) (n11 : Nonempty α11) (n12 : Nonempty α12) (n13 : Nonempty α13) (n14 : Nonempty α14) (n15 : Nonempty α15) (n16 : Nonempty α16) {P : α1 → α2 → α3 → α4 → α5 → α6 → α7 → α8 → α9 → α10 → α11 → α12 → α13 → α14 → α15 → α16 → Prop} (h : P (@pT16 α1 α2 α3 α4 α5 α6 α7 α8 α9 α10 α11 α12 α13 α14 α15 α16 n1 n2 n3 n4 n5 n6 n7 n8 n9 n10 n11 n12 n13 n14 n15 n16 P).1 (@pT16 α1 α2 α3 α4 α5 α6 α7 α8 α9 α10 α11 α12 α13 α14 α15 α16 n1 n2 n3 n4 n5 n6 n7 n8 n9 n10 n11 n12 n13 n14 n15 n16 P).2.1 (@pT16 α1 α2 α3 α4 α5 α6 α7 α8 α9 α10 α11 α12 α13 α14 α15 α16 n1 n2 n3 n4 n5 n6 n7 n8 n9 n10 n11 n12 n13 n14 n15 n16 P).2.2.1 (@pT16 α1 α2 α3 α4 α5 α6 α7 α8 α9 α10 α11 α12 α13 α14 α15 α16 n1 n2 n3 n4 n5 n6 n7 n8 n9 n10 n11 n12 n13 n14 n15 n16 P).2.2.2.1 (@pT16 α1 α2 α3 α4 α5 α6 α7 α8 α9 α10 α11 α12 α13 α14 α15 α16 n1 n2 n3 n4 n5 n6 n7 n8 n9 n10 n11 n12 n13 n14 n15 n16 P).2.2.2.2.1 (@pT16 α1 α2 α3 α4 α5 α6 α7 α8 α9 α10 α11 α12 α13 α14 α15 α16 n1 n2 n3 n4 n5 n6 n7 n8 n9 n10 n11 n12 n13 n14 n15 n16 P).2.2.2.2.2.1 (@pT16 α1 α2 α3 α4 α5 α6 α7 α8 α9 α10 α11 α12 α13 α14 α15 α16 n1 n2 n3 n4 n5 n6 n7 n8 n9 n10 n11 n12 n13 n14 n15 n16 P).2.2.2.2.2.2.1 (@pT16 α1 α2 α3 α4 α5 α6 α7 α8 α9 α10 α11 α12 α13 α14 α15 α16 n1 n2 n3 n4 n5 n6 n7 n8 n9 n10 n11 n12 n13 n14 n15 n16 P).2.2.2.2.2.2.2.1 (@pT16 α1 α2 α3 α4 α5 α6 α7 α8 α9 α10 α11 α12 α13 α14 α15 α16 n1 n2 n3 n4 n5 n6 n7 n8 n9 n10 n11 n12 n13 n14 n15 n16 P).2.2.2.2.2.2.2.2.1 (@pT16 α1 α2 α3 α4 α5 α6 α7 α8 α9 α10 α11 α12 α13 α14 α15 α16 n1 n2 n3 n4 n5 n6 n7 n8 n9 n10 n11 n12 n13 n14 n15 n16 P).2.2.2.2.2.2.2.2.2.1 (@pT16 α1 α2 α3 α4 α5 α6 α7 α8 α9 α10 α11 α12 α13 α14 α15 α16 n1 n2 n3 n4 n5 n6 n7 n8 n9 n10 n11 n12 n13 n14 n15 n16 P).2.2.2.2.2.2.2.2.2.2.1 (@pT16 α1 α2 α3 α4 α5 α6 α7 α8 α9 α10 α11 α12 α13 α14 α15 α16 n1 n2 n3 n4 n5 n6 n7 n8 n9 n10 n11 n12 n13 n14 n15 n16 P).2.2.2.2.2.2.2.2.2.2.2.1 (@pT16 α1 α2 α3 α4 α5 α6 α7 α8 α9 α10 α11 α12 α13 α14 α15 α16 n1 n2 n3 n4 n5 n6 n7 n8 n9 n10 n11 n12 n13 n14 n15 n16 P).2.2.2.2.2.2.2.2.2.2.2.2.1 (@pT16 α1 α2 α3 α4 α5 α6 α7 α8 α9 α10 α11 α12 α13 α14 α15 α16 n1 n2 n3 n4 n5 n6 n7 n8 n9 n10 n11 n12 n13 n14 n15 n16 P).2.2.2.2.2.2.2.2.2.2.2.2.2.1 (@pT16 α1 α2 α3 α4 α5 α6 α7 α8 α9 α10 α11 α12 α13 α14 α15 α16 n1 n2 n3 n4 n5 n6 n7 n8 n9 n10 n11 n12 n13 n14 n15 n16 P).2.2.2.2.2.2.2.2.2.2.2.2.2.2.1 (@pT16 α1 α2 α3 α4 α5 α6 α7 α8 α9 α10 α11 α12 α13 α14 α15 α16 n1 n2 n3 n4 n5 n6 n7 n8 n9 n10 n11 n12 n13 n14 n15 n16 P).2.2.2.2.2.2.2.2.2.2.2.2.2.2.2) : ∀ x1 x2 x3 x4 x5 x6 x7 x8 x9 x10 x11 x12 x13 x14 x15 x16, P x1 x2 x3 x4 x5 x6 x7 x8 x9 x10 x11 x12 x13 x14 x15 x16 := fun x1 x2 x3 x4 x5 x6 x7 x8 x9 x10 x11 x12 x13 x14 x15 x16 => pick_all (pN n1 n2 n3 n4 n5 n6 n7 n8 n9 n10 n11 n12 n13 n14 n15 n16) (P := pP P) h (x1, x2, x3, x4, x5, x6, x7, x8, x9, x10, x11, x12, x13, x14, x15, x16)
theorem mget {α : Type} {l : List α} {a : α} {i : Nat} (h : some a = l[i]?) : a ∈ l := List.mem_of_getElem? h.symm
inductive At {α : Type} : List α → α → Nat → Prop
  | at0 {l : List α} {a : α} : At (a :: l) a Nat.zero
  | atS {l : List α} {a b : α} {i : Nat} (h : At l a i) : At (b :: l) a (Nat.succ i)
noncomputable abbrev TA {α : Type} (l : List α) (a : α) (i : Nat) : Prop := At l a i → some a = l[i]?
end Mine
end
section
namespace Mine
theorem og1 {a k i R : Nat} (h : a + k < R) (e : Nat.ble i k = true) : a + i < R := Nat.lt_of_le_of_lt (Nat.add_le_add_left (Nat.le_of_ble_eq_true e) a) h
theorem og0 {a k R : Nat} (h : a + k < R) : a < R := Nat.lt_of_le_of_lt (Nat.le_add_right a k) h
theorem og2 {a k i j R : Nat} (h : a + k < R) (e : Nat.ble (i + j) k = true) : a + i + j < R := by rw [Nat.add_assoc]; exact og1 h e
theorem og3 {a k i j l R : Nat} (h : a + k < R) (e : Nat.ble (i + j + l) k = true) : a + i + j + l < R := by rw [Nat.add_assoc (a + i), Nat.add_assoc a]; exact og1 h (by rw [← Nat.add_assoc]; exact e)
theorem og4 {x a b : Nat} (h : x ≤ a) (e : Nat.ble a b = true) : x ≤ b := Nat.le_trans h (Nat.le_of_ble_eq_true e)
theorem og5 {x a j b : Nat} (h : x ≤ a) (e : Nat.ble (a + j) b = true) : x + j ≤ b := Nat.le_trans (Nat.add_le_add_right h j) (Nat.le_of_ble_eq_true e)
theorem obE {α : Sort u} {p : α → Prop} {G : Prop} (h : ∃ x, p x) (k : ∀ x, p x → G) : G := h.elim k
theorem obA {a b G : Prop} (h : a ∧ b) (k : a → b → G) : G := k h.1 h.2
end Mine
end
open PySem PySem.W PyProof.Rows in
local macro_rules | `(tactic| k_extra "ne9") => `(tactic| first | exact inferInstance | exact Mine.neA | exact Mine.neS | exact Mine.neW | exact Mine.neD)
local macro_rules | `(tactic| k_extra "pk9") => `(tactic| first | (refine @Mine.pick_all _ (by k_extra "ne9") _ ?_; generalize @Mine.pick _ _ _ = x9) | intros x9)
local macro_rules | `(tactic| k_extra "pkG") => `(tactic| (refine @Mine.pk16 _ _ _ _ _ _ _ _ _ _ _ _ _ _ _ _ ?_ ?_ ?_ ?_ ?_ ?_ ?_ ?_ ?_ ?_ ?_ ?_ ?_ ?_ ?_ ?_ _ ?_; (iterate 16 (· k_extra "ne9")); generalize Mine.pT16 _ = t; (iterate 7 (generalize t.1 = x; generalize t.2 = u; clear t; generalize u.1 = x; generalize u.2 = t; clear u)); generalize t.1 = x; generalize t.2 = u; clear t))
local macro_rules | `(tactic| omega) => `(tactic| first | with_reducible assumption | with_reducible exact Nat.ne_of_gt (by assumption) | with_reducible exact Nat.ne_of_lt (by assumption) | with_reducible exact Mine.og1 (by assumption) rfl | with_reducible exact Mine.og2 (by assumption) rfl | with_reducible exact Mine.og3 (by assumption) rfl | with_reducible exact Mine.og0 (by assumption) | with_reducible exact Mine.og4 (by assumption) rfl | with_reducible exact Mine.og5 (by assumption) rfl | decide | lia | omega +splitDisjunctions)
section
set_option maxHeartbeats 8000000
namespace Mine
section
variable {prog : Program} {w : World} {A : Around} {h₀ : Heap} {L : Addr} {m : Str → Option Value} {env : Env} {elt : PySem.Expr} {x : Str} {scope : Scope} {cl : List (Str × Addr)} {s : Shared} {S : List (Addr × Obj) → Prop} {P : Nat → Value → Prop} {Fin : List Value → List (Addr × Obj) → Prop} {news : List (Addr × Obj)}
theorem cr_map {n : Nat} (R : Nat → Value → Prop)
    (turn : ∀ i v I oI C oC D m₂ ys h tk (E' : Value → Shared → Prop), i < n → P i v → LCg.NsObj oC m₂ → m₂ x = some v → Fr h₀ L h m → News h₀ L h ((I, oI) :: (C, oC) :: (D, LCg.lst ys) :: news) → LCg.Off3 I C D news → ((@Ne Nat I C) ∧ (@Ne Nat I D) ∧ (@Ne Nat C D)) →
      wpAny (model prog w) A (eval elt (compEnvC scope cl C env)) (LCg.CompEnd h₀ L m { s with heap := h, toks := tk } I oI C oC D (LCg.lst ys) S (fun y news' => news' = news ∧ R i y)) E' { s with heap := h, toks := tk })
    (fin : ∀ ys : List Value, ys.length = n → (∀ i y, ys[i]? = some y → R i y) → Fin ys news) : LCg.CompRest prog w A h₀ L m env elt x scope cl s S P Fin n 0 [] news := by
  have key : ∀ (j i : Nat) (ys : List Value), i + j = n → ys.length = i → (∀ i y, ys[i]? = some y → R i y) → LCg.CompRest prog w A h₀ L m env elt x scope cl s S P Fin j i ys news := by
    intro j
    induction j with
    | zero =>
      intro i ys hi hl hy
      exact LCg.CompRest.zero (fin ys (by omega) hy)
    | succ j ih =>
      intro i ys hi hl hy
      refine LCg.CompRest.succ ?_
      intro v I oI C oC D m₂ h tk E' hv hC hx F N off ne
      refine wpAny_mono (turn i v I oI C oC D m₂ ys h tk E' (by omega) hv hC hx F N off ne) (fun y s₂ hq => ?_) fun _ _ e => e
      refine Classical.byContradiction fun ng9 => ?_
      obtain ⟨h', tk', nw, e, F', N', off', hS, hn, hR⟩ := hq
      refine ng9 ?_
      clear ng9
      rw [hn] at N' off' hS
      refine ⟨h', tk', news, e, F', N', off', hS, ?_⟩
      refine ih (i + 1) _ (by omega) (by rw [List.length_append, hl]; rfl) ?_
      intro k z hz
      rw [List.getElem?_append] at hz
      split at hz
      · exact hy k z hz
      · rename_i hk
        have hk' : k = ys.length := by
          have : k - ys.length < 1 := by
            have := List.getElem?_eq_some_iff.mp hz
            obtain ⟨q, _⟩ := this
            simpa using q
          omega
        subst hk'
        simp at hz
        subst hz
        rw [hl]; exact hR
  exact key n 0 [] (by omega) rfl (by intro i y h; simp at h)
end
theorem strsAre_of {ss : List Str} : ∀ {ys : List Value}, ys.length = ss.length → (∀ (i : Nat) (y : Value), ys[i]? = some y → ∃ t, y = Value.str (ss.getD i Str.empty) t) → StrsAre ys ss := by
  induction ss with
  | nil =>
    intro ys hl _
    cases ys with
    | nil => exact .nil
    | cons => simp at hl
  | cons a ss ih =>
    intro ys hl h
    cases ys with
    | nil => simp at hl
    | cons y ys =>
      obtain ⟨t, e⟩ := h 0 y (by simp)
      have e' : y = .str a t := by simpa using e
      subst e'
      refine .cons a t (ih (by simpa using hl) fun i z hz => ?_)
      obtain ⟨t', e⟩ := h (i + 1) z (by simpa using hz)
      exact ⟨t', by simpa using e⟩
section
variable {prog : Program} {w : World} {A : Around} {E : Value → Shared → Prop} {s : Shared} {h₀ : Heap} {L : Addr} {news : List (Addr × Obj)} {Q : Value → Shared → Prop}
theorem join_len {x : Str} {ss : List Str} (hx : x.length ≤ 2) (hW : (ss.map (·.length)).sum + ss.length ≤ 100) : (Txt.join x ss).length ≤ 300 := by
  have h := size_glued x ss
  have e : (Txt.join x ss).length = (ss.map (·.length)).sum + (ss.length - 1) * x.length := h
  rw [e]
  have h1 : (ss.length - 1) * x.length ≤ (ss.length - 1) * 2 := Nat.mul_le_mul_left _ hx
  omega
theorem my_join {D : Addr} {ys : List Value} {nn : Nat} {ss : List Str} {x : Str} {t : Tok} (N : News h₀ L s.heap news) (hm : (D, ({ cls := .type "list", data := .seq ys.toArray nn } : Obj)) ∈ news) (hS : StrsAre ys ss) (hx : x.length ≤ 2) (hW : (ss.map (·.length)).sum + ss.length ≤ 100)
    (h : ∀ t' k, (Txt.join x ss).length ≤ 300 → Q (.str (Txt.join x ss) t') { s with toks := k }) : wpAny (model prog w) A (call (.builtin "str.join") [.str x t, .ref D]) Q E s :=
  join_listW (News.isList N hm) hS (by omega) (by omega) fun t' k => h t' k (join_len hx hW)
end
end Mine
end
section
open PySem PySem.W PyProof.Rows PySem.Calls
set_option maxHeartbeats 8000000
namespace Mine
noncomputable abbrev aTop (dp un : Nat) (gd : Option (List Code)) (outer : List Env) : Around := { handled := none, depth := dp, frames := some outer, guards := gd, units := un }
section
variable {prog : Program} {w : World} {A : Around} {h₀ : Heap} {g : Array GenState} {d : Drawn} {t : Nat} {os : OsState} {K : Frag} {p : Program} {loose : List Str} {mean : ExcName → Option Value} {mg mb : Str → Option Value}
  {R : Result → Shared → Prop} {name qual : Str} {params : Arguments} {body : List Stmt} {scope : Scope} {dV kV doc pm cdv ct oc : Value} {an od : Option Addr} {osl : Array (Option Value)} {f : Addr} {args : Args} {binds : List (Str × Value)}
theorem enterP (X : K.In h₀) (T : Top p loose mean mg mb h₀)
    (ho : K.lookup f = some ⟨oc, od, .func (fnOf name qual params body scope dV kV doc pm an cdv ct), osl⟩) (hcd : codeIn K cdv qual = true) (hroom : A.depth < recursionLimit)
    (hbind : BindsTo ⟨h₀, g, d, t, os⟩ (fnOf name qual params body scope dV kV doc pm an cdv ct) args binds) (hloc : ∀ y ∈ binds, scope.names.lookup y.1 = some .local)
    (h : ∀ L' h₁, Fr h₀ L' h₁ (fun y => binds.reverse.lookup y) → News h₀ L' h₁ [] →
      wpAny (model prog w) (A.deeper (envOf qual scope L' f cdv)) (execs body (envOf qual scope L' f cdv))
        (fun fl s' => R (.ok (.ret (match fl with | .ret v => v | _ => .none))) s')
        (fun e s' => wpAny (model prog w) (A.deeper (envOf qual scope L' f cdv)) (leaving (envOf qual scope L' f cdv) e) (fun _ s'' => R (.error e) s'') (fun e' s'' => R (.error e') s'') s')
        ⟨h₁, g, d, t + binds.length, os⟩)
    (hco : scope.isCoroutine = false) (hgen : scope.isGenerator = false) (hk : scope.kind = .function)
    (hcell : ∀ x ∈ scope.names, x.2 ≠ .cell) : codeAny (model prog w) A (.call (.ref f) args) R ⟨h₀, g, d, t, os⟩ :=
  codeAny_call_def (fd := fnOf name qual params body scope dV kV doc pm an cdv ct) (body := body) (binds := binds) hroom (X _ _ ho) rfl T.nolimit (codeRec_of X hcd) rfl hbind hcell hloc
    (fun h₁ hns hk₁ => h h₀.objs.size h₁ ⟨hns, hk₁, Nat.le_refl _⟩ News.nil) hco hgen hk
theorem enterL {h : Heap} {news : List (Addr × Obj)} (hb : ∀ b o, h₀.get? b = some o → h.get? b = some o) (hsz : h₀.objs.size ≤ h.objs.size) (hN : ∀ q ∈ news, h.get? q.1 = some q.2 ∧ h₀.get? q.1 = none) (X : K.In h₀) (T : Top p loose mean mg mb h₀)
    (ho : K.lookup f = some ⟨oc, od, .func (fnOf name qual params body scope dV kV doc pm an cdv ct), osl⟩) (hcd : codeIn K cdv qual = true) (hroom : A.depth < recursionLimit)
    (hbind : BindsTo ⟨h, g, d, t, os⟩ (fnOf name qual params body scope dV kV doc pm an cdv ct) args binds) (hloc : ∀ y ∈ binds, scope.names.lookup y.1 = some .local)
    (hh : ∀ L' h₁, Fr h₀ L' h₁ (fun y => binds.reverse.lookup y) → News h₀ L' h₁ news → (∀ q ∈ news, q.1 < L') →
      wpAny (model prog w) (A.deeper (envOf qual scope L' f cdv)) (execs body (envOf qual scope L' f cdv))
        (fun fl s' => R (.ok (.ret (match fl with | .ret v => v | _ => .none))) s')
        (fun e s' => wpAny (model prog w) (A.deeper (envOf qual scope L' f cdv)) (leaving (envOf qual scope L' f cdv) e) (fun _ s'' => R (.error e) s'') (fun e' s'' => R (.error e') s'') s')
        ⟨h₁, g, d, t + binds.length, os⟩)
    (hco : scope.isCoroutine = false) (hgen : scope.isGenerator = false) (hk : scope.kind = .function)
    (hcell : ∀ x ∈ scope.names, x.2 ≠ .cell) : codeAny (model prog w) A (.call (.ref f) args) R ⟨h, g, d, t, os⟩ :=
  codeAny_call_def (fd := fnOf name qual params body scope dV kV doc pm an cdv ct) (body := body) (binds := binds) hroom (hb _ _ (X _ _ ho)) rfl (T.nolimit.keeps hb) ((codeRec_of X hcd).keeps hb) rfl hbind hcell hloc
    (fun h₁ hns hk₁ => hh h.objs.size h₁ ⟨hns, fun b o e => hk₁ b o (hb b o e), hsz⟩ (fun q hq => ⟨hk₁ _ _ (hN q hq).1, Nat.ne_of_lt (Heap.lt_size (hN q hq).1), (hN q hq).2⟩) fun q hq => Heap.lt_size (hN q hq).1) hco hgen hk
theorem enterPC (X : K.In h₀) (T : Top p loose mean mg mb h₀)
    (ho : K.lookup f = some ⟨oc, od, .func (fnOf name qual params body scope dV kV doc pm an cdv ct), osl⟩) (hcd : codeIn K cdv qual = true) (hroom : A.depth < recursionLimit)
    (hbind : BindsTo ⟨h₀, g, d, t, os⟩ (fnOf name qual params body scope dV kV doc pm an cdv ct) args binds) (hkind : (binds.all fun y => scope.names.lookup y.1 == some .local || scope.names.lookup y.1 == some .cell) = true)
    (hnd : ((cellsFrom 0 scope.names []).map (·.1)).Nodup)
    (h : ∀ L' h₁ tk cells, Fr h₀ L' h₁ (bindL (envOfC qual scope L' f cdv).kindOf binds fun _ => none) → News h₀ L' h₁ cells →
      CellsAre (bindC (envOfC qual scope L' f cdv).kindOf binds fun _ => none) (cellsFrom (L' + 1) scope.names []) cells →
      wpAny (model prog w) (A.deeper (envOfC qual scope L' f cdv)) (execs body (envOfC qual scope L' f cdv))
        (fun fl s' => R (.ok (.ret (match fl with | .ret v => v | _ => .none))) s')
        (fun e s' => wpAny (model prog w) (A.deeper (envOfC qual scope L' f cdv)) (leaving (envOfC qual scope L' f cdv) e) (fun _ s'' => R (.error e) s'') (fun e' s'' => R (.error e') s'') s')
        ⟨h₁, g, d, tk, os⟩)
    (hco : scope.isCoroutine = false) (hgen : scope.isGenerator = false) (hk : scope.kind = .function) : codeAny (model prog w) A (.call (.ref f) args) R ⟨h₀, g, d, t, os⟩ := by
  refine codeAny_call_function hroom (X _ _ ho) rfl hco hgen rfl (codeRec_of X hcd) (hbind _ _ _ _ ?_)
  refine wpAny_newFunctionEnv_cells hk (kindsX hkind _) fun env' he s' x => ?_
  subst he
  refine ⟨T.nolimit.keeps x.toInCall.keep, codeAny_func ?_⟩
  refine Classical.byContradiction fun ng9 => ?_
  obtain ⟨h₁, tk, rfl, _⟩ := x.done
  refine ng9 ?_
  clear ng9
  have hk₁ := x.toInCall.keep
  refine Classical.byContradiction fun ng9 => ?_
  obtain ⟨cells, NC, Y⟩ := Cl.news (h₀ := h₀) (Nat.le_refl _) fun n c hm => ⟨x.cell n c (lookup_of_mem_nodup (cellsFrom_names scope.names 0 (h₀.objs.size + 1) [] [] rfl ▸ hnd) hm), x.above n c hm⟩
  refine ng9 ?_
  clear ng9
  exact h h₀.objs.size h₁ tk cells ⟨x.toInCall.ns, hk₁, Nat.le_refl _⟩ NC Y
end
section
variable {h₀ h h' : Heap} {L D : Addr} {m : Str → Option Value} {news : List (Addr × Obj)} {o : Obj}
theorem nw_add (F : Fr h₀ L h m) (N : News h₀ L h news) (k : ∀ b x, h.get? b = some x → h'.get? b = some x) (hD : h'.get? D = some o) (hn : h.get? D = none) : News h₀ L h' ((D, o) :: news) := by
  intro q hq
  rcases List.mem_cons.mp hq with rfl | hq
  · refine ⟨hD, fun e => ?_, ?_⟩
    · refine Classical.byContradiction fun ng9 => ?_
      obtain ⟨oL, _, _, hL, _⟩ := F.ns
      refine ng9 ?_
      clear ng9
      have e' : D = L := e
      rw [e', hL] at hn; cases hn
    · cases z : h₀.get? D with
      | none => rfl
      | some x => rw [F.keep _ _ z] at hn; cases hn
  · exact ⟨k _ _ (N q hq).1, (N q hq).2⟩
theorem nw_off (N : News h₀ L h news) (hn : h.get? D = none) : LCg.Off1 D news := by
  induction news with
  | nil => trivial
  | cons q r ih =>
    refine ⟨fun e => ?_, ih fun z hz => N z (.tail _ hz)⟩
    have z := (N q (.head _)).1
    have e' : q.1 = D := e
    rw [e', hn] at z; cases z
end
end Mine
end
section
set_option maxHeartbeats 8000000
local macro_rules | `(tactic| walk_at "execs cons") => `(tactic| (refine wpAny_execs_cons ?_; (try dsimp only); (try k_fold)))
namespace Mine
noncomputable def tab3 (i : Int) : Str := if i = 0 then "a" else if i = 1 then "ab" else "b"
noncomputable def partAt (n : Int) (i : Nat) : Str := tab3 ((n.fdiv (3 ^ (i + 1))).fmod 3)
noncomputable def partsN (n : Int) : List Str := (List.range (1 + (n.fmod 3).toNat)).map (partAt n)
theorem rs3 (n : Int) : Builtin.Range.rangeSize 1 (2 + n.fmod 3) 1 = ((1 + (n.fmod 3).toNat : Nat) : Int) := by
  have h1 : 0 ≤ n.fmod 3 := Int.fmod_nonneg_of_pos n (by decide)
  have e : 2 + n.fmod 3 = 1 + ((1 + (n.fmod 3).toNat : Nat) : Int) := by omega
  rw [rangeSize_nat]
  omega
theorem fm3 (n : Int) : 0 ≤ n.fmod 3 ∧ n.fmod 3 < 3 := ⟨Int.fmod_nonneg_of_pos n (by decide), Int.fmod_lt_of_pos n (by decide)⟩
theorem pow3_small {i : Nat} (h : i < 3) : ((3 : Int) ^ (1 + (i : Int)).toNat).natAbs < 1073741824 := by
  exact (by decide : ∀ i : Fin 3, ((3 : Int) ^ (1 + ((i.1 : Nat) : Int)).toNat).natAbs < 1073741824) ⟨i, h⟩
theorem pow3_ne (k : Nat) : (3 : Int) ^ k ≠ 0 := by
  have : (0 : Int) < 3 ^ k := by apply Int.pow_pos; decide
  omega
local macro_rules | `(tactic| walk_at "binaryOp FloorDiv int int") => `(tactic| refine floordiv_int (pow3_ne _) ?_)
theorem c_parts :
 ∀ {w : World} {p : Program} {loose : List Str} {mean : ExcName → Option Value} {mg mb : Str → Option Value} {dp un : Nat} {gd : Option (List Code)} {outer : List Env} {A₀ : Around} {base h₀ : Heap} {g : Array GenState} {d : Drawn} {t : Nat} {os : OsState} {Q E : Value → Shared → Prop}
 (B : Below A₀ base outer h₀) (X : (hd.heap_1 w.params).In h₀) (T : Top p loose mean mg mb h₀) (hdp : dp + 4 < recursionLimit) (hu : un + 40 < cLine) (n : Int) (tn : Tok) (hn : 0 ≤ n) (hn2 : n < 10000000000) (hret : ∀ D ys h' tk', (∀ b x, h₀.get? b = some x → h'.get? b = some x) → h'.get? D = some (LCg.lst ys) → h₀.get? D = none → StrsAre ys (partsN n) → Q (.ref D) ⟨h', g, d, tk', os⟩), wpAny (model PySem.Challenge.rw_of0013_01.prog w) (aTop dp un gd outer) (call (.ref 114) [.int n tn]) Q E ⟨h₀, g, d, t, os⟩ := by
  iterate 13 refine @Mine.pad _ ?_
  iterate 2 k_extra "pkG"
  iterate 10 k_extra "pk9"
  rename_i w p loose mean mg mb dp un gd outer A₀ base h₀ g d t os Q E B X T hdp hu n tn hn hn2 hret
  revert X; k_fill; intro X
  (refine wpAny_call ?_; k_dflt (first | (refine' Mine.enterP ?k3 ?k5 ?k6 ?k7 ?k8 ?k9 ?kB ?_ ?c2 ?c3 ?c4 ?c5; (case k3 => k_asm); (case k5 => k_asm); (case k6 => k_is); (case k7 => k_is); (case k8 => ktr_room); (case k9 => first | exact BindsTo.of_eq rfl | exact binds_K (by k_in) rfl (by k_is) rfl rfl rfl); (case c5 => decide); (case kB => exact locs rfl); (case c2 => exact rfl); (case c3 => exact rfl); (case c4 => exact rfl); k_whole; (iterate 2 (k_extra "pk9")); intro F9e N9e; (try dsimp only); (try k_fold)) | (refine' Mine.enterPC ?k3 ?k5 ?k6 ?k7 ?k8 ?k9 ?kB ?kD ?_ ?c2 ?c3 ?c4; (case k3 => k_asm); (case k5 => k_asm); (case k6 => k_is); (case k7 => k_is); (case k8 => ktr_room); (case k9 => first | exact BindsTo.of_eq rfl | exact binds_K (by k_in) rfl (by k_is) rfl rfl rfl); (case kB => exact rfl); (case kD => decide +kernel); (case c2 => exact rfl); (case c3 => exact rfl); (case c4 => exact rfl); k_whole; (iterate 4 (k_extra "pk9")); intro F9e N9e Y9e; k_cells Y9e; (try simp only [List.cons_append, List.nil_append] at N9e); (try dsimp only); (try k_fold))))
  repeat ((fail_if_success (with_reducible show LCg.CompSrc _ _ _ _ _ _ _ _ _ _ _ _ _ _)); (first | walk1 | (dsimp only; walk1)))
  have hm3 := fm3 n
  k_dflt (refine LCg.CompSrc.range (n := 1 + (n.fmod 3).toNat) (by rfl) (by k_asm) (by k_asm) (by assumption) (by exact small_one (by omega) (by omega) (by omega) (by omega)) (by exact rs3 n) (by rw [PySem.sizeLine_eq]; omega) ?_)
  intro g'
  refine cr_map (fun i y => ∃ t, y = Value.str (partAt n i) t) ?_ ?_
  · intro i v I oI C oC D m₂ ys h tk E' hi hv hC hx F' N' off ne
    obtain ⟨t', rfl⟩ := hv
    k_steps
    · refine floordiv_int (pow3_ne _) ?_ (Or.inl (PyProof.noPylong_small (pow3_small (by omega))))
      iterate 2 (first | walk1 | (dsimp only; walk1))
      have hj := fm3 (n.fdiv (3 ^ (1 + (i : Int)).toNat))
      have e3 : partAt n i = tab3 ((n.fdiv (3 ^ (1 + (i : Int)).toNat)).fmod 3) := by
        unfold partAt
        rw [show (1 + (i : Int)).toNat = i + 1 by omega]
      rw [e3]
      generalize (n.fdiv (3 ^ (1 + (i : Int)).toNat)).fmod 3 = j at hj ⊢
      have : j = 0 ∨ j = 1 ∨ j = 2 := by omega
      rcases this with rfl | rfl | rfl
      all_goals (
        k_steps
        refine LCg.CompEnd.intro (by k_asm) (by k_asm) _ (fun p hp => List.mem_cons_of_mem _ hp) (by simp only [LCg.Off3]; assumption) trivial ⟨rfl, _, rfl⟩)
  · intro ys hl hy
    k_steps
    rename_i F9 N9 _
    refine hret _ _ _ _ F9.keep (N9 _ (.head _)).1 (N9 _ (.head _)).2.2 ?_
    · refine strsAre_of (by rw [hl]; unfold partsN; rw [List.length_map, List.length_range]) fun i y hi => ?_
      obtain ⟨t', e⟩ := hy i y hi
      have hlt : i < 1 + (n.fmod 3).toNat := by
        have := (List.getElem?_eq_some_iff.mp hi).1
        omega
      refine ⟨t', ?_⟩
      rw [e]
      unfold partsN
      simp [List.getD, hlt]
theorem f_parts {w : World} {p : Program} {loose : List Str} {mean : ExcName → Option Value} {mg mb : Str → Option Value} {dp un : Nat} {gd : Option (List Code)} {env : Env} {outer : List Env} {A₀ : Around} {base h₀ : Heap} {L : Addr} {m : Str → Option Value} {s : Shared} {Q E : Value → Shared → Prop} {news : List (Addr × Obj)}
   (B : Below A₀ base outer h₀) (F : Fr h₀ L s.heap m) (X : (hd.heap_1 w.params).In h₀) (N : News h₀ L s.heap news) (T : Top p loose mean mg mb h₀) (hf : env.frame = some L) (hke : env.scope.kind = .function) (hdp : dp + 4 < recursionLimit) (hu : un + 40 < cLine) (n : Int) (tn : Tok) (hn : 0 ≤ n) (hn2 : n < 10000000000)
   (hret : ∀ D ys h' tk', Fr h₀ L h' m → News h₀ L h' ((D, LCg.lst ys) :: news) → LCg.Off1 D news → StrsAre ys (partsN n) → Q (.ref D) { s with heap := h', toks := tk' }) :
   wpAny (model PySem.Challenge.rw_of0013_01.prog w) (aTop dp un gd (env :: outer)) (call (.ref 114) [.int n tn]) Q E s :=
  c_parts (pushX B F hf hke) (X.keeps F.keep) (T.keeps F.keep) hdp hu n tn hn hn2 fun D ys h' tk' k hD hn hS => hret D ys h' tk' (F.keeps k) (nw_add F N k hD hn) (nw_off N hn) hS
end Mine
end
open PySem PySem.W PyProof.Rows in
example : Mine.RS := by intro M A Q E s h; w_top off; first | walk1 | skip; all_goals first | exact h | exact wpAny_pure h
section
set_option maxHeartbeats 8000000
local macro_rules | `(tactic| walk_at "execs cons") => `(tactic| (refine wpAny_execs_cons ?_; (try dsimp only); (try k_fold)))
namespace Mine
noncomputable def pick6 (j : Int) (a b c d e f : Str) : Str := if j = 0 then a else if j = 1 then b else if j = 2 then c else if j = 3 then d else if j = 4 then e else f
noncomputable def dressOf (j : Int) (ps : List Str) : Str :=
  pick6 j (Str.ofString "/" ++ Txt.join (Str.ofString "/") ps) (Str.ofString "/" ++ Txt.join (Str.ofString "/") ps ++ Str.ofString "/") (Str.ofString "/." ++ (Str.ofString "/" ++ Txt.join (Str.ofString "/") ps))
    (Str.ofString "/" ++ Txt.join (Str.ofString "//") ps) (Str.ofString "/x/.." ++ (Str.ofString "/" ++ Txt.join (Str.ofString "/") ps)) (Str.ofString "/" ++ Txt.join (Str.ofString "/") ps ++ Str.ofString "/b/..")
noncomputable def folderN (n : Int) : Str := dressOf ((n.fdiv 81).fmod 6) (partsN n)
theorem fm6 (n : Int) : 0 ≤ n.fmod 6 ∧ n.fmod 6 < 6 := ⟨Int.fmod_nonneg_of_pos n (by decide), Int.fmod_lt_of_pos n (by decide)⟩
theorem tab3_len (i : Int) : (tab3 i).length ≤ 2 := by
  unfold tab3
  split
  · decide
  · split <;> decide
theorem partsN_len (n : Int) : (partsN n).length ≤ 3 := by
  have := fm3 n
  unfold partsN
  rw [List.length_map, List.length_range]; omega
theorem sum_le {l : List Str} {c : Nat} (h : ∀ x ∈ l, x.length ≤ c) : (l.map (·.length)).sum ≤ c * l.length := by
  induction l with
  | nil => simp
  | cons a l ih =>
    have h1 := h a (.head _)
    have h2 := ih fun x hx => h x (.tail _ hx)
    rw [List.map_cons, List.sum_cons, List.length_cons, Nat.mul_succ]
    omega
theorem partsN_short (n : Int) : ∀ x ∈ partsN n, x.length ≤ 2 := by
  intro x hx
  obtain ⟨i, _, rfl⟩ := List.mem_map.mp hx
  exact tab3_len _
theorem partsN_w (n : Int) : ((partsN n).map (·.length)).sum + (partsN n).length ≤ 100 := by
  have h1 := sum_le (partsN_short n)
  have h2 := partsN_len n
  omega
theorem parts_w_of {n : Int} {ys : List Value} (_ : StrsAre ys (partsN n)) : ((partsN n).map (·.length)).sum + (partsN n).length ≤ 100 := partsN_w n
theorem my_item6 :
 ∀ {prog : Program} {w : World} {A : Around} {E : Value → Shared → Prop} {s : Shared} {h₀ : Heap} {L : Addr} {news : List (Addr × Obj)} {Q : Value → Shared → Prop} {value slice : PySem.Expr} {l : Addr} {v0 v1 v2 v3 v4 v5 : Str} {t0 t1 t2 t3 t4 t5 u : Tok} {n : Nat} {j : Int}
 (N : News h₀ L s.heap news) (hm : (l, ({ cls := .type "list", data := .seq #[.str v0 t0, .str v1 t1, .str v2 t2, .str v3 t3, .str v4 t4, .str v5 t5] n } : Obj)) ∈ news) (hj : 0 ≤ j ∧ j < 6) (h : ∀ t', Q (.str (pick6 j v0 v1 v2 v3 v4 v5) t') s) (hs : subscripted slice false (.ref l) (.int j u) = operate [.ref l, .int j u] (getItem (.ref l) (.int j u)) := by with_unfolding_all rfl), wpAny (model prog w) A (subscriptTail value slice (.ref l) (.int j u)) Q E s := by
  iterate 5 refine @Mine.pad _ ?_
  iterate 2 k_extra "pkG"
  iterate 5 k_extra "pk9"
  rename_i prog w A E s h₀ L news Q value slice l v0 v1 v2 v3 v4 v5 t0 t1 t2 t3 t4 t5 u n j N hm hj h hs
  have hl := News.isList N hm
  have e : ∃ t', (#[Value.str v0 t0, .str v1 t1, .str v2 t2, .str v3 t3, .str v4 t4, .str v5 t5] : Array Value)[j.toNat]? = some (.str (pick6 j v0 v1 v2 v3 v4 v5) t') := by
    obtain ⟨k, rfl⟩ := Int.eq_ofNat_of_zero_le hj.1
    rcases (by decide : ∀ k < 6, k = 0 ∨ k = 1 ∨ k = 2 ∨ k = 3 ∨ k = 4 ∨ k = 5) k (Int.ofNat_lt.mp hj.2) with rfl | rfl | rfl | rfl | rfl | rfl
    · exact ⟨t0, rfl⟩
    · exact ⟨t1, rfl⟩
    · exact ⟨t2, rfl⟩
    · exact ⟨t3, rfl⟩
    · exact ⟨t4, rfl⟩
    · exact ⟨t5, rfl⟩
  obtain ⟨t', e⟩ := e
  exact tail_any hl.typeIs slot_list_getitem.lookup (wpAny_getItem_list hl hj.1 (by omega) e (h t')) hs
theorem c_folder :
 ∀ {w : World} {p : Program} {loose : List Str} {mean : ExcName → Option Value} {mg mb : Str → Option Value} {dp un : Nat} {gd : Option (List Code)} {outer : List Env} {A₀ : Around} {base h₀ : Heap} {g : Array GenState} {d : Drawn} {t : Nat} {os : OsState} {Q E : Value → Shared → Prop}
 (B : Below A₀ base outer h₀) (X : (hd.heap_1 w.params).In h₀) (T : Top p loose mean mg mb h₀) (hdp : dp + 6 < recursionLimit) (hu : un + 60 < cLine) (n : Int) (tn : Tok) (hn : 0 ≤ n) (hn2 : n < 10000000000) (hret : ∀ t' h' tk', (∀ b x, h₀.get? b = some x → h'.get? b = some x) → Q (.str (folderN n) t') ⟨h', g, d, tk', os⟩), wpAny (model PySem.Challenge.rw_of0013_01.prog w) (aTop dp un gd outer) (call (.ref 121) [.int n tn]) Q E ⟨h₀, g, d, t, os⟩ := by
  iterate 13 refine @Mine.pad _ ?_
  iterate 2 k_extra "pkG"
  iterate 10 k_extra "pk9"
  rename_i w p loose mean mg mb dp un gd outer A₀ base h₀ g d t os Q E B X T hdp hu n tn hn hn2 hret
  revert X; k_fill; intro X
  (refine wpAny_call ?_; k_dflt (first | (refine' Mine.enterP ?k3 ?k5 ?k6 ?k7 ?k8 ?k9 ?kB ?_ ?c2 ?c3 ?c4 ?c5; (case k3 => k_asm); (case k5 => k_asm); (case k6 => k_is); (case k7 => k_is); (case k8 => ktr_room); (case k9 => first | exact BindsTo.of_eq rfl | exact binds_K (by k_in) rfl (by k_is) rfl rfl rfl); (case c5 => decide); (case kB => exact locs rfl); (case c2 => exact rfl); (case c3 => exact rfl); (case c4 => exact rfl); k_whole; (iterate 2 (k_extra "pk9")); intro F9e N9e; (try dsimp only); (try k_fold)) | (refine' Mine.enterPC ?k3 ?k5 ?k6 ?k7 ?k8 ?k9 ?kB ?kD ?_ ?c2 ?c3 ?c4; (case k3 => k_asm); (case k5 => k_asm); (case k6 => k_is); (case k7 => k_is); (case k8 => ktr_room); (case k9 => first | exact BindsTo.of_eq rfl | exact binds_K (by k_in) rfl (by k_is) rfl rfl rfl); (case kB => exact rfl); (case kD => decide +kernel); (case c2 => exact rfl); (case c3 => exact rfl); (case c4 => exact rfl); k_whole; (iterate 4 (k_extra "pk9")); intro F9e N9e Y9e; k_cells Y9e; (try simp only [List.cons_append, List.nil_append] at N9e); (try dsimp only); (try k_fold))))
  (repeat' (first | (k_unfold; (try dsimp only)) | (k_end; wrow_close) | (k_here; (with_reducible show wpAny _ _ (subscriptTail _ _ (Value.ref _) (Value.int (Int.fmod _ 6) _)) _ _ _); k_dflt (refine' my_item6 ?k1 ?k2 (fm6 _) ?_; (case k1 => k_asm); (case k2 => k_mem)); intro t') | (k_here; (with_reducible show wpAny _ _ (call (Value.builtin _) [Value.str _ _, Value.ref _]) _ _ _); k_dflt (refine' my_join ?k1 ?k2 ?k3 ?k4 ?k5 ?_; (case k1 => k_asm); (case k2 => k_mem); (case k3 => assumption); (case k4 => decide); (case k5 => assumption)); intro t' k' hl') | (k_here; (with_reducible show wpAny _ _ (call (Value.ref 114) [Value.int _ _]) _ _ _); k_dflt (refine' f_parts ?k1 ?k2 ?k3 ?k4 ?k5 ?kf ?kK ?kd ?ku _ _ ?kn ?km ?_; (case k1 => k_asm); (case k2 => k_asm); (case k3 => k_asm); (case k4 => k_asm); (case k5 => k_asm); (case kf => exact rfl); (case kK => exact rfl); (case kd => ktr_room); (case ku => ktr_units); (case kn => omega); (case km => omega)); intro D' ys' h' tk' F' N' off' hS'; (try simp only [LCg.Off1, and_true] at off'); (have hW' := parts_w_of hS'); (try dsimp only); (try k_fold)) | walk1 | (dsimp only; walk1) | (leave1; try dsimp only)))
  (with_reducible rename Fr _ _ _ _ => F9)
  exact hret _ _ _ F9.keep
theorem f_folder {w : World} {p : Program} {loose : List Str} {mean : ExcName → Option Value} {mg mb : Str → Option Value} {dp un : Nat} {gd : Option (List Code)} {env : Env} {outer : List Env} {A₀ : Around} {base h₀ : Heap} {L : Addr} {m : Str → Option Value} {s : Shared} {Q E : Value → Shared → Prop} {news : List (Addr × Obj)}
   (B : Below A₀ base outer h₀) (F : Fr h₀ L s.heap m) (X : (hd.heap_1 w.params).In h₀) (N : News h₀ L s.heap news) (T : Top p loose mean mg mb h₀) (hf : env.frame = some L) (hke : env.scope.kind = .function) (hdp : dp + 6 < recursionLimit) (hu : un + 60 < cLine) (n : Int) (tn : Tok) (hn : 0 ≤ n) (hn2 : n < 10000000000)
   (hret : ∀ t' h' tk', Fr h₀ L h' m → News h₀ L h' news → Q (.str (folderN n) t') { s with heap := h', toks := tk' }) :
   wpAny (model PySem.Challenge.rw_of0013_01.prog w) (aTop dp un gd (env :: outer)) (call (.ref 121) [.int n tn]) Q E s :=
  c_folder (pushX B F hf hke) (X.keeps F.keep) (T.keeps F.keep) hdp hu n tn hn hn2 fun t' h' tk' k => hret t' h' tk' (F.keeps k) (N.grown k)
end Mine
end
open PySem PySem.W PyProof.Rows in
example : Mine.RS := by intro M A Q E s h; w_top off; first | walk1 | skip; all_goals first | exact h | exact wpAny_pure h
section
set_option maxHeartbeats 8000000
namespace Mine
open AutoSeq1 (wpAny_loadPart')
open MeetsSeq MeetsSeq3
noncomputable def ltS (x y : Str) : Bool := decide (x.cps.toList < y.cps.toList)
noncomputable def lexLt : List Str → List Str → Bool
  | x :: xs, y :: ys => if (x.cps.toList == y.cps.toList) = true then lexLt xs ys else ltS x y
  | xs, ys => decide (xs.length < ys.length)
noncomputable def lexGt (a b : List Str) : Bool := lexLt b a
theorem lexLt_nil_left (ys : List Str) : lexLt [] ys = decide (0 < ys.length) := by cases ys <;> rfl
theorem lexLt_nil_right (xs : List Str) : lexLt xs [] = false := by cases xs <;> simp [lexLt]
theorem strs_get {vs : List Value} {ss : List Str} (h : StrsAre vs ss) : ∀ i : Nat, (vs[i]? = none ∧ ss[i]? = none) ∨ ∃ x t, vs[i]? = some (Value.str x t) ∧ ss[i]? = some x := by
  induction h with
  | nil => intro i; left; simp
  | cons y t _ ih =>
    intro i
    cases i with
    | zero => right; exact ⟨y, t, by simp, by simp⟩
    | succ i => simpa using ih i
theorem strs_len {vs : List Value} {ss : List Str} (h : StrsAre vs ss) : vs.length = ss.length := by
  induction h with
  | nil => rfl
  | cons _ _ _ ih => simp [ih]
theorem lt_loop (l b : Addr) (v1 v2 : List Value) (s1 s2 : List Str) (h1 : StrsAre v1 s1) (h2 : StrsAre v2 s2) (n n2 : Nat) (k : Nat) :
    ∀ i : Nat, s1.length - i = k → Meets (Builtin.«list.__eq__.loop» ⟨[.ref l, .ref b, rawInt i, rawInt 0], []⟩)
      (fun _ R s => s.heap.get? l = some { cls := .type "list", dict := none, data := .seq v1.toArray n, slots := #[] } ∧ s.heap.get? b = some { cls := .type "list", dict := none, data := .seq v2.toArray n2, slots := #[] } ∧ i ≤ s1.length ∧ i ≤ s2.length ∧
        R (.ok (.ret (.bool (lexLt (s1.drop i) (s2.drop i))))) s) := by
  have el1 := strs_len h1
  have el2 := strs_len h2
  induction k with
  | zero =>
    intro i hk prog w A R s h
    obtain ⟨hp, g, d, tk, os⟩ := s; obtain ⟨hl, hb, hi1, hi2, h⟩ := h
    wp_walk using wpAny_loadPart' hl, wpAny_loadPart' hb
    have e1 : v1.toArray[((i : Nat) : Int).toNat]? = none := by simp; omega
    have e2 : s1.drop i = [] := by simp; omega
    rw [e2, lexLt_nil_left] at h
    rw [e1]
    wp_walk using wpAny_loadPart' hl, wpAny_loadPart' hb
    show R (.ok (.ret (.bool (decide (v1.toArray.size < v2.toArray.size))))) _
    have e3 : decide (v1.toArray.size < v2.toArray.size) = decide (0 < (s2.drop i).length) := by
      rw [List.size_toArray, List.size_toArray, List.length_drop]
      exact decide_eq_decide.mpr (by omega)
    rw [e3]; exact h
  | succ k ih =>
    intro i hk prog w A R s h
    obtain ⟨hp, g, d, tk, os⟩ := s; obtain ⟨hl, hb, hi1, hi2, h⟩ := h
    wp_walk using wpAny_loadPart' hl, wpAny_loadPart' hb
    have hlt : i < s1.length := by omega
    rcases strs_get h1 i with ⟨q, _⟩ | ⟨x, tx, ex, ex'⟩
    · rw [List.getElem?_eq_none_iff] at q; omega
    have e1 : v1.toArray[((i : Nat) : Int).toNat]? = some (.str x tx) := by simpa using ex
    have d1 : s1.drop i = x :: s1.drop (i + 1) := by
      have := List.getElem?_eq_some_iff.mp ex'
      obtain ⟨q, r⟩ := this
      rw [List.drop_eq_getElem_cons q, r]
    rcases strs_get h2 i with ⟨q, q'⟩ | ⟨y, ty, ey, ey'⟩
    · have e2 : v2.toArray[((i : Nat) : Int).toNat]? = none := by simpa using q
      rw [List.getElem?_eq_none_iff] at q'
      have d2 : s2.drop i = [] := by simp; omega
      rw [d2, lexLt_nil_right] at h
      rw [e1, e2]
      wp_walk using wpAny_loadPart' hl, wpAny_loadPart' hb
      show R (.ok (.ret (.bool (decide (v1.toArray.size < v2.toArray.size))))) _
      rw [decide_eq_false (by rw [List.size_toArray, List.size_toArray]; omega)]
      exact h
    have e2 : v2.toArray[((i : Nat) : Int).toNat]? = some (.str y ty) := by simpa using ey
    have d2 : s2.drop i = y :: s2.drop (i + 1) := by
      have := List.getElem?_eq_some_iff.mp ey'
      obtain ⟨q, r⟩ := this
      rw [List.drop_eq_getElem_cons q, r]
    have hlt2 : i < s2.length := (List.getElem?_eq_some_iff.mp ey').1
    have hc : ((i : Int) + 1) = ((i + 1 : Nat) : Int) := by push_cast; rfl
    rw [d1, d2] at h
    rw [e1, e2]
    refine wpAny_bind (SeqRoads2.EqGives.str x y tx ty prog w _ _ _ _ ?_)
    unfold lexLt at h
    cases hb' : (x.cps.toList == y.cps.toList) with
    | true =>
      rw [hb', if_pos rfl] at h
      wp_walk
      rw [hc]
      exact ⟨plainId_quiet plain_eq_loop _, codeAny_builtin entry_eq_loop (by
        rw [Around.under_plainId plain_eq_loop _]
        exact ih (i + 1) (by omega) prog w A R _ ⟨hl, hb, by omega, by omega, h⟩)⟩
    | false =>
      rw [hb', if_neg (by simp)] at h
      wp_walk using wpAny_loadPart' hl, wpAny_loadPart' hb
      rw [e1, e2]
      show wpAny _ _ (richCompare .Lt (.str x tx) (.str y ty) >>= fun v => ret v) _ _ _
      refine wpAny_bind ?_
      show wpAny _ _ (compareOp .Lt (.str x tx) (.str y ty)) _ _ _
      refine lt_str ?_
      wp_walk
      exact h
theorem gt_loop (l b : Addr) (v1 v2 : List Value) (s1 s2 : List Str) (h1 : StrsAre v1 s1) (h2 : StrsAre v2 s2) (n n2 : Nat) (k : Nat) :
    ∀ i : Nat, s1.length - i = k → Meets (Builtin.«list.__eq__.loop» ⟨[.ref l, .ref b, rawInt i, rawInt 4], []⟩)
      (fun _ R s => s.heap.get? l = some { cls := .type "list", dict := none, data := .seq v1.toArray n, slots := #[] } ∧ s.heap.get? b = some { cls := .type "list", dict := none, data := .seq v2.toArray n2, slots := #[] } ∧ i ≤ s1.length ∧ i ≤ s2.length ∧
        R (.ok (.ret (.bool (lexLt (s2.drop i) (s1.drop i))))) s) := by
  have el1 := strs_len h1
  have el2 := strs_len h2
  induction k with
  | zero =>
    intro i hk prog w A R s h
    obtain ⟨hp, g, d, tk, os⟩ := s; obtain ⟨hl, hb, hi1, hi2, h⟩ := h
    wp_walk using wpAny_loadPart' hl, wpAny_loadPart' hb
    have e1 : v1.toArray[((i : Nat) : Int).toNat]? = none := by simp; omega
    have e2 : s1.drop i = [] := by simp; omega
    rw [e2, lexLt_nil_right] at h
    rw [e1]
    wp_walk using wpAny_loadPart' hl, wpAny_loadPart' hb
    show R (.ok (.ret (.bool (decide (v2.toArray.size < v1.toArray.size))))) _
    rw [decide_eq_false (by rw [List.size_toArray, List.size_toArray]; omega)]
    exact h
  | succ k ih =>
    intro i hk prog w A R s h
    obtain ⟨hp, g, d, tk, os⟩ := s; obtain ⟨hl, hb, hi1, hi2, h⟩ := h
    wp_walk using wpAny_loadPart' hl, wpAny_loadPart' hb
    have hlt : i < s1.length := by omega
    rcases strs_get h1 i with ⟨q, _⟩ | ⟨x, tx, ex, ex'⟩
    · rw [List.getElem?_eq_none_iff] at q; omega
    have e1 : v1.toArray[((i : Nat) : Int).toNat]? = some (.str x tx) := by simpa using ex
    have d1 : s1.drop i = x :: s1.drop (i + 1) := by
      have := List.getElem?_eq_some_iff.mp ex'
      obtain ⟨q, r⟩ := this
      rw [List.drop_eq_getElem_cons q, r]
    rcases strs_get h2 i with ⟨q, q'⟩ | ⟨y, ty, ey, ey'⟩
    · have e2 : v2.toArray[((i : Nat) : Int).toNat]? = none := by simpa using q
      rw [List.getElem?_eq_none_iff] at q'
      have d2 : s2.drop i = [] := by simp; omega
      rw [d2, lexLt_nil_left] at h
      rw [e1, e2]
      wp_walk using wpAny_loadPart' hl, wpAny_loadPart' hb
      show R (.ok (.ret (.bool (decide (v2.toArray.size < v1.toArray.size))))) _
      have e3 : decide (v2.toArray.size < v1.toArray.size) = decide (0 < (s1.drop i).length) := by
        rw [List.size_toArray, List.size_toArray, List.length_drop]
        exact decide_eq_decide.mpr (by omega)
      rw [e3]; exact h
    have e2 : v2.toArray[((i : Nat) : Int).toNat]? = some (.str y ty) := by simpa using ey
    have d2 : s2.drop i = y :: s2.drop (i + 1) := by
      have := List.getElem?_eq_some_iff.mp ey'
      obtain ⟨q, r⟩ := this
      rw [List.drop_eq_getElem_cons q, r]
    have hlt2 : i < s2.length := (List.getElem?_eq_some_iff.mp ey').1
    have hc : ((i : Int) + 1) = ((i + 1 : Nat) : Int) := by push_cast; rfl
    rw [d1, d2] at h
    rw [e1, e2]
    refine wpAny_bind (SeqRoads2.EqGives.str x y tx ty prog w _ _ _ _ ?_)
    unfold lexLt at h
    have hsym : (y.cps.toList == x.cps.toList) = (x.cps.toList == y.cps.toList) := by
      rw [Bool.eq_iff_iff, beq_iff_eq, beq_iff_eq]; exact eq_comm
    rw [hsym] at h
    cases hb' : (x.cps.toList == y.cps.toList) with
    | true =>
      rw [hb', if_pos rfl] at h
      wp_walk
      rw [hc]
      exact ⟨plainId_quiet plain_eq_loop _, codeAny_builtin entry_eq_loop (by
        rw [Around.under_plainId plain_eq_loop _]
        exact ih (i + 1) (by omega) prog w A R _ ⟨hl, hb, by omega, by omega, h⟩)⟩
    | false =>
      rw [hb', if_neg (by simp)] at h
      wp_walk using wpAny_loadPart' hl, wpAny_loadPart' hb
      rw [e1, e2]
      show wpAny _ _ (richCompare .Gt (.str x tx) (.str y ty) >>= fun v => ret v) _ _ _
      refine wpAny_bind ?_
      show wpAny _ _ (compareOp .Gt (.str x tx) (.str y ty)) _ _ _
      refine P.gt_str ?_
      wp_walk
      exact h
theorem list_lt (l b : Addr) (v1 v2 : List Value) (s1 s2 : List Str) (h1 : StrsAre v1 s1) (h2 : StrsAre v2 s2) (n n2 : Nat) :
    Meets (Builtin.«list.__lt__» ⟨[.ref l, .ref b], []⟩)
      (fun _ R s => s.heap.get? l = some { cls := .type "list", dict := none, data := .seq v1.toArray n, slots := #[] } ∧ s.heap.get? b = some { cls := .type "list", dict := none, data := .seq v2.toArray n2, slots := #[] } ∧
        R (.ok (.ret (.bool (lexLt s1 s2)))) s) := by
  intro prog w A R s h
  obtain ⟨hp, g, d, tk, os⟩ := s; obtain ⟨hl, hb, h⟩ := h
  have f3 := AutoSeq1.sub_list_list
  wp_walk using wpAny_loadPart' hl, wpAny_loadPart' hb
  exact ⟨plainId_quiet plain_eq_loop _, codeAny_builtin entry_eq_loop (by
    rw [Around.under_plainId plain_eq_loop _]
    exact lt_loop l b v1 v2 s1 s2 h1 h2 n n2 _ 0 rfl prog w A R _ ⟨hl, hb, Nat.zero_le _, Nat.zero_le _, by simpa using h⟩)⟩
theorem list_gt (l b : Addr) (v1 v2 : List Value) (s1 s2 : List Str) (h1 : StrsAre v1 s1) (h2 : StrsAre v2 s2) (n n2 : Nat) :
    Meets (Builtin.«list.__gt__» ⟨[.ref l, .ref b], []⟩)
      (fun _ R s => s.heap.get? l = some { cls := .type "list", dict := none, data := .seq v1.toArray n, slots := #[] } ∧ s.heap.get? b = some { cls := .type "list", dict := none, data := .seq v2.toArray n2, slots := #[] } ∧
        R (.ok (.ret (.bool (lexLt s2 s1)))) s) := by
  intro prog w A R s h
  obtain ⟨hp, g, d, tk, os⟩ := s; obtain ⟨hl, hb, h⟩ := h
  have f3 := AutoSeq1.sub_list_list
  wp_walk using wpAny_loadPart' hl, wpAny_loadPart' hb
  exact ⟨plainId_quiet plain_eq_loop _, codeAny_builtin entry_eq_loop (by
    rw [Around.under_plainId plain_eq_loop _]
    exact gt_loop l b v1 v2 s1 s2 h1 h2 n n2 _ 0 rfl prog w A R _ ⟨hl, hb, Nat.zero_le _, Nat.zero_le _, by simpa using h⟩)⟩
section
variable {prog : Program} {w : World} {A : Around} {E : Value → Shared → Prop} {s : Shared} {h₀ : Heap} {L : Addr} {news : List (Addr × Obj)} {Q : Value → Shared → Prop}
noncomputable abbrev lsO (vs : List Value) (n : Nat) : Obj := { cls := .type "list", data := .seq vs.toArray n }
theorem lsO_type {l : Addr} {vs : List Value} {n : Nat} (hl : s.heap.get? l = some (lsO vs n)) : s.TypeIs (.ref l) "list" := ⟨_, hl, rfl⟩
theorem lt_lists {l b : Addr} {v1 v2 : List Value} {s1 s2 : List Str} {n n2 : Nat} (hu : A.units < cLine) (hl : s.heap.get? l = some (lsO v1 n)) (hb : s.heap.get? b = some (lsO v2 n2)) (h1 : StrsAre v1 s1) (h2 : StrsAre v2 s2)
    (h : Q (.bool (lexLt s1 s2)) s) : wpAny (model prog w) A (compareOp .Lt (.ref l) (.ref b)) Q E s :=
  wpAny_richCompare_same_room (op := .Lt) (lsO_type hl) (lsO_type hb) PySem.F.slot_list_lt
    (call_meets PySem.F.slot_list_lt (lsO_type hl) PySem.F.entry_list_lt (PySem.F.args_list_lt_2 _ _) (list_lt l b v1 v2 s1 s2 h1 h2 n n2) ⟨hl, hb, (show _ ∧ _ from ⟨(by intro e; cases e), h⟩)⟩) hu
theorem gt_lists {l b : Addr} {v1 v2 : List Value} {s1 s2 : List Str} {n n2 : Nat} (hu : A.units < cLine) (hl : s.heap.get? l = some (lsO v1 n)) (hb : s.heap.get? b = some (lsO v2 n2)) (h1 : StrsAre v1 s1) (h2 : StrsAre v2 s2)
    (h : Q (.bool (lexLt s2 s1)) s) : wpAny (model prog w) A (compareOp .Gt (.ref l) (.ref b)) Q E s :=
  wpAny_richCompare_same_room (op := .Gt) (lsO_type hl) (lsO_type hb) PySem.F.slot_list_gt
    (call_meets PySem.F.slot_list_gt (lsO_type hl) PySem.F.entry_list_gt (PySem.F.args_list_gt_2 _ _) (list_gt l b v1 v2 s1 s2 h1 h2 n n2) ⟨hl, hb, (show _ ∧ _ from ⟨(by intro e; cases e), h⟩)⟩) hu
end
end Mine
end
section
set_option maxHeartbeats 8000000
namespace Mine
theorem lt_base {prog : Program} {w : World} {A : Around} {E : Value → Shared → Prop} {s : Shared} {h₀ : Heap} {L : Addr} {m : Str → Option Value} {Q : Value → Shared → Prop} {l b : Addr} {v1 v2 : List Value} {s1 s2 : List Str} {n n2 : Nat} (F : Fr h₀ L s.heap m) (hu : A.units < cLine) (hl : h₀.get? l = some (lsO v1 n)) (hb : h₀.get? b = some (lsO v2 n2)) (h1 : StrsAre v1 s1) (h2 : StrsAre v2 s2)
    (h : Q (.bool (lexLt s1 s2)) s) : wpAny (model prog w) A (compareOp .Lt (.ref l) (.ref b)) Q E s := lt_lists hu (F.keep _ _ hl) (F.keep _ _ hb) h1 h2 h
theorem gt_base {prog : Program} {w : World} {A : Around} {E : Value → Shared → Prop} {s : Shared} {h₀ : Heap} {L : Addr} {m : Str → Option Value} {Q : Value → Shared → Prop} {l b : Addr} {v1 v2 : List Value} {s1 s2 : List Str} {n n2 : Nat} (F : Fr h₀ L s.heap m) (hu : A.units < cLine) (hl : h₀.get? l = some (lsO v1 n)) (hb : h₀.get? b = some (lsO v2 n2)) (h1 : StrsAre v1 s1) (h2 : StrsAre v2 s2)
    (h : Q (.bool (lexLt s2 s1)) s) : wpAny (model prog w) A (compareOp .Gt (.ref l) (.ref b)) Q E s := gt_lists hu (F.keep _ _ hl) (F.keep _ _ hb) h1 h2 h
noncomputable def cmp3 (a b : List Str) : Int := b2i (lexLt b a) - b2i (lexLt a b)
theorem c_cmp3 {w : World} {p : Program} {loose : List Str} {mean : ExcName → Option Value} {mg mb : Str → Option Value} {dp un : Nat} {gd : Option (List Code)} {outer : List Env} {A₀ : Around} {base h₀ : Heap} {g : Array GenState} {d : Drawn} {t : Nat} {os : OsState} {Q E : Value → Shared → Prop}
   (B : Below A₀ base outer h₀) (X : (hd.heap_1 w.params).In h₀) (T : Top p loose mean mg mb h₀) (hdp : dp + 2 < recursionLimit) (hu : un + 20 < cLine) {l b : Addr} {v1 v2 : List Value} {s1 s2 : List Str} {n n2 : Nat} (hl : h₀.get? l = some (lsO v1 n)) (hb : h₀.get? b = some (lsO v2 n2)) (h1 : StrsAre v1 s1) (h2 : StrsAre v2 s2)
   (hret : ∀ t' h' tk', (∀ b x, h₀.get? b = some x → h'.get? b = some x) → Q (.int (cmp3 s1 s2) t') ⟨h', g, d, tk', os⟩) :
   wpAny (model PySem.Challenge.rw_of0013_01.prog w) (aTop dp un gd outer) (call (.ref 104) [.ref l, .ref b]) Q E ⟨h₀, g, d, t, os⟩ := by
  revert X; k_fill; intro X
  (refine wpAny_call ?_; k_dflt (first | (refine' Mine.enterP ?k3 ?k5 ?k6 ?k7 ?k8 ?k9 ?kB ?_ ?c2 ?c3 ?c4 ?c5; (case k3 => k_asm); (case k5 => k_asm); (case k6 => k_is); (case k7 => k_is); (case k8 => ktr_room); (case k9 => first | exact BindsTo.of_eq rfl | exact binds_K (by k_in) rfl (by k_is) rfl rfl rfl); (case c5 => decide); (case kB => exact locs rfl); (case c2 => exact rfl); (case c3 => exact rfl); (case c4 => exact rfl); k_whole; intro L9e h9e F9e N9e; (try dsimp only); (try k_fold)) | (refine' Mine.enterPC ?k3 ?k5 ?k6 ?k7 ?k8 ?k9 ?kB ?kD ?_ ?c2 ?c3 ?c4; (case k3 => k_asm); (case k5 => k_asm); (case k6 => k_is); (case k7 => k_is); (case k8 => ktr_room); (case k9 => first | exact BindsTo.of_eq rfl | exact binds_K (by k_in) rfl (by k_is) rfl rfl rfl); (case kB => exact rfl); (case kD => decide +kernel); (case c2 => exact rfl); (case c3 => exact rfl); (case c4 => exact rfl); k_whole; intro L9e h9e tk9e c9e F9e N9e Y9e; k_cells Y9e; (try simp only [List.cons_append, List.nil_append] at N9e); (try dsimp only); (try k_fold))))
  (repeat' (first | (k_unfold; (try dsimp only)) | (k_end; wrow_close) | ((with_reducible show wpAny _ _ (compareOp _ (Value.ref _) (Value.ref _)) _ _ _); (k_here; k_dflt (refine' gt_base ?k1 ?k2 ?k3 ?k4 ?k5 ?k6 ?_; (case k1 => k_asm); (case k2 => ktr_units); (case k3 => assumption); (case k4 => assumption); (case k5 => assumption); (case k6 => assumption)))) | ((with_reducible show wpAny _ _ (compareOp _ (Value.ref _) (Value.ref _)) _ _ _); (k_here; k_dflt (refine' lt_base ?k1 ?k2 ?k3 ?k4 ?k5 ?k6 ?_; (case k1 => k_asm); (case k2 => ktr_units); (case k3 => assumption); (case k4 => assumption); (case k5 => assumption); (case k6 => assumption)))) | walk1 | (dsimp only; walk1) | (leave1; try dsimp only)))
  (with_reducible rename Fr _ _ _ _ => F9)
  exact hret _ _ _ F9.keep
theorem f_cmp3 {w : World} {p : Program} {loose : List Str} {mean : ExcName → Option Value} {mg mb : Str → Option Value} {dp un : Nat} {gd : Option (List Code)} {env : Env} {outer : List Env} {A₀ : Around} {base h₀ : Heap} {L : Addr} {m : Str → Option Value} {s : Shared} {Q E : Value → Shared → Prop} {news : List (Addr × Obj)}
   (B : Below A₀ base outer h₀) (F : Fr h₀ L s.heap m) (X : (hd.heap_1 w.params).In h₀) (N : News h₀ L s.heap news) (T : Top p loose mean mg mb h₀) (hf : env.frame = some L) (hke : env.scope.kind = .function) (hdp : dp + 2 < recursionLimit) (hu : un + 20 < cLine) {l b : Addr} {v1 v2 : List Value} {s1 s2 : List Str} {n n2 : Nat} (hl : s.heap.get? l = some (lsO v1 n)) (hb : s.heap.get? b = some (lsO v2 n2)) (h1 : StrsAre v1 s1) (h2 : StrsAre v2 s2)
   (hret : ∀ t' h' tk', Fr h₀ L h' m → News h₀ L h' news → Q (.int (cmp3 s1 s2) t') { s with heap := h', toks := tk' }) :
   wpAny (model PySem.Challenge.rw_of0013_01.prog w) (aTop dp un gd (env :: outer)) (call (.ref 104) [.ref l, .ref b]) Q E s :=
  c_cmp3 (pushX B F hf hke) (X.keeps F.keep) (T.keeps F.keep) hdp hu hl hb h1 h2 fun t' h' tk' k => hret t' h' tk' (F.keeps k) (N.grown k)
end Mine
end
open PySem PySem.W PyProof.Rows in
example : Mine.RS := by intro M A Q E s h; w_top off; first | walk1 | skip; all_goals first | exact h | exact wpAny_pure h
section
set_option maxHeartbeats 8000000
local macro_rules | `(tactic| walk_at "execs cons") => `(tactic| (refine wpAny_execs_cons ?_; (try dsimp only); (try k_fold)))
namespace Mine
noncomputable abbrev tupO (vs : List Value) : Obj := { cls := .type "tuple", data := .seq vs.toArray }
theorem c_splitroot :
 ∀ {w : World} {p : Program} {loose : List Str} {mean : ExcName → Option Value} {mg mb : Str → Option Value} {dp un : Nat} {gd : Option (List Code)} {outer : List Env} {A₀ : Around} {base h₀ : Heap} {g : Array GenState} {d : Drawn} {t : Nat} {os : OsState} {Q E : Value → Shared → Prop}
 (B : Below A₀ base outer h₀) (X : (hd.heap_1 w.params).In h₀) (T : Top p loose mean mg mb h₀) (hdp : dp + 2 < recursionLimit) (hu : un + 20 < cLine) (x : Str) (tx : Tok) (hx : x.length ≤ 1000) (h1 : Txt.slice x none (some 1) = Str.ofString "/") (h2 : (Txt.slice x (some 1) (some 2) != Str.ofString "/") = true) (hret : ∀ D t1 t2 t3 h' tk', (∀ b o, h₀.get? b = some o → h'.get? b = some o) → h'.get? D = some { cls := .type "tuple", data := .seq #[.str (Str.ofString "") t1, .str (Str.ofString "/") t2, .str (Txt.slice x (some 1) none) t3] } → h₀.get? D = none → (Txt.slice x (some 1) none).length ≤ 1000 → Q (.ref D) ⟨h', g, d, tk', os⟩), wpAny (model PySem.Challenge.rw_of0013_01.prog w) (aTop dp un gd outer) (call (.ref 49) [.str x tx]) Q E ⟨h₀, g, d, t, os⟩ := by
  iterate 13 refine @Mine.pad _ ?_
  iterate 2 k_extra "pkG"
  iterate 11 k_extra "pk9"
  rename_i w p loose mean mg mb dp un gd outer A₀ base h₀ g d t os Q E B X T hdp hu x tx hx h1 h2 hret
  revert X; k_fill; intro X
  (refine wpAny_call ?_; k_dflt (first | (refine' Mine.enterP ?k3 ?k5 ?k6 ?k7 ?k8 ?k9 ?kB ?_ ?c2 ?c3 ?c4 ?c5; (case k3 => k_asm); (case k5 => k_asm); (case k6 => k_is); (case k7 => k_is); (case k8 => ktr_room); (case k9 => first | exact BindsTo.of_eq rfl | exact binds_K (by k_in) rfl (by k_is) rfl rfl rfl); (case c5 => decide); (case kB => exact locs rfl); (case c2 => exact rfl); (case c3 => exact rfl); (case c4 => exact rfl); k_whole; (iterate 2 (k_extra "pk9")); intro F9e N9e; (try dsimp only); (try k_fold)) | (refine' Mine.enterPC ?k3 ?k5 ?k6 ?k7 ?k8 ?k9 ?kB ?kD ?_ ?c2 ?c3 ?c4; (case k3 => k_asm); (case k5 => k_asm); (case k6 => k_is); (case k7 => k_is); (case k8 => ktr_room); (case k9 => first | exact BindsTo.of_eq rfl | exact binds_K (by k_in) rfl (by k_is) rfl rfl rfl); (case kB => exact rfl); (case kD => decide +kernel); (case c2 => exact rfl); (case c3 => exact rfl); (case c4 => exact rfl); k_whole; (iterate 4 (k_extra "pk9")); intro F9e N9e Y9e; k_cells Y9e; (try simp only [List.cons_append, List.nil_append] at N9e); (try dsimp only); (try k_fold))))
  k_steps
  all_goals first
    | (exfalso; rename (Txt.slice x none (some 1) != Str.ofString "/") = true => q; rw [h1] at q; exact absurd q (by decide))
    | (exfalso; rename (Txt.slice x (some 1) (some 2) != Str.ofString "/") = false => q; rw [h2] at q; cases q)
    | skip
  rename_i F9 N9 _
  exact hret _ _ _ _ _ _ F9.keep (N9 _ (.head _)).1 (N9 _ (.head _)).2.2 (by omega)
theorem f_splitroot {w : World} {p : Program} {loose : List Str} {mean : ExcName → Option Value} {mg mb : Str → Option Value} {dp un : Nat} {gd : Option (List Code)} {env : Env} {outer : List Env} {A₀ : Around} {base h₀ : Heap} {L : Addr} {m : Str → Option Value} {s : Shared} {Q E : Value → Shared → Prop} {news : List (Addr × Obj)}
   (B : Below A₀ base outer h₀) (F : Fr h₀ L s.heap m) (X : (hd.heap_1 w.params).In h₀) (N : News h₀ L s.heap news) (T : Top p loose mean mg mb h₀) (hf : env.frame = some L) (hke : env.scope.kind = .function) (hdp : dp + 2 < recursionLimit) (hu : un + 20 < cLine) (x : Str) (tx : Tok) (hx : x.length ≤ 1000) (h1 : Txt.slice x none (some 1) = Str.ofString "/") (h2 : (Txt.slice x (some 1) (some 2) != Str.ofString "/") = true)
   (hret : ∀ D t1 t2 t3 h' tk', Fr h₀ L h' m → News h₀ L h' ((D, { cls := .type "tuple", data := .seq #[.str (Str.ofString "") t1, .str (Str.ofString "/") t2, .str (Txt.slice x (some 1) none) t3] }) :: news) → LCg.Off1 D news → (Txt.slice x (some 1) none).length ≤ 1000 → Q (.ref D) { s with heap := h', toks := tk' }) :
   wpAny (model PySem.Challenge.rw_of0013_01.prog w) (aTop dp un gd (env :: outer)) (call (.ref 49) [.str x tx]) Q E s :=
  c_splitroot (pushX B F hf hke) (X.keeps F.keep) (T.keeps F.keep) hdp hu x tx hx h1 h2 fun D t1 t2 t3 h' tk' k hD hn hl => hret D t1 t2 t3 h' tk' (F.keeps k) (nw_add F N k hD hn) (nw_off N hn) hl
end Mine
end
open PySem PySem.W PyProof.Rows in
example : Mine.RS := by intro M A Q E s h; w_top off; first | walk1 | skip; all_goals first | exact h | exact wpAny_pure h
section
set_option maxHeartbeats 8000000
namespace Mine
theorem strs_getV {vs : List Value} {ss : List Str} (h : StrsAre vs ss) {i : Nat} {v : Value} (e : vs[i]? = some v) : ∃ x t, v = Value.str x t ∧ ss[i]? = some x := by
  induction h generalizing i with
  | nil => simp at e
  | cons y t _ ih =>
    cases i with
    | zero => simp at e; exact ⟨y, t, e.symm, by simp⟩
    | succ i => simp at e; simpa using ih e
theorem strsLen {vs : List Value} {ss : List Str} (h : StrsAre vs ss) : vs.length = ss.length := by
  induction h with
  | nil => rfl
  | cons _ _ _ ih => simp [ih]
noncomputable def TurnEnd (h₀ : Heap) (L : Addr) (x : Str) (m₀ : Str → Option Value) (s : Shared) (D : Addr) (rest : List (Addr × Obj)) (acc : List Str) (fl : Flow) (s₂ : Shared) : Prop :=
  (fl = .next ∨ fl = .cont) ∧ ∃ h' tk' m' us' nn', s₂ = { s with heap := h', toks := tk' } ∧ Fr h₀ L h' m' ∧ (∀ y, y ≠ x → m' y = m₀ y) ∧ News h₀ L h' ((D, listOf us'.toArray nn') :: rest) ∧ StrsAre us' acc
theorem TurnEnd.intro {h₀ : Heap} {L : Addr} {x : Str} {m₀ m' : Str → Option Value} {s : Shared} {D : Addr} {rest : List (Addr × Obj)} {acc : List Str} {fl : Flow} {h' : Heap} {tk' : Nat} {us' : List Value} {nn' : Nat}
    (hfl : fl = .next ∨ fl = .cont) (F : Fr h₀ L h' m') (hm : ∀ y, y ≠ x → m' y = m₀ y) (N : News h₀ L h' ((D, listOf us'.toArray nn') :: rest)) (hS : StrsAre us' acc) : TurnEnd h₀ L x m₀ s D rest acc fl { s with heap := h', toks := tk' } :=
  ⟨hfl, h', tk', m', us', nn', rfl, F, hm, N, hS⟩
section
variable {prog : Program} {w : World} {A : Around} {E : Value → Shared → Prop} {s : Shared} {h₀ : Heap} {L D : Addr} {m : Str → Option Value} {us : List Value} {nn : Nat} {tail : List (Addr × Obj)}
theorem my_append {v : Value} {Q : Value → Shared → Prop} (F : Fr h₀ L s.heap m) (N : News h₀ L s.heap ((D, listOf us.toArray nn) :: tail)) (hne : ∀ p ∈ tail, p.1 ≠ D) (hsz : us.length ≤ 100000)
    (h : ∀ h', Fr h₀ L h' m → News h₀ L h' ((D, listOf (us ++ [v]).toArray (nn + 1)) :: tail) → Q .none { s with heap := h' }) : wpAny (model prog w) A (call (.builtin "list.append") [.ref D, v]) Q E s := by
  have z := N _ (.head _)
  refine append_at (hsz := by show us.toArray.size ≤ sizeLine; rw [List.size_toArray, PySem.sizeLine_eq]; omega) z.1 fun h' hs hD => h h' (F.change hs z.2.1 z.2.2) fun p hp => ?_
  rcases List.mem_cons.mp hp with rfl | hp
  · exact ⟨by rw [hD, List.push_toArray], z.2⟩
  · exact ⟨(hs.2 _ (hne p hp)).trans (N p (.tail _ hp)).1, (N p (.tail _ hp)).2⟩
theorem my_truthy {Q : Bool → Shared → Prop} (N : News h₀ L s.heap ((D, listOf us.toArray nn) :: tail)) (hsz : us.length ≤ 100001) (h : ∀ k, Q (!us.isEmpty) { s with toks := k }) : wpAny (model prog w) A (truthy (.ref D)) Q E s := by
  refine wpAny_truthy_list (News.isList N (.head _)) (by rw [List.size_toArray]; omega) ?_
  have e : us.toArray.isEmpty = us.isEmpty := by simp
  rw [e]; exact h _
theorem my_truthyT {v : Value} {Q : Bool → Shared → Prop} (N : News h₀ L s.heap ((D, listOf (us ++ [v]).toArray nn) :: tail)) (hsz : us.length ≤ 100000) (h : ∀ k, Q true { s with toks := k }) : wpAny (model prog w) A (truthy (.ref D)) Q E s :=
  my_truthy N (by rw [List.length_append]; simp; omega) fun k => by
    have e : (!(us ++ [v]).isEmpty) = true := by simp
    rw [e]; exact h k
theorem my_truthyF {Q : Bool → Shared → Prop} (N : News h₀ L s.heap ((D, listOf (([] : List Value)).toArray nn) :: tail)) (h : ∀ k, Q false { s with toks := k }) : wpAny (model prog w) A (truthy (.ref D)) Q E s :=
  my_truthy N (by simp) h
theorem my_last {value slice : PySem.Expr} {v : Value} {u : Tok} {Q : Value → Shared → Prop} (N : News h₀ L s.heap ((D, listOf (us ++ [v]).toArray nn) :: tail)) (hsz : us.length ≤ 100000) (h : Q v s)
    (hs : subscripted slice false (.ref D) (.int (-1) u) = operate [.ref D, .int (-1) u] (getItem (.ref D) (.int (-1) u)) := by with_unfolding_all rfl) :
    wpAny (model prog w) A (subscriptTail value slice (.ref D) (.int (-1) u)) Q E s := by
  have hl := News.isList N (.head _)
  have e : (us ++ [v]).toArray[((-1 : Int) + ((us ++ [v]).toArray.size : Int)).toNat]? = some v := by
    have q : ((-1 : Int) + ((us ++ [v]).toArray.size : Int)).toNat = us.length := by rw [List.size_toArray, List.length_append]; simp; omega
    rw [q]; simp
  exact tail_any hl.typeIs slot_list_getitem.lookup (wpAny_getItem_list_neg (k := -1) hl (by decide) (by rw [List.size_toArray, List.length_append]; simp; omega) (by decide) e h) hs
theorem my_pop {v : Value} {Q : Value → Shared → Prop} (F : Fr h₀ L s.heap m) (N : News h₀ L s.heap ((D, listOf (us ++ [v]).toArray nn) :: tail)) (hne : ∀ p ∈ tail, p.1 ≠ D) (hsz : us.length ≤ 100000)
    (h : ∀ h', Fr h₀ L h' m → News h₀ L h' ((D, listOf us.toArray (nn + 1)) :: tail) → Q v { s with heap := h' }) : wpAny (model prog w) A (call (.builtin "list.pop") [.ref D]) Q E s :=
  kl_pop F N (kpa_last v us) (Upd.head hne) (by rw [PySem.sizeLine_eq]; simp; omega) h
end
section
variable {prog : Program} {w : World} {A : Around} {E : Value → Shared → Prop} {s : Shared} {env : Env} {h₀ : Heap} {x : Str} {body : List Stmt} {Q : Flow → Shared → Prop}
theorem loop_strs :
 ∀ {prog : Program} {w : World} {A : Around} {E : Value → Shared → Prop} {s : Shared} {env : Env} {h₀ : Heap} {x : Str} {body : List Stmt} {Q : Flow → Shared → Prop} {D l : Addr} {cs us₀ : List Value} {css acc₀ : List Str} {n₀ nl : Nat} {rest : List (Addr × Obj)} {m₀ : Str → Option Value}
 (f : List Str → Str → List Str) (hh : A.handled = none) (hl : (l, listOf cs.toArray nl) ∈ rest) (hc : StrsAre cs css) (F : Fr h₀ env.locals s.heap m₀) (N : News h₀ env.locals s.heap ((D, listOf us₀.toArray n₀) :: rest)) (h0 : StrsAre us₀ acc₀) (hD : ∀ p ∈ rest, p.1 ≠ D) (turn : ∀ pre c t us nn h tk own, (∃ post, css = pre ++ c :: post) → StrsAre us (pre.foldl f acc₀) → (∀ p ∈ rest ++ own, p.1 ≠ D) → Fr h₀ env.locals h (fun y => if y = x then some (.str c t) else m₀ y) → News h₀ env.locals h ((D, listOf us.toArray nn) :: (rest ++ own)) →
      wpAny (model prog w) A (execs body env) (TurnEnd h₀ env.locals x m₀ s D (rest ++ own) (f (pre.foldl f acc₀) c)) E { s with heap := h, toks := tk }) (done : ∀ us nn u h tk, StrsAre us (css.foldl f acc₀) → Fr h₀ env.locals h (fun y => if y = x then u else m₀ y) → News h₀ env.locals h ((D, listOf us.toArray nn) :: rest) → Q .next { s with heap := h, toks := tk }), wpAny (model prog w) A (pyIter (.ref l)) (fun it s₂ => LoopAtV prog w A h₀ env x body Q E it s₂) E s := by
  iterate 12 refine @Mine.pad _ ?_
  iterate 2 k_extra "pkG"
  iterate 10 k_extra "pk9"
  rename_i prog w A E s env h₀ x body Q D l cs us₀ css acc₀ n₀ nl rest m₀ f hh hl hc F N h0 hD turn done
  have eqm : ∀ (m₁ : Str → Option Value) (v : Option Value), (∀ y, y ≠ x → m₁ y = m₀ y) → (fun y => if y = x then v else m₁ y) = fun y => if y = x then v else m₀ y := by
    intro m₁ v hm
    funext y
    by_cases h : y = x
    · simp [h]
    · simp only [if_neg h]; exact hm y h
  refine kdl_iter (fun i m₁ nx => ∃ us nn, nx = (D, listOf us.toArray nn) :: rest ∧ StrsAre us ((css.take i).foldl f acc₀) ∧ ∀ y, y ≠ x → m₁ y = m₀ y) hh (List.mem_cons_of_mem _ hl) F N ⟨us₀, n₀, rfl, by simpa using h0, fun _ _ => rfl⟩ ?_ ?_
  · intro i v m₁ nx h tk own hv hoff _
    intro hz9
    refine Classical.byContradiction fun ng9 => ?_
    obtain ⟨us, nn, rfl, hS, hm⟩ := hz9
    refine ng9 ?_
    clear ng9
    intro F₁ N₁
    refine Classical.byContradiction fun ng9 => ?_
    obtain ⟨c, t, rfl, hcs⟩ := strs_getV hc hv
    refine ng9 ?_
    clear ng9
    have hi : i < css.length := (List.getElem?_eq_some_iff.mp hcs).1
    have e1 : css.take (i + 1) = css.take i ++ [c] := by rw [List.take_add_one, hcs]; rfl
    have e2 : css = css.take i ++ c :: css.drop (i + 1) := by
      have ht := List.take_append_drop (i + 1) css
      rw [e1, List.append_assoc] at ht
      exact ht.symm
    rw [eqm m₁ _ hm] at F₁
    refine wpAny_mono (turn (css.take i) c t us nn h tk own ⟨_, e2⟩ hS (fun p hp => (List.mem_append.mp hp).elim (hD p) fun hp => hoff p hp D (.head _)) F₁ N₁) (fun fl s₂ hq => ?_) fun _ _ e => e
    refine Classical.byContradiction fun ng9 => ?_
    obtain ⟨hfl, h', tk', m', us', nn', rfl, F', hm', N', hS'⟩ := hq
    refine ng9 ?_
    clear ng9
    have fin : InvEndG h₀ env.locals (fun m' nx => (l, listOf cs.toArray nl) ∈ nx ∧ ∃ us nn, nx = (D, listOf us.toArray nn) :: rest ∧ StrsAre us ((css.take (i + 1)).foldl f acc₀) ∧ ∀ y, y ≠ x → m' y = m₀ y) own { s with heap := h, toks := tk } { s with heap := h', toks := tk' } := by
      refine InvEndG.intro (nx := (D, listOf us'.toArray nn') :: rest) F' N' ⟨List.mem_cons_of_mem _ hl, us', nn', rfl, ?_, hm'⟩ hoff (fun p hp => ?_) (fun p hp => List.mem_cons_of_mem _ (List.mem_append_right _ hp))
      · rw [e1, List.foldl_append]; exact hS'
      · rcases List.mem_cons.mp hp with rfl | hp
        · exact .head _
        · exact .tail _ (List.mem_append_left _ hp)
    rcases hfl with rfl | rfl
    · exact fin
    · exact fin
  · intro m₁ nx h tk
    intro hz9
    refine Classical.byContradiction fun ng9 => ?_
    obtain ⟨us, nn, rfl, hS, hm⟩ := hz9
    refine ng9 ?_
    clear ng9
    intro F₁ N₁
    rw [strsLen hc, List.take_length] at hS
    refine done us nn (m₁ x) h tk hS ?_ N₁
    have e : (fun y => if y = x then m₁ x else m₀ y) = m₁ := by
      funext y
      by_cases h : y = x
      · simp [h]
      · simp only [if_neg h]; exact (hm y h).symm
    rw [e]; exact F₁
end
end Mine
end
open PySem PySem.W PyProof.Rows in
example : Mine.RS := by intro M A Q E s h; w_top off; first | walk1 | skip; all_goals first | exact h | exact wpAny_pure h
section
set_option maxHeartbeats 8000000
local macro_rules | `(tactic| walk_at "execs cons") => `(tactic| (refine wpAny_execs_cons ?_; (try dsimp only); (try k_fold)))
namespace Mine
noncomputable def npStep (acc : List Str) (c : Str) : List Str := if c = Str.ofString "" ∨ c = Str.ofString "." then acc else if c = Str.ofString ".." then acc.dropLast else acc ++ [c]
theorem np_mem : ∀ (pre acc : List Str), (∀ a ∈ acc, a ≠ Str.ofString "..") → ∀ a ∈ pre.foldl npStep acc, (a ∈ pre ∨ a ∈ acc) ∧ a ≠ Str.ofString ".."
  | [], acc, h, a, ha => ⟨.inr ha, h a ha⟩
  | c :: pre, acc, h, a, ha => by
    rw [List.foldl_cons] at ha
    have h' : ∀ b ∈ npStep acc c, (b = c ∨ b ∈ acc) ∧ b ≠ Str.ofString ".." := by
      intro b hb
      unfold npStep at hb
      split at hb
      · exact ⟨.inr hb, h b hb⟩
      · split at hb
        · have hb' := (List.dropLast_sublist _).subset hb
          exact ⟨.inr hb', h b hb'⟩
        · rename_i h2 _
          rcases List.mem_append.mp hb with hb | hb
          · exact ⟨.inr hb, h b hb⟩
          · rw [List.mem_singleton.mp hb]
            rename_i h3 _
            exact ⟨.inl rfl, by assumption⟩
    obtain ⟨q, r⟩ := np_mem pre (npStep acc c) (fun b hb => (h' b hb).2) a ha
    refine ⟨?_, r⟩
    rcases q with q | q
    · exact .inl (.tail _ q)
    · rcases (h' a q).1 with rfl | z
      · exact .inl (.head _)
      · exact .inr z
theorem np_len : ∀ (pre acc : List Str), (pre.foldl npStep acc).length ≤ acc.length + pre.length
  | [], acc => by simp
  | c :: pre, acc => by
    rw [List.foldl_cons, List.length_cons]
    have h := np_len pre (npStep acc c)
    have : (npStep acc c).length ≤ acc.length + 1 := by
      unfold npStep
      split
      · omega
      · split
        · rw [List.length_dropLast]; omega
        · rw [List.length_append]; simp
    omega
theorem strs_snoc {us : List Value} {acc : List Str} (h : StrsAre us acc) (hne : acc ≠ []) : ∃ us₁ y t, us = us₁ ++ [Value.str y t] ∧ acc = acc.dropLast ++ [y] ∧ StrsAre us₁ acc.dropLast := by
  induction h with
  | nil => exact absurd rfl hne
  | cons y t h ih =>
    cases h with
    | nil => exact ⟨[], y, t, rfl, rfl, .nil⟩
    | cons y2 t2 h2 =>
      refine Classical.byContradiction fun ng9 => ?_
      obtain ⟨us₁, z, u, e1, e2, e3⟩ := ih (by simp)
      refine ng9 ?_
      clear ng9
      refine ⟨.str y t :: us₁, z, u, by rw [e1]; rfl, ?_, ?_⟩
      · rw [List.dropLast_cons_cons]; rw [List.cons_append]; exact congrArg _ e2
      · rw [List.dropLast_cons_cons]; exact .cons y t e3
theorem str_nil {c : Str} (h : (c.length : Int) = 0) : c = Str.ofString "" := by
  have : c.cps.size = 0 := by
    have : c.length = 0 := by omega
    exact this
  obtain ⟨cps⟩ := c
  have e : cps = #[] := Array.eq_empty_of_size_eq_zero this
  subst e; rfl
noncomputable def npOf (x : Str) : List Str := (Txt.split (Txt.slice x (some 1) none) (Str.ofString "/")).foldl npStep []
noncomputable def normN (x : Str) : Str := Str.ofString "/" ++ Txt.join (Str.ofString "/") (npOf x)
theorem c_norm :
 ∀ {w : World} {p : Program} {loose : List Str} {mean : ExcName → Option Value} {mg mb : Str → Option Value} {dp un : Nat} {gd : Option (List Code)} {outer : List Env} {A₀ : Around} {base h₀ : Heap} {g : Array GenState} {d : Drawn} {t : Nat} {os : OsState} {Q E : Value → Shared → Prop}
 (B : Below A₀ base outer h₀) (X : (hd.heap_1 w.params).In h₀) (T : Top p loose mean mg mb h₀) (hdp : dp + 4 < recursionLimit) (hu : un + 40 < cLine) (x : Str) (tx : Tok) (hx : x.length ≤ 1000) (hx0 : 1 ≤ x.length) (h1 : Txt.slice x none (some 1) = Str.ofString "/") (h2 : (Txt.slice x (some 1) (some 2) != Str.ofString "/") = true) (h3 : (Txt.split (Txt.slice x (some 1) none) (Str.ofString "/")).length ≤ 50) (h4 : ((npOf x).map (·.length)).sum + (npOf x).length ≤ 100) (hret : ∀ t' h' tk', (∀ b o, h₀.get? b = some o → h'.get? b = some o) → Q (.str (normN x) t') ⟨h', g, d, tk', os⟩), wpAny (model PySem.Challenge.rw_of0013_01.prog w) (aTop dp un gd outer) (call (.ref 56) [.str x tx]) Q E ⟨h₀, g, d, t, os⟩ := by
  iterate 13 refine @Mine.pad _ ?_
  iterate 2 k_extra "pkG"
  iterate 14 k_extra "pk9"
  rename_i w p loose mean mg mb dp un gd outer A₀ base h₀ g d t os Q E B X T hdp hu x tx hx hx0 h1 h2 h3 h4 hret
  revert X; k_fill; intro X
  (refine wpAny_call ?_; k_dflt (first | (refine' Mine.enterP ?k3 ?k5 ?k6 ?k7 ?k8 ?k9 ?kB ?_ ?c2 ?c3 ?c4 ?c5; (case k3 => k_asm); (case k5 => k_asm); (case k6 => k_is); (case k7 => k_is); (case k8 => ktr_room); (case k9 => first | exact BindsTo.of_eq rfl | exact binds_K (by k_in) rfl (by k_is) rfl rfl rfl); (case c5 => decide); (case kB => exact locs rfl); (case c2 => exact rfl); (case c3 => exact rfl); (case c4 => exact rfl); k_whole; (iterate 2 (k_extra "pk9")); intro F9e N9e; (try dsimp only); (try k_fold)) | (refine' Mine.enterPC ?k3 ?k5 ?k6 ?k7 ?k8 ?k9 ?kB ?kD ?_ ?c2 ?c3 ?c4; (case k3 => k_asm); (case k5 => k_asm); (case k6 => k_is); (case k7 => k_is); (case k8 => ktr_room); (case k9 => first | exact BindsTo.of_eq rfl | exact binds_K (by k_in) rfl (by k_is) rfl rfl rfl); (case kB => exact rfl); (case kD => decide +kernel); (case c2 => exact rfl); (case c3 => exact rfl); (case c4 => exact rfl); k_whole; (iterate 4 (k_extra "pk9")); intro F9e N9e Y9e; k_cells Y9e; (try simp only [List.cons_append, List.nil_append] at N9e); (try dsimp only); (try k_fold))))
  (repeat' (first | (k_unfold; (try dsimp only)) | (k_end; wrow_close) | (k_here; (with_reducible show wpAny _ _ (call (Value.ref 49) [Value.str _ _]) _ _ _); k_dflt (refine' f_splitroot ?k1 ?k2 ?k3 ?k4 ?k5 ?kf ?kK ?kd ?ku _ _ ?hx ?h1 ?h2 ?_; (case k1 => k_asm); (case k2 => k_asm); (case k3 => k_asm); (case k4 => k_asm); (case k5 => k_asm); (case kf => exact rfl); (case kK => exact rfl); (case kd => ktr_room); (case ku => ktr_units); (case hx => assumption); (case h1 => assumption); (case h2 => assumption)); intro D' t1' t2' t3' h' tk' F' N' off' hl'; (try simp only [LCg.Off1, and_true] at off'); (try dsimp only); (try k_fold)) | walk1 | (dsimp only; walk1) | (leave1; try dsimp only)))
  · (with_reducible rename StrsAre _ _ => hS)
    (with_reducible rename Fr _ _ _ _ => F9)
    (with_reducible rename News _ _ _ _ => N9)
    (with_reducible rename _ ∧ _ => l1)
    refine loop_strs npStep (acc₀ := []) (us₀ := []) rfl (.head _) hS F9 N9 .nil (by intro p hp; simp only [List.mem_cons, List.not_mem_nil, or_false] at hp; rcases hp with rfl | rfl <;> (refine neN ?_; dsimp only; omega)) ?_ ?_
    · intro pre c tc us nn h tk own hpre hSu hne F' N'
      simp only [List.cons_append, List.nil_append] at N' hne
      obtain ⟨post, hp⟩ := hpre
      have hus : us.length ≤ 100000 := by
        have q := np_len pre []
        have q2 := strsLen hSu
        rename List.map _ _ = Txt.split _ _ => hsp
        rw [← hsp, hp, List.length_append] at h3
        simp at q
        omega
      have hcl : c.length ≤ 1000 := by
        have hc : c ∈ List.map (fun x : Str × Tok => x.1) _ := hp ▸ (List.mem_append_right pre (List.mem_cons_self (l := post)))
        rename ∀ a : Str, a ∈ _ → _ => hlen
        have := hlen c hc
        omega
      by_cases hc0 : c = Str.ofString ""
      · subst hc0
        k_steps
        exact TurnEnd.intro (.inr rfl) (by k_asm) (fun y hy => if_neg hy) (by k_asm) hSu
      by_cases hc1 : c = Str.ofString "."
      · subst hc1
        k_steps
        exact TurnEnd.intro (.inr rfl) (by k_asm) (fun y hy => if_neg hy) (by k_asm) hSu
      by_cases hc2 : c = Str.ofString ".."
      · subst hc2
        have e2 : npStep (pre.foldl npStep []) (Str.ofString "..") = (pre.foldl npStep []).dropLast := rfl
        rw [e2]
        by_cases hacc : pre.foldl npStep [] = []
        · rw [hacc] at hSu ⊢
          cases hSu
          (repeat' (first | (k_unfold; (try dsimp only)) | (k_end; wrow_close) | ((with_reducible show wpAny _ _ (truthy (Value.ref _)) _ _ _); (k_here; k_dflt (first | (refine' my_truthyF ?k1 ?_; (case k1 => k_asm)) | (refine' my_truthyT ?k1 ?k2 ?_; (case k1 => k_asm); (case k2 => assumption))); intro k')) | walk1 | (dsimp only; walk1) | (leave1; try dsimp only)))
          exact TurnEnd.intro (.inl rfl) (by k_asm) (fun y hy => if_neg hy) (by k_asm) .nil
        · refine Classical.byContradiction fun ng9 => ?_
          obtain ⟨us₁, y, ty, rfl, e3, hS1⟩ := strs_snoc hSu hacc
          refine ng9 ?_
          clear ng9
          have hy := (np_mem pre [] (fun _ h => nomatch h) y (by rw [e3]; exact List.mem_append_right _ (.head _))).2
          have hus1 : us₁.length ≤ 100000 := by rw [List.length_append] at hus; omega
          (repeat' (first | (k_unfold; (try dsimp only)) | (k_end; wrow_close) | (k_here; (with_reducible show wpAny _ _ (subscriptTail _ _ (Value.ref _) (Value.int (-1) _)) _ _ _); k_dflt (refine' my_last ?k1 ?k2 ?_; (case k1 => k_asm); (case k2 => assumption))) | ((with_reducible show wpAny _ _ (truthy (Value.ref _)) _ _ _); (k_here; k_dflt (first | (refine' my_truthyF ?k1 ?_; (case k1 => k_asm)) | (refine' my_truthyT ?k1 ?k2 ?_; (case k1 => k_asm); (case k2 => assumption))); intro k')) | ((with_reducible show wpAny _ _ (call (Value.builtin _) _) _ _ _); (k_here; k_dflt (refine' my_pop ?k1 ?k2 ?k3 ?k4 ?_; (case k1 => k_asm); (case k2 => k_asm); (case k3 => assumption); (case k4 => assumption)); intro h' F' N')) | ((with_reducible show wpAny _ _ (call (Value.builtin _) _) _ _ _); (k_here; k_dflt (refine' my_append ?k1 ?k2 ?k3 ?k4 ?_; (case k1 => k_asm); (case k2 => k_asm); (case k3 => assumption); (case k4 => assumption)); intro h' F' N')) | walk1 | (dsimp only; walk1) | (leave1; try dsimp only)))
          all_goals first
            | (rename (y == Str.ofString "..") = true => q; exact absurd (eq_of_beq q) hy)
            | exact TurnEnd.intro (.inl rfl) (by k_asm) (fun y hy => if_neg hy) (by k_asm) hS1
      · have q0 : (c.length : Int) ≠ 0 := fun q => hc0 (str_nil q)
        have q1 : (c == Str.ofString ".") = false := by simpa using hc1
        have q2 : (c != Str.ofString "..") = true := by simpa using hc2
        have e2 : npStep (pre.foldl npStep []) c = pre.foldl npStep [] ++ [c] := by unfold npStep; rw [if_neg (by simp [hc0, hc1]), if_neg hc2]
        rw [e2]
        (repeat' (first | (k_unfold; (try dsimp only)) | (k_end; wrow_close) | ((with_reducible show wpAny _ _ (call (Value.builtin _) _) _ _ _); (k_here; k_dflt (refine' my_append ?k1 ?k2 ?k3 ?k4 ?_; (case k1 => k_asm); (case k2 => k_asm); (case k3 => assumption); (case k4 => assumption)); intro h' F' N')) | walk1 | (dsimp only; walk1) | (leave1; try dsimp only)))
        all_goals first
          | (exfalso; omega)
          | exact TurnEnd.intro (.inl rfl) (by k_asm) (fun y hy => if_neg hy) (by k_asm) (kct_snoc hSu)
    · intro us nn u h tk hSu F' N'
      rename List.map _ _ = Txt.split _ _ => hsp
      rw [hsp] at hSu
      (repeat' (first | (k_unfold; (try dsimp only)) | (k_end; wrow_close) | (k_here; (with_reducible show wpAny _ _ (call (Value.builtin _) [Value.str _ _, Value.ref _]) _ _ _); k_dflt (refine' my_join ?k1 ?k2 ?k3 ?k4 ?k5 ?_; (case k1 => k_asm); (case k2 => k_mem); (case k3 => assumption); (case k4 => decide); (case k5 => assumption)); intro t' k' hl') | walk1 | (dsimp only; walk1) | (leave1; try dsimp only)))
      (with_reducible rename Fr _ _ _ _ => F8)
      exact hret _ _ _ F8.keep
  all_goals (rename (x.length : Int) = 0 => q; omega)
theorem f_norm {w : World} {p : Program} {loose : List Str} {mean : ExcName → Option Value} {mg mb : Str → Option Value} {dp un : Nat} {gd : Option (List Code)} {env : Env} {outer : List Env} {A₀ : Around} {base h₀ : Heap} {L : Addr} {m : Str → Option Value} {s : Shared} {Q E : Value → Shared → Prop} {news : List (Addr × Obj)}
   (B : Below A₀ base outer h₀) (F : Fr h₀ L s.heap m) (X : (hd.heap_1 w.params).In h₀) (N : News h₀ L s.heap news) (T : Top p loose mean mg mb h₀) (hf : env.frame = some L) (hke : env.scope.kind = .function) (hdp : dp + 4 < recursionLimit) (hu : un + 40 < cLine) (x : Str) (tx : Tok) (hx : x.length ≤ 1000) (hx0 : 1 ≤ x.length) (h1 : Txt.slice x none (some 1) = Str.ofString "/") (h2 : (Txt.slice x (some 1) (some 2) != Str.ofString "/") = true) (h3 : (Txt.split (Txt.slice x (some 1) none) (Str.ofString "/")).length ≤ 50) (h4 : ((npOf x).map (·.length)).sum + (npOf x).length ≤ 100)
   (hret : ∀ t' h' tk', Fr h₀ L h' m → News h₀ L h' news → Q (.str (normN x) t') { s with heap := h', toks := tk' }) :
   wpAny (model PySem.Challenge.rw_of0013_01.prog w) (aTop dp un gd (env :: outer)) (call (.ref 56) [.str x tx]) Q E s :=
  c_norm (pushX B F hf hke) (X.keeps F.keep) (T.keeps F.keep) hdp hu x tx hx hx0 h1 h2 h3 h4 fun t' h' tk' k => hret t' h' tk' (F.keeps k) (N.grown k)
end Mine
end
open PySem PySem.W PyProof.Rows in
example : Mine.RS := by intro M A Q E s h; w_top off; first | walk1 | skip; all_goals first | exact h | exact wpAny_pure h
section
set_option maxHeartbeats 8000000
local macro_rules | `(tactic| walk_at "execs cons") => `(tactic| (refine wpAny_execs_cons ?_; (try dsimp only); (try k_fold)))
namespace Mine
theorem f_normpath :
 ∀ {w : World} {p : Program} {loose : List Str} {mean : ExcName → Option Value} {mg mb : Str → Option Value} {dp un : Nat} {gd : Option (List Code)} {cn : Str} {nm : List (Str × NameKind)} {ig ic : Bool} {mo : List (Str × Const)} {a : Addr} {ccd : Value} {cl : List (Str × Addr)} {outer : List Env} {A₀ : Around} {base h₀ : Heap} {L : Addr} {m : Str → Option Value} {s : Shared} {Q E : Value → Shared → Prop} {news : List (Addr × Obj)}
 (B : Below A₀ base outer h₀) (F : Fr h₀ L s.heap m) (X : (hd.heap_1 w.params).In h₀) (N : News h₀ L s.heap news) (T : Top p loose mean mg mb h₀) (hdp : dp + 8 < recursionLimit) (hu : un + 80 < cLine) (x : Str) (tx : Tok) (hx : x.length ≤ 1000) (hx0 : 1 ≤ x.length) (h1 : Txt.slice x none (some 1) = Str.ofString "/") (h2 : (Txt.slice x (some 1) (some 2) != Str.ofString "/") = true) (h3 : (Txt.split (Txt.slice x (some 1) none) (Str.ofString "/")).length ≤ 50) (h4 : ((npOf x).map (·.length)).sum + (npOf x).length ≤ 100) (hret : ∀ t' h' tk', Fr h₀ L h' m → News h₀ L h' news → Q (.str (normN x) t') { s with heap := h', toks := tk' }), wpAny (model PySem.Challenge.rw_of0013_01.prog w) (ktrTop dp un gd cn ⟨.function, nm, ig, ic, mo⟩ L a ccd cl outer) (call (.ref 63) [.str x tx]) Q E s := by
  iterate 5 refine @Mine.pad _ ?_
  iterate 2 k_extra "pkG"
  iterate 16 k_extra "pk9"
  rename_i w p loose mean mg mb dp un gd cn nm ig ic mo a ccd cl outer A₀ base h₀ L m s Q E news B F X N T hdp hu x tx hx hx0 h1 h2 h3 h4 hret
  revert X; k_fill; intro X
  (repeat' (first | (k_unfold; (try dsimp only)) | (k_end; wrow_close) | (k_here; (with_reducible show wpAny _ _ (call (Value.ref 56) [Value.str _ _]) _ _ _); k_dflt (refine' f_norm ?k1 ?k2 ?k3 ?k4 ?k5 ?kf ?kK ?kd ?ku _ _ ?hx ?hx0 ?h1 ?h2 ?h3 ?h4 ?_; (case k1 => k_asm); (case k2 => k_asm); (case k3 => k_asm); (case k4 => k_asm); (case k5 => k_asm); (case kf => exact rfl); (case kK => exact rfl); (case kd => ktr_room); (case ku => ktr_units); (case hx => assumption); (case hx0 => assumption); (case h1 => assumption); (case h2 => assumption); (case h3 => assumption); (case h4 => assumption)); intro t' h' tk' F' N'; (try dsimp only); (try k_fold)) | walk1 | (dsimp only; walk1) | (leave1; try dsimp only)))
  exact hret _ _ _ (by k_asm) (cb_drop (by k_asm) (fun p hp => .tail _ (.tail _ hp)))
end Mine
end
open PySem PySem.W PyProof.Rows in
example : Mine.RS := by intro M A Q E s h; w_top off; first | walk1 | skip; all_goals first | exact h | exact wpAny_pure h
section
set_option maxHeartbeats 8000000
namespace Mine
section
variable {prog : Program} {w : World} {A : Around} {R : Result → Shared → Prop} {I : Addr} {fp wr : List Addr} {G : Array GenState → Array GenState → Prop} {n : Nat} {P : Nat → Value → Prop} {St : Nat → Shared → Prop}
theorem set_loop :
 ∀ {prog : Program} {w : World} {A : Around} {R : Result → Shared → Prop} {I : Addr} {fp : List Addr} {wr : List Addr} {G : Array GenState → Array GenState → Prop} {n : Nat} {P : Nat → Value → Prop} {St : Nat → Shared → Prop}
 (W : WalksS prog w A.in1 I fp wr G n P St) (S : Addr) (hSf : S ∉ fp) (ss : List Str) (hn : ss.length = n) (hnd : ss.Nodup) (hval : ∀ i v, i < n → P i v → ∃ x t, v = Value.str x t ∧ ss[i]? = some x) (hb : n + 1 < scanBound), ∀ (k i : Nat) (s : Shared), n - i = k → i ≤ n → St i s →
      s.heap.SetOf (strKind prog w) S (fun x => decide (x ∈ ss.take i)) i →
      (∀ s', Moved (S :: wr) G s s' → s'.heap.SetOf (strKind prog w) S (fun x => decide (x ∈ ss)) n → R (.ok (.ret .none)) s') →
      codeAny (model prog w) A (.builtin "set.update.loop" ⟨[.ref S, .ref I], []⟩) R s := by
  iterate 5 refine @Mine.pad _ ?_
  iterate 1 k_extra "pkG"
  iterate 8 k_extra "pk9"
  rename_i prog w A R I fp wr G n P St W S hSf ss hn hnd hval hb
  have hSw : S ∉ wr := fun h => hSf (W.sub _ h)
  have hsub : ∀ b ∈ wr, b ∈ S :: wr := fun b hb => List.mem_cons_of_mem _ hb
  have keep : ∀ {s s' : Shared} {T : Str → Bool} {j : Nat}, Moved wr G s s' → s.heap.SetOf (strKind prog w) S T j → s'.heap.SetOf (strKind prog w) S T j := by
    intro s s' T j hm hS
    obtain ⟨o, es, ep, t, ho, r⟩ := hS
    exact ⟨o, es, ep, t, hm.heap S _ hSw ho, r⟩
  intro k
  induction k with
  | zero =>
    intro i s hk hi hst hS hR
    obtain rfl : i = n := by omega
    refine codeAny_builtin F.entry_set_update_loop ?_
    rw [Around.under_plainId F.plain_set_update_loop _]
    show wpAny _ A.in1 (pyNext (.ref I) >>= _) _ _ s
    refine wpAny_bind (W.done s _ _ hst fun s' hm => ?_)
    refine wpAny_pure (hR s' (hm.mono hsub) ?_)
    have e := keep hm hS
    rw [← hn, List.take_length] at e
    rw [← hn]; exact e
  | succ k ih =>
    intro i s hk hi hst hS hR
    have hlt : i < n := by omega
    refine codeAny_builtin F.entry_set_update_loop ?_
    rw [Around.under_plainId F.plain_set_update_loop _]
    show wpAny _ A.in1 (pyNext (.ref I) >>= _) _ _ s
    refine wpAny_bind (W.item i s _ _ hlt hst fun v s' hP hst' hm => ?_)
    obtain ⟨x, t, rfl, hx⟩ := hval i v hlt hP
    have hS' := keep hm hS
    show wpAny _ A.in1 (holding [Value.str x t] (setAdd S (.str x t)) >>= _) _ _ s'
    refine wpAny_bind (wpAny_holding ?_)
    unfold setAdd
    refine wpAny_holding ?_
    refine wpAny_bind ((strKind prog w).pyHash (k := x) (strKind_is _ _ _ _) ?_)
    have hnew : decide (x ∈ ss.take i) = false := by
      refine decide_eq_false fun hm => ?_
      obtain ⟨j, hj, e⟩ := List.getElem_of_mem hm
      rw [List.length_take] at hj
      have e2 : ss[j]? = some x := by
        rw [List.getElem_take] at e
        rw [List.getElem?_eq_getElem (by omega), e]
      have h1 : ss[j]'(by omega) = x := by have := List.getElem?_eq_some_iff.mp e2; exact this.2
      have h2 : ss[i]'(by omega) = x := by have := List.getElem?_eq_some_iff.mp hx; exact this.2
      have := (List.getElem_inj (h₀ := by omega) (h₁ := by omega) hnd).mp (h1.trans h2.symm)
      omega
    refine wpAny_setAddHashed_of (knd := strKind prog w) (s := { s' with toks := s'.toks + 1 }) (strKind_is _ _ _ _) rfl hS' (by omega) fun h' hsb hS2 => ?_
    have hSi : h'.SetOf (strKind prog w) S (fun y => decide (y ∈ ss.take (i + 1))) (i + 1) := by
      have e : (fun k' => decide (k' ∈ ss.take i) || decide (k' = x)) = fun y => decide (y ∈ ss.take (i + 1)) := by
        funext y
        rw [List.take_add_one, hx, Bool.eq_iff_iff]
        simp [List.mem_append]
      have e2 : (if decide (x ∈ ss.take i) = true then i else i + 1) = i + 1 := by rw [hnew]; rfl
      rw [e, e2] at hS2
      exact hS2
    refine wpAny_pure ⟨plainId_quiet F.plain_set_update_loop _, ih (i + 1) _ (by omega) hlt (W.frame _ s' _ _ hst' (Nat.le_succ _) fun b hb o e => ?_) hSi fun s'' hm'' hS'' => ?_⟩
    · rw [hsb.2 b (fun h : b = S => hSf (by rw [← h]; exact hb))]; exact e
    · refine hR s'' (Moved.trans W.gtrans ((hm.mono hsub).then_heap (Nat.le_succ _) fun b o hb e => ?_) hm'') hS''
      rw [hsb.2 b (fun h : b = S => hb (by rw [h]; exact List.mem_cons_self))]; exact e
end
section
variable {prog : Program} {w : World} {A : Around} {E : Value → Shared → Prop} {s : Shared} {h₀ : Heap} {L : Addr} {m : Str → Option Value} {news : List (Addr × Obj)}
noncomputable def LoopGood (prog : Program) (w : World) (A : Around) (l S : Addr) (Good : Heap → Prop) (s : Shared) : Prop :=
  ∀ (R : Result → Shared → Prop), (∀ h' tk', Good h' → (∀ b o, b ≠ S → s.heap.get? b = some o → h'.get? b = some o) → R (.ok (.ret .none)) { s with heap := h', toks := tk' }) →
    codeAny (model prog w) A (.builtin "set.update.loop" ⟨[.ref S, .ref s.heap.objs.size], []⟩) R { s with heap := s.heap.push { cls := .type "list_iterator", data := .fields #[.ref l, .int 0 0] } }
theorem set_init :
 ∀ {prog : Program} {w : World} {A : Around} {E : Value → Shared → Prop} {s : Shared} {l S : Addr} {vs : List Value} {led : Bool} {Q : Value → Shared → Prop} {Good : Heap → Prop}
 (hl : s.heap.IsList l vs.toArray) (loop : LoopGood prog w A.in1 l S Good s) (hS : s.heap.get? S = some { cls := .type "set", dict := none, data := .set #[] 0 (.fresh 0 0 led) }) (h : ∀ (h' : Heap) (tk : Nat), Good h' → (∀ b o, b ≠ S → s.heap.get? b = some o → h'.get? b = some o) → Q .none { s with heap := h', toks := tk }), codeAny (model prog w) A (.call (.builtin "set.__init__") ⟨[.ref S, .ref l], []⟩) (wants Q E) s := by
  iterate 5 refine @Mine.pad _ ?_
  iterate 1 k_extra "pkG"
  iterate 4 k_extra "pk9"
  rename_i prog w A E s l S vs led Q Good hl loop hS h
  have hT : s.TypeIs (.ref S) "set" := ⟨_, hS, rfl⟩
  refine codeAny_call_builtin F.called_set.init.plain F.entry_set_init (check_set_init_1 hT ?_)
  obtain ⟨ol, hol, hcl, nl, hdl⟩ := hl
  obtain ⟨ocls, odict, odata, oslots⟩ := ol
  simp only at hcl hdl
  subst hcl; subst hdl
  have hsls := F.sub_list_set
  have hslf := F.sub_list_frozenset
  have hne : (Value.type "list" == Value.type "dict") = false := by decide
  have hl1 : s.heap.IsList l vs.toArray := ⟨_, hol, rfl, nl, rfl⟩
  obtain ⟨hp, g, d, tk, os⟩ := s
  unfold Builtin.«set.__init__» noKeywords Builtin.Frozenset.updateFrom
  generalize hPI : pyIter = PI
  wp_walk
  subst hPI
  refine wpAny_pyIter_list hl1 ?_
  refine wpAny_bind (wpAny_runValue ?_)
  refine loop _ fun h' tk' hG hk => ?_
  show wpAny _ _ _ _ _ _
  refine wpAny_pure ?_
  show wpAny _ _ (ret Value.none) _ _ _
  exact wpAny_pure (h h' tk' hG hk)
theorem code_set_newX :
 ∀ {prog : Program} {w : World} {A : Around} {E : Value → Shared → Prop} {s : Shared} {Q₁ : Value → Shared → Prop}
 (a : Value) (h : Q₁ (.ref s.heap.objs.size) { s with heap := s.heap.push { cls := .type "set", dict := none, data := .set #[] 0 (.fresh 0 0 (!w.params.followText "set-order")) } }), codeAny (model prog w) A (.call (.builtin "set.__new__") ⟨[.type "set", a], []⟩) (wants Q₁ E) s := by
  iterate 10 refine @Mine.pad _ ?_
  iterate 1 k_extra "pkG"
  iterate 2 k_extra "pk9"
  rename_i prog w A E s Q₁ a h
  refine codeAny_of_tree ?_
  show wpAny _ A.in1 (do checkBuiltinCall "set.__new__" ⟨[.type "set", a], []⟩; again (.builtin "set.__new__" ⟨[.type "set", a], []⟩)) _ _ s
  refine wpAny_bind (wpAny_of_eq (F.newCall_set_1 a) (wpAny_pure ⟨plainId_quiet F.plain_set_new _, codeAny_builtin F.entry_set_new ?_⟩))
  rw [Around.under_plainId F.plain_set_new _]
  unfold Builtin.«set.__new__» Builtin.Frozenset.newClass
  have hsub := sub_set_self
  obtain ⟨hp, g, d, tk, os⟩ := s
  dsimp only
  wp_walk
  refine wpAny_askSetting (wpAny_pure ?_)
  dsimp only
  simp only [newObj]
  refine wpAny_bind (wpAny_alloc (wpAny_pure ?_))
  exact wpAny_pure h
theorem call_setG :
 ∀ {prog : Program} {w : World} {A : Around} {E : Value → Shared → Prop} {s : Shared} {l : Addr} {vs : List Value} {Q : Value → Shared → Prop} {Good : Heap → Prop}
 (hl : s.heap.IsList l vs.toArray) (loop : LoopGood prog w A.in1.in1 l s.heap.objs.size Good { s with heap := s.heap.push { cls := .type "set", dict := none, data := .set #[] 0 (.fresh 0 0 (!w.params.followText "set-order")) } }) (h : ∀ (h' : Heap) (tk : Nat), Good h' → (∀ b o, s.heap.get? b = some o → h'.get? b = some o) → Q (.ref s.heap.objs.size) { s with heap := h', toks := tk }), wpAny (model prog w) A (call (.type "set") [.ref l]) Q E s := by
  iterate 7 refine @Mine.pad _ ?_
  iterate 1 k_extra "pkG"
  iterate 3 k_extra "pk9"
  rename_i prog w A E s l vs Q Good hl loop h
  obtain ⟨c, tl, hmro⟩ := F.called_set.mro
  have hmade := F.called_set.made
  have hsub := F.called_set.sub
  refine wpAny_call (codeAny_of_tree ?_)
  show wpAny _ _ (callAny (.type "set") _) _ _ _
  refine wpAny_pure ⟨Code.quiet_builtin _ (by decide +kernel), codeAny_builtin F.entry_type_call ?_⟩
  rw [Around.under_plain (weight_type_call_type "set" [.ref l] []) rfl]
  have h1 := F.called_set.notType
  have h2 := F.called_set.canCreate
  have hct := F.typeCall_set_1 (.ref l)
  repeat (any_goals (first | assumption | wp_step))
  generalize hled : (!w.params.followText "set-order") = led at loop
  refine codeAny_mono (code_set_newX (.ref l) (E := E) (Q₁ := fun obj s₁ => obj = .ref s.heap.objs.size ∧ s₁ = { s with heap := s.heap.push { cls := .type "set", dict := none, data := .set #[] 0 (.fresh 0 0 led) } }) ⟨rfl, by rw [hled]⟩) fun r s₁ hr => ?_
  rcases r with e | (_ | _ | _ | obj)
  · exact hr
  · exact hr.elim
  · exact hr.elim
  · exact hr.elim
  obtain ⟨rfl, rfl⟩ := hr
  have hS : (s.heap.push { cls := .type "set", dict := none, data := .set #[] 0 (.fresh 0 0 led) }).get? s.heap.objs.size = some { cls := .type "set", dict := none, data := .set #[] 0 (.fresh 0 0 led) } := Heap.get?_push_size _ rfl
  have hT : Shared.TypeIs { s with heap := s.heap.push { cls := .type "set", dict := none, data := .set #[] 0 (.fresh 0 0 led) } } (.ref s.heap.objs.size) "set" := ⟨_, hS, rfl⟩
  have hli := F.called_set.init.lookup
  have hbi := F.called_set.init.bind (.ref s.heap.objs.size)
  have hlt : l < s.heap.objs.size := by obtain ⟨_, e, _⟩ := hl; exact Heap.lt_size e
  repeat (any_goals (first | assumption | wp_step))
  refine codeAny_mono (set_init (E := E) (S := s.heap.objs.size) (led := led) (Good := Good) (s := { s with heap := s.heap.push { cls := .type "set", dict := none, data := .set #[] 0 (.fresh 0 0 led) } })
    (Q := fun v s₂ => v = .none ∧ ∃ h' tk, s₂ = { s with heap := h', toks := tk } ∧ Good h' ∧ (∀ b o, s.heap.get? b = some o → h'.get? b = some o))
    (Heap.IsList.push hl _) loop hS fun h' tk hS' hk => ⟨rfl, h', tk, rfl, hS', fun b o e => hk b o (Nat.ne_of_lt (Heap.lt_size e)) (Heap.get?_push_of_some _ e)⟩) fun r₂ s₂ hr₂ => ?_
  rcases r₂ with e | (_ | _ | _ | v)
  · exact hr₂
  · exact hr₂.elim
  · exact hr₂.elim
  · exact hr₂.elim
  obtain ⟨rfl, h', tk, rfl, hS', hk'⟩ := hr₂
  repeat (any_goals (first | assumption | wp_step))
  exact h _ _ hS' hk'
end
end Mine
end
open PySem PySem.W PyProof.Rows in
example : Mine.RS := by intro M A Q E s h; w_top off; first | walk1 | skip; all_goals first | exact h | exact wpAny_pure h
section
set_option maxHeartbeats 8000000
namespace Mine
section
variable {prog : Program} {w : World} {A : Around} {E : Value → Shared → Prop} {s : Shared} {h₀ : Heap} {L : Addr} {m : Str → Option Value} {news : List (Addr × Obj)}
theorem good_many {l S : Addr} {vs : List Value} {ss : List Str} {led : Bool} (hh : A.handled = none) (hl : s.heap.IsList l vs.toArray) (hi : StrsAre vs ss) (hnd : ss.Nodup) (hb : ss.length + 1 < scanBound)
    (hS : s.heap.get? S = some { cls := .type "set", dict := none, data := .set #[] 0 (.fresh 0 0 led) }) (hlS : l ≠ S) :
    LoopGood prog w A l S (fun h => h.SetOf (strKind prog w) S (fun x => decide (x ∈ ss)) ss.length) s := by
  intro R hR
  obtain ⟨hp, g, d, tk, os⟩ := s
  have hh3 : A.in1.handled = none := by simp [hh]
  have hlt : l < hp.objs.size := by obtain ⟨_, e, _⟩ := hl; exact Heap.lt_size e
  have hSt : S < hp.objs.size := Heap.lt_size hS
  have hSf : S ∉ [hp.objs.size, l] := by
    simp only [List.mem_cons, List.not_mem_nil, or_false, not_or]
    exact ⟨Nat.ne_of_lt hSt, Ne.symm hlS⟩
  have el := strsLen hi
  refine set_loop ((Walks.list hh3 _ l (Nat.ne_of_lt hlt) vs.toArray).toS) S hSf ss (by simp [el]) hnd (fun i v _ hv => strs_getV hi (by simpa using hv)) (by simp; omega) (vs.toArray.size - 0) 0 _ (by omega) (Nat.zero_le _)
    ?hst ?hS0 ?hR
  case hst => exact ⟨⟨_, Heap.get?_push_size _ rfl, rfl, rfl⟩, (Heap.IsList.push hl _)⟩
  case hS0 =>
    have hget : (hp.push { cls := .type "list_iterator", data := .fields #[.ref l, .int 0 0] }).get? S = some { cls := .type "set", dict := none, data := .set #[] 0 (.fresh 0 0 led) } := Heap.get?_push_of_some _ hS
    have z := (setObjOf_fresh (knd := strKind prog w) led).setOf hget (by unfold scanBound; omega)
    exact SetOf_congr z (fun _ => by simp) rfl
  case hR =>
    intro s' hm hS'
    obtain ⟨h', g', d', tk', os'⟩ := s'
    have eg : g' = g := hm.gens
    have ed : d' = d := hm.drawn
    have eo : os' = os := hm.os
    subst eg; subst ed; subst eo
    have e9 : vs.toArray.size = ss.length := by simp [el]
    rw [e9] at hS'
    refine hR h' tk' hS' fun b o hb e => ?_
    refine hm.heap b o ?_ (Heap.get?_push_of_some _ e)
    simp only [List.mem_cons, List.not_mem_nil, or_false, not_or]
    exact ⟨hb, Nat.ne_of_lt (Heap.lt_size e)⟩
theorem set_N {l : Addr} {vs : List Value} {ss : List Str} {Q : Value → Shared → Prop} (hh : A.handled = none) (F : Fr h₀ L s.heap m) (N : News h₀ L s.heap news) (hl : s.heap.IsList l vs.toArray) (hi : StrsAre vs ss) (hnd : ss.Nodup) (hb : ss.length ≤ 100)
    (h : ∀ S o h' tk, Fr h₀ L h' m → News h₀ L h' ((S, o) :: news) → LCg.Off1 S news → o.SetObjOf (strKind prog w) (fun x => decide (x ∈ ss)) ss.length → Q (.ref S) { s with heap := h', toks := tk }) :
    wpAny (model prog w) A (call (.type "set") [.ref l]) Q E s := by
  have hlt : l < s.heap.objs.size := by obtain ⟨_, e, _⟩ := hl; exact Heap.lt_size e
  refine call_setG hl (good_many (by simp [hh]) (Heap.IsList.push hl _) hi hnd (by unfold scanBound; omega) (Heap.get?_push_size _ rfl) (Nat.ne_of_lt hlt)) fun h' tk hS hk => ?_
  obtain ⟨o, ho, hs⟩ := hS.objOf
  have hn : s.heap.get? s.heap.objs.size = none := by
    cases e : s.heap.get? s.heap.objs.size with
    | none => rfl
    | some x => exact absurd (Heap.lt_size e) (Nat.lt_irrefl _)
  exact h _ o h' tk (F.keeps hk) (nw_add F N hk ho hn) (nw_off N hn) hs
end
end Mine
end
section
set_option maxHeartbeats 8000000
namespace Mine
noncomputable def tab1 (h : Int) (led pl : Bool) : SetTable := { mask := 7, place := #[SetTable.bits h % 8], dummies := #[], finger := 0, led := led, moves := 0, plain := pl }
theorem layNew_fresh (h : Int) (x : Value) (led : Bool) : layNew (.fresh 0 0 led) #[] h x = (#[(h, x)], tab1 h led true, false, false) := by
  first | rfl | kernel_rfl
theorem tab1_fits (h : Int) (led pl : Bool) : (tab1 h led pl).fits 1 = true := by rfl
theorem tab1_full (h : Int) (led pl : Bool) : (tab1 h led pl).tooFull = false := by rfl
noncomputable abbrev set1 (h : Int) (x : Value) (led : Bool) (ep : Nat) : Obj := { cls := .type "set", dict := none, data := .set #[(h, x)] ep (tab1 h led false) }
theorem setAdd_fresh :
 ∀ {prog : Program} {w : World} {A : Around} {E : Value → Shared → Prop} {s : Shared} {S : Addr} {led : Bool} {x : Str} {t : Tok} {Q : Bool → Shared → Prop}
 (hS : s.heap.get? S = some { cls := .type "set", dict := none, data := .set #[] 0 (.fresh 0 0 led) }) (h : ∀ h', Heap.SameBut S s.heap h' → h'.get? S = some (set1 ((strKind prog w).hash x) (.str x t) led 1) → Q true { s with heap := h', toks := s.toks + 1 }), wpAny (model prog w) A (setAdd S (.str x t)) Q E s := by
  iterate 6 refine @Mine.pad _ ?_
  iterate 1 k_extra "pkG"
  iterate 2 k_extra "pk9"
  rename_i prog w A E s S led x t Q hS h
  unfold setAdd
  refine wpAny_holding ?_
  refine wpAny_bind ((strKind prog w).pyHash (k := x) (strKind_is _ _ _ _) ?_)
  unfold setAddHashed setAddHashedIn
  refine wpAny_holding (wpAny_bind (wpAny_setState_of (s := { s with toks := s.toks + 1 }) hS rfl rfl ?_))
  dsimp only
  rw [show byScan (.str x t) #[] = true from by simp [byScan, Value.scannable, scanBound]]
  simp only [↓reduceIte]
  unfold setAddByScan
  refine wpAny_bind (wpAny_bind (wpAny_rule ?_))
  rw [show setScan S (.str x t) ((strKind prog w).hash x) true #[] = pure .absent from by simp [setScan, setScanStrs]]
  refine wpAny_bind (wpAny_pure ?_)
  dsimp only
  rw [layNew_fresh]
  dsimp only
  refine wpAny_bind (wpAny_pure ?_)
  rw [show (tab1 ((strKind prog w).hash x) led true).plain = true from rfl]
  simp only [↓reduceIte]
  refine wpAny_bind ?_
  rw [hashByValue_scannable 8 rfl]
  refine wpAny_pure ?_
  rw [show plainKind (Value.str x t) = false from rfl]
  simp only [Bool.false_eq_true, ↓reduceIte]
  refine wpAny_bind (wpAny_storeSet_of (s := { s with toks := s.toks + 1 }) hS rfl ?_ (by rw [PySem.sizeLine_eq]; simp))
  split
  · rename_i q
    exact absurd (show false = true from q) Bool.false_ne_true
  refine wpAny_pure (wpAny_pure ?_)
  have hs := Heap.SameBut.update (a := S) (h := s.heap) (f := Obj.putSet #[((strKind prog w).hash x, Value.str x t)] (tab1 ((strKind prog w).hash x) led false))
  exact h _ hs (Heap.get?_update_self _ hS rfl)
section
variable {prog : Program} {w : World} {A : Around} {R : Result → Shared → Prop} {I : Addr} {fp wr : List Addr} {G : Array GenState → Array GenState → Prop} {P : Nat → Value → Prop} {St : Nat → Shared → Prop}
theorem set_loop1 :
 ∀ {prog : Program} {w : World} {A : Around} {R : Result → Shared → Prop} {I : Addr} {fp : List Addr} {wr : List Addr} {G : Array GenState → Array GenState → Prop} {P : Nat → Value → Prop} {St : Nat → Shared → Prop} {x : Str} {t : Tok} {led : Bool} {s : Shared}
 (W : WalksS prog w A.in1 I fp wr G 1 P St) (S : Addr) (hSf : S ∉ fp) (hval : ∀ v, P 0 v → v = Value.str x t) (hst : St 0 s) (hS : s.heap.get? S = some { cls := .type "set", dict := none, data := .set #[] 0 (.fresh 0 0 led) }) (hR : ∀ s', Moved (S :: wr) G s s' → s'.heap.get? S = some (set1 ((strKind prog w).hash x) (.str x t) led 1) → R (.ok (.ret .none)) s'), codeAny (model prog w) A (.builtin "set.update.loop" ⟨[.ref S, .ref I], []⟩) R s := by
  iterate 2 refine @Mine.pad _ ?_
  iterate 1 k_extra "pkG"
  iterate 7 k_extra "pk9"
  rename_i prog w A R I fp wr G P St x t led s W S hSf hval hst hS hR
  have hSw : S ∉ wr := fun h => hSf (W.sub _ h)
  have hsub : ∀ b ∈ wr, b ∈ S :: wr := fun b hb => List.mem_cons_of_mem _ hb
  refine codeAny_builtin F.entry_set_update_loop ?_
  rw [Around.under_plainId F.plain_set_update_loop _]
  show wpAny _ A.in1 (pyNext (.ref I) >>= _) _ _ s
  refine wpAny_bind (W.item 0 s _ _ (by omega) hst fun v s' hP hst' hm => ?_)
  obtain rfl := hval v hP
  show wpAny _ A.in1 (holding [Value.str x t] (setAdd S (.str x t)) >>= _) _ _ s'
  refine wpAny_bind (wpAny_holding (setAdd_fresh (hm.heap S _ hSw hS) fun h' hsb hS2 => ?_))
  refine wpAny_pure ⟨plainId_quiet F.plain_set_update_loop _, ?_⟩
  refine codeAny_builtin F.entry_set_update_loop ?_
  rw [Around.under_plainId F.plain_set_update_loop _]
  show wpAny _ A.in1 (pyNext (.ref I) >>= _) _ _ _
  have hst2 : St 1 { s' with heap := h', toks := s'.toks + 1 } := W.frame _ s' _ _ hst' (Nat.le_succ _) fun b hb o e => by
    rw [hsb.2 b (fun h : b = S => hSf (by rw [← h]; exact hb))]; exact e
  refine wpAny_bind (W.done _ _ _ hst2 fun s'' hm2 => ?_)
  refine wpAny_pure (hR s'' (Moved.trans W.gtrans ((hm.mono hsub).then_heap (Nat.le_succ _) fun b o hb e => ?_) (hm2.mono hsub)) (hm2.heap S _ hSw hS2))
  rw [hsb.2 b (fun h : b = S => hb (by rw [h]; exact List.mem_cons_self))]; exact e
end
section
variable {prog : Program} {w : World} {A : Around} {E : Value → Shared → Prop} {s : Shared} {h₀ : Heap} {L : Addr} {m : Str → Option Value} {news : List (Addr × Obj)}
theorem good_one :
 ∀ {prog : Program} {w : World} {A : Around} {s : Shared} {l S : Addr} {x : Str} {t : Tok} {led : Bool}
 (hh : A.handled = none) (hl : s.heap.IsList l [Value.str x t].toArray) (hS : s.heap.get? S = some { cls := .type "set", dict := none, data := .set #[] 0 (.fresh 0 0 led) }) (hlS : l ≠ S), LoopGood prog w A l S (fun h => h.get? S = some (set1 ((strKind prog w).hash x) (.str x t) led 1)) s := by
  iterate 7 refine @Mine.pad _ ?_
  iterate 1 k_extra "pkG"
  iterate 4 k_extra "pk9"
  rename_i prog w A s l S x t led hh hl hS hlS
  intro R hR
  obtain ⟨hp, g, d, tk, os⟩ := s
  have hh3 : A.in1.handled = none := by simp [hh]
  have hlt : l < hp.objs.size := by obtain ⟨_, e, _⟩ := hl; exact Heap.lt_size e
  have hSt : S < hp.objs.size := Heap.lt_size hS
  have hSf : S ∉ [hp.objs.size, l] := by
    simp only [List.mem_cons, List.not_mem_nil, or_false, not_or]
    exact ⟨Nat.ne_of_lt hSt, Ne.symm hlS⟩
  refine set_loop1 ((Walks.list hh3 _ l (Nat.ne_of_lt hlt) [Value.str x t].toArray).toS) S hSf (x := x) (t := t) (led := led) (fun v hv => ?hv) ?hst ?hS0 ?hR
  case hv =>
    have hv' : [Value.str x t].toArray[0]? = some v := hv
    simpa using hv'.symm
  case hst => exact ⟨⟨_, Heap.get?_push_size _ rfl, rfl, rfl⟩, (Heap.IsList.push hl _)⟩
  case hS0 => exact Heap.get?_push_of_some _ hS
  case hR =>
    intro s' hm hS'
    obtain ⟨h', g', d', tk', os'⟩ := s'
    have eg : g' = g := hm.gens
    have ed : d' = d := hm.drawn
    have eo : os' = os := hm.os
    subst eg; subst ed; subst eo
    refine hR h' tk' hS' fun b o hb e => ?_
    refine hm.heap b o ?_ (Heap.get?_push_of_some _ e)
    simp only [List.mem_cons, List.not_mem_nil, or_false, not_or]
    exact ⟨hb, Nat.ne_of_lt (Heap.lt_size e)⟩
theorem set_N1 {l : Addr} {x : Str} {t : Tok} {nn : Nat} {Q : Value → Shared → Prop} (hh : A.handled = none) (F : Fr h₀ L s.heap m) (N : News h₀ L s.heap news) (hm : (l, ({ cls := .type "list", data := .seq #[.str x t] nn } : Obj)) ∈ news)
    (h : ∀ S h' tk, Fr h₀ L h' m → News h₀ L h' ((S, set1 ((strKind prog w).hash x) (.str x t) (!w.params.followText "set-order") 1) :: news) → LCg.Off1 S news → Q (.ref S) { s with heap := h', toks := tk }) :
    wpAny (model prog w) A (call (.type "set") [.ref l]) Q E s := by
  have hl : s.heap.IsList l [Value.str x t].toArray := News.isList N hm
  have hlt : l < s.heap.objs.size := by obtain ⟨_, e, _⟩ := id hl; exact Heap.lt_size e
  refine call_setG hl (good_one (by simp [hh]) (Heap.IsList.push hl _) (Heap.get?_push_size _ rfl) (Nat.ne_of_lt hlt)) fun h' tk hS hk => ?_
  have hn : s.heap.get? s.heap.objs.size = none := by
    cases e : s.heap.get? s.heap.objs.size with
    | none => rfl
    | some x => exact absurd (Heap.lt_size e) (Nat.lt_irrefl _)
  exact h _ h' tk (F.keeps hk) (nw_add F N hk hS hn) (nw_off N hn)
end
end Mine
end
open PySem PySem.W PyProof.Rows in
example : Mine.RS := by intro M A Q E s h; w_top off; first | walk1 | skip; all_goals first | exact h | exact wpAny_pure h
section
set_option maxHeartbeats 8000000
namespace Mine
theorem entry_set_iter : entryFor table "set.__iter__" = some Builtin.«frozenset.__iter__» :=
  entryFor_alias (id' := "frozenset.__iter__") (by kernel_rfl) rfl (by decide +kernel) (by kernel_rfl)
theorem slot_setit_next : Slot "set_iterator" "__next__" "set_iterator.__next__" :=
  Slot.of (T := "set_iterator") (name := "__next__") (owner := "set_iterator") (n := "__next__") (by rw [typeLookup_type, builtinLookup_eq_fast]; kernel_rfl) (by decide +kernel) (by decide +kernel) (by decide +kernel)
    (.inl (by decide +kernel)) (by rw [isSubtype_type]; kernel_rfl)
theorem entry_setit_next : entryFor table "set_iterator.__next__" = some Builtin.«set_iterator.__next__» := entryFor_of_tree (by kernel_rfl)
theorem args_setit_next (a : Value) : argsOk "set_iterator.__next__" ⟨[a], []⟩ := by unfold argsOk; kernel_rfl
noncomputable abbrev setIt (S : Addr) (slot i n ep : Int) : Obj := { cls := .type "set_iterator", data := .fields #[rawInt slot, rawInt i, .ref S, rawInt n, rawInt ep] }
noncomputable abbrev set0 (led : Bool) : Obj := { cls := .type "set", dict := none, data := .set #[] 0 (.fresh 0 0 led) }
theorem tab1_below (h : Int) (led pl : Bool) : SetTable.below (tab1 h led pl).place (SetTable.bits h % 8 + 1) = 1 := by
  simp [SetTable.below, SetTable.below.go, tab1]
theorem tab1_below0 (h : Int) (led pl : Bool) : SetTable.below (tab1 h led pl).place 0 = 0 := by
  have e : (#[SetTable.bits h % 8] : Array Nat).getD 0 0 = SetTable.bits h % 8 := rfl
  show (if 0 < 1 then if (#[SetTable.bits h % 8] : Array Nat).getD 0 0 < 0 then 1 else 0 else 0) = 0
  rw [e]; simp
theorem pick1 (f : Nat → Nat) (e : Int × Value) : pickOrder f #[e] = #[e] := by
  show pickOrder.go f 1 0 [e] #[] = #[e]
  unfold pickOrder.go
  simp [Nat.mod_one, pickOrder.go]
theorem pick0 (f : Nat → Nat) : pickOrder f (#[] : Array (Int × Value)) = #[] := rfl
section
variable {prog : Program} {w : World} {A : Around} {E : Value → Shared → Prop} {s : Shared} {S it : Addr} {h : Int} {x : Value} {ep : Nat}
noncomputable abbrev ledOf (w : World) : Bool := !w.params.followText "set-order"
theorem iter_set :
 ∀ {prog : Program} {w : World} {A : Around} {E : Value → Shared → Prop} {s : Shared} {S : Addr} {ep : Nat} {es : Array (Int × Value)} {t : SetTable} {o : Obj} {Q : Value → Shared → Prop}
 (hS : s.heap.get? S = some o) (hc : o.cls = .type "set") (hd : o.data = .set es ep t) (hf : t.fits es.size = true) (hle : es.size ≤ 1) (hQ : Q (.ref s.heap.objs.size) { s with heap := s.heap.push (setIt S 0 0 es.size ep) }), wpAny (model prog w) A (pyIter (.ref S)) Q E s := by
  iterate 5 refine @Mine.pad _ ?_
  iterate 1 k_extra "pkG"
  iterate 6 k_extra "pk9"
  rename_i prog w A E s S ep es t o Q hS hc hd hf hle hQ
  have hT : s.TypeIs (.ref S) "set" := ⟨_, hS, hc⟩
  have st : ∀ {α : Type} {f : (Array (Int × Value) × Nat × SetTable) → Sem α} {Q : α → Shared → Prop} {s' : Shared} {A : Around} {E : Value → Shared → Prop}, s'.heap.get? S = some o → wpAny (model prog w) A (f (es, ep, t)) Q E s' → wpAny (model prog w) A (setState S >>= f) Q E s' :=
    fun hS h => wpAny_bind (wpAny_setState_of hS hd hf h)
  refine wpAny_pyIter_slot hT F.slot_set_iter (wpAny_call_entry F.slot_set_iter hT entry_set_iter ?_ (F.args_set_iter_1 _))
  unfold Builtin.«frozenset.__iter__»
  refine wpAny_bind (wpAny_pure ?_)
  unfold Builtin.Frozenset.sizeOf setEntries
  refine wpAny_bind (wpAny_bind (wpAny_bind (wpAny_setState_of hS hd hf (wpAny_pure (wpAny_pure ?_)))))
  unfold setDrawn setsByText setEpoch
  refine wpAny_bind (wpAny_bind (wpAny_setState_of hS hd hf ?_))
  dsimp only
  refine wpAny_bind (wpAny_bind (wpAny_askSetting (wpAny_pure ?_)))
  refine wpAny_pure ?_
  split
  · rename_i q
    exfalso
    have q' : (!(w.params.followText "set-order") && (!t.plain && decide (es.size > 1))) = true := q
    have : decide (es.size > 1) = false := by simp; omega
    rw [this] at q'; simp at q'
  refine wpAny_bind (wpAny_pure ?_)
  refine wpAny_bind (wpAny_bind (wpAny_setState_of hS hd hf (wpAny_pure ?_)))
  refine wpAny_bind (wpAny_newObj_type ?_)
  exact wpAny_pure ⟨_, rfl, "set_iterator", _, ⟨_, Heap.get?_push_size _ rfl, rfl⟩, slot_setit_next.lookup, hQ⟩
theorem next_one :
 ∀ {prog : Program} {w : World} {A : Around} {E : Value → Shared → Prop} {s : Shared} {S : Addr} {h : Int} {x : Value} {ep : Nat} {Q : Option (Value × Nat) → Shared → Prop}
 (hS : s.heap.get? S = some (set1 h x (ledOf w) ep)) (hQ : ∀ j, (w.params.followText "set-order" = false → j = SetTable.bits h % 8 + 1) → Q (some (x, j)) s), wpAny (model prog w) A (setNext S 0 0 ep) Q E s := by
  iterate 6 refine @Mine.pad _ ?_
  iterate 1 k_extra "pkG"
  iterate 2 k_extra "pk9"
  rename_i prog w A E s S h x ep Q hS hQ
  unfold setNext setsByText
  refine wpAny_bind (wpAny_setState_of hS rfl (tab1_fits h (ledOf w) false) ?_)
  dsimp only
  refine wpAny_bind (wpAny_bind (wpAny_askSetting (wpAny_pure ?_)))
  cases q : w.params.followText "set-order" with
  | true =>
    simp only [model, q, ↓reduceIte, bne_self_eq_false, Bool.false_eq_true]
    unfold setWalk setsByText
    refine wpAny_bind (wpAny_bind (wpAny_setState_of hS rfl (tab1_fits h (ledOf w) false) ?_))
    dsimp only
    refine wpAny_bind (wpAny_bind (wpAny_askSetting (wpAny_pure ?_)))
    simp only [model, q, ↓reduceIte]
    refine wpAny_bind (wpAny_askSetting (wpAny_pure ?_))
    refine wpAny_pure ?_
    rw [pick1]
    exact hQ 0 (fun e => by rw [q] at e; cases e)
  | false =>
    simp only [model, q, Bool.false_eq_true, ↓reduceIte]
    split
    · rename_i z
      exact absurd (show false = true from z) Bool.false_ne_true
    refine wpAny_bind (Q := _) (m := _) ?_
    have e : ledOf w = true := by unfold ledOf; rw [q]; rfl
    rw [e]
    refine wpAny_pure ?_
    rw [tab1_below0]
    exact wpAny_pure (hQ _ fun _ => rfl)
theorem next_end1 :
 ∀ {prog : Program} {w : World} {A : Around} {E : Value → Shared → Prop} {s : Shared} {S : Addr} {h : Int} {x : Value} {ep : Nat} {slot : Nat} {Q : Option (Value × Nat) → Shared → Prop}
 (hS : s.heap.get? S = some (set1 h x (ledOf w) ep)) (hsl : w.params.followText "set-order" = false → slot = SetTable.bits h % 8 + 1) (hQ : Q none s), wpAny (model prog w) A (setNext S slot 1 ep) Q E s := by
  iterate 5 refine @Mine.pad _ ?_
  iterate 1 k_extra "pkG"
  iterate 3 k_extra "pk9"
  rename_i prog w A E s S h x ep slot Q hS hsl hQ
  unfold setNext setsByText
  refine wpAny_bind (wpAny_setState_of hS rfl (tab1_fits h (ledOf w) false) ?_)
  dsimp only
  refine wpAny_bind (wpAny_bind (wpAny_askSetting (wpAny_pure ?_)))
  cases q : w.params.followText "set-order" with
  | true =>
    simp only [model, q, ↓reduceIte, bne_self_eq_false, Bool.false_eq_true]
    unfold setWalk setsByText
    refine wpAny_bind (wpAny_bind (wpAny_setState_of hS rfl (tab1_fits h (ledOf w) false) ?_))
    dsimp only
    refine wpAny_bind (wpAny_bind (wpAny_askSetting (wpAny_pure ?_)))
    simp only [model, q, ↓reduceIte]
    refine wpAny_bind (wpAny_askSetting (wpAny_pure ?_))
    refine wpAny_pure ?_
    rw [pick1]
    exact hQ
  | false =>
    obtain rfl := hsl q
    simp only [model, q, Bool.false_eq_true, ↓reduceIte]
    split
    · rename_i z
      exact absurd (show false = true from z) Bool.false_ne_true
    refine wpAny_bind (Q := _) (m := _) ?_
    have e : ledOf w = true := by unfold ledOf; rw [q]; rfl
    rw [e]
    refine wpAny_pure ?_
    rw [tab1_below]
    exact wpAny_pure hQ
theorem next_end0 :
 ∀ {prog : Program} {w : World} {A : Around} {E : Value → Shared → Prop} {s : Shared} {S : Addr} {slot : Nat} {led : Bool} {Q : Option (Value × Nat) → Shared → Prop}
 (hS : s.heap.get? S = some (set0 led)) (hQ : Q none s), wpAny (model prog w) A (setNext S slot 0 0) Q E s := by
  iterate 7 refine @Mine.pad _ ?_
  iterate 1 k_extra "pkG"
  iterate 2 k_extra "pk9"
  rename_i prog w A E s S slot led Q hS hQ
  unfold setNext setsByText
  refine wpAny_bind (wpAny_setState_of hS rfl rfl ?_)
  dsimp only
  refine wpAny_bind (wpAny_bind (wpAny_askSetting (wpAny_pure ?_)))
  cases q : w.params.followText "set-order" with
  | true =>
    simp only [model, q, ↓reduceIte, bne_self_eq_false, Bool.false_eq_true]
    unfold setWalk setsByText
    refine wpAny_bind (wpAny_bind (wpAny_setState_of hS rfl rfl ?_))
    dsimp only
    refine wpAny_bind (wpAny_bind (wpAny_askSetting (wpAny_pure ?_)))
    simp only [model, q, ↓reduceIte]
    refine wpAny_bind (wpAny_askSetting (wpAny_pure ?_))
    refine wpAny_pure ?_
    exact hQ
  | false =>
    simp only [model, q, Bool.false_eq_true, ↓reduceIte]
    split
    · rename_i z
      exact absurd (show false = true from z) Bool.false_ne_true
    refine wpAny_bind (Q := _) (m := _) ?_
    have e : (!(SetTable.fresh 0 0 led).led && !(#[] : Array (Int × Value)).isEmpty) = false := by simp
    refine wpAny_of_eq (a := ()) ?_ (wpAny_pure hQ)
    show (if (!(SetTable.fresh 0 0 led).led && !(#[] : Array (Int × Value)).isEmpty) = true then _ else _) = _
    rw [e]; rfl
theorem iter_item :
 ∀ {prog : Program} {w : World} {A : Around} {E : Value → Shared → Prop} {s : Shared} {S : Addr} {it : Addr} {h : Int} {x : Value} {ep : Nat} {Q : Option Value → Shared → Prop}
 (hit : s.heap.get? it = some (setIt S 0 0 1 ep)) (hS : s.heap.get? S = some (set1 h x (ledOf w) ep)) (hQ : ∀ h' j, (w.params.followText "set-order" = false → j = SetTable.bits h % 8 + 1) → h'.get? it = some (setIt S (j : Nat) 1 1 ep) → Heap.SameBut it s.heap h' → Q (some x) { s with heap := h' }), wpAny (model prog w) A (pyNext (.ref it)) Q E s := by
  iterate 5 refine @Mine.pad _ ?_
  iterate 1 k_extra "pkG"
  iterate 3 k_extra "pk9"
  rename_i prog w A E s S it h x ep Q hit hS hQ
  have hT : s.TypeIs (.ref it) "set_iterator" := ⟨_, hit, rfl⟩
  unfold pyNext
  refine wpAny_bind (wpAny_attempt (wpAny_callSpecial?_slot (name := Str.ofString "__next__") hT slot_setit_next (wpAny_call_entry slot_setit_next hT entry_setit_next ?_ (args_setit_next _))))
  unfold Builtin.«set_iterator.__next__»
  refine wpAny_bind (wpAny_pure ?_)
  refine wpAny_bind (wpAny_fieldsOf hit rfl ?_)
  dsimp only
  unfold setEntries
  refine wpAny_bind (wpAny_bind (wpAny_setState_of hS rfl (tab1_fits h (ledOf w) false) (wpAny_pure ?_)))
  split
  · rename_i q
    exact absurd (show false = true from q) Bool.false_ne_true
  dsimp only [rawInt]
  refine wpAny_bind (next_one hS fun j hj => ?_)
  dsimp only
  refine wpAny_bind (wpAny_setField hit rfl (by simp) ?_)
  have h1 : (s.heap.update it (Obj.mapFields (·.setIfInBounds 0 (rawInt (j : Nat))))).get? it = some (setIt S (j : Nat) 0 1 ep) := Heap.get?_update_self _ hit rfl
  refine wpAny_bind (wpAny_setField (s := { s with heap := s.heap.update it (Obj.mapFields (·.setIfInBounds 0 (rawInt (j : Nat)))) }) h1 rfl (by simp) ?_)
  refine wpAny_pure ⟨x, rfl, wpAny_pure (hQ _ j hj ?_ ?_)⟩
  · exact Heap.get?_update_self _ h1 rfl
  · exact Heap.SameBut.trans (Heap.SameBut.update ..) (Heap.SameBut.update ..)
theorem iter_end :
 ∀ {prog : Program} {w : World} {A : Around} {E : Value → Shared → Prop} {s : Shared} {S : Addr} {it : Addr} {slot i n : Nat} {ep' : Nat} {o : Obj} {es : Array (Int × Value)} {t : SetTable} {Q : Option Value → Shared → Prop}
 (hh : A.handled = none) (hit : s.heap.get? it = some (setIt S slot i n ep')) (hS : s.heap.get? S = some o) (hd : o.data = .set es ep' t) (hf : t.fits es.size = true) (hn : es.size = n) (hnext : ∀ (Q : Option (Value × Nat) → Shared → Prop) (A : Around) (E : Value → Shared → Prop), Q none s → wpAny (model prog w) A (setNext S slot i ep') Q E s) (hQ : ∀ h', Heap.ExtBut it s.heap h' → Q none { s with heap := h' }), wpAny (model prog w) A (pyNext (.ref it)) Q E s := by
  iterate 1 refine @Mine.pad _ ?_
  iterate 1 k_extra "pkG"
  iterate 8 k_extra "pk9"
  rename_i prog w A E s S it slot i n ep' o es t Q hh hit hS hd hf hn hnext hQ
  have hT : s.TypeIs (.ref it) "set_iterator" := ⟨_, hit, rfl⟩
  unfold pyNext
  refine wpAny_bind (wpAny_attempt (wpAny_callSpecial?_slot (name := Str.ofString "__next__") hT slot_setit_next (wpAny_call_entry slot_setit_next hT entry_setit_next ?_ (args_setit_next _))))
  unfold Builtin.«set_iterator.__next__»
  refine wpAny_bind (wpAny_pure ?_)
  refine wpAny_bind (wpAny_fieldsOf hit rfl ?_)
  dsimp only
  unfold setEntries
  refine wpAny_bind (wpAny_bind (wpAny_setState_of hS hd hf (wpAny_pure ?_)))
  split
  · rename_i q
    exfalso
    simp [hn] at q
  dsimp only [rawInt]
  simp only [Int.toNat_natCast]
  refine wpAny_bind (hnext _ _ _ ?_)
  dsimp only
  refine wpAny_bind (wpAny_setField hit rfl (by simp) ?_)
  show wpAny _ _ (newExc (.type "StopIteration") [] >>= _) _ _ _
  refine wpAny_bind ?_
  simp only [newExc, newTuple]
  refine wpAny_bind (wpAny_newObj_type ?_ (by size_fits))
  refine wpAny_bind (m := firstArgMember _ _) (wpAny_of_eq (a := Value.none) (by first | rfl | (simp only [firstArgMember]; rfl)) ?_)
  refine wpAny_newObj_type ?_ (by size_fits)
  simp only [raiseNew]
  refine wpAny_bind (wpAny_handled ?_)
  rw [show A.in1.handled = none from hh]
  refine wpAny_bind (wpAny_pure (wpAny_throw ?_))
  refine wpAny_bind (wpAny_isInstance (T := "StopIteration") (b := true) ⟨_, Heap.get?_push_size _ rfl, rfl⟩ isSubtype_stop ?_)
  exact wpAny_pure (hQ _ (((Heap.SameBut.update ..).extBut.push _).push _))
end
end Mine
end
open PySem PySem.W PyProof.Rows in
example : Mine.RS := by intro M A Q E s h; w_top off; first | walk1 | skip; all_goals first | exact h | exact wpAny_pure h
section
set_option maxHeartbeats 8000000
namespace Mine
noncomputable def Mods (prog : Program) (w : World) (so : Obj) (ms : List Str) : Prop :=
  so.SetObjOf (strKind prog w) (fun y => decide (y ∈ ms)) ms.length ∧ (ms.length ≤ 1 → (ms = [] ∧ ∃ led, so = set0 led) ∨ ∃ x t, ms = [x] ∧ so = set1 ((strKind prog w).hash x) (.str x t) (ledOf w) 1)
theorem mods0 (prog : Program) (w : World) (led : Bool) : Mods prog w (set0 led) [] :=
  ⟨by have z := setObjOf_fresh (knd := strKind prog w) led
      have e : (fun y : Str => decide (y ∈ ([] : List Str))) = fun _ => false := by funext y; simp
      rw [e]; exact z, fun _ => .inl ⟨rfl, led, rfl⟩⟩
theorem mods1 :
 ∀ 
 (prog : Program) (w : World) (x : Str) (t : Tok), Mods prog w (set1 ((strKind prog w).hash x) (.str x t) (ledOf w) 1) [x] := by
  iterate 4 k_extra "pk9"
  rename_i prog w x t
  refine ⟨⟨⟨rfl, rfl, rfl⟩, #[((strKind prog w).hash x, Value.str x t)], 1, tab1 _ (ledOf w) false, rfl, ?_, fun k => ?_, rfl, rfl⟩, fun _ => .inr ⟨x, t, rfl, rfl⟩⟩
  · intro e he
    simp at he
    subst he
    exact ⟨⟨x, strKind_is _ _ _ _, rfl⟩, rfl⟩
  · simp
    constructor
    · rintro rfl; exact strKind_is _ _ _ _
    · intro e
      exact (strKind prog w).inj _ _ _ e (strKind_is _ _ _ _)
theorem mods_many {prog : Program} {w : World} {so : Obj} {ms : List Str} (h : so.SetObjOf (strKind prog w) (fun y => decide (y ∈ ms)) ms.length) (hl : 2 ≤ ms.length) : Mods prog w so ms := ⟨h, fun q => by omega⟩
section
variable {prog : Program} {w : World} {A : Around} {E : Value → Shared → Prop} {s : Shared} {h₀ : Heap} {L : Addr} {m : Str → Option Value} {news : List (Addr × Obj)}
theorem one_of {α : Type} {l : List α} (h1 : l ≠ []) (h2 : ¬ 2 ≤ l.length) : ∃ x, l = [x] := by
  cases l with
  | nil => exact absurd rfl h1
  | cons x l => cases l with
    | nil => exact ⟨x, rfl⟩
    | cons y l => exact absurd (by simp) h2
theorem str_one {vs : List Value} {x : Str} (h : StrsAre vs [x]) : ∃ u, vs = [.str x u] := by
  cases h with | cons _ u h => cases h; exact ⟨u, rfl⟩
theorem set_NM {l : Addr} {vs : List Value} {ss : List Str} {nn : Nat} {Q : Value → Shared → Prop} (hh : A.handled = none) (F : Fr h₀ L s.heap m) (N : News h₀ L s.heap news) (hm : (l, listOf vs.toArray nn) ∈ news) (hi : StrsAre vs ss) (hne : ss ≠ []) (hnd : ss.Nodup) (hb : ss.length ≤ 100)
    (h : ∀ S o h' tk, Fr h₀ L h' m → News h₀ L h' ((S, o) :: news) → LCg.Off1 S news → Mods prog w o ss → Q (.ref S) { s with heap := h', toks := tk }) :
    wpAny (model prog w) A (call (.type "set") [.ref l]) Q E s := by
  by_cases h2 : 2 ≤ ss.length
  · exact set_N hh F N (News.isList N hm) hi hnd hb fun S o h' tk F' N' off hs => h S o h' tk F' N' off (mods_many hs h2)
  · obtain ⟨x, ex⟩ := one_of hne h2
    subst ex
    obtain ⟨t, eu⟩ := str_one hi
    subst eu
    exact set_N1 hh F N hm fun S h' tk F' N' off => h S _ h' tk F' N' off (mods1 prog w x t)
end
section
variable {prog : Program} {w : World} {A : Around} {E : Value → Shared → Prop} {s : Shared} {S I : Addr}
theorem slot_setit_iter : Slot "set_iterator" "__iter__" "set_iterator.__iter__" :=
  Slot.of (T := "set_iterator") (name := "__iter__") (owner := "set_iterator") (n := "__iter__") (by rw [typeLookup_type, builtinLookup_eq_fast]; kernel_rfl) (by decide +kernel) (by decide +kernel) (by decide +kernel)
    (.inl (by decide +kernel)) (by rw [isSubtype_type]; kernel_rfl)
theorem entry_setit_iter : entryFor table "set_iterator.__iter__" = some Builtin.«dict_keyiterator.__iter__» :=
  entryFor_alias (id' := "dict_keyiterator.__iter__") (by kernel_rfl) rfl (by decide +kernel) (by kernel_rfl)
theorem args_setit_iter (a : Value) : argsOk "set_iterator.__iter__" ⟨[a], []⟩ := by unfold argsOk; kernel_rfl
theorem self_setit {it : Addr} {a b c d : Int} {Q : Value → Shared → Prop} (hit : s.heap.get? it = some (setIt S a b c d)) (h : Q (.ref it) s) : wpAny (model prog w) A (pyIter (.ref it)) Q E s := by
  have hT : s.TypeIs (.ref it) "set_iterator" := ⟨_, hit, rfl⟩
  refine wpAny_pyIter_slot hT slot_setit_iter (wpAny_call_entry slot_setit_iter hT entry_setit_iter ?_ (args_setit_iter _))
  show wpAny _ _ (ret (.ref it)) _ _ s
  exact wpAny_pure ⟨_, rfl, "set_iterator", _, hT, slot_setit_next.lookup, h⟩
theorem walks1 (hh : A.handled = none) (hne : S ≠ I) (h : Int) (x : Value) : Walks prog w A I [I, S] [I] 1 (fun _ v => v = x)
    (fun i hp => (∃ j : Nat, (w.params.followText "set-order" = false → j = if i = 0 then 0 else SetTable.bits h % 8 + 1) ∧ (i = 0 → j = 0) ∧ hp.get? I = some (setIt S (j : Nat) (i : Nat) 1 (1 : Nat))) ∧ hp.get? S = some (set1 h x (ledOf w) 1)) where
  sub := fun b hb => by simp at hb; simp [hb]
  frame := fun _ _ _ st hk => by
    refine Classical.byContradiction fun ng9 => ?_
    obtain ⟨⟨j, h1, h2, h3⟩, h4⟩ := st
    refine ng9 ?_
    clear ng9
    exact ⟨⟨j, h1, h2, hk I (by simp) _ h3⟩, hk S (by simp) _ h4⟩
  item := fun i s Q E hi st hQ => by
    obtain rfl : i = 0 := by omega
    refine Classical.byContradiction fun ng9 => ?_
    obtain ⟨⟨j, h1, h2, h3⟩, h4⟩ := st
    refine ng9 ?_
    clear ng9
    obtain rfl := h2 rfl
    refine iter_item h3 h4 fun h' j hj hit hs => ?_
    refine hQ x h' s.toks rfl ⟨⟨j, fun q => by simpa using hj q, fun q => by omega, hit⟩, (hs.2 S hne).trans h4⟩ fun b o hb e => hs.extBut b o (fun q => hb (by simp [q])) e
  done := fun s Q E st hQ => by
    refine Classical.byContradiction fun ng9 => ?_
    obtain ⟨⟨j, h1, h2, h3⟩, h4⟩ := st
    refine ng9 ?_
    clear ng9
    refine iter_end (i := 1) (n := 1) hh h3 h4 rfl (tab1_fits h (ledOf w) false) rfl (fun Q A E hq => next_end1 h4 (fun q => by simpa using h1 q) hq) fun h' he => hQ h' s.toks fun b o hb e => he b o (fun q => hb (by simp [q])) e
  self := fun i s Q E st hQ => by
    refine Classical.byContradiction fun ng9 => ?_
    obtain ⟨⟨j, h1, h2, h3⟩, h4⟩ := st
    refine ng9 ?_
    clear ng9
    exact self_setit h3 hQ
theorem walks0 {led : Bool} (hh : A.handled = none) : Walks prog w A I [I, S] [I] 0 (fun _ _ => False) (fun _ hp => hp.get? I = some (setIt S (0 : Nat) (0 : Nat) 0 (0 : Nat)) ∧ hp.get? S = some (set0 led)) where
  sub := fun b hb => by simp at hb; simp [hb]
  frame := fun _ _ _ st hk => ⟨hk I (by simp) _ st.1, hk S (by simp) _ st.2⟩
  item := fun i s Q E hi st hQ => by omega
  done := fun s Q E st hQ => by
    refine iter_end (i := 0) (n := 0) hh st.1 st.2 rfl rfl rfl (fun Q A E hq => next_end0 st.2 hq) fun h' he => hQ h' s.toks fun b o hb e => he b o (fun q => hb (by simp [q])) e
  self := fun i s Q E st hQ => self_setit st.1 hQ
end
section
variable {prog : Program} {w : World} {A : Around} {E : Value → Shared → Prop} {s : Shared} {env : Env} {h₀ : Heap} {x : Str} {body : List Stmt} {Q : Flow → Shared → Prop}
theorem for_mods :
 ∀ {prog : Program} {w : World} {A : Around} {E : Value → Shared → Prop} {s : Shared} {env : Env} {h₀ : Heap} {x : Str} {body : List Stmt} {Q : Flow → Shared → Prop} {Turned : Prop} {S : Addr} {so : Obj} {ms : List Str} {m₀ : Str → Option Value} {news : List (Addr × Obj)}
 (hM : Mods prog w so ms) (hms : ms.length ≤ 1) (hh : A.handled = none) (hl : (S, so) ∈ news) (F : Fr h₀ env.locals s.heap m₀) (N : News h₀ env.locals s.heap news) (turn : ∀ c t h tk own, ms = [c] → OwnOff own (news.map (·.1)) → Fr h₀ env.locals h (fun y => if y = x then some (.str c t) else m₀ y) → News h₀ env.locals h (news ++ own) →
      wpAny (model prog w) A (execs body env) (InvPostG h₀ env.locals (fun m' nx => nx = news ∧ ms = [c] ∧ (∀ y, y ≠ x → m' y = m₀ y) ∧ Turned) own { s with heap := h, toks := tk } Q) E { s with heap := h, toks := tk }) (done₀ : ∀ u h tk, (ms ≠ [] → Turned) → Fr h₀ env.locals h (fun y => if y = x then u else m₀ y) → News h₀ env.locals h news → Q .next { s with heap := h, toks := tk }), wpAny (model prog w) A (pyIter (.ref S)) (fun it s₂ => LoopAtV prog w A h₀ env x body Q E it s₂) E s := by
  iterate 1 k_extra "pkG"
  iterate 8 k_extra "pk9"
  rename_i prog w A E s env h₀ x body Q Turned S so ms m₀ news hM hms hh hl F N turn done₀
  have hol : s.heap.get? S = some so := (N _ hl).1
  have done : ∀ m₁ h tk, (∀ y, y ≠ x → m₁ y = m₀ y) → (ms ≠ [] → Turned) → Fr h₀ env.locals h m₁ → News h₀ env.locals h news → Q .next { s with heap := h, toks := tk } := by
    intro m₁ h tk hm hT F' N'
    have e : (fun y => if y = x then m₁ x else m₀ y) = m₁ := by
      funext y
      by_cases q : y = x
      · simp [q]
      · simp only [if_neg q]; exact (hm y q).symm
    exact done₀ (m₁ x) h tk hT (by rw [e]; exact F') N'
  have hne : S ≠ s.heap.objs.size := Nat.ne_of_lt (Heap.lt_size hol)
  have offL : ∀ b ∈ [s.heap.objs.size, S], env.locals ≠ b := by
    intro b hb e
    rcases List.mem_cons.mp hb with q | q
    · exact absurd F.ns.lt (by rw [e, q]; exact Nat.lt_irrefl _)
    · exact (N _ hl).2.1 ((List.mem_singleton.mp q).symm.trans e.symm)
  have wr0 : ∀ b ∈ [s.heap.objs.size], h₀.get? b = none := fun b hb => by rw [List.mem_singleton.mp hb]; exact next_is_new F
  have nw0 : ∀ p ∈ news, p.1 ∉ [s.heap.objs.size] := fun p hp hI => absurd (Heap.lt_size (N p hp).1) ((List.mem_singleton.mp hI) ▸ Nat.lt_irrefl _)
  rcases hM.2 hms with ⟨rfl, led, rfl⟩ | ⟨c, t, rfl, rfl⟩
  · refine iter_set hol rfl rfl rfl (by simp) ?_
    refine ⟨_, _, _, 0, _, _, m₀, news, (fun _ m nx => nx = news ∧ ∀ y, y ≠ x → m y = m₀ y), rfl, walks0 hh, fun h => offL _ h rfl, wr0, nw0, ⟨Heap.get?_push_size _ rfl, Heap.get?_push_of_some _ hol⟩, F.push _, (fun p hp => ⟨Heap.get?_push_of_some _ (N p hp).1, (N p hp).2⟩), ⟨rfl, fun _ _ => rfl⟩, ?_, ?_⟩
    · intro i v m₁ news₁ s₁ own _ hi; omega
    · rintro h' tk m' news' F' N' _ ⟨rfl, hm⟩
      exact done m' h' tk hm (fun q => absurd rfl q) F' N'
  · refine iter_set hol rfl rfl (tab1_fits _ (ledOf w) false) (by simp) ?_
    refine ⟨_, _, _, 1, _, _, m₀, news, (fun i m nx => nx = news ∧ (∀ y, y ≠ x → m y = m₀ y) ∧ (i = 1 → Turned)), rfl, walks1 hh hne _ _, fun h => offL _ h rfl, wr0, nw0, ⟨⟨0, fun _ => rfl, fun _ => rfl, Heap.get?_push_size _ rfl⟩, Heap.get?_push_of_some _ hol⟩, F.push _, (fun p hp => ⟨Heap.get?_push_of_some _ (N p hp).1, (N p hp).2⟩), ⟨rfl, fun _ _ => rfl, fun q => by omega⟩, ?_, ?_⟩
    · intro i v m₁ news₁ s₁ own
      intro hz9
      refine Classical.byContradiction fun ng9 => ?_
      obtain ⟨hh', tk', rfl⟩ := hz9
      refine ng9 ?_
      clear ng9
      rintro hin rfl
      intro hz9
      refine Classical.byContradiction fun ng9 => ?_
      obtain ⟨rfl, hm, _⟩ := hz9
      refine ng9 ?_
      clear ng9
      intro hoff hown hget hfp hst F₁ N₁
      obtain rfl : i = 0 := by omega
      have hI0 : h₀.get? s.heap.objs.size = none := next_is_new F
      refine Classical.byContradiction fun ng9 => ?_
      obtain ⟨⟨j, _, _, hoI⟩, hoS⟩ := id hst
      refine ng9 ?_
      clear ng9
      have hIown : (s.heap.objs.size, _) ∈ own.filter fun p => decide (p.1 = s.heap.objs.size) := List.mem_filter.mpr ⟨hfp _ (List.mem_cons.mpr (.inl rfl)) hI0 _ hoI, by simp⟩
      have hsep : OwnOff (own.filter fun p => decide (p.1 = s.heap.objs.size)) (news₁.map (·.1)) := by
        intro p hp b hb e
        refine Classical.byContradiction fun ng9 => ?_
        obtain ⟨q, hq, rfl⟩ := List.mem_map.mp hb
        refine ng9 ?_
        clear ng9
        have h1 : p.1 = s.heap.objs.size := by simpa using (List.mem_filter.mp hp).2
        exact hoff q hq (List.mem_singleton.mpr (e ▸ h1))
      have N₂ : News h₀ env.locals hh' (news₁ ++ own.filter fun p => decide (p.1 = s.heap.objs.size)) := fun p hp => N₁ p ((List.mem_append.mp hp).elim (fun h => List.mem_append.mpr (.inr h)) fun h => List.mem_append.mpr (.inl ((List.mem_filter.mp h).1)))
      have em : (fun y => if y = x then some (Value.str c t) else m₁ y) = fun y => if y = x then some (.str c t) else m₀ y := by
        funext y
        by_cases h : y = x
        · simp [h]
        · simp only [if_neg h]; exact hm y h
      rw [em] at F₁
      refine wpAny_mono (turn c t hh' tk' _ rfl hsep F₁ N₂) (fun f s₂ p => ?_) fun _ _ e => e
      have fin : InvEndG h₀ env.locals (fun m' nx => nx = news₁ ∧ [c] = [c] ∧ (∀ y, y ≠ x → m' y = m₀ y) ∧ Turned) (own.filter fun p => decide (p.1 = s.heap.objs.size)) { s with heap := hh', toks := tk' } s₂ →
          LoopStepU h₀ env.locals [s.heap.objs.size] own (fun m nx => nx = news₁ ∧ (∀ y, y ≠ x → m y = m₀ y) ∧ (0 + 1 = 1 → Turned)) { s with heap := hh', toks := tk' } .next s₂ := by
        intro hz9
        refine Classical.byContradiction fun ng9 => ?_
        obtain ⟨h', tk, m', news', nx, e, F', N', hn, ho, ha, rfl, _, hm', hT⟩ := hz9
        refine ng9 ?_
        clear ng9
        refine ⟨rfl, h', tk, m', nx, e, F', fun p hp => ?_, fun p hp hq => ?_, rfl, hm', fun _ => hT⟩
        · rcases List.mem_append.mp hp with h | h
          · by_cases hI : p.1 = s.heap.objs.size
            · exact N' p (ho p (List.mem_filter.mpr ⟨h, by simpa using hI⟩))
            · have h1 : p.1 = S := by
                rcases List.mem_cons.mp (hown p h) with h2 | h2
                · exact absurd h2 hI
                · exact List.mem_singleton.mp h2
              have h2 : hh'.get? p.1 = some p.2 := hget p h
              rw [h1, hoS] at h2
              have h3 : p = (S, set1 ((strKind prog w).hash c) (.str c t) (ledOf w) 1) := Prod.ext h1 (Option.some.inj h2).symm
              rw [h3]
              exact N' _ (hn _ hl)
          · exact N' p (hn p h)
        · exact ha _ hIown p.1 (List.mem_map.mpr ⟨p, hp, rfl⟩) (List.mem_singleton.mp hq).symm
      cases f with
      | ret v => exact .ret p
      | brk => exact .brk p
      | next => exact .next (fin p)
      | cont => exact .cont (fin p)
    · intro h' tk m' news' F' N' _
      intro hz9
      refine Classical.byContradiction fun ng9 => ?_
      obtain ⟨rfl, hm, hT⟩ := hz9
      refine ng9 ?_
      clear ng9
      exact done m' h' tk hm (fun _ => hT rfl) F' N'
theorem for_search :
 ∀ {prog : Program} {w : World} {A : Around} {E : Value → Shared → Prop} {s : Shared} {env : Env} {h₀ : Heap} {x : Str} {body : List Stmt} {Q : Flow → Shared → Prop} {l : Addr} {cs : List Value} {css : List Str} {nl : Nat} {m₀ : Str → Option Value} {news : List (Addr × Obj)}
 (P : Str → Prop) (hc : StrsAre cs css) (hh : A.handled = none) (F : Fr h₀ env.locals s.heap m₀) (N : News h₀ env.locals s.heap news) (hl : (l, listOf cs.toArray nl) ∈ news) (turn : ∀ c t h tk own, c ∈ css → OwnOff own (news.map (·.1)) → Fr h₀ env.locals h (fun y => if y = x then some (.str c t) else m₀ y) → News h₀ env.locals h (news ++ own) →
      wpAny (model prog w) A (execs body env) (InvPostG h₀ env.locals (fun m' nx => nx = news ∧ (∀ y, y ≠ x → m' y = m₀ y) ∧ P c) own { s with heap := h, toks := tk } Q) E { s with heap := h, toks := tk }) (done : ∀ u h tk, (∀ c ∈ css, P c) → Fr h₀ env.locals h (fun y => if y = x then u else m₀ y) → News h₀ env.locals h news → Q .next { s with heap := h, toks := tk }), wpAny (model prog w) A (pyIter (.ref l)) (fun it s₂ => LoopAtV prog w A h₀ env x body Q E it s₂) E s := by
  iterate 1 k_extra "pkG"
  iterate 8 k_extra "pk9"
  rename_i prog w A E s env h₀ x body Q l cs css nl m₀ news P hc hh F N hl turn done
  refine kdl_iter (fun i m₁ nx => nx = news ∧ (∀ y, y ≠ x → m₁ y = m₀ y) ∧ ∀ c ∈ css.take i, P c) hh hl F N ⟨rfl, fun _ _ => rfl, by simp⟩ ?_ ?_
  · intro i v m₁ nx h tk own hv hoff _
    intro hz9
    refine Classical.byContradiction fun ng9 => ?_
    obtain ⟨rfl, hm, hP⟩ := hz9
    refine ng9 ?_
    clear ng9
    intro F₁ N₁
    refine Classical.byContradiction fun ng9 => ?_
    obtain ⟨c, t, rfl, hcs⟩ := strs_getV hc hv
    refine ng9 ?_
    clear ng9
    have e1 : css.take (i + 1) = css.take i ++ [c] := by rw [List.take_add_one, hcs]; rfl
    have em : (fun y => if y = x then some (Value.str c t) else m₁ y) = fun y => if y = x then some (.str c t) else m₀ y := by
      funext y
      by_cases h : y = x
      · simp [h]
      · simp only [if_neg h]; exact hm y h
    rw [em] at F₁
    refine wpAny_mono (turn c t h tk own (List.mem_of_getElem? hcs) hoff F₁ N₁) (fun fl s₂ hq => ?_) fun _ _ e => e
    have fin : InvEndG h₀ env.locals (fun m' nx' => nx' = nx ∧ (∀ y, y ≠ x → m' y = m₀ y) ∧ P c) own { s with heap := h, toks := tk } s₂ → InvEndG h₀ env.locals (fun m' nx' => (l, listOf cs.toArray nl) ∈ nx' ∧ nx' = nx ∧ (∀ y, y ≠ x → m' y = m₀ y) ∧ ∀ c ∈ css.take (i + 1), P c) own { s with heap := h, toks := tk } s₂ := by
      intro hz9
      refine Classical.byContradiction fun ng9 => ?_
      obtain ⟨h', tk', m', news', nx', e, F', N', a, b, c', rfl, hm', hPc⟩ := hz9
      refine ng9 ?_
      clear ng9
      refine ⟨h', tk', m', news', nx', e, F', N', a, b, c', hl, rfl, hm', fun z hz => ?_⟩
      rw [e1] at hz
      rcases List.mem_append.mp hz with hz | hz
      · exact hP z hz
      · rw [List.mem_singleton.mp hz]; exact hPc
    cases fl with
    | ret v => exact hq
    | brk => exact hq
    | next => exact fin hq
    | cont => exact fin hq
  · intro m₁ nx h tk
    intro hz9
    refine Classical.byContradiction fun ng9 => ?_
    obtain ⟨rfl, hm, hP⟩ := hz9
    refine ng9 ?_
    clear ng9
    intro F₁ N₁
    rw [strsLen hc, List.take_length] at hP
    have e : (fun y => if y = x then m₁ x else m₀ y) = m₁ := by
      funext y
      by_cases h : y = x
      · simp [h]
      · simp only [if_neg h]; exact (hm y h).symm
    exact done (m₁ x) h tk hP (by rw [e]; exact F₁) N₁
end
end Mine
end
open PySem PySem.W PyProof.Rows in
example : Mine.RS := by intro M A Q E s h; w_top off; first | walk1 | skip; all_goals first | exact h | exact wpAny_pure h
section
set_option maxHeartbeats 8000000
local macro_rules | `(tactic| walk_at "execs cons") => `(tactic| (refine wpAny_execs_cons ?_; (try dsimp only); (try k_fold)))
namespace Mine
noncomputable abbrev ignD (P : Params) (t1 t2 t3 : Tok) (S D I : Addr) : List DictEntry := [⟨PyData.keyHash P (Str.ofString "_mods"), .str (Str.ofString "_mods") t1, .ref S⟩, ⟨PyData.keyHash P (Str.ofString "_dirs"), .str (Str.ofString "_dirs") t2, .ref D⟩, ⟨PyData.keyHash P (Str.ofString "_ignore"), .str (Str.ofString "_ignore") t3, .ref I⟩]
section
variable {prog : Program} {w : World} {A : Around} {E : Value → Shared → Prop} {s : Shared} {h₀ : Heap} {L d : Addr} {o : Obj} {news : List (Addr × Obj)} {kvs : List (Str × Value)} {k : Str} {tk : Tok} {v : Value} {Q : Value → Shared → Prop}
theorem in_yes (N : News h₀ L s.heap news) (hp : (d, o) ∈ news) (hd : o.IsDictOf (PySem.strKind prog w) kvs) (lo : (d == sysModules) = false) (hv : valueAt kvs k = some v) (h : Q (.bool true) { s with toks := s.toks + 1 }) : wpAny (model prog w) A (compareOp .In (.str k tk) (.ref d)) Q E s :=
  kda_in N hp hd lo (strKind_is _ _ _ _) true (by rw [hv]; rfl) h
theorem in_no (N : News h₀ L s.heap news) (hp : (d, o) ∈ news) (hd : o.IsDictOf (PySem.strKind prog w) kvs) (lo : (d == sysModules) = false) (hv : valueAt kvs k = none) (h : Q (.bool false) { s with toks := s.toks + 1 }) : wpAny (model prog w) A (compareOp .In (.str k tk) (.ref d)) Q E s :=
  kda_in N hp hd lo (strKind_is _ _ _ _) false (by rw [hv]; rfl) h
theorem item_is {value slice : PySem.Expr} (N : News h₀ L s.heap news) (hp : (d, o) ∈ news) (hd : o.IsDictOf (PySem.strKind prog w) kvs) (hv : valueAt kvs k = some v) (h : Q v { s with toks := s.toks + 1 })
    (hs : subscripted slice false (.ref d) (.str k tk) = operate [.ref d, .str k tk] (getItem (.ref d) (.str k tk)) := by with_unfolding_all rfl) : wpAny (model prog w) A (subscriptTail value slice (.ref d) (.str k tk)) Q E s :=
  kdt_tail N hp hd (kdt_getItem N hp hd (strKind_is _ _ _ _) hv h) hs
theorem in_mods {ms : List Str} (N : News h₀ L s.heap news) (hp : (d, o) ∈ news) (hM : Mods prog w o ms) (hl : ms.length ≤ 100) (b : Bool) (hb : decide (k ∈ ms) = b) (h : Q (.bool b) { s with toks := s.toks + 1 }) : wpAny (model prog w) A (compareOp .In (.str k tk) (.ref d)) Q E s := by
  refine wpAny_inSet_of (strKind_is prog w k tk) rfl (hM.1.setOf (N _ hp).1 (by unfold scanBound; omega)) ?_
  rw [hb]; exact h
end
noncomputable def ansB (mn : Str) (ms dss : List Str) (fo : Option Str) : Bool :=
  decide (mn ∈ ms) || ms.any (fun c => Txt.startswith mn (c ++ Str.ofString ".")) || (match fo with | none => true | some f => dss.any fun d => Txt.startswith f (d ++ Str.ofString "/"))
noncomputable def b2i (b : Bool) : Int := if b then 1 else 0
noncomputable def FileIs (fv : Value) (fo : Option Str) : Prop := (fv = .none ∧ fo = none) ∨ ∃ f t, fv = .str f t ∧ fo = some f ∧ f.length ≤ 300
theorem c_names :
 ∀ {w : World} {p : Program} {loose : List Str} {mean : ExcName → Option Value} {mg mb : Str → Option Value} {dp un : Nat} {gd : Option (List Code)} {outer : List Env} {A₀ : Around} {base h₀ h : Heap} {g : Array GenState} {d : Drawn} {t : Nat} {os : OsState} {Q E : Value → Shared → Prop} {x dx S D I : Addr} {so io : Obj} {t1 t2 t3 tm : Tok} {nd nl : Nat} {mn : Str} {ms dss : List Str} {ds : List Value} {kvs : List (Str × Value)} {fv : Value} {fo : Option Str}
 (B : Below A₀ base outer h₀) (X : (hd.heap_1 w.params).In h₀) (T : Top p loose mean mg mb h₀) (hdp : dp + 4 < recursionLimit) (hu : un + 40 < cLine) (hb : ∀ b o, h₀.get? b = some o → h.get? b = some o) (hsz : h₀.objs.size ≤ h.objs.size) (hN : ∀ q ∈ [(I, io), (D, listOf ds.toArray nl), (S, so), (x, instObj 86 dx), (dx, dictOf (ignD w.params t1 t2 t3 S D I) nd)], h.get? q.1 = some q.2 ∧ h₀.get? q.1 = none) (ne1 : @Ne Nat D I) (ne2 : @Ne Nat S I) (ne3 : @Ne Nat x I) (ne4 : @Ne Nat dx I) (hM : Mods PySem.Challenge.rw_of0013_01.prog w so ms) (hms : ms.length ≤ 100) (hi : io.IsDictOf (strKind PySem.Challenge.rw_of0013_01.prog w) kvs) (hk : kvs.length ≤ 1000) (hlo : (I == sysModules) = false) (hml : mn.length ≤ 300) (hms2 : ∀ y ∈ ms, y.length ≤ 300) (hds : StrsAre ds dss) (hds2 : ∀ y ∈ dss, y.length ≤ 300) (hv : valueAt kvs mn = none) (hmo : mn ∈ ms ∨ ms.length ≤ 1) (hfv : FileIs fv fo) (hret : ∀ io' h' tk' ta tb, (∀ b o, h₀.get? b = some o → h'.get? b = some o) → (∀ q ∈ [(I, io'), (D, listOf ds.toArray nl), (S, so), (x, instObj 86 dx), (dx, dictOf (ignD w.params t1 t2 t3 S D I) nd)], h'.get? q.1 = some q.2) →
      io'.IsDictOf (strKind PySem.Challenge.rw_of0013_01.prog w) (stored kvs mn (.int (b2i (ansB mn ms dss fo)) ta)) → Q (.int (b2i (ansB mn ms dss fo)) tb) ⟨h', g, d, tk', os⟩), wpAny (model PySem.Challenge.rw_of0013_01.prog w) (aTop dp un gd outer) (call (.ref 83) [.ref x, fv, .str mn tm]) Q E ⟨h, g, d, t, os⟩ := by
  iterate 8 refine @Mine.pad _ ?_
  iterate 3 k_extra "pkG"
  iterate 25 k_extra "pk9"
  rename_i w p loose mean mg mb dp un gd outer A₀ base h₀ h g d t os Q E x dx S D I so io t1 t2 t3 tm nd nl mn ms dss ds kvs fv fo B X T hdp hu hb hsz hN ne1 ne2 ne3 ne4 hM hms hi hk hlo hml hms2 hds hds2 hv hmo hfv hret
  have yes : ansB mn ms dss fo = true → b2i (ansB mn ms dss fo) = 1 := fun e => by rw [e]; rfl
  have no : ansB mn ms dss fo = false → b2i (ansB mn ms dss fo) = 0 := fun e => by rw [e]; rfl
  generalize hans : b2i (ansB mn ms dss fo) = an at hret yes no
  revert X; k_fill; intro X
  (refine wpAny_call ?_; k_dflt (refine' Mine.enterL ?j1 ?j2 ?j3 ?k3 ?k5 ?k6 ?k7 ?k8 ?k9 ?kB ?_ ?c2 ?c3 ?c4 ?c5; (case j1 => assumption); (case j2 => assumption); (case j3 => assumption); (case k3 => k_asm); (case k5 => k_asm); (case k6 => k_is); (case k7 => k_is); (case k8 => ktr_room); (case k9 => first | exact BindsTo.of_eq rfl | exact binds_K (by k_in) rfl (by k_is) rfl rfl rfl); (case c5 => decide); (case kB => exact locs rfl); (case c2 => exact rfl); (case c3 => exact rfl); (case c4 => exact rfl); k_whole; (iterate 2 (k_extra "pk9")); intro F9e N9e l9e; (try k_lt l9e); (try dsimp only); (try k_fold)))
  by_cases hmm : mn ∈ ms
  · have hdc : decide (mn ∈ ms) = true := decide_eq_true hmm
    obtain rfl := yes (by unfold ansB; rw [hdc]; rfl)
    (repeat' (first | (k_unfold; (try dsimp only)) | (k_end; wrow_close) | ((with_reducible show wpAny _ _ (setItem (Value.ref _) (Value.str _ _) _) _ _ _); (k_here; k_dflt (refine' kda_set (knd := PySem.strKind _ _) ?k1 ?k2 ?k3 ?k4 ?k5 ?k6 ?_; (case k1 => k_asm); (case k2 => k_asm); (case k3 => k_updF); (case k4 => assumption); (case k5 => exact strKind_is _ _ _ _); (case k6 => rw [PySem.sizeLine_eq]; omega)); intro h' o' F' N' hd'; (try dsimp only))) | ((with_reducible show wpAny _ _ (compareOp _ (Value.str _ _) (Value.ref _)) _ _ _); (k_here; k_dflt (first | (refine' in_yes ?k1 ?k2 ?k3 ?k4 ?k5 ?_; (case k1 => k_asm); (case k2 => k_mem); (case k3 => assumption); (case k4 => assumption); (case k5 => assumption)) | (refine' in_no ?k1 ?k2 ?k3 ?k4 ?k5 ?_; (case k1 => k_asm); (case k2 => k_mem); (case k3 => assumption); (case k4 => assumption); (case k5 => assumption)) | (refine' in_mods ?k1 ?k2 ?k3 ?k4 _ ?k5 ?_; (case k1 => k_asm); (case k2 => k_mem); (case k3 => assumption); (case k4 => assumption); (case k5 => assumption))))) | walk1 | (dsimp only; walk1) | (leave1; try dsimp only)))
    (rename Fr _ _ _ _ => F8); (rename News _ _ _ _ => N8); (rename Obj.IsDictOf _ _ _ => d8); exact hret _ _ _ _ _ F8.keep (fun q hq => (N8 q hq).1) d8
  · have hdc : decide (mn ∈ ms) = false := decide_eq_false hmm
    have hm1 : ms.length ≤ 1 := hmo.resolve_left hmm
    (repeat' (first | (k_unfold; (try dsimp only)) | (k_end; wrow_close) | ((with_reducible show wpAny _ _ (compareOp _ (Value.str _ _) (Value.ref _)) _ _ _); (k_here; k_dflt (first | (refine' in_yes ?k1 ?k2 ?k3 ?k4 ?k5 ?_; (case k1 => k_asm); (case k2 => k_mem); (case k3 => assumption); (case k4 => assumption); (case k5 => assumption)) | (refine' in_no ?k1 ?k2 ?k3 ?k4 ?k5 ?_; (case k1 => k_asm); (case k2 => k_mem); (case k3 => assumption); (case k4 => assumption); (case k5 => assumption)) | (refine' in_mods ?k1 ?k2 ?k3 ?k4 _ ?k5 ?_; (case k1 => k_asm); (case k2 => k_mem); (case k3 => assumption); (case k4 => assumption); (case k5 => assumption))))) | walk1 | (dsimp only; walk1) | (leave1; try dsimp only)))
    k_dflt (refine' for_mods (Turned := ∀ c, ms = [c] → Txt.startswith mn (c ++ Str.ofString ".") = false) hM hm1 rfl ?m1 ?m2 ?m3 ?turn ?done; (case m2 => k_asm); (case m3 => k_asm); (case m1 => k_mem))
    case turn =>
      intro c tc h9 tk9 own hc1 hoff F9 N9
      have hcl : c.length ≤ 300 := hms2 c (by rw [hc1]; simp)
      (repeat' (first | (k_unfold; (try dsimp only)) | (k_end; wrow_close) | ((with_reducible show wpAny _ _ (setItem (Value.ref _) (Value.str _ _) _) _ _ _); (k_here; k_dflt (refine' kda_set (knd := PySem.strKind _ _) ?k1 ?k2 ?k3 ?k4 ?k5 ?k6 ?_; (case k1 => k_asm); (case k2 => k_asm); (case k3 => k_updF); (case k4 => assumption); (case k5 => exact strKind_is _ _ _ _); (case k6 => rw [PySem.sizeLine_eq]; omega)); intro h' o' F' N' hd'; (try dsimp only))) | walk1 | (dsimp only; walk1) | (leave1; try dsimp only)))
      · have e9 : Txt.startswith mn (c ++ Str.ofString ".") = true := by assumption
        obtain rfl := yes (by unfold ansB; rw [hc1]; simp [e9])
        (rename Fr _ _ _ _ => F8); (rename News _ _ _ _ => N8); (rename Obj.IsDictOf _ _ _ => d8); exact hret _ _ _ _ _ F8.keep (fun q hq => (N8 q (List.mem_append_left own hq)).1) d8
      · have e9 : Txt.startswith mn (c ++ Str.ofString ".") = false := by assumption
        exact InvEndG.intro F9 N9 ⟨rfl, hc1, fun y hy => by simp [hy], fun c' hc' => by rw [hc1] at hc'; rw [← (List.cons.inj hc').1]; exact e9⟩ hoff (fun p hp => List.mem_append_left _ hp) (fun p hp => List.mem_append_right _ hp)
    case done =>
      intro u9 h9 tk9 hT F9 N9
      have hmn : (ms.any fun c => Txt.startswith mn (c ++ Str.ofString ".")) = false := by
        match ms, hm1, hT with
        | [], _, _ => rfl
        | [c], _, hT => simp [hT (by simp) c rfl]
        | _ :: _ :: _, hm1, _ => simp at hm1
      dsimp only
      rcases hfv with ⟨rfl, rfl⟩ | ⟨f, tf, rfl, rfl, hfl⟩
      · obtain rfl := yes (by unfold ansB; simp)
        (repeat' (first | (k_unfold; (try dsimp only)) | (k_end; wrow_close) | ((with_reducible show wpAny _ _ (setItem (Value.ref _) (Value.str _ _) _) _ _ _); (k_here; k_dflt (refine' kda_set (knd := PySem.strKind _ _) ?k1 ?k2 ?k3 ?k4 ?k5 ?k6 ?_; (case k1 => k_asm); (case k2 => k_asm); (case k3 => k_updF); (case k4 => assumption); (case k5 => exact strKind_is _ _ _ _); (case k6 => rw [PySem.sizeLine_eq]; omega)); intro h' o' F' N' hd'; (try dsimp only))) | walk1 | (dsimp only; walk1) | (leave1; try dsimp only)))
        (rename Fr _ _ _ _ => F8); (rename News _ _ _ _ => N8); (rename Obj.IsDictOf _ _ _ => d8); exact hret _ _ _ _ _ F8.keep (fun q hq => (N8 q hq).1) d8
      · k_steps
        k_dflt (refine' for_search (fun c => Txt.startswith f (c ++ Str.ofString "/") = false) hds rfl ?m2 ?m3 ?m1 ?turn ?done; (case m2 => k_asm); (case m3 => k_asm); (case m1 => k_mem))
        case turn =>
          intro c tc h9 tk9 own hc1 hoff F9 N9
          have hcl : c.length ≤ 300 := hds2 c hc1
          (repeat' (first | (k_unfold; (try dsimp only)) | (k_end; wrow_close) | ((with_reducible show wpAny _ _ (setItem (Value.ref _) (Value.str _ _) _) _ _ _); (k_here; k_dflt (refine' kda_set (knd := PySem.strKind _ _) ?k1 ?k2 ?k3 ?k4 ?k5 ?k6 ?_; (case k1 => k_asm); (case k2 => k_asm); (case k3 => k_updF); (case k4 => assumption); (case k5 => exact strKind_is _ _ _ _); (case k6 => rw [PySem.sizeLine_eq]; omega)); intro h' o' F' N' hd'; (try dsimp only))) | walk1 | (dsimp only; walk1) | (leave1; try dsimp only)))
          · have e9 : Txt.startswith f (c ++ Str.ofString "/") = true := by assumption
            obtain rfl := yes (by unfold ansB; rw [Bool.or_eq_true]; exact .inr (List.any_eq_true.mpr ⟨c, hc1, e9⟩))
            (rename Fr _ _ _ _ => F8); (rename News _ _ _ _ => N8); (rename Obj.IsDictOf _ _ _ => d8); exact hret _ _ _ _ _ F8.keep (fun q hq => (N8 q (List.mem_append_left own hq)).1) d8
          · have e9 : Txt.startswith f (c ++ Str.ofString "/") = false := by assumption
            exact InvEndG.intro F9 N9 ⟨rfl, fun y hy => by simp [hy], e9⟩ hoff (fun p hp => List.mem_append_left _ hp) (fun p hp => List.mem_append_right _ hp)
        case done =>
          intro u9 h9 tk9 hT F9 N9
          dsimp only
          have hfn : (dss.any fun d => Txt.startswith f (d ++ Str.ofString "/")) = false := List.any_eq_false.mpr fun c hc => by rw [hT c hc]; exact Bool.false_ne_true
          obtain rfl := no (by unfold ansB; rw [hdc, hmn]; exact hfn)
          (repeat' (first | (k_unfold; (try dsimp only)) | (k_end; wrow_close) | ((with_reducible show wpAny _ _ (setItem (Value.ref _) (Value.str _ _) _) _ _ _); (k_here; k_dflt (refine' kda_set (knd := PySem.strKind _ _) ?k1 ?k2 ?k3 ?k4 ?k5 ?k6 ?_; (case k1 => k_asm); (case k2 => k_asm); (case k3 => k_updF); (case k4 => assumption); (case k5 => exact strKind_is _ _ _ _); (case k6 => rw [PySem.sizeLine_eq]; omega)); intro h' o' F' N' hd'; (try dsimp only))) | walk1 | (dsimp only; walk1) | (leave1; try dsimp only)))
          (rename Fr _ _ _ _ => F8); (rename News _ _ _ _ => N8); (rename Obj.IsDictOf _ _ _ => d8); exact hret _ _ _ _ _ F8.keep (fun q hq => (N8 q hq).1) d8
end Mine
end
open PySem PySem.W PyProof.Rows in
example : Mine.RS := by intro M A Q E s h; w_top off; first | walk1 | skip; all_goals first | exact h | exact wpAny_pure h
section
set_option maxHeartbeats 8000000
namespace Mine
noncomputable def Memo (w : World) (io : Obj) (mem : Str → Option Bool) (n : Nat) : Prop :=
  ∃ kvs : List (Str × Value), io.IsDictOf (strKind PySem.Challenge.rw_of0013_01.prog w) kvs ∧ kvs.length ≤ n ∧ ∀ k, (mem k = none → valueAt kvs k = none) ∧ ∀ b, mem k = some b → ∃ t, valueAt kvs k = some (.int (b2i b) t)
structure RdrOk (w : World) (x dx S D I : Addr) (so : Obj) (ds : List Value) (ms dss : List Str) : Prop where
  hM : Mods PySem.Challenge.rw_of0013_01.prog w so ms
  hms : ms.length ≤ 100
  hms2 : ∀ y ∈ ms, y.length ≤ 300
  hds : StrsAre ds dss
  hds2 : ∀ y ∈ dss, y.length ≤ 300
  low : (I == sysModules) = false
  ne1 : @Ne Nat D I
  ne2 : @Ne Nat S I
  ne3 : @Ne Nat x I
  ne4 : @Ne Nat dx I
theorem stored_len {kvs : List (Str × Value)} {k : Str} {v : Value} : (stored kvs k v).length ≤ kvs.length + 1 := by
  unfold stored; split <;> simp
theorem valueAt_stored {kvs : List (Str × Value)} {k j : Str} {v : Value} (hn : valueAt kvs k = none) : valueAt (stored kvs k v) j = if j = k then some v else valueAt kvs j := by
  have h0 : ∀ q ∈ kvs, q.1 ≠ k := by
    intro q hq e
    unfold valueAt at hn
    have := List.find?_eq_none.mp (Option.map_eq_none_iff.mp hn) q hq
    simp [e] at this
  have h1 : kvs.any (fun kv => decide (kv.1 = k)) = false := List.any_eq_false.mpr fun q hq => by simpa using h0 q hq
  unfold stored
  rw [h1]
  simp only [Bool.false_eq_true, if_false]
  unfold valueAt
  rw [List.find?_append]
  by_cases e : j = k
  · subst e
    have : kvs.find? (fun kv => decide (kv.1 = j)) = none := List.find?_eq_none.mpr fun q hq => by simpa using h0 q hq
    rw [this]; simp
  · rw [if_neg e]
    have : ([(k, v)] : List (Str × Value)).find? (fun kv => decide (kv.1 = j)) = none := by simp; exact fun q => e q.symm
    rw [this]; simp
theorem c_namesHit {w : World} {p : Program} {loose : List Str} {mean : ExcName → Option Value} {mg mb : Str → Option Value} {dp un : Nat} {gd : Option (List Code)} {outer : List Env} {A₀ : Around} {base h₀ h : Heap} {g : Array GenState} {d : Drawn} {t : Nat} {os : OsState} {Q E : Value → Shared → Prop}
   (B : Below A₀ base outer h₀) (X : (hd.heap_1 w.params).In h₀) (T : Top p loose mean mg mb h₀) (hdp : dp + 4 < recursionLimit) (hu : un + 40 < cLine)
   {x dx S D I : Addr} {io : Obj} {t1 t2 t3 tm : Tok} {nd : Nat} {mn : Str} {kvs : List (Str × Value)} {fv v : Value}
   (hb : ∀ b o, h₀.get? b = some o → h.get? b = some o) (hsz : h₀.objs.size ≤ h.objs.size) (hN : ∀ q ∈ [(I, io), (x, instObj 86 dx), (dx, dictOf (ignD w.params t1 t2 t3 S D I) nd)], h.get? q.1 = some q.2 ∧ h₀.get? q.1 = none)
   (hi : io.IsDictOf (strKind PySem.Challenge.rw_of0013_01.prog w) kvs) (hlo : (I == sysModules) = false) (hv : valueAt kvs mn = some v)
   (hret : ∀ h' tk', (∀ b o, h₀.get? b = some o → h'.get? b = some o) → (∀ q ∈ [(I, io), (x, instObj 86 dx), (dx, dictOf (ignD w.params t1 t2 t3 S D I) nd)], h'.get? q.1 = some q.2) → Q v ⟨h', g, d, tk', os⟩) :
   wpAny (model PySem.Challenge.rw_of0013_01.prog w) (aTop dp un gd outer) (call (.ref 83) [.ref x, fv, .str mn tm]) Q E ⟨h, g, d, t, os⟩ := by
  revert X; k_fill; intro X
  (refine wpAny_call ?_; k_dflt (refine' Mine.enterL ?j1 ?j2 ?j3 ?k3 ?k5 ?k6 ?k7 ?k8 ?k9 ?kB ?_ ?c2 ?c3 ?c4 ?c5; (case j1 => assumption); (case j2 => assumption); (case j3 => assumption); (case k3 => k_asm); (case k5 => k_asm); (case k6 => k_is); (case k7 => k_is); (case k8 => ktr_room); (case k9 => first | exact BindsTo.of_eq rfl | exact binds_K (by k_in) rfl (by k_is) rfl rfl rfl); (case c5 => decide); (case kB => exact locs rfl); (case c2 => exact rfl); (case c3 => exact rfl); (case c4 => exact rfl); k_whole; intro L9e h9e F9e N9e l9e; (try k_lt l9e); (try dsimp only); (try k_fold)))
  (repeat' (first | (k_unfold; (try dsimp only)) | (k_end; wrow_close) | (k_here; (with_reducible show wpAny _ _ (subscriptTail _ _ (Value.ref _) (Value.str _ _)) _ _ _); k_dflt (refine' item_is ?k1 ?k2 ?k3 ?k4 ?_; (case k1 => k_asm); (case k2 => k_mem); (case k3 => assumption); (case k4 => assumption))) | ((with_reducible show wpAny _ _ (compareOp _ (Value.str _ _) (Value.ref _)) _ _ _); (k_here; k_dflt (first | (refine' in_yes ?k1 ?k2 ?k3 ?k4 ?k5 ?_; (case k1 => k_asm); (case k2 => k_mem); (case k3 => assumption); (case k4 => assumption); (case k5 => assumption)) | (refine' in_no ?k1 ?k2 ?k3 ?k4 ?k5 ?_; (case k1 => k_asm); (case k2 => k_mem); (case k3 => assumption); (case k4 => assumption); (case k5 => assumption)) | (refine' in_mods ?k1 ?k2 ?k3 ?k4 _ ?k5 ?_; (case k1 => k_asm); (case k2 => k_mem); (case k3 => assumption); (case k4 => assumption); (case k5 => assumption))))) | walk1 | (dsimp only; walk1) | (leave1; try dsimp only)))
  (rename Fr _ _ _ _ => F8); (rename News _ _ _ _ => N8)
  exact hret _ _ F8.keep (fun q hq => (N8 q hq).1)
theorem hide_back {h₀ h h' : Heap} {L : Addr} {news : List (Addr × Obj)} {five five' : List (Addr × Obj)} (N : News h₀ L h news) (hk : ∀ b o, (hideAll h (five.map (·.1))).get? b = some o → h'.get? b = some o) (h5 : ∀ q ∈ five, h.get? q.1 = some q.2) (h5' : ∀ q ∈ five', h'.get? q.1 = some q.2)
    {I : Addr} (same : ∀ q ∈ five, q.1 ≠ I → q ∈ five') {p : Addr × Obj} (hp : p ∈ news) (hne : p.1 ≠ I) : h'.get? p.1 = some p.2 := by
  by_cases q : p.1 ∈ five.map (·.1)
  · refine Classical.byContradiction fun ng9 => ?_
    obtain ⟨z, hz, e⟩ := List.mem_map.mp q
    refine ng9 ?_
    clear ng9
    have h1 := h5 z hz
    rw [e, (N p hp).1] at h1
    have h2 : z = p := Prod.ext e (Option.some.inj h1).symm
    subst h2
    exact h5' z (same z hz hne)
  · exact hk _ _ (hideAll_get _ (N p hp).1 q)
theorem f_names :
 ∀ {w : World} {p : Program} {loose : List Str} {mean : ExcName → Option Value} {mg mb : Str → Option Value} {dp un : Nat} {gd : Option (List Code)} {env : Env} {outer : List Env} {A₀ : Around} {base h₀ : Heap} {L : Addr} {m : Str → Option Value} {s : Shared} {Q E : Value → Shared → Prop} {news : List (Addr × Obj)} {x dx S D I : Addr} {so io : Obj} {t1 t2 t3 tm : Tok} {nd nl : Nat} {mn : Str} {ms dss : List Str} {ds : List Value} {fv : Value} {fo : Option Str} {mem : Str → Option Bool} {n : Nat} {g' : Obj → List (Addr × Obj)}
 (B : Below A₀ base outer h₀) (F : Fr h₀ L s.heap m) (X : (hd.heap_1 w.params).In h₀) (N : News h₀ L s.heap news) (T : Top p loose mean mg mb h₀) (hf : env.frame = some L) (hke : env.scope.kind = .function) (hdp : dp + 4 < recursionLimit) (hu : un + 40 < cLine) (U : UpdF I io news g') (m1 : (D, listOf ds.toArray nl) ∈ news) (m2 : (S, so) ∈ news) (m3 : (x, instObj 86 dx) ∈ news) (m4 : (dx, dictOf (ignD w.params t1 t2 t3 S D I) nd) ∈ news) (R : RdrOk w x dx S D I so ds ms dss) (hmem : Memo w io mem n) (hn : n ≤ 900) (hml : mn.length ≤ 300) (hmo : mn ∈ ms ∨ ms.length ≤ 1) (hfv : FileIs fv fo) (hret : ∀ io' h' tk' tb, Fr h₀ L h' m → News h₀ L h' (g' io') → Memo w io' (fun k => if k = mn then some ((mem mn).getD (ansB mn ms dss fo)) else mem k) (n + 1) → Q (.int (b2i ((mem mn).getD (ansB mn ms dss fo))) tb) { s with heap := h', toks := tk' }), wpAny (model PySem.Challenge.rw_of0013_01.prog w) (aTop dp un gd (env :: outer)) (call (.ref 83) [.ref x, fv, .str mn tm]) Q E s := by
  iterate 6 refine @Mine.pad _ ?_
  iterate 3 k_extra "pkG"
  iterate 21 k_extra "pk9"
  rename_i w p loose mean mg mb dp un gd env outer A₀ base h₀ L m s Q E news x dx S D I so io t1 t2 t3 tm nd nl mn ms dss ds fv fo mem n g' B F X N T hf hke hdp hu U m1 m2 m3 m4 R hmem hn hml hmo hfv hret
  refine Classical.byContradiction fun ng9 => ?_
  obtain ⟨pre, post, rfl, hg, ha, hb⟩ := U.split
  refine ng9 ?_
  clear ng9
  refine Classical.byContradiction fun ng9 => ?_
  obtain ⟨kvs, hi, hkl, hkv⟩ := hmem
  refine ng9 ?_
  clear ng9
  have mI : (I, io) ∈ pre ++ (I, io) :: post := List.mem_append_right _ (.head _)
  cases hmm : mem mn with
  | some b =>
    obtain ⟨tv, hv⟩ := (hkv mn).2 b hmm
    have N3 : News h₀ L s.heap [(I, io), (x, instObj 86 dx), (dx, dictOf (ignD w.params t1 t2 t3 S D I) nd)] := fun q hq => N q (by
      rcases List.mem_cons.mp hq with rfl | hq
      · exact mI
      · rcases List.mem_cons.mp hq with rfl | hq
        · exact m3
        · rw [List.mem_singleton.mp hq]; exact m4)
    refine Classical.byContradiction fun ng9 => ?_
    obtain ⟨F', B', st, _⟩ := groundX (A := aTop dp un gd (env :: outer)) (R := fun _ _ => True) B F N3 rfl hf hke
    refine ng9 ?_
    clear ng9
    refine Classical.byContradiction fun ng9 => ?_
    obtain ⟨hp, g, d, tk, os⟩ := s
    refine ng9 ?_
    clear ng9
    refine c_namesHit (t := tk) B' (X.keeps st) (T.keeps st) hdp hu (fun b o e => of_hideAll _ e) (Nat.le_of_eq (hideAll_size _ _)) (fun q hq => ⟨(N3 q hq).1, hideAll_none _ (List.mem_map_of_mem hq)⟩) hi R.low hv fun h' tk' hk h3 => ?_
    have key := hret io h' tk' tv (F'.keeps hk) (fun q hq => ?_) ⟨kvs, hi, Nat.le_succ_of_le hkl, fun k => ?_⟩
    · rw [hmm] at key; exact key
    · rw [hg] at hq
      refine ⟨?_, (N q hq).2⟩
      by_cases hne : q.1 = I
      · have : q = (I, io) := by
          rcases List.mem_append.mp hq with z | z
          · exact absurd hne (ha q z)
          · rcases List.mem_cons.mp z with z | z
            · exact z
            · exact absurd hne (hb q z)
        rw [this]; exact h3 _ (.head _)
      · exact hide_back N hk (fun q hq => (N3 q hq).1) h3 (I := I) (fun q hq _ => hq) hq hne
    · rw [hmm]
      by_cases e : k = mn
      · subst e
        simp only [if_true]
        exact ⟨(fun q => nomatch q), (fun b' q => (Option.some.inj q) ▸ ⟨tv, hv⟩)⟩
      · simp only [if_neg e]; exact hkv k
  | none =>
    have hv := (hkv mn).1 hmm
    have N5 : News h₀ L s.heap [(I, io), (D, listOf ds.toArray nl), (S, so), (x, instObj 86 dx), (dx, dictOf (ignD w.params t1 t2 t3 S D I) nd)] := fun q hq => N q (by
      rcases List.mem_cons.mp hq with rfl | hq
      · exact mI
      · rcases List.mem_cons.mp hq with rfl | hq
        · exact m1
        · rcases List.mem_cons.mp hq with rfl | hq
          · exact m2
          · rcases List.mem_cons.mp hq with rfl | hq
            · exact m3
            · rw [List.mem_singleton.mp hq]; exact m4)
    refine Classical.byContradiction fun ng9 => ?_
    obtain ⟨F', B', st, _⟩ := groundX (A := aTop dp un gd (env :: outer)) (R := fun _ _ => True) B F N5 rfl hf hke
    refine ng9 ?_
    clear ng9
    refine Classical.byContradiction fun ng9 => ?_
    obtain ⟨hp, g, d, tk, os⟩ := s
    refine ng9 ?_
    clear ng9
    refine c_names (t := tk) B' (X.keeps st) (T.keeps st) hdp hu (fun b o e => of_hideAll _ e) (Nat.le_of_eq (hideAll_size _ _)) (fun q hq => ⟨(N5 q hq).1, hideAll_none _ (List.mem_map_of_mem hq)⟩) R.ne1 R.ne2 R.ne3 R.ne4 R.hM R.hms hi (by omega) R.low hml R.hms2 R.hds R.hds2 hv hmo hfv fun io' h' tk' ta tb hk h5 hd' => ?_
    have key := hret io' h' tk' tb (F'.keeps hk) (fun q hq => ?_) ⟨_, hd', Nat.le_trans stored_len (by omega), fun k => ?_⟩
    · rw [hmm] at key; exact key
    · rw [hg] at hq
      have case2 : q = (I, io') ∨ (q ∈ pre ++ (I, io) :: post ∧ q.1 ≠ I) := by
        rcases List.mem_append.mp hq with z | z
        · exact .inr ⟨List.mem_append_left _ z, ha q z⟩
        · rcases List.mem_cons.mp z with z | z
          · exact .inl z
          · exact .inr ⟨List.mem_append_right _ (.tail _ z), hb q z⟩
      rcases case2 with rfl | ⟨hq', hne⟩
      · exact ⟨h5 _ (.head _), (N _ mI).2⟩
      · refine ⟨?_, (N q hq').2⟩
        exact hide_back N hk (fun q hq => (N5 q hq).1) h5 (I := I) (fun q hq hn => by
          rcases List.mem_cons.mp hq with rfl | hq
          · exact absurd rfl hn
          · exact .tail _ hq) hq' hne
    · rw [hmm, valueAt_stored hv]
      by_cases e : k = mn
      · subst e
        simp only [if_true]
        exact ⟨(fun q => nomatch q), (fun b' q => ⟨ta, by rw [← Option.some.inj q]; rfl⟩)⟩
      · simp only [if_neg e]; exact hkv k
end Mine
end
open PySem PySem.W PyProof.Rows in
example : Mine.RS := by intro M A Q E s h; w_top off; first | walk1 | skip; all_goals first | exact h | exact wpAny_pure h
section
set_option maxHeartbeats 8000000
local macro_rules | `(tactic| intro $x:ident) => `(tactic| first | (refine @Mine.pick_allM _ (by with_reducible assumption) (by k_extra "ne9") _ ?_; generalize @Mine.pick _ _ _ = $x) | intros $x)
local macro_rules | `(tactic| intro $x:term $y:term $ys:term*) => `(tactic| (intro $x:term; intro $y:term $ys:term*))
local macro_rules | `(tactic| k_fold) => `(tactic| skip)
namespace Mine
structure Apart (d : Addr) (l : List (Addr × Obj)) : Prop where
  off : LCg.Off1 d l
theorem off_mem {d : Addr} : ∀ {l : List (Addr × Obj)}, LCg.Off1 d l → ∀ p ∈ l, p.1 ≠ d
  | [], _, _, h => nomatch h
  | _ :: _, x, p, h => by
    rcases List.mem_cons.mp h with rfl | h
    · exact x.1
    · exact off_mem x.2 p h
theorem Apart.ne {d p : Addr} {o : Obj} {l : List (Addr × Obj)} (h : Apart d l) (hm : (p, o) ∈ l) : p ≠ d := off_mem h.off _ hm
theorem Apart.ne' {d p : Addr} {o : Obj} {l : List (Addr × Obj)} (h : Apart d l) (hm : (p, o) ∈ l) : d ≠ p := fun e => off_mem h.off _ hm e.symm
noncomputable def memo0 : Str → Option Bool := fun k => if k = Str.ofString "<string>" then some true else none
theorem off_lt {d : Addr} : ∀ {l : List (Addr × Obj)}, AllLt d l → LCg.Off1 d l
  | [], _ => trivial
  | _ :: _, h => ⟨Nat.ne_of_lt h.1, off_lt h.2⟩
theorem allLt_mono {d e : Nat} : ∀ {l : List (Addr × Obj)}, AllLt d l → d < e → AllLt e l
  | [], _, _ => trivial
  | _ :: _, h, q => ⟨Nat.lt_trans h.1 q, allLt_mono h.2 q⟩
theorem memo_new {w : World} {io : Obj} {t u : Tok} (h : io.IsDictOf (strKind PySem.Challenge.rw_of0013_01.prog w) (strPairs [(.str (Str.ofString "<string>") t, .int 1 u)])) : Memo w io memo0 1 := by
  refine ⟨_, h, Nat.le_refl _, fun k => ?_⟩
  have e : strPairs [(.str (Str.ofString "<string>") t, .int 1 u)] = [(Str.ofString "<string>", Value.int 1 u)] := rfl
  rw [e]
  unfold memo0 valueAt
  by_cases q : k = Str.ofString "<string>"
  · subst q
    simp [b2i]
  · rw [if_neg q]
    have q' : ¬ (Str.ofString "<string>" = k) := fun z => q z.symm
    simp [q']
theorem nw_drop6 {h₀ h : Heap} {L : Addr} {a b c d e f : Addr × Obj} {r : List (Addr × Obj)} (N : News h₀ L h (a :: b :: c :: d :: e :: f :: r)) : News h₀ L h (a :: b :: c :: d :: e :: r) := fun q hq => N q (by
  simp only [List.mem_cons] at hq ⊢
  rcases hq with h | h | h | h | h | h
  · exact .inl h
  · exact .inr (.inl h)
  · exact .inr (.inr (.inl h))
  · exact .inr (.inr (.inr (.inl h)))
  · exact .inr (.inr (.inr (.inr (.inl h))))
  · exact .inr (.inr (.inr (.inr (.inr (.inr h))))))
theorem tr_list {prog : Program} {w : World} {A : Around} {E : Value → Shared → Prop} {s : Shared} {h₀ : Heap} {L D : Addr} {vs : List Value} {nn : Nat} {news : List (Addr × Obj)} {Q : Bool → Shared → Prop} (N : News h₀ L s.heap news) (hm : (D, listOf vs.toArray nn) ∈ news) (hne : vs.isEmpty = false) (hl : vs.length ≤ 1000) (h : ∀ k, Q true { s with toks := k }) : wpAny (model prog w) A (truthy (.ref D)) Q E s := by
  refine wpAny_truthy_list (News.isList N hm) (by simp; omega) ?_
  have e : (!vs.toArray.isEmpty) = true := by simp at hne ⊢; exact hne
  rw [e]; exact h _
structure NormOk (x : Str) : Prop where
  hx : x.length ≤ 1000
  hx0 : 1 ≤ x.length
  h1 : Txt.slice x none (some 1) = Str.ofString "/"
  h2 : (Txt.slice x (some 1) (some 2) != Str.ofString "/") = true
  h3 : (Txt.split (Txt.slice x (some 1) none) (Str.ofString "/")).length ≤ 50
  h4 : ((npOf x).map (·.length)).sum + (npOf x).length ≤ 100
  h5 : (normN x).length ≤ 300
theorem f_normpathK {w : World} {p : Program} {loose : List Str} {mean : ExcName → Option Value} {mg mb : Str → Option Value} {dp un : Nat} {gd : Option (List Code)} {cn : Str} {nm : List (Str × NameKind)} {ig ic : Bool} {mo : List (Str × Const)} {a : Addr} {ccd : Value} {cl : List (Str × Addr)} {outer : List Env} {A₀ : Around} {base h₀ : Heap} {L : Addr} {m : Str → Option Value} {s : Shared} {Q E : Value → Shared → Prop} {news : List (Addr × Obj)}
   (B : Below A₀ base outer h₀) (F : Fr h₀ L s.heap m) (X : (hd.heap_1 w.params).In h₀) (N : News h₀ L s.heap news) (T : Top p loose mean mg mb h₀) (hdp : dp + 8 < recursionLimit) (hu : un + 80 < cLine) (x : Str) (tx : Tok) (hok : NormOk x)
   (hret : ∀ t' h' tk', Fr h₀ L h' m → News h₀ L h' news → Q (.str (normN x) t') { s with heap := h', toks := tk' }) :
   wpAny (model PySem.Challenge.rw_of0013_01.prog w) (ktrTop dp un gd cn ⟨.function, nm, ig, ic, mo⟩ L a ccd cl outer) (call (.ref 63) [.str x tx]) Q E s :=
  f_normpath B F X N T hdp hu x tx hok.hx hok.hx0 hok.h1 hok.h2 hok.h3 hok.h4 hret
theorem f_ign1 :
 ∀ {w : World} {p : Program} {loose : List Str} {mean : ExcName → Option Value} {mg mb : Str → Option Value} {dp un : Nat} {gd : Option (List Code)} {cn : Str} {nm : List (Str × NameKind)} {ig ic : Bool} {mo : List (Str × Const)} {a : Addr} {ccd : Value} {cl : List (Str × Addr)} {outer : List Env} {A₀ : Around} {base h₀ : Heap} {L : Addr} {m : Str → Option Value} {s : Shared} {Q E : Value → Shared → Prop} {news : List (Addr × Obj)} {l1 : Addr} {n1 : Nat} {vs : List Value} {ms : List Str}
 (B : Below A₀ base outer h₀) (F : Fr h₀ L s.heap m) (X : (hd.heap_1 w.params).In h₀) (T : Top p loose mean mg mb h₀) (hdp : dp + 16 < recursionLimit) (hu : un + 160 < cLine) (N2 : News h₀ L s.heap ((l1, listOf vs.toArray n1) :: news)) (hvs : StrsAre vs ms) (hve : vs.isEmpty = false) (hvl : vs.length ≤ 1000) (hne : ms ≠ []) (hnd : ms.Nodup) (hb : ms.length ≤ 100) (hml : ∀ y ∈ ms, y.length ≤ 300) (hret : ∀ x dx S D I so io t1 t2 t3 nd nl ds h' tk', Fr h₀ L h' m → News h₀ L h' ((I, io) :: (D, listOf ds.toArray nl) :: (S, so) :: (x, instObj 86 dx) :: (dx, dictOf (ignD w.params t1 t2 t3 S D I) nd) :: news) → RdrOk w x dx S D I so ds ms [] → Memo w io memo0 1 →
      Apart I ((D, listOf ds.toArray nl) :: (S, so) :: (x, instObj 86 dx) :: (dx, dictOf (ignD w.params t1 t2 t3 S D I) nd) :: news) → Apart D ((S, so) :: (x, instObj 86 dx) :: (dx, dictOf (ignD w.params t1 t2 t3 S D I) nd) :: news) → Apart S ((x, instObj 86 dx) :: (dx, dictOf (ignD w.params t1 t2 t3 S D I) nd) :: news) → Apart x ((dx, dictOf (ignD w.params t1 t2 t3 S D I) nd) :: news) → Apart dx news → Q (.ref x) { s with heap := h', toks := tk' }), wpAny (model PySem.Challenge.rw_of0013_01.prog w) (ktrTop dp un gd cn ⟨.function, nm, ig, ic, mo⟩ L a ccd cl outer) (call (.ref 86) [.ref l1]) Q E s := by
  have hpk9 := Mine.pickOn
  iterate 1 refine @Mine.pad _ ?_
  iterate 2 k_extra "pkG"
  iterate 15 k_extra "pk9"
  rename_i w p loose mean mg mb dp un gd cn nm ig ic mo a ccd cl outer A₀ base h₀ L m s Q E news l1 n1 vs ms B F X T hdp hu N2 hvs hve hvl hne hnd hb hml hret
  revert X; k_fill; intro X
  (repeat' (first | (k_unfold; (try dsimp only)) | (k_end; wrow_close) | ((with_reducible show wpAny _ _ (call (Value.type _) _) _ _ _); (k_here; k_dflt (refine' set_NM rfl ?k1 ?k2 ?k3 ?k4 ?k5 ?k6 ?k7 ?_; (case k1 => k_asm); (case k2 => k_asm); (case k3 => k_mem); (case k4 => assumption); (case k5 => assumption); (case k6 => assumption); (case k7 => assumption)); intro S' o' h' tk' F' N' off' hs'; (try simp only [LCg.Off1, and_true] at off'); (try dsimp only))) | ((with_reducible show wpAny _ _ (truthy (Value.ref _)) _ _ _); (k_here; k_dflt (refine' tr_list ?k1 ?k2 ?k3 ?k4 ?_; (case k1 => k_asm); (case k2 => k_mem); (case k3 => assumption); (case k4 => assumption)); intro k')) | walk1 | (dsimp only; walk1) | (leave1; try dsimp only)))
  (rename Mods _ _ _ _ => hMo)
  repeat ((with_reducible rename _ ∧ _ => hc); obtain ⟨_, _⟩ := hc)
  (rename Fr h₀ _ _ _ => F8); (rename News h₀ _ _ _ => N8); (rename Obj.IsDictOf _ _ _ => d8)
  exact hret _ _ _ _ _ _ _ _ _ _ _ _ [] _ _ F8 (nw_drop6 N8) ⟨hMo, hb, hml, .nil, (fun _ h => nomatch h), (by assumption), (by omega), (by omega), (by omega), (by omega)⟩ (memo_new d8) ⟨⟨(by omega), (by omega), (by omega), (by omega), (by first | exact off_lt (by assumption) | exact off_lt (allLt_of (by assumption)) | exact off_lt (allLt_mono (allLt_of (by assumption)) (by omega)) | exact off_lt (allLt_mono (by assumption) (by omega)) | assumption)⟩⟩ ⟨⟨(by omega), (by omega), (by omega), (by first | exact off_lt (by assumption) | exact off_lt (allLt_of (by assumption)) | exact off_lt (allLt_mono (allLt_of (by assumption)) (by omega)) | exact off_lt (allLt_mono (by assumption) (by omega)) | assumption)⟩⟩ ⟨⟨(by omega), (by omega), (by first | exact off_lt (by assumption) | exact off_lt (allLt_of (by assumption)) | exact off_lt (allLt_mono (allLt_of (by assumption)) (by omega)) | exact off_lt (allLt_mono (by assumption) (by omega)) | assumption)⟩⟩ ⟨⟨(by omega), (by first | exact off_lt (by assumption) | exact off_lt (allLt_of (by assumption)) | exact off_lt (allLt_mono (allLt_of (by assumption)) (by omega)) | exact off_lt (allLt_mono (by assumption) (by omega)) | assumption)⟩⟩ ⟨(by first | exact off_lt (by assumption) | exact off_lt (allLt_of (by assumption)) | exact off_lt (allLt_mono (allLt_of (by assumption)) (by omega)) | exact off_lt (allLt_mono (by assumption) (by omega)) | assumption)⟩
end Mine
end
open PySem PySem.W PyProof.Rows in
example : Mine.RS := by intro M A Q E s h; w_top off; first | walk1 | skip; all_goals first | exact h | exact wpAny_pure h
section
set_option maxHeartbeats 8000000
local macro_rules | `(tactic| intro $x:ident) => `(tactic| first | (refine @Mine.pick_allM _ (by with_reducible assumption) (by k_extra "ne9") _ ?_; generalize @Mine.pick _ _ _ = $x) | intros $x)
local macro_rules | `(tactic| intro $x:term $y:term $ys:term*) => `(tactic| (intro $x:term; intro $y:term $ys:term*))
local macro_rules | `(tactic| k_fold) => `(tactic| skip)
namespace Mine
theorem f_ign2 :
 ∀ {w : World} {p : Program} {loose : List Str} {mean : ExcName → Option Value} {mg mb : Str → Option Value} {dp un : Nat} {gd : Option (List Code)} {cn : Str} {nm : List (Str × NameKind)} {ig ic : Bool} {mo : List (Str × Const)} {a : Addr} {ccd : Value} {cl : List (Str × Addr)} {outer : List Env} {A₀ : Around} {base h₀ : Heap} {L : Addr} {m : Str → Option Value} {s : Shared} {Q E : Value → Shared → Prop} {news : List (Addr × Obj)} {l2 : Addr} {n2 : Nat} {fs : List Value} {fss : List Str}
 (B : Below A₀ base outer h₀) (F : Fr h₀ L s.heap m) (X : (hd.heap_1 w.params).In h₀) (T : Top p loose mean mg mb h₀) (hdp : dp + 16 < recursionLimit) (hu : un + 160 < cLine) (hfs : StrsAre fs fss) (hfe : fs.isEmpty = false) (hfl0 : fs.length ≤ 1000) (hok : ∀ c ∈ fss, NormOk c) (N2 : News h₀ L s.heap ((l2, listOf fs.toArray n2) :: news)) (hret : ∀ x dx S D I so io t1 t2 t3 nd nl ds h' tk', Fr h₀ L h' m → News h₀ L h' ((I, io) :: (D, listOf ds.toArray nl) :: (S, so) :: (x, instObj 86 dx) :: (dx, dictOf (ignD w.params t1 t2 t3 S D I) nd) :: news) → RdrOk w x dx S D I so ds [] (fss.map normN) → Memo w io memo0 1 →
      Apart I ((D, listOf ds.toArray nl) :: (S, so) :: (x, instObj 86 dx) :: (dx, dictOf (ignD w.params t1 t2 t3 S D I) nd) :: news) → Apart D ((S, so) :: (x, instObj 86 dx) :: (dx, dictOf (ignD w.params t1 t2 t3 S D I) nd) :: news) → Apart S ((x, instObj 86 dx) :: (dx, dictOf (ignD w.params t1 t2 t3 S D I) nd) :: news) → Apart x ((dx, dictOf (ignD w.params t1 t2 t3 S D I) nd) :: news) → Apart dx news → Q (.ref x) { s with heap := h', toks := tk' }), wpAny (model PySem.Challenge.rw_of0013_01.prog w) (ktrTop dp un gd cn ⟨.function, nm, ig, ic, mo⟩ L a ccd cl outer) (call (.ref 86) [.none, .ref l2]) Q E s := by
  have hpk9 := Mine.pickOn
  iterate 1 refine @Mine.pad _ ?_
  iterate 2 k_extra "pkG"
  iterate 12 k_extra "pk9"
  rename_i w p loose mean mg mb dp un gd cn nm ig ic mo a ccd cl outer A₀ base h₀ L m s Q E news l2 n2 fs fss B F X T hdp hu hfs hfe hfl0 hok N2 hret
  revert X; k_fill; intro X
  repeat ((fail_if_success (with_reducible show LCg.CompSrc _ _ _ _ _ _ _ _ _ _ _ _ _ _)); (first | ((with_reducible show wpAny _ _ (truthy (Value.ref _)) _ _ _); (k_here; k_dflt (refine' tr_list ?k1 ?k2 ?k3 ?k4 ?_; (case k1 => k_asm); (case k2 => k_mem); (case k3 => assumption); (case k4 => assumption)); intro k')) | ((with_reducible show wpAny _ _ (eval (PySem.Expr.ListComp _ _ _ _) _) _ _ _); (k_here; k_dflt (refine LCg.ListComp_U (F₀ := by k_asm) (by with_unfolding_all rfl) (by decide) (by rfl) (by decide) (by rfl) ?_))) | walk1 | (dsimp only; walk1)))
  have hfl : fs.length = fss.length := strsLen hfs
  k_dflt (refine' LCg.CompSrc.ledger (its := fs.toArray) ?k0 ?k1 ?k2 ?k3 ?k4 ?_; (case k0 => rfl); (case k4 => rw [PySem.sizeLine_eq]; simp; omega); (case k1 => k_asm); (case k2 => k_asm); (case k3 => k_mem))
  intro g'
  have en : fs.toArray.size = fss.length := by simp [hfl]
  rw [en]
  refine cr_map (fun i y => ∃ t, y = Value.str (normN (fss.getD i Str.empty)) t) ?_ ?_
  · intro i v I oI C oC D m₂ ys h tk E' hi hv hC hx F' N' off ne
    refine Classical.byContradiction fun ng9 => ?_
    obtain ⟨c, t', rfl, hc⟩ := strs_getV hfs (by simpa using hv)
    refine ng9 ?_
    clear ng9
    have hcm : c ∈ fss := List.mem_of_getElem? hc
    have ec : fss.getD i Str.empty = c := by rw [List.getD_eq_getElem?_getD, hc]; rfl
    rw [ec]
    have hnk := hok c hcm
    (repeat' (first | (k_unfold; (try dsimp only)) | (k_end; wrow_close) | (k_here; (with_reducible show wpAny _ _ (call (Value.ref 63) [Value.str _ _]) _ _ _); k_dflt (refine' f_normpathK ?k1 ?k2 ?k3 ?k4 ?k5 ?kd ?ku _ _ ?hx ?_; (case k1 => k_asm); (case k2 => k_asm); (case k3 => k_asm); (case k4 => k_asm); (case k5 => k_asm); (case kd => ktr_room); (case ku => (simp only [units_under_make]; ktr_units)); (case hx => assumption)); intro t' h' tk' F' N'; (try dsimp only); (try k_fold)) | walk1 | (dsimp only; walk1) | (leave1; try dsimp only)))
    refine LCg.CompEnd.intro (by k_asm) (by k_asm) _ (fun p hp => hp) ?o ?s ?r
    (case o => (simp only [LCg.Off3]; assumption))
    (case s => exact Or.inr ⟨{ cls := .type "list", data := .seq fs.toArray n2 }, (by k_mem), rfl, n2, rfl⟩)
    (case r => exact ⟨rfl, _, rfl⟩)
  · intro ys hyl hy
    have hys : StrsAre ys (fss.map normN) := strsAre_of (by simp [hyl]) fun i y e => by
      obtain ⟨t, rfl⟩ := hy i y e
      refine ⟨t, ?_⟩
      have hi : i < fss.length := by have := (List.getElem?_eq_some_iff.mp e).1; omega
      simp [List.getD_eq_getElem?_getD, hi]
    have hy2 : ∀ z ∈ fss.map normN, z.length ≤ 300 := fun z hz => by
      refine Classical.byContradiction fun ng9 => ?_
      obtain ⟨c, hc, rfl⟩ := List.mem_map.mp hz
      refine ng9 ?_
      clear ng9
      exact (hok c hc).h5
    k_steps
    repeat ((with_reducible rename _ ∧ _ => hc); obtain ⟨_, _⟩ := hc)
    (rename Fr h₀ _ _ _ => F8); (rename News h₀ _ _ _ => N8); (rename Obj.IsDictOf _ _ _ => d8)
    exact hret _ _ _ _ _ _ _ _ _ _ _ _ ys _ _ F8 (nw_drop6 N8) ⟨mods0 _ _ _, (by simp), (fun _ h => nomatch h), hys, hy2, (by assumption), (by omega), (by omega), (by omega), (by omega)⟩ (memo_new d8) ⟨⟨(by omega), (by omega), (by omega), (by omega), (by first | exact off_lt (by assumption) | exact off_lt (allLt_of (by assumption)) | exact off_lt (allLt_mono (allLt_of (by assumption)) (by omega)) | exact off_lt (allLt_mono (by assumption) (by omega)) | assumption)⟩⟩ ⟨⟨(by omega), (by omega), (by omega), (by first | exact off_lt (by assumption) | exact off_lt (allLt_of (by assumption)) | exact off_lt (allLt_mono (allLt_of (by assumption)) (by omega)) | exact off_lt (allLt_mono (by assumption) (by omega)) | assumption)⟩⟩ ⟨⟨(by omega), (by omega), (by first | exact off_lt (by assumption) | exact off_lt (allLt_of (by assumption)) | exact off_lt (allLt_mono (allLt_of (by assumption)) (by omega)) | exact off_lt (allLt_mono (by assumption) (by omega)) | assumption)⟩⟩ ⟨⟨(by omega), (by first | exact off_lt (by assumption) | exact off_lt (allLt_of (by assumption)) | exact off_lt (allLt_mono (allLt_of (by assumption)) (by omega)) | exact off_lt (allLt_mono (by assumption) (by omega)) | assumption)⟩⟩ ⟨(by first | exact off_lt (by assumption) | exact off_lt (allLt_of (by assumption)) | exact off_lt (allLt_mono (allLt_of (by assumption)) (by omega)) | exact off_lt (allLt_mono (by assumption) (by omega)) | assumption)⟩
end Mine
end
open PySem PySem.W PyProof.Rows in
example : Mine.RS := by intro M A Q E s h; w_top off; first | walk1 | skip; all_goals first | exact h | exact wpAny_pure h
section
set_option maxHeartbeats 8000000
local macro_rules | `(tactic| intro $x:ident) => `(tactic| first | (refine @Mine.pick_allM _ (by with_reducible assumption) (by k_extra "ne9") _ ?_; generalize @Mine.pick _ _ _ = $x) | intros $x)
local macro_rules | `(tactic| intro $x:term $y:term $ys:term*) => `(tactic| (intro $x:term; intro $y:term $ys:term*))
local macro_rules | `(tactic| k_fold) => `(tactic| skip)
namespace Mine
theorem f_ign3 :
 ∀ {w : World} {p : Program} {loose : List Str} {mean : ExcName → Option Value} {mg mb : Str → Option Value} {dp un : Nat} {gd : Option (List Code)} {cn : Str} {nm : List (Str × NameKind)} {ig ic : Bool} {mo : List (Str × Const)} {a : Addr} {ccd : Value} {cl : List (Str × Addr)} {outer : List Env} {A₀ : Around} {base h₀ : Heap} {L : Addr} {m : Str → Option Value} {s : Shared} {Q E : Value → Shared → Prop} {news : List (Addr × Obj)} {l2 : Addr} {n2 : Nat} {fs : List Value} {fss : List Str} {l0 : Addr} {n0 : Nat}
 (B : Below A₀ base outer h₀) (F : Fr h₀ L s.heap m) (X : (hd.heap_1 w.params).In h₀) (T : Top p loose mean mg mb h₀) (hdp : dp + 16 < recursionLimit) (hu : un + 160 < cLine) (hfs : StrsAre fs fss) (hfe : fs.isEmpty = false) (hfl0 : fs.length ≤ 1000) (hok : ∀ c ∈ fss, NormOk c) (N2 : News h₀ L s.heap ((l2, listOf fs.toArray n2) :: (l0, listOf #[] n0) :: news)) (hret : ∀ x dx S D I so io t1 t2 t3 nd nl ds h' tk', Fr h₀ L h' m → News h₀ L h' ((I, io) :: (D, listOf ds.toArray nl) :: (S, so) :: (x, instObj 86 dx) :: (dx, dictOf (ignD w.params t1 t2 t3 S D I) nd) :: news) → RdrOk w x dx S D I so ds [] (fss.map normN) → Memo w io memo0 1 →
      Apart I ((D, listOf ds.toArray nl) :: (S, so) :: (x, instObj 86 dx) :: (dx, dictOf (ignD w.params t1 t2 t3 S D I) nd) :: news) → Apart D ((S, so) :: (x, instObj 86 dx) :: (dx, dictOf (ignD w.params t1 t2 t3 S D I) nd) :: news) → Apart S ((x, instObj 86 dx) :: (dx, dictOf (ignD w.params t1 t2 t3 S D I) nd) :: news) → Apart x ((dx, dictOf (ignD w.params t1 t2 t3 S D I) nd) :: news) → Apart dx news → Q (.ref x) { s with heap := h', toks := tk' }), wpAny (model PySem.Challenge.rw_of0013_01.prog w) (ktrTop dp un gd cn ⟨.function, nm, ig, ic, mo⟩ L a ccd cl outer) (call (.ref 86) [.ref l0, .ref l2]) Q E s := by
  have hpk9 := Mine.pickOn
  iterate 15 refine @Mine.pad _ ?_
  iterate 3 k_extra "pkG"
  iterate 12 k_extra "pk9"
  rename_i w p loose mean mg mb dp un gd cn nm ig ic mo a ccd cl outer A₀ base h₀ L m s Q E news l2 n2 fs fss l0 n0 B F X T hdp hu hfs hfe hfl0 hok N2 hret
  revert X; k_fill; intro X
  repeat ((fail_if_success (with_reducible show LCg.CompSrc _ _ _ _ _ _ _ _ _ _ _ _ _ _)); (first | ((with_reducible show wpAny _ _ (truthy (Value.ref _)) _ _ _); (k_here; k_dflt (refine' tr_list ?k1 ?k2 ?k3 ?k4 ?_; (case k1 => k_asm); (case k2 => k_mem); (case k3 => assumption); (case k4 => assumption)); intro k')) | ((with_reducible show wpAny _ _ (eval (PySem.Expr.ListComp _ _ _ _) _) _ _ _); (k_here; k_dflt (refine LCg.ListComp_U (F₀ := by k_asm) (by with_unfolding_all rfl) (by decide) (by rfl) (by decide) (by rfl) ?_))) | walk1 | (dsimp only; walk1)))
  have hfl : fs.length = fss.length := strsLen hfs
  k_dflt (refine' LCg.CompSrc.ledger (its := fs.toArray) ?k0 ?k1 ?k2 ?k3 ?k4 ?_; (case k0 => rfl); (case k4 => rw [PySem.sizeLine_eq]; simp; omega); (case k1 => k_asm); (case k2 => k_asm); (case k3 => k_mem))
  intro g'
  have en : fs.toArray.size = fss.length := by simp [hfl]
  rw [en]
  refine cr_map (fun i y => ∃ t, y = Value.str (normN (fss.getD i Str.empty)) t) ?_ ?_
  · intro i v I oI C oC D m₂ ys h tk E' hi hv hC hx F' N' off ne
    refine Classical.byContradiction fun ng9 => ?_
    obtain ⟨c, t', rfl, hc⟩ := strs_getV hfs (by simpa using hv)
    refine ng9 ?_
    clear ng9
    have hcm : c ∈ fss := List.mem_of_getElem? hc
    have ec : fss.getD i Str.empty = c := by rw [List.getD_eq_getElem?_getD, hc]; rfl
    rw [ec]
    have hnk := hok c hcm
    (repeat' (first | (k_unfold; (try dsimp only)) | (k_end; wrow_close) | (k_here; (with_reducible show wpAny _ _ (call (Value.ref 63) [Value.str _ _]) _ _ _); k_dflt (refine' f_normpathK ?k1 ?k2 ?k3 ?k4 ?k5 ?kd ?ku _ _ ?hx ?_; (case k1 => k_asm); (case k2 => k_asm); (case k3 => k_asm); (case k4 => k_asm); (case k5 => k_asm); (case kd => ktr_room); (case ku => (simp only [units_under_make]; ktr_units)); (case hx => assumption)); intro t' h' tk' F' N'; (try dsimp only); (try k_fold)) | walk1 | (dsimp only; walk1) | (leave1; try dsimp only)))
    refine LCg.CompEnd.intro (by k_asm) (by k_asm) _ (fun p hp => hp) ?o ?s ?r
    (case o => (simp only [LCg.Off3]; assumption))
    (case s => exact Or.inr ⟨{ cls := .type "list", data := .seq fs.toArray n2 }, (by k_mem), rfl, n2, rfl⟩)
    (case r => exact ⟨rfl, _, rfl⟩)
  · intro ys hyl hy
    have hys : StrsAre ys (fss.map normN) := strsAre_of (by simp [hyl]) fun i y e => by
      obtain ⟨t, rfl⟩ := hy i y e
      refine ⟨t, ?_⟩
      have hi : i < fss.length := by have := (List.getElem?_eq_some_iff.mp e).1; omega
      simp [List.getD_eq_getElem?_getD, hi]
    have hy2 : ∀ z ∈ fss.map normN, z.length ≤ 300 := fun z hz => by
      refine Classical.byContradiction fun ng9 => ?_
      obtain ⟨c, hc, rfl⟩ := List.mem_map.mp hz
      refine ng9 ?_
      clear ng9
      exact (hok c hc).h5
    k_steps
    repeat ((with_reducible rename _ ∧ _ => hc); obtain ⟨_, _⟩ := hc)
    (rename Fr h₀ _ _ _ => F8); (rename News h₀ _ _ _ => N8); (rename Obj.IsDictOf _ _ _ => d8)
    exact hret _ _ _ _ _ _ _ _ _ _ _ _ ys _ _ F8 (nw_drop6 (nw_drop6 N8)) ⟨mods0 _ _ _, (by simp), (fun _ h => nomatch h), hys, hy2, (by assumption), (by omega), (by omega), (by omega), (by omega)⟩ (memo_new d8) ⟨⟨(by omega), (by omega), (by omega), (by omega), (by first | exact off_lt (by assumption) | exact off_lt (allLt_of (by assumption)) | exact off_lt (allLt_mono (allLt_of (by assumption)) (by omega)) | exact off_lt (allLt_mono (by assumption) (by omega)) | assumption)⟩⟩ ⟨⟨(by omega), (by omega), (by omega), (by first | exact off_lt (by assumption) | exact off_lt (allLt_of (by assumption)) | exact off_lt (allLt_mono (allLt_of (by assumption)) (by omega)) | exact off_lt (allLt_mono (by assumption) (by omega)) | assumption)⟩⟩ ⟨⟨(by omega), (by omega), (by first | exact off_lt (by assumption) | exact off_lt (allLt_of (by assumption)) | exact off_lt (allLt_mono (allLt_of (by assumption)) (by omega)) | exact off_lt (allLt_mono (by assumption) (by omega)) | assumption)⟩⟩ ⟨⟨(by omega), (by first | exact off_lt (by assumption) | exact off_lt (allLt_of (by assumption)) | exact off_lt (allLt_mono (allLt_of (by assumption)) (by omega)) | exact off_lt (allLt_mono (by assumption) (by omega)) | assumption)⟩⟩ ⟨(by first | exact off_lt (by assumption) | exact off_lt (allLt_of (by assumption)) | exact off_lt (allLt_mono (allLt_of (by assumption)) (by omega)) | exact off_lt (allLt_mono (by assumption) (by omega)) | assumption)⟩
end Mine
end
open PySem PySem.W PyProof.Rows in
example : Mine.RS := by intro M A Q E s h; w_top off; first | walk1 | skip; all_goals first | exact h | exact wpAny_pure h
section
set_option maxHeartbeats 8000000
local macro_rules | `(tactic| walk_at "execs cons") => `(tactic| (refine wpAny_execs_cons ?_; (try dsimp only); (try k_fold)))
namespace Mine
structure AnsIs (mem : Str → Option Bool) (mn : Str) (ms dss : List Str) (fo : Option Str) (vv : Int) : Prop where
  out : b2i ((mem mn).getD (ansB mn ms dss fo)) = vv
theorem f_namesV {w : World} {p : Program} {loose : List Str} {mean : ExcName → Option Value} {mg mb : Str → Option Value} {dp un : Nat} {gd : Option (List Code)} {env : Env} {outer : List Env} {A₀ : Around} {base h₀ : Heap} {L : Addr} {m : Str → Option Value} {s : Shared} {Q E : Value → Shared → Prop} {news : List (Addr × Obj)}
   (B : Below A₀ base outer h₀) (F : Fr h₀ L s.heap m) (X : (hd.heap_1 w.params).In h₀) (N : News h₀ L s.heap news) (T : Top p loose mean mg mb h₀) (hf : env.frame = some L) (hke : env.scope.kind = .function) (hdp : dp + 4 < recursionLimit) (hu : un + 40 < cLine)
   {x dx S D I : Addr} {so io : Obj} {t1 t2 t3 tm : Tok} {nd nl : Nat} {mn : Str} {ms dss : List Str} {ds : List Value} {fv : Value} {fo : Option Str} {mem : Str → Option Bool} {n : Nat} {g' : Obj → List (Addr × Obj)} {vv : Int}
   (U : UpdF I io news g') (m1 : (D, listOf ds.toArray nl) ∈ news) (m2 : (S, so) ∈ news) (m3 : (x, instObj 86 dx) ∈ news) (m4 : (dx, dictOf (ignD w.params t1 t2 t3 S D I) nd) ∈ news)
   (R : RdrOk w x dx S D I so ds ms dss) (hmem : Memo w io mem n) (hn : n ≤ 900) (hml : mn.length ≤ 300) (hmo : mn ∈ ms ∨ ms.length ≤ 1) (hfv : FileIs fv fo)
   (hval : AnsIs mem mn ms dss fo vv)
   (hret : ∀ io' h' tk' tb, Fr h₀ L h' m → News h₀ L h' (g' io') → Q (.int vv tb) { s with heap := h', toks := tk' }) :
   wpAny (model PySem.Challenge.rw_of0013_01.prog w) (aTop dp un gd (env :: outer)) (call (.ref 83) [.ref x, fv, .str mn tm]) Q E s :=
  f_names B F X N T hf hke hdp hu U m1 m2 m3 m4 R hmem hn hml hmo hfv fun io' h' tk' tb F' N' _ => hval.out ▸ hret io' h' tk' tb F' N'
noncomputable def inF (a b : Str) : Int := if a = b then 0 else if Txt.startswith b (a ++ Str.ofString ".") = true then 1 else if Txt.startswith a (b ++ Str.ofString ".") = true then -1 else cmp3 (Txt.split a (Str.ofString ".")) (Txt.split b (Str.ofString "."))
theorem ans1 {a b : Str} (hs : b ≠ Str.ofString "<string>") (hab : a ≠ b) {v : Bool} (h : Txt.startswith b (a ++ Str.ofString ".") = v) : AnsIs memo0 b [a] [] (some (Str.ofString "x.py")) (if v = true then 1 else 0) := by
  have e1 : memo0 b = none := if_neg hs
  have e2 : decide (b ∈ [a]) = false := decide_eq_false (by simp; exact fun q => hab q.symm)
  have e3 : ansB b [a] [] (some (Str.ofString "x.py")) = v := by
    unfold ansB
    rw [e2, ← h]; simp
  refine ⟨?_⟩
  rw [e1]
  show b2i (ansB b [a] [] (some (Str.ofString "x.py"))) = _
  rw [e3]; rfl
local macro_rules | `(tactic| k_ne) => `(tactic| first | exact Apart.ne (by assumption) (by k_mem) | exact Apart.ne' (by assumption) (by k_mem))
theorem tr_int0 {prog : Program} {w : World} {A : Around} {E : Value → Shared → Prop} {s : Shared} {t : Tok} {Q : Bool → Shared → Prop} (h : Q false s) : wpAny (model prog w) A (truthy (.int 0 t)) Q E s := by
  exact PyProof.Rows.truthy_int (a := 0) h
theorem c_insideC :
 ∀ {w : World} {p : Program} {loose : List Str} {mean : ExcName → Option Value} {mg mb : Str → Option Value} {dp un : Nat} {gd : Option (List Code)} {outer : List Env} {A₀ : Around} {base h₀ : Heap} {g : Array GenState} {d : Drawn} {t : Nat} {os : OsState} {R : Result → Shared → Prop} {one other : Str} {t1 t2 : Tok}
 (B : Below A₀ base outer h₀) (X : (hd.heap_1 w.params).In h₀) (T : Top p loose mean mg mb h₀) (hdp : dp + 24 < recursionLimit) (hu : un + 240 < cLine) (hl1 : one.length ≤ 300) (hl2 : other.length ≤ 300) (hs1 : one ≠ Str.ofString "<string>") (hs2 : other ≠ Str.ofString "<string>") (hret : ∀ t' h' tk', (∀ b x, h₀.get? b = some x → h'.get? b = some x) → R (.ok (.ret (.int (inF one other) t'))) ⟨h', g, d, tk', os⟩), codeAny (model PySem.Challenge.rw_of0013_01.prog w) (aTop dp un gd outer) (.call (.ref 128) ⟨[.str one t1, .str other t2], []⟩) R ⟨h₀, g, d, t, os⟩ := by
  iterate 10 refine @Mine.pad _ ?_
  iterate 2 k_extra "pkG"
  iterate 10 k_extra "pk9"
  rename_i w p loose mean mg mb dp un gd outer A₀ base h₀ g d t os R one other t1 t2 B X T hdp hu hl1 hl2 hs1 hs2 hret
  by_cases he : one = other
  · have e : inF one other = 0 := if_pos he
    rw [e] at hret
    have hq : (one == other) = true := by simp [he]
    clear hs1 hs2
    revert X; k_fill; intro X
    (k_dflt (first | (refine' Mine.enterP ?k3 ?k5 ?k6 ?k7 ?k8 ?k9 ?kB ?_ ?c2 ?c3 ?c4 ?c5; (case k3 => k_asm); (case k5 => k_asm); (case k6 => k_is); (case k7 => k_is); (case k8 => ktr_room); (case k9 => first | exact BindsTo.of_eq rfl | exact binds_K (by k_in) rfl (by k_is) rfl rfl rfl); (case c5 => decide); (case kB => exact locs rfl); (case c2 => exact rfl); (case c3 => exact rfl); (case c4 => exact rfl); k_whole; (iterate 2 (k_extra "pk9")); intro F9e N9e; (try dsimp only); (try k_fold)) | (refine' Mine.enterPC ?k3 ?k5 ?k6 ?k7 ?k8 ?k9 ?kB ?kD ?_ ?c2 ?c3 ?c4; (case k3 => k_asm); (case k5 => k_asm); (case k6 => k_is); (case k7 => k_is); (case k8 => ktr_room); (case k9 => first | exact BindsTo.of_eq rfl | exact binds_K (by k_in) rfl (by k_is) rfl rfl rfl); (case kB => exact rfl); (case kD => decide +kernel); (case c2 => exact rfl); (case c3 => exact rfl); (case c4 => exact rfl); k_whole; (iterate 4 (k_extra "pk9")); intro F9e N9e Y9e; k_cells Y9e; (try simp only [List.cons_append, List.nil_append] at N9e); (try dsimp only); (try k_fold))))
    k_steps
    all_goals first | ((with_reducible rename Fr _ _ _ _ => F8); exact hret _ _ _ F8.keep) | exact absurd (rfl : (0 : Int) = 0) (by assumption)
  · have hq : (one == other) = false := by simp [he]
    cases h1 : Txt.startswith other (one ++ Str.ofString ".") with
    | true =>
      have e : inF one other = 1 := by unfold inF; rw [if_neg he, if_pos h1]
      rw [e] at hret
      have a1 := ans1 hs2 he h1
      simp only [↓reduceIte] at a1
      clear h1 hs1 hs2 he
      revert X; k_fill; intro X
      (k_dflt (first | (refine' Mine.enterP ?k3 ?k5 ?k6 ?k7 ?k8 ?k9 ?kB ?_ ?c2 ?c3 ?c4 ?c5; (case k3 => k_asm); (case k5 => k_asm); (case k6 => k_is); (case k7 => k_is); (case k8 => ktr_room); (case k9 => first | exact BindsTo.of_eq rfl | exact binds_K (by k_in) rfl (by k_is) rfl rfl rfl); (case c5 => decide); (case kB => exact locs rfl); (case c2 => exact rfl); (case c3 => exact rfl); (case c4 => exact rfl); k_whole; (iterate 2 (k_extra "pk9")); intro F9e N9e; (try dsimp only); (try k_fold)) | (refine' Mine.enterPC ?k3 ?k5 ?k6 ?k7 ?k8 ?k9 ?kB ?kD ?_ ?c2 ?c3 ?c4; (case k3 => k_asm); (case k5 => k_asm); (case k6 => k_is); (case k7 => k_is); (case k8 => ktr_room); (case k9 => first | exact BindsTo.of_eq rfl | exact binds_K (by k_in) rfl (by k_is) rfl rfl rfl); (case kB => exact rfl); (case kD => decide +kernel); (case c2 => exact rfl); (case c3 => exact rfl); (case c4 => exact rfl); k_whole; (iterate 4 (k_extra "pk9")); intro F9e N9e Y9e; k_cells Y9e; (try simp only [List.cons_append, List.nil_append] at N9e); (try dsimp only); (try k_fold))))
      (repeat' (first | (k_unfold; (try dsimp only)) | (k_end; wrow_close) | (k_here; (with_reducible show wpAny _ _ (call (Value.ref 83) [Value.ref _, Value.str _ _, Value.str _ _]) _ _ _); k_dflt (refine' f_namesV ?k1 ?k2 ?k3 ?k4 ?k5 ?kf ?kK ?kd ?ku ?U ?m1 ?m2 ?m3 ?m4 ?R ?M ?hn ?hml ?hmo ?hfv ?hV ?_; (case k1 => k_asm); (case k2 => k_asm); (case k3 => k_asm); (case k4 => k_asm); (case k5 => k_asm); (case kf => exact rfl); (case kK => exact rfl); (case kd => ktr_room); (case ku => ktr_units); (case m3 => k_mem); (case m4 => k_mem); (case R => assumption); (case U => (refine UpdF.head ?_; exact off_mem (Apart.off (by assumption)))); (case m1 => k_mem); (case m2 => k_mem); (case M => assumption); (case hn => exact Nat.le_of_ble_eq_true rfl); (case hml => assumption); (case hmo => exact .inr (Nat.le_refl _)); (case hfv => exact .inr ⟨_, _, rfl, rfl, by decide⟩); (case hV => assumption)); intro io' h' tk' tb' F' N'; (try dsimp only); (try k_fold)) | (k_here; (with_reducible show wpAny _ _ (call (Value.ref 86) [Value.ref _]) _ _ _); k_dflt (refine' f_ign1 (vs := [Value.str _ _]) ?k1 ?k2 ?k3 ?k5 ?kd ?ku ?kN (.cons _ _ .nil) rfl (by simp) (by simp) (by simp) (by simp) ?kl ?_; (case k1 => k_asm); (case k2 => k_asm); (case k3 => k_asm); (case kN => k_asm); (case k5 => k_asm); (case kd => ktr_room); (case ku => ktr_units); (case kl => (intro y' hy'; rw [List.mem_singleton.mp hy']; assumption))); intro x' dx' S' D' I' so' io' t1' t2' t3' nd' nl' ds' h' tk' F' N' R' M' A1' A2' A3' A4' A5'; (try dsimp only); (try k_fold)) | walk1 | (dsimp only; walk1) | (leave1; try dsimp only)))
      all_goals first | ((with_reducible rename Fr _ _ _ _ => F8); exact hret _ _ _ F8.keep) | exact absurd (rfl : (0 : Int) = 0) (by assumption)
    | false =>
      have a1 := ans1 hs2 he h1
      simp only [Bool.false_eq_true, ↓reduceIte] at a1
      cases h2 : Txt.startswith one (other ++ Str.ofString ".") with
      | true =>
        have e : inF one other = -1 := by unfold inF; rw [if_neg he, if_neg (by rw [h1]; simp), if_pos h2]
        rw [e] at hret
        have a2 := ans1 hs1 (fun q => he q.symm) h2
        simp only [↓reduceIte] at a2
        clear h1 h2 hs1 hs2 he
        revert X; k_fill; intro X
        (k_dflt (first | (refine' Mine.enterP ?k3 ?k5 ?k6 ?k7 ?k8 ?k9 ?kB ?_ ?c2 ?c3 ?c4 ?c5; (case k3 => k_asm); (case k5 => k_asm); (case k6 => k_is); (case k7 => k_is); (case k8 => ktr_room); (case k9 => first | exact BindsTo.of_eq rfl | exact binds_K (by k_in) rfl (by k_is) rfl rfl rfl); (case c5 => decide); (case kB => exact locs rfl); (case c2 => exact rfl); (case c3 => exact rfl); (case c4 => exact rfl); k_whole; (iterate 2 (k_extra "pk9")); intro F9e N9e; (try dsimp only); (try k_fold)) | (refine' Mine.enterPC ?k3 ?k5 ?k6 ?k7 ?k8 ?k9 ?kB ?kD ?_ ?c2 ?c3 ?c4; (case k3 => k_asm); (case k5 => k_asm); (case k6 => k_is); (case k7 => k_is); (case k8 => ktr_room); (case k9 => first | exact BindsTo.of_eq rfl | exact binds_K (by k_in) rfl (by k_is) rfl rfl rfl); (case kB => exact rfl); (case kD => decide +kernel); (case c2 => exact rfl); (case c3 => exact rfl); (case c4 => exact rfl); k_whole; (iterate 4 (k_extra "pk9")); intro F9e N9e Y9e; k_cells Y9e; (try simp only [List.cons_append, List.nil_append] at N9e); (try dsimp only); (try k_fold))))
        (repeat' (first | (k_unfold; (try dsimp only)) | (k_end; wrow_close) | (k_here; (with_reducible show wpAny _ _ (call (Value.ref 83) [Value.ref _, Value.str _ _, Value.str _ _]) _ _ _); k_dflt (refine' f_namesV ?k1 ?k2 ?k3 ?k4 ?k5 ?kf ?kK ?kd ?ku ?U ?m1 ?m2 ?m3 ?m4 ?R ?M ?hn ?hml ?hmo ?hfv ?hV ?_; (case k1 => k_asm); (case k2 => k_asm); (case k3 => k_asm); (case k4 => k_asm); (case k5 => k_asm); (case kf => exact rfl); (case kK => exact rfl); (case kd => ktr_room); (case ku => ktr_units); (case m3 => k_mem); (case m4 => k_mem); (case R => assumption); (case U => (refine UpdF.head ?_; exact off_mem (Apart.off (by assumption)))); (case m1 => k_mem); (case m2 => k_mem); (case M => assumption); (case hn => exact Nat.le_of_ble_eq_true rfl); (case hml => assumption); (case hmo => exact .inr (Nat.le_refl _)); (case hfv => exact .inr ⟨_, _, rfl, rfl, by decide⟩); (case hV => assumption)); intro io' h' tk' tb' F' N'; (try dsimp only); (try k_fold)) | (k_here; (with_reducible show wpAny _ _ (call (Value.ref 86) [Value.ref _]) _ _ _); k_dflt (refine' f_ign1 (vs := [Value.str _ _]) ?k1 ?k2 ?k3 ?k5 ?kd ?ku ?kN (.cons _ _ .nil) rfl (by simp) (by simp) (by simp) (by simp) ?kl ?_; (case k1 => k_asm); (case k2 => k_asm); (case k3 => k_asm); (case kN => k_asm); (case k5 => k_asm); (case kd => ktr_room); (case ku => ktr_units); (case kl => (intro y' hy'; rw [List.mem_singleton.mp hy']; assumption))); intro x' dx' S' D' I' so' io' t1' t2' t3' nd' nl' ds' h' tk' F' N' R' M' A1' A2' A3' A4' A5'; (try dsimp only); (try k_fold)) | (k_here; (with_reducible show wpAny _ _ (truthy (Value.int 0 _)) _ _ _); k_dflt (refine tr_int0 ?_)) | walk1 | (dsimp only; walk1) | (leave1; try dsimp only)))
        all_goals first | ((with_reducible rename Fr _ _ _ _ => F8); exact hret _ _ _ F8.keep) | exact absurd (rfl : (0 : Int) = 0) (by assumption)
      | false =>
        have e : inF one other = cmp3 (Txt.split one (Str.ofString ".")) (Txt.split other (Str.ofString ".")) := by unfold inF; rw [if_neg he, if_neg (by rw [h1]; simp), if_neg (by rw [h2]; simp)]
        rw [e] at hret
        have a2 := ans1 hs1 (fun q => he q.symm) h2
        simp only [Bool.false_eq_true, ↓reduceIte] at a2
        clear h1 h2 hs1 hs2 he
        revert X; k_fill; intro X
        (k_dflt (first | (refine' Mine.enterP ?k3 ?k5 ?k6 ?k7 ?k8 ?k9 ?kB ?_ ?c2 ?c3 ?c4 ?c5; (case k3 => k_asm); (case k5 => k_asm); (case k6 => k_is); (case k7 => k_is); (case k8 => ktr_room); (case k9 => first | exact BindsTo.of_eq rfl | exact binds_K (by k_in) rfl (by k_is) rfl rfl rfl); (case c5 => decide); (case kB => exact locs rfl); (case c2 => exact rfl); (case c3 => exact rfl); (case c4 => exact rfl); k_whole; (iterate 2 (k_extra "pk9")); intro F9e N9e; (try dsimp only); (try k_fold)) | (refine' Mine.enterPC ?k3 ?k5 ?k6 ?k7 ?k8 ?k9 ?kB ?kD ?_ ?c2 ?c3 ?c4; (case k3 => k_asm); (case k5 => k_asm); (case k6 => k_is); (case k7 => k_is); (case k8 => ktr_room); (case k9 => first | exact BindsTo.of_eq rfl | exact binds_K (by k_in) rfl (by k_is) rfl rfl rfl); (case kB => exact rfl); (case kD => decide +kernel); (case c2 => exact rfl); (case c3 => exact rfl); (case c4 => exact rfl); k_whole; (iterate 4 (k_extra "pk9")); intro F9e N9e Y9e; k_cells Y9e; (try simp only [List.cons_append, List.nil_append] at N9e); (try dsimp only); (try k_fold))))
        (repeat' (first | (k_unfold; (try dsimp only)) | (k_end; wrow_close) | (k_here; (with_reducible show wpAny _ _ (call (Value.ref 104) [Value.ref _, Value.ref _]) _ _ _); k_dflt (refine' f_cmp3 ?k1 ?k2 ?k3 ?k4 ?k5 ?kf ?kK ?kd ?ku ?m1 ?m2 ?s1 ?s2 ?_; (case k1 => k_asm); (case k2 => k_asm); (case k3 => k_asm); (case k4 => k_asm); (case k5 => k_asm); (case kf => exact rfl); (case kK => exact rfl); (case kd => ktr_room); (case ku => ktr_units); (case m1 => exact News.get (by k_asm) (by k_mem)); (case m2 => exact News.get (by k_asm) (by k_mem)); (case s1 => assumption); (case s2 => assumption)); intro t' h' tk' F' N'; (try dsimp only); (try k_fold)) | (k_here; (with_reducible show wpAny _ _ (call (Value.ref 83) [Value.ref _, Value.str _ _, Value.str _ _]) _ _ _); k_dflt (refine' f_namesV ?k1 ?k2 ?k3 ?k4 ?k5 ?kf ?kK ?kd ?ku ?U ?m1 ?m2 ?m3 ?m4 ?R ?M ?hn ?hml ?hmo ?hfv ?hV ?_; (case k1 => k_asm); (case k2 => k_asm); (case k3 => k_asm); (case k4 => k_asm); (case k5 => k_asm); (case kf => exact rfl); (case kK => exact rfl); (case kd => ktr_room); (case ku => ktr_units); (case m3 => k_mem); (case m4 => k_mem); (case R => assumption); (case U => (refine UpdF.head ?_; exact off_mem (Apart.off (by assumption)))); (case m1 => k_mem); (case m2 => k_mem); (case M => assumption); (case hn => exact Nat.le_of_ble_eq_true rfl); (case hml => assumption); (case hmo => exact .inr (Nat.le_refl _)); (case hfv => exact .inr ⟨_, _, rfl, rfl, by decide⟩); (case hV => assumption)); intro io' h' tk' tb' F' N'; (try dsimp only); (try k_fold)) | (k_here; (with_reducible show wpAny _ _ (call (Value.ref 86) [Value.ref _]) _ _ _); k_dflt (refine' f_ign1 (vs := [Value.str _ _]) ?k1 ?k2 ?k3 ?k5 ?kd ?ku ?kN (.cons _ _ .nil) rfl (by simp) (by simp) (by simp) (by simp) ?kl ?_; (case k1 => k_asm); (case k2 => k_asm); (case k3 => k_asm); (case kN => k_asm); (case k5 => k_asm); (case kd => ktr_room); (case ku => ktr_units); (case kl => (intro y' hy'; rw [List.mem_singleton.mp hy']; assumption))); intro x' dx' S' D' I' so' io' t1' t2' t3' nd' nl' ds' h' tk' F' N' R' M' A1' A2' A3' A4' A5'; (try dsimp only); (try k_fold)) | (k_here; (with_reducible show wpAny _ _ (truthy (Value.int 0 _)) _ _ _); k_dflt (refine tr_int0 ?_)) | walk1 | (dsimp only; walk1) | (leave1; try dsimp only)))
        (rename List.map _ _ = Txt.split other _ => q2); (rename List.map _ _ = Txt.split one _ => q1)
        rw [← q1, ← q2] at hret
        (with_reducible rename Fr _ _ _ _ => F8); exact hret _ _ _ F8.keep
theorem c_inside {w : World} {p : Program} {loose : List Str} {mean : ExcName → Option Value} {mg mb : Str → Option Value} {dp un : Nat} {gd : Option (List Code)} {outer : List Env} {A₀ : Around} {base h₀ : Heap} {g : Array GenState} {d : Drawn} {t : Nat} {os : OsState} {Q E : Value → Shared → Prop}
   (B : Below A₀ base outer h₀) (X : (hd.heap_1 w.params).In h₀) (T : Top p loose mean mg mb h₀) (hdp : dp + 24 < recursionLimit) (hu : un + 240 < cLine) {one other : Str} {t1 t2 : Tok} (hl1 : one.length ≤ 300) (hl2 : other.length ≤ 300) (hs1 : one ≠ Str.ofString "<string>") (hs2 : other ≠ Str.ofString "<string>")
   (hret : ∀ t' h' tk', (∀ b x, h₀.get? b = some x → h'.get? b = some x) → Q (.int (inF one other) t') ⟨h', g, d, tk', os⟩) :
   wpAny (model PySem.Challenge.rw_of0013_01.prog w) (aTop dp un gd outer) (call (.ref 128) [.str one t1, .str other t2]) Q E ⟨h₀, g, d, t, os⟩ :=
  wpAny_call (c_insideC B X T hdp hu hl1 hl2 hs1 hs2 hret)
theorem f_inside {w : World} {p : Program} {loose : List Str} {mean : ExcName → Option Value} {mg mb : Str → Option Value} {dp un : Nat} {gd : Option (List Code)} {env : Env} {outer : List Env} {A₀ : Around} {base h₀ : Heap} {L : Addr} {m : Str → Option Value} {s : Shared} {Q E : Value → Shared → Prop} {news : List (Addr × Obj)}
   (B : Below A₀ base outer h₀) (F : Fr h₀ L s.heap m) (X : (hd.heap_1 w.params).In h₀) (N : News h₀ L s.heap news) (T : Top p loose mean mg mb h₀) (hf : env.frame = some L) (hke : env.scope.kind = .function) (hdp : dp + 24 < recursionLimit) (hu : un + 240 < cLine) {one other : Str} {t1 t2 : Tok} (hl1 : one.length ≤ 300) (hl2 : other.length ≤ 300) (hs1 : one ≠ Str.ofString "<string>") (hs2 : other ≠ Str.ofString "<string>")
   (hret : ∀ t' h' tk', Fr h₀ L h' m → News h₀ L h' news → Q (.int (inF one other) t') { s with heap := h', toks := tk' }) :
   wpAny (model PySem.Challenge.rw_of0013_01.prog w) (aTop dp un gd (env :: outer)) (call (.ref 128) [.str one t1, .str other t2]) Q E s :=
  c_inside (pushX B F hf hke) (X.keeps F.keep) (T.keeps F.keep) hdp hu hl1 hl2 hs1 hs2 fun t' h' tk' k => hret t' h' tk' (F.keeps k) (N.grown k)
end Mine
end
open PySem PySem.W PyProof.Rows in
example : Mine.RS := by intro M A Q E s h; w_top off; first | walk1 | skip; all_goals first | exact h | exact wpAny_pure h
section
set_option maxHeartbeats 8000000
namespace Mine
open PySem.Calls in
theorem enterT {prog : Program} {w : World} {A : Around} {H h : Heap} {g : Array GenState} {d : Drawn} {t : Nat} {os : OsState} {K : Frag} {p : Program} {loose : List Str} {mean : ExcName → Option Value} {mg mb : Str → Option Value}
  {R : Result → Shared → Prop} {name qual : Str} {params : Arguments} {body : List Stmt} {scope : Scope} {dV kV doc pm cdv ct oc : Value} {an od : Option Addr} {osl : Array (Option Value)} {f : Addr} {args : Args} {binds : List (Str × Value)} {env : Env} {L : Addr} {oL : Obj} {es : Array DictEntry} {ep : Nat}
    (hL : h.get? L = some oL) (hLd : oL.data = .dict es ep) (hf : env.frame = some L) (hke : env.scope.kind = .function) (hH : H = hideAll h [L]) (X : K.In H) (T : Top p loose mean mg mb H)
    (ho : K.lookup f = some ⟨oc, od, .func (fnOf name qual params body scope dV kV doc pm an cdv ct), osl⟩) (hcd : codeIn K cdv qual = true) (hroom : A.depth < recursionLimit)
    (hbind : BindsTo ⟨h, g, d, t, os⟩ (fnOf name qual params body scope dV kV doc pm an cdv ct) args binds) (hloc : ∀ y ∈ binds, scope.names.lookup y.1 = some .local)
    (hh : ∀ L' h₁, TI.Frs [env] [(L, oL)] → Fr H L' h₁ (fun y => binds.reverse.lookup y) → News H L' h₁ [(L, oL)] → L < L' →
      wpAny (model prog w) (A.deeper (envOf qual scope L' f cdv)) (execs body (envOf qual scope L' f cdv))
        (fun fl s' => R (.ok (.ret (match fl with | .ret v => v | _ => .none))) s')
        (fun e s' => wpAny (model prog w) (A.deeper (envOf qual scope L' f cdv)) (leaving (envOf qual scope L' f cdv) e) (fun _ s'' => R (.error e) s'') (fun e' s'' => R (.error e') s'') s')
        ⟨h₁, g, d, t + binds.length, os⟩)
    (hco : scope.isCoroutine = false) (hgen : scope.isGenerator = false) (hk : scope.kind = .function)
    (hcell : ∀ x ∈ scope.names, x.2 ≠ .cell) : codeAny (model prog w) A (.call (.ref f) args) R ⟨h, g, d, t, os⟩ := by
  subst hH
  have hkind : env.scope.kind ≠ .module := by rw [hke]; decide
  have hb : ∀ b o, (hideAll h [L]).get? b = some o → h.get? b = some o := fun b o e => of_hideAll _ e
  refine codeAny_call_def (fd := fnOf name qual params body scope dV kV doc pm an cdv ct) (body := body) (binds := binds) hroom (hb _ _ (X _ _ ho)) rfl (T.nolimit.keeps hb) ((codeRec_of X hcd).keeps hb) rfl hbind hcell hloc
    (fun h₁ hns hk₁ => ?_) hco hgen hk
  have hLt : L < h.objs.size := Heap.lt_size hL
  refine hh h.objs.size h₁ ⟨hkind, hf, ⟨es, ep, hLd⟩, trivial⟩ ⟨hns, fun b o e => hk₁ b o (hb b o e), Nat.le_of_eq (hideAll_size _ _)⟩ (fun q hq => ?_) hLt
  rw [List.mem_singleton.mp hq]
  exact ⟨hk₁ _ _ hL, Nat.ne_of_lt hLt, hideAll_none _ (.head _)⟩
end Mine
end
section
open PySem PySem.W PyProof.Rows PySem.Calls PySem.Spec
set_option maxHeartbeats 4000000
namespace Mine
open TLg TI
noncomputable def NoCtx (h : Heap) (e : Addr) : Prop := ∃ ob ws, h.get? e = some ob ∧ ob.data = .fields ws ∧ ws[2]? = some Value.none
section
variable {M : Model} {A : Around} {E : Value → Shared → Prop} {s : Shared}
theorem entry2 {base : Heap} {env : Env} {outer : List Env} {L e : Addr} {oe : Obj} {vs : Array Value} {head a0 : Value} {hadNext : Bool} {Q : Unit → Shared → Prop}
    (hfr : A.frames = some (env :: outer)) (hl : s.heap.FunFrames base (env :: outer)) (hf : env.frame = some L)
    (he : s.heap.get? e = some oe) (hkb : base.StaysIn s.heap) (hen : base.get? e = none) (hd : oe.data = .fields vs) (hsz : 1 < vs.size) (h0 : vs[0]? = some a0) (h2 : vs[2]? = some Value.none)
    (h : ∀ h', Heap.NotedW base (env :: outer) e oe.cls a0 (rawInt L) s.heap h' → NoCtx h' e → Q () { s with heap := h' }) :
    wpAny M A (do let a ← frameOf env; let pl ← entryPlaceOf L hadNext; let b ← EntryCells.newEntry head a .none (rawInt L) .none pl; setField (.ref e) 1 b) Q E s := by
  have hene : e ∉ (env :: outer).filterMap (·.frame) := fun hm => by
    refine Classical.byContradiction fun ng9 => ?_
    obtain ⟨_, o, ho, hnf⟩ := hl.mem hm
    refine ng9 ?_
    clear ng9
    rw [he] at ho; injection ho with ho; subst ho; exact hnf vs hd
  refine wpAny_bind (wpAny_frameOf_fun hfr hl hf fun h₁ hs₁ => ?_)
  refine wpAny_bind (wpAny_entryPlaceOf fun pl hpl => ?_)
  unfold EntryCells.newEntry newFields
  refine wpAny_bind (wpAny_newObj_type ?_ (hpl.sizeOk5 _ _ _ _ _))
  have he₁ : h₁.get? e = some oe := (hs₁.2.1 e hene).trans he
  have kb₁ : base.StaysIn h₁ := fun b o hbo => (hs₁.2.1 b fun hm => by rw [(hl.mem hm).1] at hbo; cases hbo).trans (hkb b o hbo)
  generalize hT : ({ cls := .type "traceback", dict := none, data := .fields ([head, .ref L, .none, rawInt L, .none] ++ (if pl.isEmpty then List.replicate 6 Value.none else pl)).toArray } : Obj) = oT
  have hTf : oT.isFreed = false := by rw [← hT]; rfl
  have hTd : ∃ ts, oT.data = .fields ts ∧ ts[3]? = some (rawInt L) := by
    rw [← hT]
    exact ⟨_, rfl, by rcases hpl with rfl | ⟨_, _, _, _, _, _, _, rfl⟩ <;> simp⟩
  have he₂ := Heap.get?_push_of_some (h := h₁) oT he₁
  have hd₃ := Obj.data_mapFields hd (·.setIfInBounds 1 (Value.ref h₁.objs.size))
  have he₃ := Heap.get?_update_self (Obj.mapFields (·.setIfInBounds 1 (Value.ref h₁.objs.size))) he₂ (Obj.isFreed_of_fields hd₃)
  have hTe : h₁.objs.size ≠ e := Nat.ne_of_gt (Heap.lt_size he₁)
  have keep : ∀ b o, b ≠ e → h₁.get? b = some o → ((h₁.push oT).update e (Obj.mapFields (·.setIfInBounds 1 (Value.ref h₁.objs.size)))).get? b = some o := fun b o hbe hb => by
    rw [Heap.get?_update_other _ _ (Ne.symm hbe)]
    exact Heap.get?_push_of_some _ hb
  have hT₃ : ((h₁.push oT).update e (Obj.mapFields (·.setIfInBounds 1 (Value.ref h₁.objs.size)))).get? h₁.objs.size = some oT := by
    rw [Heap.get?_update_other _ _ (Ne.symm hTe)]
    exact Heap.get?_push_size h₁ hTf
  have noRec : ∀ b o, s.heap.get? b = some o → (∀ vs, o.data ≠ .fields vs) → b ≠ e := fun b o hb hnf q => by
    rw [q, he] at hb; injection hb with hb; subst hb; exact hnf vs hd
  refine Classical.byContradiction fun ng9 => ?_
  obtain ⟨ts, hts, hts3⟩ := hTd
  refine ng9 ?_
  clear ng9
  refine wpAny_setField he₂ hd hsz (h _ ?_ ⟨_, _, he₃, hd₃, by rw [Array.getElem?_setIfInBounds_ne (by decide)]; exact h2⟩)
  refine ⟨fun b o hbo => keep b o (fun q => by rw [q, hen] at hbo; cases hbo) (kb₁ b o hbo), hl.of_keeps fun b o hb hnf => ?_, ?_, fun b o hb hnf => ?_⟩
  · obtain ⟨sl, hs⟩ := hs₁.2.2 b o hb
    exact ⟨_, keep b _ (noRec b o hb hnf) hs, rfl⟩
  · exact ⟨_, _, h₁.objs.size, oT, ts, he₃, ⟨Obj.cls_mapFields _ _, by rw [Array.getElem?_setIfInBounds_ne (by decide)]; exact h0⟩, hd₃, by simp [hsz], kb₁.fresh, hTe, hT₃, hts, hts3⟩
  · obtain ⟨sl, hs⟩ := hs₁.2.2 b o hb
    exact ⟨sl, keep b _ (noRec b o hb hnf) hs⟩
end
section
variable {prog : Program} {w : World} {A₀ : Around} {E : Value → Shared → Prop} {s' : Shared} {hb h : Heap} {L L' a e : Addr} {m : Str → Option Value} {name : Str} {scope : Scope} {cd : Value} {Q : Unit → Shared → Prop} {X : String} {env : Env} {new : List (Addr × Obj)} {oL : Obj}
theorem noted2 (hfr : A₀.frames = some [env]) (Fs : TI.Frs [env] [(L, oL)]) (hx : Heap.NewExc h s'.heap e X) (F : Fr hb L' h m) (N : News hb L' h (new ++ [(L, oL)])) (hne : TLg.AllNe L new)
    (k : ∀ h' sl, TI.Frs [env] [(L, { oL with slots := sl })] → TT.HeldN hb L' h' m e X (new ++ [(L, { oL with slots := sl })]) → NoCtx h' e → Q () { s' with heap := h' }) (hk : scope.kind = .function := by rfl) :
    wpAny (model prog w) (A₀.deeper (envOf name scope L' a cd)) (noteFrame (.ref e) (envOf name scope L' a cd)) Q E s' := by
  have hap : ∀ p ∈ new, p.1 ∉ L' :: [(L, oL)].map (·.1) := fun p hp hm => by
    rcases List.mem_cons.mp hm with q | hm
    · exact (N p (List.mem_append_left _ hp)).2.1 q
    · exact hne.mem p hp (List.mem_singleton.mp hm)
  refine Classical.byContradiction fun ng9 => ?_
  obtain ⟨ob, tp, he, hcls, hd⟩ := hx.there
  refine ng9 ?_
  clear ng9
  refine Classical.byContradiction fun ng9 => ?_
  obtain ⟨hff, hNs, frs₁, SU, ht⟩ := frames_at (name := name) (a := a) (cd := cd) (h' := s'.heap) (base := gone h (L' :: [(L, oL)].map (·.1))) hk Fs F N tail_sub (fun b o hb' => ⟨o.slots, hx.keeps b o hb'⟩) fun b hm => gone_none hm
  refine ng9 ?_
  clear ng9
  unfold noteFrame
  simp only [show (envOf name scope L' a cd).frame = some L' from rfl]
  refine wpAny_bind (wpAny_field he hd (x := .none) rfl ?_)
  rw [if_neg (by decide)]
  refine entry2 (a0 := tp) (Around.frames_deeper hfr) hff rfl he (fun b o eb => hx.keeps b o (gone_some eb).2) (TT.none_of (fun b o eb => (gone_some eb).2) hx.new) hd (by show 1 < 6; decide) rfl rfl fun h' hN hc => ?_
  obtain ⟨frs₂, SU₂, Fs₂, H⟩ := TLg.held_of_notedA (X := X) Fs F N hap hNs SU ht hx.new (by rw [← hcls]; exact hN)
  obtain ⟨sl, rfl⟩ := TLg.one_up SU₂
  exact k h' sl Fs₂ H hc
end
end Mine
end
section
open PySem PySem.W PyProof.Rows PySem.Calls PySem.Spec
set_option maxHeartbeats 4000000
namespace Mine
open TLg TI
theorem entry_unchain : entryFor table "proto.unchain" = some Builtin.«proto.unchain» := entryFor_of_tree (by kernel_rfl)
theorem plain_unchain : plainId "proto.unchain" = true := by decide +kernel
structure NewG (h h' : Heap) (e : Addr) (X : String) : Prop where
  keeps : ∀ b o, h.get? b = some o → h'.get? b = some o
  new : h.get? e = none
  there : ∃ ob vs tp, h'.get? e = some ob ∧ ob.cls = .type X ∧ ob.data = .fields vs ∧ vs[0]? = some tp ∧ vs[1]? = some Value.none ∧ 1 < vs.size
section
variable {prog : Program} {w : World} {A : Around} {E : Value → Shared → Prop} {s : Shared} {α : Type}
theorem unchain_none {e h : Addr} {Q : Value → Shared → Prop} (hc : NoCtx s.heap h) (hq : Q .none s) : wpAny (model prog w) A (runValue (.builtin "proto.unchain" ⟨[.ref e, .ref h, .ref h, .bool false], []⟩)) Q E s := by
  refine Classical.byContradiction fun ng9 => ?_
  obtain ⟨ob, ws, ho, hd, h2⟩ := hc
  refine ng9 ?_
  clear ng9
  refine wpAny_runValue (codeAny_builtin entry_unchain ?_)
  rw [Around.under_plainId plain_unchain _]
  unfold Builtin.«proto.unchain»
  dsimp only
  refine wpAny_bind (wpAny_field ho hd h2 ?_)
  rw [if_pos (show (Value.none == Value.none) = true from rfl)]
  exact wpAny_pure hq
theorem raise_new {e0 e : Addr} {vs : Array Value} {oe : Obj} {Q : α → Shared → Prop} (hh : A.handled = some (.ref e0)) (hne : e0 ≠ e) (hc : NoCtx s.heap e0) (he : s.heap.get? e = some oe) (hd : oe.data = .fields vs) (hsz : 2 < vs.size)
    (h : E (.ref e) { s with heap := s.heap.update e (Obj.mapFields (·.setIfInBounds 2 (.ref e0))) }) : wpAny (model prog w) A (raiseNew (.ref e) : Sem α) Q E s := by
  unfold raiseNew
  refine wpAny_bind (wpAny_handled ?_)
  rw [hh]
  dsimp only
  have hb : (Value.ref e0 != Value.ref e) = true := by simpa using hne
  rw [if_pos hb]
  refine wpAny_bind (wpAny_holding (unchain_none hc ?_))
  show wpAny _ _ (setField (.ref e) 2 (.ref e0) >>= _) _ _ _
  exact wpAny_bind (wpAny_setField he hd hsz (wpAny_throw h))
theorem raise_words {cls msg : String} {e0 : Addr} {Q : α → Shared → Prop} (hp : PlainExc cls) (hh : A.handled = some (.ref e0)) (hc : NoCtx s.heap e0)
    (h : ∀ h' tk e, NewG s.heap h' e cls → E (.ref e) { s with heap := h', toks := tk }) : wpAny (model prog w) A (raiseErrorWords cls msg : Sem α) Q E s := by
  unfold raiseErrorWords
  refine wpAny_bind (wpAny_mkText (wpAny_bind ?_))
  unfold newExc newTuple
  refine wpAny_bind (wpAny_newObj_type ?_)
  refine wpAny_bind (m := firstArgMember _ _) (wpAny_of_eq (a := Value.none) (by simp only [firstArgMember, hp.first]; rfl) ?_)
  rw [hp.own]
  refine wpAny_newObj_type ?_
  refine Classical.byContradiction fun ng9 => ?_
  obtain ⟨ob, ws, ho, hd, h2⟩ := hc
  refine ng9 ?_
  clear ng9
  have lt0 := Heap.lt_size ho
  refine raise_new hh (Nat.ne_of_lt (by rw [Heap.size_push]; exact Nat.lt_succ_of_lt lt0)) ⟨ob, ws, Heap.get?_push_of_some _ (Heap.get?_push_of_some _ ho), hd, h2⟩ (Heap.get?_push_size _ rfl) rfl (by show 2 < 6; decide) ?_
  refine h _ _ _ ⟨fun b o e => ?_, ?_, ?_⟩
  · have hb := Heap.lt_size e
    rw [Heap.get?_update_other _ _ (fun q => by rw [← q, Heap.size_push] at hb; exact absurd hb (Nat.not_lt.mpr (Nat.le_succ _)))]
    exact Heap.get?_push_of_some _ (Heap.get?_push_of_some _ e)
  · exact Heap.get?_none_of_le (by rw [Heap.size_push]; exact Nat.le_succ _)
  · exact ⟨_, _, _, Heap.get?_update_self _ (Heap.get?_push_size _ rfl) rfl, rfl, rfl, rfl, rfl, by show 1 < 6; decide⟩
theorem raise_made {cls msg : String} {e0 : Addr} {Q : α → Shared → Prop} (hp : PlainExc cls) (hh : A.handled = some (.ref e0)) (hc : NoCtx s.heap e0)
    (h : ∀ h' tk e, NewG s.heap h' e cls → E (.ref e) { s with heap := h', toks := tk }) (hm : (msg : Str).length ≤ sizeLine) : wpAny (model prog w) A (raiseErrorMade cls msg : Sem α) Q E s := by
  unfold raiseErrorMade
  refine wpAny_bind (wpAny_mkStr (wpAny_bind ?_) hm)
  unfold newExc newTuple
  refine wpAny_bind (wpAny_newObj_type ?_)
  refine wpAny_bind (m := firstArgMember _ _) (wpAny_of_eq (a := Value.none) (by simp only [firstArgMember, hp.first]; rfl) ?_)
  rw [hp.own]
  refine wpAny_newObj_type ?_
  refine Classical.byContradiction fun ng9 => ?_
  obtain ⟨ob, ws, ho, hd, h2⟩ := hc
  refine ng9 ?_
  clear ng9
  have lt0 := Heap.lt_size ho
  refine raise_new hh (Nat.ne_of_lt (by rw [Heap.size_push]; exact Nat.lt_succ_of_lt lt0)) ⟨ob, ws, Heap.get?_push_of_some _ (Heap.get?_push_of_some _ ho), hd, h2⟩ (Heap.get?_push_size _ rfl) rfl (by show 2 < 6; decide) ?_
  refine h _ _ _ ⟨fun b o e => ?_, ?_, ?_⟩
  · have hb := Heap.lt_size e
    rw [Heap.get?_update_other _ _ (fun q => by rw [← q, Heap.size_push] at hb; exact absurd hb (Nat.not_lt.mpr (Nat.le_succ _)))]
    exact Heap.get?_push_of_some _ (Heap.get?_push_of_some _ e)
  · exact Heap.get?_none_of_le (by rw [Heap.size_push]; exact Nat.le_succ _)
  · exact ⟨_, _, _, Heap.get?_update_self _ (Heap.get?_push_size _ rfl) rfl, rfl, rfl, rfl, rfl, by show 1 < 6; decide⟩
theorem item_outC :
 ∀ {prog : Program} {w : World} {A : Around} {E : Value → Shared → Prop} {s : Shared} {value slice : PySem.Expr} {l e0 : Addr} {items : Array Value} {k : Int} {u : Tok} {Q : Value → Shared → Prop}
 (hh : A.handled = some (.ref e0)) (hc : NoCtx s.heap e0) (hl : s.heap.IsList l items) (h0 : 0 ≤ k) (hout : (items.size : Int) ≤ k) (hhi : k < 2 ^ 63) (hE : ∀ h' tk e, NewG s.heap h' e "IndexError" → E (.ref e) { s with heap := h', toks := tk }) (hs : subscripted slice false (.ref l) (.int k u) = operate [.ref l, .int k u] (getItem (.ref l) (.int k u)) := by with_unfolding_all rfl), wpAny (model prog w) A (subscriptTail value slice (.ref l) (.int k u)) Q E s := by
  iterate 3 refine @Mine.pad _ ?_
  iterate 1 k_extra "pkG"
  iterate 8 k_extra "pk9"
  rename_i prog w A E s value slice l e0 items k u Q hh hc hl h0 hout hhi hE hs
  refine tail_any hl.typeIs slot_list_getitem.lookup ?_ hs
  refine Classical.byContradiction fun ng9 => ?_
  obtain ⟨o, ho, hc', ne, hd⟩ := id hl
  refine ng9 ?_
  clear ng9
  unfold getItem
  try with_reducible refine wpAny_holding ?_
  first | refine wpAny_bind (wpAny_pure ?_) | skip
  refine wpAny_bind (wpAny_sequenceKey hl.typeIs (by decide) ?_)
  refine wpAny_bind (wpAny_callSpecial?_slot (name := Str.ofString "__getitem__") hl.typeIs slot_list_getitem (wpAny_call_entry slot_list_getitem hl.typeIs entry_list_getitem ?_ (args_list_getitem _ _)))
  show wpAny _ _ (Builtin.List.listSubscript? (.int k u) >>= _) _ _ s
  refine wpAny_bind (wpAny_listSubscript_int (fitsIndex_both (by omega) hhi) ?_)
  obtain ⟨j, rfl⟩ : ∃ j : Nat, k = Int.ofNat j := ⟨k.toNat, by simp only [Int.ofNat_eq_natCast]; omega⟩
  have hx : items[j]? = none := Array.getElem?_eq_none (by simp only [Int.ofNat_eq_natCast] at hout; omega)
  clear hhi h0 hout
  show wpAny _ _ ((seqItemAt l j >>= fun r => pure (r.map (j, ·))) >>= _) _ _ s
  refine wpAny_bind (wpAny_bind (wpAny_seqItemAt ho hd (wpAny_pure ?_)))
  rw [hx]
  have hh1 : A.in1.handled = some (.ref e0) := by simpa using hh
  exact wpAny_bind (wpAny_rule (wpAny_bind (raise_words plainExc_IndexError hh1 hc hE)))
end
section
variable {prog : Program} {w : World} {A₀ : Around} {E : Value → Shared → Prop} {s' : Shared} {hb h : Heap} {L L' a e : Addr} {m : Str → Option Value} {name : Str} {scope : Scope} {cd : Value} {Q : Unit → Shared → Prop} {X : String} {env : Env} {new : List (Addr × Obj)} {oL : Obj}
theorem notedG :
 ∀ {prog : Program} {w : World} {A₀ : Around} {E : Value → Shared → Prop} {s' : Shared} {hb : Heap} {h : Heap} {L : Addr} {L' : Addr} {a : Addr} {e : Addr} {m : Str → Option Value} {name : Str} {scope : Scope} {cd : Value} {Q : Unit → Shared → Prop} {X : String} {env : Env} {new : List (Addr × Obj)} {oL : Obj}
 (hfr : A₀.frames = some [env]) (Fs : TI.Frs [env] [(L, oL)]) (hx : NewG h s'.heap e X) (F : Fr hb L' h m) (N : News hb L' h (new ++ [(L, oL)])) (hne : TLg.AllNe L new) (k : ∀ h' sl, TI.Frs [env] [(L, { oL with slots := sl })] → TT.HeldN hb L' h' m e X (new ++ [(L, { oL with slots := sl })]) → Q () { s' with heap := h' }) (hk : scope.kind = .function := by rfl), wpAny (model prog w) (A₀.deeper (envOf name scope L' a cd)) (noteFrame (.ref e) (envOf name scope L' a cd)) Q E s' := by
  iterate 12 refine @Mine.pad _ ?_
  iterate 2 k_extra "pkG"
  iterate 8 k_extra "pk9"
  rename_i prog w A₀ E s' hb h L L' a e m name scope cd Q X env new oL hfr Fs hx F N hne k hk
  have hap : ∀ p ∈ new, p.1 ∉ L' :: [(L, oL)].map (·.1) := fun p hp hm => by
    rcases List.mem_cons.mp hm with q | hm
    · exact (N p (List.mem_append_left _ hp)).2.1 q
    · exact hne.mem p hp (List.mem_singleton.mp hm)
  refine Classical.byContradiction fun ng9 => ?_
  obtain ⟨ob, vs, tp, he, hcls, hd, h0, h1, hsz⟩ := hx.there
  refine ng9 ?_
  clear ng9
  refine Classical.byContradiction fun ng9 => ?_
  obtain ⟨hff, hNs, frs₁, SU, ht⟩ := frames_at (name := name) (a := a) (cd := cd) (h' := s'.heap) (base := gone h (L' :: [(L, oL)].map (·.1))) hk Fs F N tail_sub (fun b o hb' => ⟨o.slots, hx.keeps b o hb'⟩) fun b hm => gone_none hm
  refine ng9 ?_
  clear ng9
  unfold noteFrame
  simp only [show (envOf name scope L' a cd).frame = some L' from rfl]
  refine wpAny_bind (wpAny_field he hd (x := .none) h1 ?_)
  rw [if_neg (by decide)]
  refine wpAny_entryW (a0 := tp) (Around.frames_deeper hfr) hff rfl he (fun b o eb => hx.keeps b o (gone_some eb).2) (TT.none_of (fun b o eb => (gone_some eb).2) hx.new) hd hsz h0 fun h' hN => ?_
  obtain ⟨frs₂, SU₂, Fs₂, H⟩ := TLg.held_of_notedA (X := X) Fs F N hap hNs SU ht hx.new (by rw [← hcls]; exact hN)
  obtain ⟨sl, rfl⟩ := TLg.one_up SU₂
  exact k h' sl Fs₂ H
end
end Mine
end
open PySem PySem.W PyProof.Rows in
example : Mine.RS := by intro M A Q E s h; w_top off; first | walk1 | skip; all_goals first | exact h | exact wpAny_pure h
section
set_option maxHeartbeats 8000000
local macro_rules | `(tactic| walk_at "execs cons") => `(tactic| (refine wpAny_execs_cons ?_; (try dsimp only); (try k_fold)))
namespace Mine
theorem intsAre_of : ∀ {ys : List Value}, (∀ (i : Nat) (y : Value), ys[i]? = some y → ∃ z t, y = Value.int z t ∧ 0 ≤ z ∧ z < 1000000) → ∃ zs : List Int, IntsAre ys zs ∧ zs.length = ys.length ∧ ∀ z ∈ zs, 0 ≤ z ∧ z < 1000000
  | [], _ => ⟨[], .nil, rfl, fun _ h => nomatch h⟩
  | y :: ys, h => by
    refine Classical.byContradiction fun ng9 => ?_
    obtain ⟨z, t, rfl, h1, h2⟩ := h 0 y (by simp)
    refine ng9 ?_
    clear ng9
    refine Classical.byContradiction fun ng9 => ?_
    obtain ⟨zs, a, b, c⟩ := intsAre_of (ys := ys) fun i w e => h (i + 1) w (by simpa using e)
    refine ng9 ?_
    clear ng9
    refine ⟨z :: zs, .cons z t a, by simp [b], fun x hx => ?_⟩
    rcases List.mem_cons.mp hx with rfl | hx
    · exact ⟨h1, h2⟩
    · exact c x hx
theorem sum_bound : ∀ {zs : List Int}, (∀ z ∈ zs, 0 ≤ z ∧ z < 1000000) → 0 ≤ zs.sum ∧ zs.sum ≤ 1000000 * zs.length
  | [], _ => by simp
  | z :: zs, h => by
    have h1 := h z (.head _)
    have h2 := sum_bound (zs := zs) fun x hx => h x (.tail _ hx)
    rw [List.sum_cons, List.length_cons]
    omega
theorem starts_bd {j : Nat} (hj : j < 7) : 0 ≤ ([20, 100, 244, 3, 172, 328, 405] : List Int).getD j 0 ∧ ([20, 100, 244, 3, 172, 328, 405] : List Int).getD j 0 ≤ 405 := by
  exact (by decide : ∀ j : Fin 7, 0 ≤ ([20, 100, 244, 3, 172, 328, 405] : List Int).getD j.1 0 ∧ ([20, 100, 244, 3, 172, 328, 405] : List Int).getD j.1 0 ≤ 405) ⟨j, hj⟩
theorem ints_getV {vs : List Value} {ns : List Int} (h : IntsAre vs ns) {i : Nat} {v : Value} (e : vs[i]? = some v) : ∃ x t, v = Value.int x t ∧ ns[i]? = some x := by
  induction h generalizing i with
  | nil => simp at e
  | cons y t _ ih =>
    cases i with
    | zero => simp at e; exact ⟨y, t, e.symm, by simp⟩
    | succ i => simp at e; simpa using ih e
theorem c_dealt :
 ∀ {w : World} {p : Program} {loose : List Str} {mean : ExcName → Option Value} {mg mb : Str → Option Value} {dp un : Nat} {gd : Option (List Code)} {outer : List Env} {A₀ : Around} {base h₀ : Heap} {g : Array GenState} {d : Drawn} {t : Nat} {os : OsState} {Q E : Value → Shared → Prop} {l1 l2 : Addr} {vs : List Value} {ns : List Int} {u0 u1 u2 u3 u4 u5 u6 : Tok} {n2 : Nat}
 (B : Below A₀ base outer h₀) (X : (hd.heap_1 w.params).In h₀) (T : Top p loose mean mg mb h₀) (hdp : dp + 20 < recursionLimit) (hu : un + 200 < cLine) (hl : h₀.IsList l1 vs.toArray) (hi : IntsAre vs ns) (hlen : ns.length ≤ 63) (hst : h₀.get? l2 = some (listOf #[.int 20 u0, .int 100 u1, .int 244 u2, .int 3 u3, .int 172 u4, .int 328 u5, .int 405 u6] n2)) (hret : ∀ D ys h' tk', (∀ b x, h₀.get? b = some x → h'.get? b = some x) → h'.get? D = some (LCg.lst ys) → h₀.get? D = none → ys.length = 7 → (∀ (i : Nat) (y : Value), ys[i]? = some y → ∃ z t, y = Value.int z t ∧ 0 ≤ z ∧ z < 10000000000) → Q (.ref D) ⟨h', g, d, tk', os⟩), wpAny (model PySem.Challenge.rw_of0013_01.prog w) (aTop dp un gd outer) (call (.ref 109) [.ref l1, .ref l2]) Q E ⟨h₀, g, d, t, os⟩ := by
  iterate 1 refine @Mine.pad _ ?_
  iterate 2 k_extra "pkG"
  iterate 10 k_extra "pk9"
  rename_i w p loose mean mg mb dp un gd outer A₀ base h₀ g d t os Q E l1 l2 vs ns u0 u1 u2 u3 u4 u5 u6 n2 B X T hdp hu hl hi hlen hst hret
  have hst2 : h₀.IsList l2 #[.int 20 u0, .int 100 u1, .int 244 u2, .int 3 u3, .int 172 u4, .int 328 u5, .int 405 u6] := ⟨_, hst, rfl, _, rfl⟩
  revert X; k_fill; intro X
  (refine wpAny_call ?_; k_dflt (first | (refine' Mine.enterP ?k3 ?k5 ?k6 ?k7 ?k8 ?k9 ?kB ?_ ?c2 ?c3 ?c4 ?c5; (case k3 => k_asm); (case k5 => k_asm); (case k6 => k_is); (case k7 => k_is); (case k8 => ktr_room); (case k9 => first | exact BindsTo.of_eq rfl | exact binds_K (by k_in) rfl (by k_is) rfl rfl rfl); (case c5 => decide); (case kB => exact locs rfl); (case c2 => exact rfl); (case c3 => exact rfl); (case c4 => exact rfl); k_whole; (iterate 2 (k_extra "pk9")); intro F9e N9e; (try dsimp only); (try k_fold)) | (refine' Mine.enterPC ?k3 ?k5 ?k6 ?k7 ?k8 ?k9 ?kB ?kD ?_ ?c2 ?c3 ?c4; (case k3 => k_asm); (case k5 => k_asm); (case k6 => k_is); (case k7 => k_is); (case k8 => ktr_room); (case k9 => first | exact BindsTo.of_eq rfl | exact binds_K (by k_in) rfl (by k_is) rfl rfl rfl); (case kB => exact rfl); (case kD => decide +kernel); (case c2 => exact rfl); (case c3 => exact rfl); (case c4 => exact rfl); k_whole; (iterate 4 (k_extra "pk9")); intro F9e N9e Y9e; k_cells Y9e; (try simp only [List.cons_append, List.nil_append] at N9e); (try dsimp only); (try k_fold))))
  repeat ((fail_if_success (with_reducible show LCg.CompSrc _ _ _ _ _ _ _ _ _ _ _ _ _ _)); (first | ((with_reducible show wpAny _ _ (eval (PySem.Expr.ListComp _ _ _ _) _) _ _ _); (k_here; k_dflt (refine LCg.ListComp_U (F₀ := by k_asm) (by with_unfolding_all rfl) (by decide) (by rfl) (by decide) (by rfl) ?_))) | walk1 | (dsimp only; walk1)))
  k_dflt (refine' LCg.CompSrc.range (n := 7) ?k0 ?k1 ?k2 ?k3 ?k4 ?k5 ?k6 ?_; (case k0 => rfl); (case k1 => k_asm); (case k2 => k_asm); (case k3 => assumption); (case k4 => decide); (case k5 => rfl); (case k6 => rw [PySem.sizeLine_eq]; omega))
  intro g'
  refine cr_map (fun i y => ∃ z t, y = Value.int z t ∧ 0 ≤ z ∧ z < 10000000000) ?_ ?_
  · intro i v I oI C oC D m₂ ys h tk E' hi7 hv hC hx F' N' off ne
    obtain ⟨t', rfl⟩ := hv
    simp only [LCg.Off3] at off
    repeat ((fail_if_success (with_reducible show LCg.CompSrc _ _ _ _ _ _ _ _ _ _ _ _ _ _)); (first | ((with_reducible show wpAny _ _ (eval (PySem.Expr.ListComp _ _ _ _) _) _ _ _); (k_here; k_dflt (refine LCg.ListComp_U (F₀ := by k_asm) (by with_unfolding_all rfl) (by decide) (by rfl) (by decide) (by rfl) ?_))) | walk1 | (dsimp only; walk1)))
    k_dflt (refine' LCg.CompSrc.ledger ?k0 ?k1 ?k2 ?k3 ?k4 ?_; (case k0 => rfl); (case k1 => k_asm); (case k2 => k_asm); (case k3 => k_mem); (case k4 => (rw [PySem.sizeLine_eq]; exact Nat.le_trans (slicePick_size_le _ _ _ _) (by rw [List.size_toArray, hi.length]; omega))))
    intro g9
    refine cr_map (fun i y => ∃ z t, y = Value.int z t ∧ 0 ≤ z ∧ z < 1000000) ?_ ?_
    · intro i2 v2 I2 oI2 C2 oC2 D2 m2 ys2 h2 tk2 E2 hi2 hv2 hC2 hx2 F2 N2 off2 ne2
      refine Classical.byContradiction fun ng9 => ?_
      obtain ⟨z, tz, rfl, hz⟩ := ints_getV (hi.pick _ _ _) (by simpa using hv2)
      refine ng9 ?_
      clear ng9
      k_steps
      refine LCg.CompEnd.intro (by k_asm) (by k_asm) _ (fun p hp => hp) ?o ?s ?r
      (case o => assumption)
      (case s => exact Or.inr ⟨{ cls := .type "list", data := .seq _ 0 }, (by k_mem), rfl, 0, rfl⟩)
      (case r => exact ⟨rfl, _, _, rfl, Int.fmod_nonneg_of_pos _ (by decide), Int.fmod_lt_of_pos _ (by decide)⟩)
    · intro ys2 hyl2 hy2
      refine Classical.byContradiction fun ng9 => ?_
      obtain ⟨zs, hzs, hzl, hzb⟩ := intsAre_of hy2
      refine ng9 ?_
      clear ng9
      have hsb := sum_bound hzb
      have hz63 : zs.length ≤ 63 := by
        rw [hzl, hyl2]
        exact Nat.le_trans (slicePick_size_le _ _ _ _) (by rw [List.size_toArray, hi.length]; omega)
      k_steps
      refine LCg.CompEnd.intro (by k_asm) (by k_asm) _ (fun p hp => .tail _ (.tail _ hp)) ?o ?s ?r
      (case o => (simp only [LCg.Off3]; assumption))
      (case s => trivial)
      (case r => (have hb9 := starts_bd (j := (0 + (i : Int)).toNat) (by omega); refine ⟨rfl, _, _, rfl, ?_, ?_⟩ <;> omega))
  · intro ys hyl hy
    k_steps
    (with_reducible rename Fr _ _ _ _ => F9); (with_reducible rename News _ _ _ _ => N9)
    exact hret _ _ _ _ F9.keep (N9 _ (.head _)).1 (N9 _ (.head _)).2.2 hyl hy
theorem f_dealt {w : World} {p : Program} {loose : List Str} {mean : ExcName → Option Value} {mg mb : Str → Option Value} {dp un : Nat} {gd : Option (List Code)} {env : Env} {outer : List Env} {A₀ : Around} {base h₀ : Heap} {L : Addr} {m : Str → Option Value} {s : Shared} {Q E : Value → Shared → Prop} {news : List (Addr × Obj)}
   (B : Below A₀ base outer h₀) (F : Fr h₀ L s.heap m) (X : (hd.heap_1 w.params).In h₀) (N : News h₀ L s.heap news) (T : Top p loose mean mg mb h₀) (hf : env.frame = some L) (hke : env.scope.kind = .function) (hdp : dp + 20 < recursionLimit) (hu : un + 200 < cLine) {l1 l2 : Addr} {vs : List Value} {ns : List Int} (hl : s.heap.IsList l1 vs.toArray) (hi : IntsAre vs ns) (hlen : ns.length ≤ 63) {u0 u1 u2 u3 u4 u5 u6 : Tok} {n2 : Nat} (hst : s.heap.get? l2 = some (listOf #[.int 20 u0, .int 100 u1, .int 244 u2, .int 3 u3, .int 172 u4, .int 328 u5, .int 405 u6] n2))
   (hret : ∀ D ys h' tk', Fr h₀ L h' m → News h₀ L h' ((D, LCg.lst ys) :: news) → LCg.Off1 D news → ys.length = 7 → (∀ (i : Nat) (y : Value), ys[i]? = some y → ∃ z t, y = Value.int z t ∧ 0 ≤ z ∧ z < 10000000000) → Q (.ref D) { s with heap := h', toks := tk' }) :
   wpAny (model PySem.Challenge.rw_of0013_01.prog w) (aTop dp un gd (env :: outer)) (call (.ref 109) [.ref l1, .ref l2]) Q E s :=
  c_dealt (pushX B F hf hke) (X.keeps F.keep) (T.keeps F.keep) hdp hu hl hi hlen hst fun D ys h' tk' k hD hn h1 h2 => hret D ys h' tk' (F.keeps k) (nw_add F N k hD hn) (nw_off N hn) h1 h2
end Mine
end
open PySem PySem.W PyProof.Rows in
example : Mine.RS := by intro M A Q E s h; w_top off; first | walk1 | skip; all_goals first | exact h | exact wpAny_pure h
section
set_option maxHeartbeats 8000000
namespace Mine
open PySem.W.X
noncomputable abbrev hX (P : Params) (x : Str) : Int := condFn Int x.cps.isEmpty 0 (PySem.W.XFast.xw12210062019545310541 (P.strHash x.cps))
noncomputable abbrev kE (P : Params) (n : Str) (t : Tok) (v : Value) : DictEntry := ⟨hX P n, .str n t, v⟩
noncomputable abbrev nsK (P : Params) (t : Nat) (sl fi fl fg fe fle fge st md : Addr) : Obj :=
  { cls := .type "dict", data := .dict #[kE P (Str.ofString "__module__") (t + 8) (.str (Str.ofString "cpy313.functools") (t + 13)), kE P (Str.ofString "__firstlineno__") (t + 12) (.int 7 (t + 11)), kE P (Str.ofString "__slots__") (t + 16) (.ref sl), kE P (Str.ofString "__init__") (t + 24) (.ref fi),
    kE P (Str.ofString "__lt__") (t + 33) (.ref fl), kE P (Str.ofString "__gt__") (t + 42) (.ref fg), kE P (Str.ofString "__eq__") (t + 51) (.ref fe), kE P (Str.ofString "__le__") (t + 60) (.ref fle), kE P (Str.ofString "__ge__") (t + 69) (.ref fge), kE P (Str.ofString "__hash__") (t + 70) .none,
    kE P (Str.ofString "__static_attributes__") (t + 72) (.ref st), kE P (Str.ofString "obj") (t + 74) (.ref md), kE P (Str.ofString "__doc__") (t + 75) .none] 3 }
noncomputable abbrev clsK (t : Nat) (Kc ns bt : Addr) : Obj :=
  { cls := .type "type", data := .cls { name := Str.ofString "K", bases := [.type "object"], mro := [.ref Kc, .type "object"], ns := ns, qualname := Str.ofString "cmp_to_key.<locals>.K", hasDict := false, slotNames := [Str.ofString "obj"] },
    slots := #[some (.ref bt), none, some (.str (Str.ofString "K") t), some (.str (Str.ofString "cmp_to_key.<locals>.K") (t + 9)), some (.builtin "object.__new__"), some (.bool false)] }
noncomputable abbrev mdK (t : Nat) (Kc : Addr) : Obj := { cls := .type "member_descriptor", data := .fields #[.str (Str.ofString "obj") (t + 73), .ref Kc, .builtin "proto.slot", .builtin "proto.slot#set", .int 0 0] }
noncomputable abbrev cellK : Obj := { cls := .type "cell", data := .cell (some (.ref 128)) }
noncomputable def kBody (P : Params) : List Stmt := match (hd.heap_1 P).lookup (nat_lit 28) with
  | some o => (match o.data with
    | .func fd => (match fd.body with
      | .stmts (.ClassDef _ _ _ b _ _ _ _ _ _ _ :: _) => b
      | _ => [])
    | _ => [])
  | none => []
noncomputable def kArgs (P : Params) (i : Nat) : Arguments := match (kBody P)[i]? with
  | some (.FunctionDef _ a _ _ _ _ _ _ _ _) => a
  | _ => default
noncomputable def kStmts (P : Params) (i : Nat) : List Stmt := match (kBody P)[i]? with
  | some (.FunctionDef _ _ b _ _ _ _ _ _ _) => b
  | _ => default
noncomputable def kScope (P : Params) (i : Nat) : Scope := match (kBody P)[i]? with
  | some (.FunctionDef _ _ _ _ _ _ s _ _ _) => s
  | _ => default
noncomputable abbrev fnK (P : Params) (i : Nat) (nm qn : Str) (cl : List (Str × Addr)) (code : Addr) (ct : Value) : Obj :=
  { cls := .type "function", data := .func { name := nm, qualname := qn, params := kArgs P i, body := .stmts (kStmts P i), scope := kScope P i, globals := nat_lit 3, closure := cl, defaults := .none, kwdefaults := .none, pyModule := .str (Str.ofString "law_of0013_01") 329, code := .ref code, closureTuple := ct } }
noncomputable abbrev codeK (t k ln : Nat) (nm qn : Str) (a b c d e : Addr) (u : Nat) : Obj :=
  { cls := .type "code", data := .fields #[.str nm (t + k), .str qn (t + k + 1), .str (Str.ofString "/claim/cut.py") (t + k + 2), .int ln 0, .int 2 0, .int 0 0, .int 0 0, .int 19 0, .ref a, .bool true, .int 181 0, .ref b, .none, .ref c, .ref d, .ref e, .int ((t + u : Nat) : Int) 0, .int ln 0, .str (Str.ofString "/claim/cut.py") (t + u + 1)] }
structure IsK (w : World) (h : Heap) (t : Nat) (Kc ns bt sl fi fl fg fe fle fge st md ci cl cell q1 q2 q3 q4 q5 q6 r1 r2 r3 r4 r5 : Addr) : Prop where
  hK : h.get? Kc = some (clsK t Kc ns bt)
  hns : h.get? ns = some (nsK w.params t sl fi fl fg fe fle fge st md)
  hmd : h.get? md = some (mdK t Kc)
  hfl : h.get? fl = some (fnK w.params 3 (Str.ofString "__lt__") (Str.ofString "cmp_to_key.<locals>.K.__lt__") [(Str.ofString "mycmp", cell)] cl (.ref q6))
  hcl : h.get? cl = some (codeK t 25 14 (Str.ofString "__lt__") (Str.ofString "cmp_to_key.<locals>.K.__lt__") q1 q2 q3 q4 q5 31)
  hfi : h.get? fi = some (fnK w.params 2 (Str.ofString "__init__") (Str.ofString "cmp_to_key.<locals>.K.__init__") [] ci .none)
  hci : h.get? ci = some (codeK t 17 11 (Str.ofString "__init__") (Str.ofString "cmp_to_key.<locals>.K.__init__") r1 r2 r3 r4 r5 22)
  hcell : h.get? cell = some cellK
theorem key_fin {w : World} {h₀ h : Heap} {g : Array GenState} {d : Drawn} {t tk : Nat} {os : OsState} {Q : Value → Shared → Prop} {ps : Array Value} {a0 a1 a2 a3 a4 a5 a6 a7 a8 a9 a10 a11 a12 a13 a14 a15 a16 a17 a18 a19 a20 a21 a22 a23 a24 a25 a26 a27 a28 a29 a30 a31 a32 a33 a34 a35 a36 a37 a38 a39 a40 a41 a42 a43 a44 a45 a46 a47 a48 a49 a50 a51 a52 a53 a54 a55 a56 a57 a58 a59 a60 a61 a62 a63 : Addr} {o0 o1 o2 o3 o4 o5 o6 o7 o8 o9 o10 o11 o12 o13 o14 o15 o16 o17 o18 o19 o20 o21 o22 o23 o24 o25 o26 o27 o28 o29 o30 o31 o32 o33 o34 o35 o36 o37 o38 o39 o40 o41 o42 o43 o44 o45 o46 o47 o48 o49 o50 o51 o52 o53 o54 o55 o56 o57 o58 o59 o60 o61 o62 o63 : Obj}
   (hret : ∀ Kc ns bt sl fi fl fg fe fle fge st md ci cl cell q1 q2 q3 q4 q5 q6 r1 r2 r3 r4 r5 h' tk' ps, (∀ b o, h₀.get? b = some o → b ≠ nat_lit 23 → h'.get? b = some o) → h'.get? (nat_lit 23) = some (tabObj ps) → (∀ b ∈ [Kc, ns, md, fl, cl, fi, ci, cell], h₀.get? b = none) →
      IsK w h' t Kc ns bt sl fi fl fg fe fle fge st md ci cl cell q1 q2 q3 q4 q5 q6 r1 r2 r3 r4 r5 → Q (.ref Kc) ⟨h', g, d, tk', os⟩)
   (D : Mem h₀ h [(nat_lit 23, tabObj ps)] [(a0, o0), (a1, o1), (a2, o2), (a3, o3), (a4, o4), (a5, o5), (a6, o6), (a7, o7), (a8, o8), (a9, o9), (a10, o10), (a11, o11), (a12, o12), (a13, o13), (a14, o14), (a15, o15), (a16, o16), (a17, o17), (a18, o18), (a19, o19), (a20, o20), (a21, o21), (a22, o22), (a23, o23), (a24, o24), (a25, o25), (a26, o26), (a27, o27), (a28, o28), (a29, o29), (a30, o30), (a31, o31), (a32, o32), (a33, o33), (a34, o34), (a35, o35), (a36, o36), (a37, o37), (a38, o38), (a39, o39), (a40, o40), (a41, o41), (a42, o42), (a43, o43), (a44, o44), (a45, o45), (a46, o46), (a47, o47), (a48, o48), (a49, o49), (a50, o50), (a51, o51), (a52, o52), (a53, o53), (a54, o54), (a55, o55), (a56, o56), (a57, o57), (a58, o58), (a59, o59), (a60, o60), (a61, o61), (a62, o62), (a63, o63)])
   (e2 : o2 = mdK t a3) (e3 : o3 = clsK t a3 a4 a61) (e4 : o4 = nsK w.params t a54 a47 a39 a31 a23 a15 a7 a6 a2) (e39 : o39 = fnK w.params 3 (Str.ofString "__lt__") (Str.ofString "cmp_to_key.<locals>.K.__lt__") [(Str.ofString "mycmp", a62)] a40 (.ref a46)) (e40 : o40 = codeK t 25 14 (Str.ofString "__lt__") (Str.ofString "cmp_to_key.<locals>.K.__lt__") a45 a44 a43 a42 a41 31) (e47 : o47 = fnK w.params 2 (Str.ofString "__init__") (Str.ofString "cmp_to_key.<locals>.K.__init__") [] a48 .none) (e48 : o48 = codeK t 17 11 (Str.ofString "__init__") (Str.ofString "cmp_to_key.<locals>.K.__init__") a53 a52 a51 a50 a49 22) (e62 : o62 = cellK) : Q (.ref a3) ⟨h, g, d, tk, os⟩ := by
  have at' : ∀ i a o, [(a0, o0), (a1, o1), (a2, o2), (a3, o3), (a4, o4), (a5, o5), (a6, o6), (a7, o7), (a8, o8), (a9, o9), (a10, o10), (a11, o11), (a12, o12), (a13, o13), (a14, o14), (a15, o15), (a16, o16), (a17, o17), (a18, o18), (a19, o19), (a20, o20), (a21, o21), (a22, o22), (a23, o23), (a24, o24), (a25, o25), (a26, o26), (a27, o27), (a28, o28), (a29, o29), (a30, o30), (a31, o31), (a32, o32), (a33, o33), (a34, o34), (a35, o35), (a36, o36), (a37, o37), (a38, o38), (a39, o39), (a40, o40), (a41, o41), (a42, o42), (a43, o43), (a44, o44), (a45, o45), (a46, o46), (a47, o47), (a48, o48), (a49, o49), (a50, o50), (a51, o51), (a52, o52), (a53, o53), (a54, o54), (a55, o55), (a56, o56), (a57, o57), (a58, o58), (a59, o59), (a60, o60), (a61, o61), (a62, o62), (a63, o63)][i]? = some (a, o) → h.get? a = some o := fun i a o e => Mem.at D i a o e
  have nw : ∀ i a o, [(a0, o0), (a1, o1), (a2, o2), (a3, o3), (a4, o4), (a5, o5), (a6, o6), (a7, o7), (a8, o8), (a9, o9), (a10, o10), (a11, o11), (a12, o12), (a13, o13), (a14, o14), (a15, o15), (a16, o16), (a17, o17), (a18, o18), (a19, o19), (a20, o20), (a21, o21), (a22, o22), (a23, o23), (a24, o24), (a25, o25), (a26, o26), (a27, o27), (a28, o28), (a29, o29), (a30, o30), (a31, o31), (a32, o32), (a33, o33), (a34, o34), (a35, o35), (a36, o36), (a37, o37), (a38, o38), (a39, o39), (a40, o40), (a41, o41), (a42, o42), (a43, o43), (a44, o44), (a45, o45), (a46, o46), (a47, o47), (a48, o48), (a49, o49), (a50, o50), (a51, o51), (a52, o52), (a53, o53), (a54, o54), (a55, o55), (a56, o56), (a57, o57), (a58, o58), (a59, o59), (a60, o60), (a61, o61), (a62, o62), (a63, o63)][i]? = some (a, o) → h₀.get? a = none := fun i a o e => (D.nw _ (List.mem_of_getElem? e)).2
  refine hret a3 a4 a61 a54 a47 a39 a31 a23 a15 a7 a6 a2 a48 a40 a62 a45 a44 a43 a42 a41 a46 a53 a52 a51 a50 a49 h tk ps (fun b o e hb => D.keep b o e ?_) (Mem.atC D 0 _ _ rfl) ?_
    ⟨(at' 3 _ _ rfl).trans (congrArg some e3), (at' 4 _ _ rfl).trans (congrArg some e4), (at' 2 _ _ rfl).trans (congrArg some e2), (at' 39 _ _ rfl).trans (congrArg some e39), (at' 40 _ _ rfl).trans (congrArg some e40), (at' 47 _ _ rfl).trans (congrArg some e47), (at' 48 _ _ rfl).trans (congrArg some e48), (at' 62 _ _ rfl).trans (congrArg some e62)⟩
  · have : away [(nat_lit 23, tabObj ps)] b = true := by
      unfold away
      have q : Nat.beq 23 b = false := by
        cases z : Nat.beq 23 b with
        | false => rfl
        | true => exact absurd (Nat.eq_of_beq_eq_true z).symm hb
      simp [q]
    rw [this, Bool.or_true]
  · intro b hb
    simp only [List.mem_cons, List.not_mem_nil, or_false] at hb
    rcases hb with rfl | rfl | rfl | rfl | rfl | rfl | rfl | rfl
    · exact nw 3 _ _ rfl
    · exact nw 4 _ _ rfl
    · exact nw 2 _ _ rfl
    · exact nw 39 _ _ rfl
    · exact nw 40 _ _ rfl
    · exact nw 47 _ _ rfl
    · exact nw 48 _ _ rfl
    · exact nw 62 _ _ rfl
end Mine
end
section
set_option maxHeartbeats 4000000
namespace Mine
noncomputable def evK {α : Type} (lt : Nat → Nat → Bool) : KasT α → α
  | .ret a => a
  | .ask i j k => evK lt (k (lt i j))
theorem evK_bind {α β : Type} {lt : Nat → Nat → Bool} {f : α → KasT β} : ∀ t : KasT α, evK lt (t.bind f) = evK lt (f (evK lt t))
  | .ret _ => rfl
  | .ask i j k => evK_bind (k (lt i j))
noncomputable def AskB {α : Type} (n : Nat) (lt : Nat → Nat → Bool) : KasT α → Prop
  | .ret _ => True
  | .ask i j k => i < n ∧ j < n ∧ AskB n lt (k (lt i j))
theorem AskB.bind {α β : Type} {n : Nat} {lt : Nat → Nat → Bool} {f : α → KasT β} : ∀ t : KasT α, AskB n lt t → AskB n lt (f (evK lt t)) → AskB n lt (t.bind f)
  | .ret _, _, h => h
  | .ask i j k, ⟨h1, h2, h3⟩, h => ⟨h1, h2, AskB.bind (k (lt i j)) h3 h⟩
theorem wp_evK {α : Type} {cmp : Nat → Nat → (Bool → Shared → Prop) → Shared → Prop} {n : Nat} {lt : Nat → Nat → Bool} (I : Shared → Prop) {Q : α → Shared → Prop}
    (hc : ∀ i j s (C : Bool → Shared → Prop), i < n → j < n → I s → (∀ s', I s' → C (lt i j) s') → cmp i j C s) : ∀ (t : KasT α) (s : Shared), AskB n lt t → I s → (∀ s', I s' → Q (evK lt t) s') → t.kasWp cmp Q s
  | .ret _, s, _, hI, h => h s hI
  | .ask i j k, s, ⟨h1, h2, h3⟩, hI, h => hc i j s _ h1 h2 hI fun s' hI' => wp_evK I hc (k (lt i j)) s' h3 hI' h
section
variable {n : Nat} (r : Nat → Nat) (hr : ∀ i j, i < n → j < n → r i = r j → i = j)
noncomputable abbrev ltR (r : Nat → Nat) (i j : Nat) : Bool := decide (r i < r j)
structure Arr (n : Nat) (p : Array Nat) : Prop where
  size : p.size = n
  lt : ∀ k, k < n → p.getD k 0 < n
  inj : ∀ i j, i < n → j < n → p.getD i 0 = p.getD j 0 → i = j
  perm : p.Perm (List.toArray (List.range n))
theorem Arr.of_perm {p : Array Nat} (h : p.Perm (List.toArray (List.range n))) : Arr n p := by
  have hl : p.toList.Perm (List.range n) := by simpa using Array.perm_iff_toList_perm.mp h
  have hs : p.size = n := by have := hl.length_eq; simpa using this
  have hnd : p.toList.Nodup := hl.nodup_iff.mpr List.nodup_range
  have hg : ∀ k (hk : k < n), p.getD k 0 = p[k]'(by omega) := fun k hk => by simp [Array.getD, hs, hk]
  refine ⟨hs, fun k hk => ?_, fun i j hi hj e => ?_, h⟩
  · rw [hg k hk]
    have : p[k]'(by omega) ∈ p.toList := by simp
    simpa using hl.mem_iff.mp this
  · rw [hg i hi, hg j hj] at e
    have e' : p.toList[i]'(by simpa [hs] using hi) = p.toList[j]'(by simpa [hs] using hj) := by simpa using e
    exact (List.getElem_inj hnd).mp e'
theorem Arr.start : Arr n (List.toArray (List.range n)) := Arr.of_perm (Array.Perm.refl _)
theorem Arr.rev {p : Array Nat} (h : Arr n p) (i j : Nat) : Arr n (kas_rev p i j) := Arr.of_perm ((mirror_perm _ _ _ _).trans h.perm)
theorem Arr.bub {p : Array Nat} (h : Arr n p) (k d : Nat) : Arr n (bubble p k d) := Arr.of_perm ((bubble_perm _ _ _).trans h.perm)
noncomputable def UpTo (r : Nat → Nat) (p : Array Nat) (k : Nat) : Prop := ∀ i j, i < j → j < k → r (p.getD i 0) < r (p.getD j 0)
theorem UpTo.step {p : Array Nat} {k : Nat} (h : UpTo r p k) (h1 : k = 0 ∨ r (p.getD (k - 1) 0) < r (p.getD k 0)) : UpTo r p (k + 1) := by
  intro i j hij hj
  by_cases e : j = k
  · subst e
    rcases h1 with h1 | h1
    · omega
    · by_cases e2 : i = j - 1
      · rw [e2]; exact h1
      · exact Nat.lt_trans (h i (j - 1) (by omega) (by omega)) h1
  · exact h i j hij (by omega)
include hr in
theorem ev_asc {p : Array Nat} (hp : Arr n p) : ∀ f a, 1 ≤ a → a + f ≤ n → UpTo r p a → a ≤ evK (ltR r) (kas_asc p f a) ∧ evK (ltR r) (kas_asc p f a) ≤ a + f ∧ UpTo r p (evK (ltR r) (kas_asc p f a)) ∧ AskB n (ltR r) (kas_asc p f a) ∧ (evK (ltR r) (kas_asc p f a) < a + f → r (p.getD (evK (ltR r) (kas_asc p f a)) 0) < r (p.getD (evK (ltR r) (kas_asc p f a) - 1) 0))
  | 0, a, h1, hn, hu => ⟨Nat.le_refl _, Nat.le_refl _, hu, trivial, fun q => absurd q (Nat.lt_irrefl _)⟩
  | f + 1, a, h1, hn, hu => by
    show a ≤ evK (ltR r) (if ltR r (p.getD a 0) (p.getD (a - 1) 0) = true then KasT.ret a else kas_asc p f (a + 1)) ∧ _
    have hA : AskB n (ltR r) (kas_asc p (f + 1) a) ↔ (p.getD a 0 < n ∧ p.getD (a - 1) 0 < n ∧ AskB n (ltR r) (if ltR r (p.getD a 0) (p.getD (a - 1) 0) = true then KasT.ret a else kas_asc p f (a + 1))) := Iff.rfl
    have hE : evK (ltR r) (kas_asc p (f + 1) a) = evK (ltR r) (if ltR r (p.getD a 0) (p.getD (a - 1) 0) = true then KasT.ret a else kas_asc p f (a + 1)) := rfl
    rw [hA, hE]
    have b1 := hp.lt a (by omega)
    have b2 := hp.lt (a - 1) (by omega)
    by_cases c : r (p.getD a 0) < r (p.getD (a - 1) 0)
    · rw [if_pos (decide_eq_true c)]
      exact ⟨Nat.le_refl _, Nat.le_add_right _ _, hu, ⟨b1, b2, trivial⟩, fun _ => c⟩
    · rw [if_neg (by simpa using c)]
      have hne : r (p.getD a 0) ≠ r (p.getD (a - 1) 0) := fun e => by
        have := hp.inj _ _ (by omega) (by omega) (hr _ _ b1 b2 e); omega
      refine Classical.byContradiction fun ng9 => ?_
      obtain ⟨i1, i2, i3, i4, i5⟩ := ev_asc hp f (a + 1) (by omega) (by omega) (hu.step r (.inr (by omega)))
      refine ng9 ?_
      clear ng9
      exact ⟨by omega, by omega, i3, ⟨b1, b2, i4⟩, fun q => i5 (by omega)⟩
noncomputable def DownTo (r : Nat → Nat) (p : Array Nat) (k : Nat) : Prop := ∀ i j, i < j → j < k → r (p.getD j 0) < r (p.getD i 0)
theorem DownTo.step {p : Array Nat} {k : Nat} (h : DownTo r p k) (h1 : k = 0 ∨ r (p.getD k 0) < r (p.getD (k - 1) 0)) : DownTo r p (k + 1) := by
  intro i j hij hj
  by_cases e : j = k
  · subst e
    rcases h1 with h1 | h1
    · omega
    · by_cases e2 : i = j - 1
      · rw [e2]; exact h1
      · exact Nat.lt_trans h1 (h i (j - 1) (by omega) (by omega))
  · exact h i j hij (by omega)
include hr in
theorem ev_desc {p : Array Nat} (hp : Arr n p) : ∀ f a, 1 ≤ a → a + f ≤ n → DownTo r p a → ∃ m, evK (ltR r) (kas_desc f p a 0) = (p, m, 0) ∧ a ≤ m ∧ m ≤ a + f ∧ DownTo r p m ∧ AskB n (ltR r) (kas_desc f p a 0)
  | 0, a, h1, hn, hu => ⟨a, rfl, Nat.le_refl _, Nat.le_refl _, hu, trivial⟩
  | f + 1, a, h1, hn, hu => by
    have b1 := hp.lt a (by omega)
    have b2 := hp.lt (a - 1) (by omega)
    have hA : AskB n (ltR r) (kas_desc (f + 1) p a 0) ↔ (p.getD a 0 < n ∧ p.getD (a - 1) 0 < n ∧ AskB n (ltR r) (if ltR r (p.getD a 0) (p.getD (a - 1) 0) = true then (if 0 > 0 then kas_desc f (kas_rev p (a - (0 + 1)) a) (a + 1) 0 else kas_desc f p (a + 1) 0)
      else .ask (p.getD (a - 1) 0) (p.getD a 0) fun d => if d = true then .ret (p, a, 0) else kas_desc f p (a + 1) (0 + 1))) := Iff.rfl
    have hE : evK (ltR r) (kas_desc (f + 1) p a 0) = evK (ltR r) (if ltR r (p.getD a 0) (p.getD (a - 1) 0) = true then (if 0 > 0 then kas_desc f (kas_rev p (a - (0 + 1)) a) (a + 1) 0 else kas_desc f p (a + 1) 0)
      else .ask (p.getD (a - 1) 0) (p.getD a 0) fun d => if d = true then .ret (p, a, 0) else kas_desc f p (a + 1) (0 + 1)) := rfl
    rw [hA, hE]
    by_cases c : r (p.getD a 0) < r (p.getD (a - 1) 0)
    · rw [if_pos (decide_eq_true c), if_neg (by omega)]
      refine Classical.byContradiction fun ng9 => ?_
      obtain ⟨m, i1, i2, i3, i4, i5⟩ := ev_desc hp f (a + 1) (by omega) (by omega) (hu.step r (.inr c))
      refine ng9 ?_
      clear ng9
      exact ⟨m, i1, by omega, by omega, i4, b1, b2, i5⟩
    · rw [if_neg (by simpa using c)]
      have hne : r (p.getD a 0) ≠ r (p.getD (a - 1) 0) := fun e => by
        have := hp.inj _ _ (by omega) (by omega) (hr _ _ b1 b2 e); omega
      have c2 : r (p.getD (a - 1) 0) < r (p.getD a 0) := by omega
      refine ⟨a, ?_, Nat.le_refl _, Nat.le_add_right _ _, hu, b1, b2, b2, b1, ?_⟩
      · show evK (ltR r) (if ltR r (p.getD (a - 1) 0) (p.getD a 0) = true then KasT.ret (p, a, 0) else kas_desc f p (a + 1) (0 + 1)) = _
        rw [if_pos (decide_eq_true c2)]; rfl
      · show AskB n (ltR r) (if ltR r (p.getD (a - 1) 0) (p.getD a 0) = true then KasT.ret (p, a, 0) else kas_desc f p (a + 1) (0 + 1))
        rw [if_pos (decide_eq_true c2)]; trivial
theorem rev_up {p : Array Nat} (hp : Arr n p) {m : Nat} (hm : m ≤ n) (h : DownTo r p m) : UpTo r (kas_rev p 0 m) m := by
  have e : ∀ k, k < m → (kas_rev p 0 m).getD k 0 = p.getD (m - 1 - k) 0 := fun k hk => by
    have := getElem?_mirror_all (xs := p) (i := 0) (j := m) (by rw [hp.size]; exact hm) k
    rw [if_pos (by omega)] at this
    simp only [Array.getD_eq_getD_getElem?, kas_rev]
    rw [this]; congr 2; omega
  intro i j hij hj
  rw [e i (by omega), e j hj]
  exact h _ _ (by omega) (by omega)
include hr in
theorem ev_tail3 {p : Array Nat} (hp : Arr n p) {m : Nat} (h1 : 1 ≤ m) (hm : m ≤ n) (h : DownTo r p m) : ∃ a q, evK (ltR r) (kas_tail3 m n p) = (a, q) ∧ Arr n q ∧ 1 ≤ a ∧ a ≤ n ∧ UpTo r q a ∧ AskB n (ltR r) (kas_tail3 m n p) := by
  have hq := hp.rev 0 m
  refine Classical.byContradiction fun ng9 => ?_
  obtain ⟨i1, i2, i3, i4, _⟩ := ev_asc r hr hq (n - m) m h1 (by omega) (rev_up r hp hm h)
  refine ng9 ?_
  clear ng9
  refine ⟨_, _, ?_, hq, ?_, ?_, i3, ?_⟩
  · unfold kas_tail3; rw [evK_bind]; rfl
  · omega
  · omega
  · exact AskB.bind _ i4 trivial
include hr in
theorem ev_count {p : Array Nat} (hp : Arr n p) (h1 : 1 ≤ n) : ∃ a q, evK (ltR r) (kas_count n p) = (a, q) ∧ Arr n q ∧ 1 ≤ a ∧ a ≤ n ∧ UpTo r q a ∧ AskB n (ltR r) (kas_count n p) := by
  refine Classical.byContradiction fun ng9 => ?_
  obtain ⟨i1, i2, i3, i4, i5⟩ := ev_asc r hr hp (n - 1) 1 (Nat.le_refl _) (by omega) (fun i j hij hj => by omega)
  refine ng9 ?_
  clear ng9
  have hB : ∀ {f : Nat → KasT (Nat × Array Nat)}, AskB n (ltR r) (f (evK (ltR r) (kas_asc p (n - 1) 1))) → AskB n (ltR r) ((kas_asc p (n - 1) 1).bind f) := fun h => AskB.bind _ i4 h
  unfold kas_count
  generalize hm : evK (ltR r) (kas_asc p (n - 1) 1) = m at i1 i2 i3 i5 hB
  by_cases e : m = n
  · refine ⟨m, p, ?_, hp, by omega, by omega, i3, hB ?_⟩
    · rw [evK_bind, hm, if_pos (by simpa using e)]; rfl
    · rw [if_pos (by simpa using e)]; trivial
  · have e' : ¬ (m == n) = true := by simpa using e
    have hlt := i5 (by omega)
    by_cases g : m > 1
    · have c : ltR r (p.getD 0 0) (p.getD (m - 1) 0) = true := decide_eq_true (i3 0 (m - 1) (by omega) (by omega))
      refine ⟨m, p, ?_, hp, by omega, by omega, i3, hB ?_⟩
      · rw [evK_bind, hm, if_neg e', if_pos g]
        show evK (ltR r) (if ltR r (p.getD 0 0) (p.getD (m - 1) 0) = true then KasT.ret (m, p) else _) = _
        rw [if_pos c]; rfl
      · rw [if_neg e', if_pos g]
        refine ⟨hp.lt 0 (by omega), hp.lt (m - 1) (by omega), ?_⟩
        show AskB n (ltR r) (if ltR r (p.getD 0 0) (p.getD (m - 1) 0) = true then KasT.ret (m, p) else _)
        rw [if_pos c]; trivial
    · have hm1 : m = 1 := by omega
      subst hm1
      have d2 : DownTo r p 2 := (DownTo.step r (k := 1) (fun i j hij hj => by omega) (.inr hlt))
      refine Classical.byContradiction fun ng9 => ?_
      obtain ⟨m2, j1, j2, j3, j4, j5⟩ := ev_desc r hr hp (n - (1 + 1)) (1 + 1) (by omega) (by omega) d2
      refine ng9 ?_
      clear ng9
      refine Classical.byContradiction fun ng9 => ?_
      obtain ⟨a, q, k1, k2, k3, k4, k5, k6⟩ := ev_tail3 r hr hp (m := m2) (by omega) (by omega) j4
      refine ng9 ?_
      clear ng9
      refine ⟨a, q, ?_, k2, k3, k4, k5, hB ?_⟩
      · rw [evK_bind, hm, if_neg e', if_neg g]
        unfold kas_descPart
        rw [evK_bind, j1, if_neg (by simp)]; exact k1
      · rw [if_neg e', if_neg g]
        unfold kas_descPart
        refine AskB.bind _ j5 ?_
        rw [j1, if_neg (by simp)]; exact k6
include hr in
theorem ev_place {p : Array Nat} (hp : Arr n p) {k : Nat} (hk : k < n) (hu : UpTo r p k) : ∀ f l rr, l ≤ rr → rr ≤ k → rr - l ≤ f → (∀ i, i < l → r (p.getD i 0) < r (p.getD k 0)) → (∀ i, rr ≤ i → i < k → r (p.getD k 0) < r (p.getD i 0)) →
    ∃ m, evK (ltR r) (kas_place p k f l rr) = m ∧ m ≤ k ∧ (∀ i, i < m → r (p.getD i 0) < r (p.getD k 0)) ∧ (∀ i, m ≤ i → i < k → r (p.getD k 0) < r (p.getD i 0)) ∧ AskB n (ltR r) (kas_place p k f l rr)
  | 0, l, rr, h1, h2, h3, a, b => ⟨l, rfl, by omega, a, fun i hi hk => b i (by omega) hk, trivial⟩
  | f + 1, l, rr, h1, h2, h3, a, b => by
    unfold kas_place
    by_cases g : l ≥ rr
    · rw [if_pos g]
      exact ⟨l, rfl, by omega, a, fun i hi hk => b i (by omega) hk, trivial⟩
    · rw [if_neg g]
      have b1 := hp.lt k hk
      have b2 := hp.lt ((l + rr) / 2) (by omega)
      by_cases c : r (p.getD k 0) < r (p.getD ((l + rr) / 2) 0)
      · obtain ⟨m, i1, i2, i3, i4, i5⟩ := ev_place hp hk hu f l ((l + rr) / 2) (by omega) (by omega) (by omega) a (fun i hi hik => by
          by_cases e : i = (l + rr) / 2
          · rw [e]; exact c
          · exact Nat.lt_trans c (hu _ _ (by omega) hik))
        refine ⟨m, ?_, i2, i3, i4, b1, b2, ?_⟩
        · show evK (ltR r) (if ltR r (p.getD k 0) (p.getD ((l + rr) / 2) 0) = true then kas_place p k f l ((l + rr) / 2) else kas_place p k f ((l + rr) / 2 + 1) rr) = m
          rw [if_pos (decide_eq_true c)]; exact i1
        · show AskB n (ltR r) (if ltR r (p.getD k 0) (p.getD ((l + rr) / 2) 0) = true then kas_place p k f l ((l + rr) / 2) else kas_place p k f ((l + rr) / 2 + 1) rr)
          rw [if_pos (decide_eq_true c)]; exact i5
      · have hne : r (p.getD k 0) ≠ r (p.getD ((l + rr) / 2) 0) := fun e => by
          have := hp.inj _ _ hk (by omega) (hr _ _ b1 b2 e); omega
        obtain ⟨m, i1, i2, i3, i4, i5⟩ := ev_place hp hk hu f ((l + rr) / 2 + 1) rr (by omega) h2 (by omega) (fun i hi => by
          by_cases e : i = (l + rr) / 2
          · rw [e]; omega
          · exact Nat.lt_trans (hu i ((l + rr) / 2) (by omega) (by omega)) (by omega)) b
        refine ⟨m, ?_, i2, i3, i4, b1, b2, ?_⟩
        · show evK (ltR r) (if ltR r (p.getD k 0) (p.getD ((l + rr) / 2) 0) = true then kas_place p k f l ((l + rr) / 2) else kas_place p k f ((l + rr) / 2 + 1) rr) = m
          rw [if_neg (by simpa using c)]; exact i1
        · show AskB n (ltR r) (if ltR r (p.getD k 0) (p.getD ((l + rr) / 2) 0) = true then kas_place p k f l ((l + rr) / 2) else kas_place p k f ((l + rr) / 2 + 1) rr)
          rw [if_neg (by simpa using c)]; exact i5
include hr in
theorem ev_bin : ∀ f (p : Array Nat) k, Arr n p → k + f = n → UpTo r p k → ∃ q, evK (ltR r) (kas_bin f p k) = q ∧ Arr n q ∧ UpTo r q n ∧ AskB n (ltR r) (kas_bin f p k)
  | 0, p, k, hp, hk, hu => ⟨p, rfl, hp, by rw [← hk]; exact hu, trivial⟩
  | f + 1, p, k, hp, hk, hu => by
    refine Classical.byContradiction fun ng9 => ?_
    obtain ⟨m, i1, i2, i3, i4, i5⟩ := ev_place r hr hp (k := k) (by omega) hu k 0 k (Nat.zero_le _) (Nat.le_refl _) (by omega) (fun i h => by omega) (fun i h1 h2 => by omega)
    refine ng9 ?_
    clear ng9
    have hq := hp.bub k (k - m)
    have e : ∀ i, i < k + 1 → (bubble p k (k - m)).getD i 0 = if i = m then p.getD k 0 else if m < i then p.getD (i - 1) 0 else p.getD i 0 := fun i hi => by
      have := getElem?_bubble (xs := p) (src := k) (by rw [hp.size]; omega) (k - m) (by omega) i
      simp only [Array.getD_eq_getD_getElem?]
      rw [this]
      by_cases q1 : i = m
      · rw [if_pos (by omega), if_pos q1]
      · rw [if_neg (by omega), if_neg q1]
        by_cases q2 : m < i
        · rw [if_pos (by omega), if_pos q2]
        · rw [if_neg (by omega), if_neg q2]
    have hu' : UpTo r (bubble p k (k - m)) (k + 1) := by
      intro i j hij hj
      rw [e i (by omega), e j hj]
      by_cases a1 : i = m
      · rw [if_pos a1, if_neg (by omega), if_pos (by omega)]
        exact i4 _ (by omega) (by omega)
      · rw [if_neg a1]
        by_cases a2 : j = m
        · rw [if_pos a2, if_neg (by omega)]
          exact i3 _ (by omega)
        · rw [if_neg a2]
          by_cases a3 : m < i
          · rw [if_pos a3, if_pos (by omega)]; exact hu _ _ (by omega) (by omega)
          · rw [if_neg a3]
            by_cases a4 : m < j
            · rw [if_pos a4]
              by_cases a5 : i = j - 1
              · omega
              · exact hu _ _ (by omega) (by omega)
            · rw [if_neg a4]; exact hu _ _ hij (by omega)
    refine Classical.byContradiction fun ng9 => ?_
    obtain ⟨q, j1, j2, j3, j4⟩ := ev_bin f (bubble p k (k - m)) (k + 1) hq (by omega) hu'
    refine ng9 ?_
    clear ng9
    refine ⟨q, ?_, j2, j3, ?_⟩
    · unfold kas_bin; rw [evK_bind, i1]; exact j1
    · unfold kas_bin
      refine AskB.bind _ i5 ?_
      rw [i1]; exact j4
include hr in
theorem ev_sort (h1 : 1 ≤ n) : ∃ q, evK (ltR r) (kas_sort n) = q ∧ Arr n q ∧ UpTo r q n ∧ AskB n (ltR r) (kas_sort n) := by
  refine Classical.byContradiction fun ng9 => ?_
  obtain ⟨a, q, i1, i2, i3, i4, i5, i6⟩ := ev_count r hr (n := n) Arr.start h1
  refine ng9 ?_
  clear ng9
  unfold kas_sort
  by_cases g : a < n
  · obtain ⟨q', j1, j2, j3, j4⟩ := ev_bin r hr (n - max a 1) q (max a 1) i2 (by omega) (by rw [Nat.max_eq_left i3]; exact i5)
    refine ⟨q', ?_, j2, j3, AskB.bind _ i6 ?_⟩
    · rw [evK_bind, i1, if_pos g]; exact j1
    · rw [i1, if_pos g]; exact j4
  · have : a = n := by omega
    subst this
    refine ⟨q, ?_, i2, i5, AskB.bind _ i6 ?_⟩
    · rw [evK_bind, i1, if_neg g]; rfl
    · rw [i1, if_neg g]; trivial
end
end Mine
end
section
set_option maxHeartbeats 8000000
namespace Mine
noncomputable def T39 : List (List Str) := [[Str.ofString "a", Str.ofString "a", Str.ofString "a"], [Str.ofString "a", Str.ofString "a", Str.ofString "ab"], [Str.ofString "a", Str.ofString "a", Str.ofString "b"], [Str.ofString "a", Str.ofString "a"], [Str.ofString "a", Str.ofString "ab", Str.ofString "a"], [Str.ofString "a", Str.ofString "ab", Str.ofString "ab"], [Str.ofString "a", Str.ofString "ab", Str.ofString "b"], [Str.ofString "a", Str.ofString "ab"], [Str.ofString "a", Str.ofString "b", Str.ofString "a"], [Str.ofString "a", Str.ofString "b", Str.ofString "ab"], [Str.ofString "a", Str.ofString "b", Str.ofString "b"], [Str.ofString "a", Str.ofString "b"], [Str.ofString "a"], [Str.ofString "ab", Str.ofString "a", Str.ofString "a"], [Str.ofString "ab", Str.ofString "a", Str.ofString "ab"], [Str.ofString "ab", Str.ofString "a", Str.ofString "b"], [Str.ofString "ab", Str.ofString "a"], [Str.ofString "ab", Str.ofString "ab", Str.ofString "a"], [Str.ofString "ab", Str.ofString "ab", Str.ofString "ab"], [Str.ofString "ab", Str.ofString "ab", Str.ofString "b"], [Str.ofString "ab", Str.ofString "ab"], [Str.ofString "ab", Str.ofString "b", Str.ofString "a"], [Str.ofString "ab", Str.ofString "b", Str.ofString "ab"], [Str.ofString "ab", Str.ofString "b", Str.ofString "b"], [Str.ofString "ab", Str.ofString "b"], [Str.ofString "ab"], [Str.ofString "b", Str.ofString "a", Str.ofString "a"], [Str.ofString "b", Str.ofString "a", Str.ofString "ab"], [Str.ofString "b", Str.ofString "a", Str.ofString "b"], [Str.ofString "b", Str.ofString "a"], [Str.ofString "b", Str.ofString "ab", Str.ofString "a"], [Str.ofString "b", Str.ofString "ab", Str.ofString "ab"], [Str.ofString "b", Str.ofString "ab", Str.ofString "b"], [Str.ofString "b", Str.ofString "ab"], [Str.ofString "b", Str.ofString "b", Str.ofString "a"], [Str.ofString "b", Str.ofString "b", Str.ofString "ab"], [Str.ofString "b", Str.ofString "b", Str.ofString "b"], [Str.ofString "b", Str.ofString "b"], [Str.ofString "b"]]
noncomputable def tP (i : Nat) : List Str := T39.getD i []
noncomputable def lo39 (i : Nat) : Nat := ([0, 1, 2, 0, 4, 5, 6, 4, 8, 9, 10, 8, 0, 13, 14, 15, 13, 17, 18, 19, 17, 21, 22, 23, 21, 13, 26, 27, 28, 26, 30, 31, 32, 30, 34, 35, 36, 34, 26] : List Nat).getD i 0
noncomputable def sr39 (i : Nat) : Nat := ([2, 3, 4, 1, 6, 7, 8, 5, 10, 11, 12, 9, 0, 15, 16, 17, 14, 19, 20, 21, 18, 23, 24, 25, 22, 13, 28, 29, 30, 27, 32, 33, 34, 31, 36, 37, 38, 35, 26] : List Nat).getD i 0
noncomputable def nm (i : Nat) : Str := Txt.join (Str.ofString ".") (tP i)
noncomputable def fileOf (x : Str) : Str := Str.ofString "/" ++ Txt.replace x (Str.ofString ".") (Str.ofString "/")
noncomputable def normS (i : Nat) : Str := Str.ofString "/" ++ Txt.join (Str.ofString "/") (tP i)
noncomputable def all2 (f : Nat → Nat → Bool) : Bool := (List.range 39).all fun i => (List.range 39).all fun j => f i j
noncomputable def all1 (f : Nat → Bool) : Bool := (List.range 39).all f
theorem all2_at {f : Nat → Nat → Bool} (h : all2 f = true) {i j : Nat} (hi : i < 39) (hj : j < 39) : f i j = true :=
  List.all_eq_true.mp (List.all_eq_true.mp h i (List.mem_range.mpr hi)) j (List.mem_range.mpr hj)
theorem all1_at {f : Nat → Bool} (h : all1 f = true) {i : Nat} (hi : i < 39) : f i = true := List.all_eq_true.mp h i (List.mem_range.mpr hi)
theorem t_key39 : all2 (fun i j => lexLt (tP i ++ [Str.ofString "~"]) (tP j ++ [Str.ofString "~"]) == decide (i < j)) = true := by decide +kernel
theorem t_inF : all2 (fun i j => decide (inF (nm i) (nm j) < 0) == decide (i < j)) = true := by decide +kernel
theorem t_desc : all2 (fun i j => Txt.startswith (nm j) (nm i ++ Str.ofString ".") == decide (lo39 i ≤ j ∧ j < i)) = true := by decide +kernel
theorem t_cut : all2 (fun i j => (Txt.slice (nm j) none (some ((nm i).length + 1 : Nat)) == nm i ++ Str.ofString ".") == decide (lo39 i ≤ j ∧ j < i)) = true := by decide +kernel
theorem t_file : all2 (fun i j => Txt.startswith (fileOf (nm j)) (normS i ++ Str.ofString "/") == decide (lo39 i ≤ j ∧ j < i)) = true := by decide +kernel
theorem t_str : all2 (fun i j => ltS (nm i) (nm j) == decide (sr39 i < sr39 j)) = true := by decide +kernel
theorem t_eq : all2 (fun i j => (nm i == nm j) == decide (i = j)) = true := by decide +kernel
theorem t_norm : all1 (fun i => (List.range 6).all fun d => normN (dressOf (d : Int) (tP i)) == normS i) = true := by decide +kernel
theorem t_sr : all2 (fun i j => (sr39 i == sr39 j) == decide (i = j)) = true := by decide +kernel
theorem t_len : all1 (fun i => decide ((nm i).length ≤ 300) && decide ((fileOf (nm i)).length ≤ 300) && (nm i != Str.ofString "<string>") && decide (lo39 i ≤ i)) = true := by decide +kernel
end Mine
end
section
open PySem PySem.W PyProof.Rows PySem.Calls PySem.Spec
set_option maxHeartbeats 4000000
namespace Mine
open LCg
noncomputable def ZEnd (h₀ : Heap) (L : Addr) (m : Str → Option Value) (s₁ : Shared) (own : List (Addr × Obj)) (C : Addr) (oC : Obj) (D : Addr) (oD : Obj) (S : List (Addr × Obj) → Prop) (rest : Value → List (Addr × Obj) → Prop) (y : Value) (s₂ : Shared) : Prop :=
  ∃ h' tk nx, s₂ = { s₁ with heap := h', toks := tk } ∧ Fr h₀ L h' m ∧ News h₀ L h' ((C, oC) :: (D, oD) :: (nx ++ own)) ∧ (∀ q ∈ nx, q.1 ≠ C ∧ q.1 ≠ D ∧ ∀ p ∈ own, q.1 ≠ p.1) ∧ S nx ∧ rest y nx
noncomputable def ZRest (prog : Program) (w : World) (A : Around) (h₀ : Heap) (L : Addr) (m : Str → Option Value) (env : Env) (c elt : PySem.Expr) (a b : Str) (scope : Scope) (cl : List (Str × Addr)) (s : Shared) (S : List (Addr × Obj) → Prop)
    (Fin : List Value → List (Addr × Obj) → Prop) : List (Value × Value) → List Value → List (Addr × Obj) → Prop
  | [], ys, news => Fin ys news
  | p :: r, ys, news => ∀ own C oC D m₂ h tk (E' : Value → Shared → Prop), NsObj oC m₂ → m₂ a = some p.1 → m₂ b = some p.2 → Fr h₀ L h m → News h₀ L h ((C, oC) :: (D, lst ys) :: (news ++ own)) → C ≠ D → (∀ q ∈ news, q.1 ≠ C ∧ q.1 ≠ D ∧ ∀ p ∈ own, q.1 ≠ p.1) → (∀ p ∈ own, p.1 ≠ C ∧ p.1 ≠ D) →
      wpAny (model prog w) A (isTrue c (compEnvC scope cl C env) (eval c (compEnvC scope cl C env))) (fun okb s₃ => if okb = true then
        wpAny (model prog w) A (eval elt (compEnvC scope cl C env)) (ZEnd h₀ L m { s with heap := h, toks := tk } own C oC D (lst ys) S (fun y nx => ZRest prog w A h₀ L m env c elt a b scope cl s S Fin r (ys ++ [y]) nx)) E' s₃
        else ZEnd h₀ L m { s with heap := h, toks := tk } own C oC D (lst ys) S (fun _ nx => ZRest prog w A h₀ L m env c elt a b scope cl s S Fin r ys nx) .none s₃) E' { s with heap := h, toks := tk }
section
variable {prog : Program} {w : World} {A : Around} {E : Value → Shared → Prop} {s : Shared} {h₀ : Heap} {L : Addr} {m : Str → Option Value} {env : Env}
theorem off1_of {D : Addr} : ∀ {l : List (Addr × Obj)}, (∀ p ∈ l, p.1 ≠ D) → Off1 D l
  | [], _ => trivial
  | _ :: _, h => ⟨h _ (.head _), off1_of fun p hp => h p (.tail _ hp)⟩
noncomputable abbrev ZSt (z TI TO i1 i2 l1 l2 : Addr) (xs ys : Array Value) (i : Nat) (h : Heap) : Prop := IsZip h z TI TO .none ∧ IsPair h TI (.ref i1) (.ref i2) ∧ (∃ a b, IsPair h TO a b) ∧ h.IsListIter i1 l1 i ∧ h.IsListIter i2 l2 i ∧ h.IsList l1 xs ∧ h.IsList l2 ys
theorem z_own :
 ∀ {z TI TO i1 i2 l1 l2 : Addr} {xs ys : Array Value} {i : Nat} {h : Heap}
 (st : ZSt z TI TO i1 i2 l1 l2 xs ys i h), ∃ o1 o2 o3 o4 o5, ∀ p ∈ [(z, o1), (TI, o2), (TO, o3), (i1, o4), (i2, o5)], h.get? p.1 = some p.2 := by
  iterate 5 refine @Mine.pad _ ?_
  iterate 1 k_extra "pkG"
  iterate 1 k_extra "pk9"
  rename_i z TI TO i1 i2 l1 l2 xs ys i h st
  refine Classical.byContradiction fun ng9 => ?_
  obtain ⟨h1, h2, ⟨a, b, h3⟩, ⟨o4, h4, _⟩, ⟨o5, h5, _⟩, _, _⟩ := st
  refine ng9 ?_
  clear ng9
  obtain ⟨o1, h1⟩ : ∃ o, h.get? z = some o := ⟨_, h1⟩
  obtain ⟨o2, h2⟩ : ∃ o, h.get? TI = some o := ⟨_, h2⟩
  obtain ⟨o3, h3⟩ : ∃ o, h.get? TO = some o := ⟨_, h3⟩
  refine ⟨o1, o2, o3, o4, o5, fun p hp => ?_⟩
  rcases List.mem_cons.mp hp with rfl | hp
  · exact h1
  rcases List.mem_cons.mp hp with rfl | hp
  · exact h2
  rcases List.mem_cons.mp hp with rfl | hp
  · exact h3
  rcases List.mem_cons.mp hp with rfl | hp
  · exact h4
  · rw [List.mem_singleton.mp hp]; exact h5
theorem fm5 {α : Type} {P : α → Prop} {a b c d e : α} (h1 : P a) (h2 : P b) (h3 : P c) (h4 : P d) (h5 : P e) : ∀ q ∈ [a, b, c, d, e], P q :=
  List.forall_mem_cons.mpr ⟨h1, List.forall_mem_cons.mpr ⟨h2, List.forall_mem_cons.mpr ⟨h3, List.forall_mem_cons.mpr ⟨h4, List.forall_mem_cons.mpr ⟨h5, List.forall_mem_nil _⟩⟩⟩⟩⟩
theorem fm7 {α : Type} {P : α → Prop} {a b c d e f g : α} (h1 : P a) (h2 : P b) (h3 : P c) (h4 : P d) (h5 : P e) (h6 : P f) (h7 : P g) : ∀ q ∈ [a, b, c, d, e, f, g], P q :=
  List.forall_mem_cons.mpr ⟨h1, List.forall_mem_cons.mpr ⟨h2, fm5 h3 h4 h5 h6 h7⟩⟩
theorem z_block :
 ∀ {prog : Program} {w : World} {A : Around} {E : Value → Shared → Prop} {h₀ : Heap} {L : Addr} {m : Str → Option Value} {env : Env} {elt iter c : PySem.Expr} {a b : Str} {pa pb tp : Pos} {kk : Nat} {scope : Scope} {cl : List (Str × Addr)} {pos : Pos} {s₂ : Shared} {z TI TO i1 i2 l1 l2 : Addr} {lo1 lo2 : Obj} {xs vs : List Value} {n1 n2 : Nat} {news : List (Addr × Obj)} {Fin : List Value → List (Addr × Obj) → Prop} {RR : Value → Addr → Result → Shared → Prop}
 (hh : A.handled = none) (D5 : ZipApart z TI TO i1 i2 l1 l2) (hc1 : lo1.cls = .type "list") (hd1 : lo1.data = .seq xs.toArray n1) (hc2 : lo2.cls = .type "list") (hd2 : lo2.data = .seq vs.toArray n2) (hlen : vs.length = xs.length) (hsz : xs.length ≤ sizeLine) (hst : ZSt z TI TO i1 i2 l1 l2 xs.toArray vs.toArray 0 s₂.heap) (h5 : ∀ q ∈ [z, TI, TO, i1, i2], q ≠ L ∧ h₀.get? q = none) (hS : (l1, lo1) ∈ news ∧ (l2, lo2) ∈ news) (hcell : ∀ y ∈ scope.names, y.2 ≠ .cell) (hkind : scope.kind = .function) (hxa : scope.names.lookup a = some .local) (hxb : scope.names.lookup b = some .local) (hab : ¬ a = b) (F : Fr h₀ L s₂.heap m) (N : News h₀ L s₂.heap news) (off : ∀ p ∈ news, p.1 ∉ [z, TI, TO, i1, i2]) (R : ZRest prog w A h₀ L m env c elt a b scope cl s₂ (fun nx => (l1, lo1) ∈ nx ∧ (l2, lo2) ∈ nx) Fin (xs.zip vs) [] news) (hRR : ∀ D C h tk m' ys news', Fr h₀ L h m → News h₀ L h ((D, lst ys) :: news') → Off1 D news' → h.Ns C m' → h₀.get? C = none → h₀.get? D = none → C ≠ L → D ≠ L → C ≠ D → (∀ p ∈ news', p.1 ≠ C) → Fin ys news' → RR (.ref D) C (.ok .next) { s₂ with heap := h, toks := tk }), wpAny (model prog w) A (newList []) (fun acc s₃ => wpAny (model prog w) A (newFunctionEnv scope env.globals cl [] env.qual none .none (some env)) (fun cenv s₄ =>
      codeAny (model prog w) A (.compStart (.ListComp elt [⟨.Tuple [.Name a pa, .Name b pb] kk tp, iter, [c], 0⟩] scope pos) 0 (.ref z) acc { cenv with scope := relabel scope env }) (RR acc cenv.locals) s₄) E s₃) E s₂ := by
  iterate 11 refine @Mine.pad _ ?_
  iterate 3 k_extra "pkG"
  iterate 21 k_extra "pk9"
  rename_i prog w A E h₀ L m env elt iter c a b pa pb tp kk scope cl pos s₂ z TI TO i1 i2 l1 l2 lo1 lo2 xs vs n1 n2 news Fin RR hh D5 hc1 hd1 hc2 hd2 hlen hsz hst h5 hS hcell hkind hxa hxb hab F N off R hRR
  refine wpAny_newObj_type (wpAny_newFunctionEnv hcell (by intro y hy; simp at hy) (fun h₁ hns₁ hsb₁ => ?_) hkind)
  dsimp only at hns₁ hsb₁ ⊢
  generalize hH2 : s₂.heap.push { cls := .type "list", dict := none, data := .seq ([] : List Value).toArray } = H2 at hns₁ hsb₁ ⊢
  have hC : H2.objs.size = s₂.heap.objs.size + 1 := by rw [← hH2, Heap.size_push]
  have hDC : s₂.heap.objs.size ≠ H2.objs.size := by rw [hC]; exact Nat.ne_of_lt (Nat.lt_succ_self _)
  have below : ∀ b, b < s₂.heap.objs.size → b ≠ H2.objs.size ∧ b ≠ s₂.heap.objs.size := fun b hb => ⟨by rw [hC]; exact Nat.ne_of_lt (Nat.lt_succ_of_lt hb), Nat.ne_of_lt hb⟩
  have old : ∀ b o, s₂.heap.get? b = some o → h₁.get? b = some o := fun b o e => hsb₁.extBut b o (below b (Heap.lt_size e)).1 (Heap.get?_push_of_some _ (hH2 ▸ Heap.get?_push_of_some _ e))
  have hacc : h₁.get? s₂.heap.objs.size = some (lst []) := hsb₁.extBut _ _ hDC (Heap.get?_push_of_some _ (hH2 ▸ Heap.get?_push_size _ rfl))
  have W := WalksT.zip2 (prog := prog) (w := w) hh z TI TO i1 i2 l1 l2 D5 xs.toArray vs.toArray
  have hmin : min xs.toArray.size vs.toArray.size = xs.length := by simp [hlen]
  rw [hmin] at W
  have hst₁ : ZSt z TI TO i1 i2 l1 l2 xs.toArray vs.toArray 0 h₁ := W.frame _ _ _ hst fun b _ o e => old b o e
  have fresh : ∀ a, s₂.heap.objs.size ≤ a → s₂.heap.get? a = none := fun a ha => by
    cases e : s₂.heap.get? a with
    | none => rfl
    | some o' => exact absurd (Heap.lt_size e) (Nat.not_lt.mpr ha)
  have fresh₀ : ∀ a, s₂.heap.objs.size ≤ a → h₀.get? a = none := fun a ha => by
    cases e : h₀.get? a with
    | none => rfl
    | some o' => have := F.keep a o' e; rw [fresh a ha] at this; cases this
  have hD₀ : h₀.get? s₂.heap.objs.size = none := fresh₀ _ (Nat.le_refl _)
  have hC₀ : h₀.get? H2.objs.size = none := fresh₀ _ (by rw [hC]; exact Nat.le_succ _)
  have hLlt : L < s₂.heap.objs.size := F.ns.lt
  have hDL : s₂.heap.objs.size ≠ L := Ne.symm (below L hLlt).2
  have hCL : H2.objs.size ≠ L := Ne.symm (below L hLlt).1
  have lt5 : ∀ q ∈ [z, TI, TO, i1, i2], q < s₂.heap.objs.size := by
    refine Classical.byContradiction fun ng9 => ?_
    obtain ⟨o1, o2, o3, o4, o5, ho⟩ := z_own hst
    refine ng9 ?_
    clear ng9
    exact fm5 (Heap.lt_size (ho (_, o1) (by simp))) (Heap.lt_size (ho (_, o2) (by simp))) (Heap.lt_size (ho (_, o3) (by simp))) (Heap.lt_size (ho (_, o4) (by simp))) (Heap.lt_size (ho (_, o5) (by simp)))
  have wr5 : ∀ q ∈ [z, TO, i1, i2], q ∈ [z, TI, TO, i1, i2] := by intro q hq; simp at hq ⊢; rcases hq with h | h | h | h <;> simp [h]
  have l1lt : l1 < s₂.heap.objs.size := Heap.lt_size (N _ hS.1).1
  have l2lt : l2 < s₂.heap.objs.size := Heap.lt_size (N _ hS.2).1
  have fpC : ∀ q ∈ [z, TI, TO, i1, i2, l1, l2], q ≠ H2.objs.size ∧ q ≠ s₂.heap.objs.size := by
    exact fm7 (below _ (lt5 _ (by simp))) (below _ (lt5 _ (by simp))) (below _ (lt5 _ (by simp))) (below _ (lt5 _ (by simp))) (below _ (lt5 _ (by simp))) (below _ l1lt) (below _ l2lt)
  have loop : ∀ s₃ : Shared, s₃ = { s₂ with heap := h₁, toks := s₂.toks + ([] : List (Str × Value)).length } →
      codeAny (model prog w) A (.compLoop (.ListComp elt [⟨.Tuple [.Name a pa, .Name b pb] kk tp, iter, [c], 0⟩] scope pos) 0 (.ref z) (.ref s₂.heap.objs.size) (compEnvC scope cl H2.objs.size env))
        (RR (.ref s₂.heap.objs.size) H2.objs.size) s₃ := by
    rintro s₃ rfl
    obtain ⟨J, hJ⟩ : ∃ J : Nat → Shared → Prop, ∀ k s', J k s' ↔ (∃ h' tk i ys m' news', s' = { s₂ with heap := h', toks := tk } ∧ i ≤ xs.length ∧ k = xs.length + 1 - i ∧ ys.length ≤ i ∧ ZSt z TI TO i1 i2 l1 l2 xs.toArray vs.toArray i h' ∧ Fr h₀ L h' m ∧ h'.Ns H2.objs.size m' ∧
        News h₀ L h' ((s₂.heap.objs.size, lst ys) :: news') ∧ (∀ q ∈ news', q.1 ≠ H2.objs.size ∧ q.1 ≠ s₂.heap.objs.size ∧ q.1 ∉ [z, TI, TO, i1, i2]) ∧ ((l1, lo1) ∈ news' ∧ (l2, lo2) ∈ news') ∧
        ZRest prog w A h₀ L m env c elt a b scope cl s₂ (fun nx => (l1, lo1) ∈ nx ∧ (l2, lo2) ∈ nx) Fin ((xs.zip vs).drop i) ys news') := ⟨(fun k s' => ∃ h' tk i ys m' news', s' = { s₂ with heap := h', toks := tk } ∧ i ≤ xs.length ∧ k = xs.length + 1 - i ∧ ys.length ≤ i ∧ ZSt z TI TO i1 i2 l1 l2 xs.toArray vs.toArray i h' ∧ Fr h₀ L h' m ∧ h'.Ns H2.objs.size m' ∧
        News h₀ L h' ((s₂.heap.objs.size, lst ys) :: news') ∧ (∀ q ∈ news', q.1 ≠ H2.objs.size ∧ q.1 ≠ s₂.heap.objs.size ∧ q.1 ∉ [z, TI, TO, i1, i2]) ∧ ((l1, lo1) ∈ news' ∧ (l2, lo2) ∈ news') ∧
        ZRest prog w A h₀ L m env c elt a b scope cl s₂ (fun nx => (l1, lo1) ∈ nx ∧ (l2, lo2) ∈ nx) Fin ((xs.zip vs).drop i) ys news'), fun _ _ => Iff.rfl⟩
    refine kct_loop J ?_ (xs.length + 1)
      ((hJ _ _).mpr ⟨h₁, _, 0, [], _, news, rfl, Nat.zero_le _, rfl, Nat.le_refl _, hst₁, F.keeps old, hns₁, fun p hp => ?_, fun q hq => ⟨(below _ (Heap.lt_size (N q hq).1)).1, (below _ (Heap.lt_size (N q hq).1)).2, off q hq⟩, hS, by rw [List.drop_zero]; exact R⟩)
    · intro k s' hj9
      refine Classical.byContradiction fun ng9 => ?_
      obtain ⟨h', tk, i, ys, m', news', rfl, hi, rfl, hyl, hst', F', hn', N', off', hS', R'⟩ := (hJ _ _).mp hj9
      refine ng9 ?_
      clear ng9
      by_cases hlt : i < xs.length
      · refine W.item i _ _ _ hlt hst' fun T vals h₂ tk₂ hP hT0 hT hMid hk₂ => ?_
        have hTw := W.apart _ _ _ hMid
        refine W.go _ _ _ i T _ _ _ hMid fun h₃ hst₃ hk₃ => ?_
        refine Classical.byContradiction fun ng9 => ?_
        obtain ⟨x, y, hx, hy, rfl⟩ := hP
        refine ng9 ?_
        clear ng9
        have hx' : xs[i]? = some x := by simpa using hx
        have hy' : vs[i]? = some y := by simpa using hy
        have hT₃ : h₃.IsTuple T #[x, y] := by
          refine Classical.byContradiction fun ng9 => ?_
          obtain ⟨o, ho, r⟩ := hT
          refine ng9 ?_
          clear ng9
          exact ⟨o, hk₃ T o hTw ho, r⟩
        have up₃ : ∀ c o, c ∉ [z, TO, i1, i2] → h'.get? c = some o → h₃.get? c = some o := fun c o hc e => hk₃ c o hc (hk₂ c o hc e)
        have nC : H2.objs.size ∉ [z, TO, i1, i2] := fun q => absurd (lt5 _ (wr5 _ q)) (by rw [hC]; exact Nat.not_lt.mpr (Nat.le_succ _))
        have nD : s₂.heap.objs.size ∉ [z, TO, i1, i2] := fun q => absurd (lt5 _ (wr5 _ q)) (Nat.lt_irrefl _)
        refine kcp_assign (env := compEnvC scope cl H2.objs.size env) hh hT₃ (lookup_relabel_local hxa) (lookup_relabel_local hxb) (by simp [compEnvC, relabel, hkind]) (hn'.at' fun o e => up₃ _ o nC e) fun h₄ tk₄ hn₄ hs₄ => ?_
        have up : ∀ c o, c ∉ [z, TO, i1, i2] → c ≠ H2.objs.size → h'.get? c = some o → h₄.get? c = some o := fun c o h1 h2 e => hs₄ c o h2 (up₃ c o h1 e)
        have hst₄ : ZSt z TI TO i1 i2 l1 l2 xs.toArray vs.toArray (i + 1) h₄ := W.frame _ _ _ hst₃ fun q hq o e => hs₄ q o (fpC q hq).1 e
        refine Classical.byContradiction fun ng9 => ?_
        obtain ⟨o1, o2, o3, o4, o5, ho⟩ := z_own hst₄
        refine ng9 ?_
        clear ng9
        refine Classical.byContradiction fun ng9 => ?_
        obtain ⟨oC, heC, hoC⟩ := ns_obj hn₄
        refine ng9 ?_
        clear ng9
        have F₄ : Fr h₀ L h₄ m := ⟨F'.ns.at' fun o e => up _ o (fun q => (h5 _ (wr5 _ q)).1 rfl) (Ne.symm hCL) e, fun c o e => up c o (fun q => by rw [(h5 _ (wr5 _ q)).2] at e; cases e) (fun q => by rw [q, hC₀] at e; cases e) (F'.keep c o e), F'.above⟩
        have hzl : i < (xs.zip vs).length := by rw [List.length_zip, hlen]; omega
        have hdrop : (xs.zip vs).drop i = (x, y) :: (xs.zip vs).drop (i + 1) := by
          rw [List.drop_eq_getElem_cons hzl]
          congr 1
          have e1 : xs[i]'(by omega) = x := (List.getElem?_eq_some_iff.mp hx').2
          have e2 : vs[i]'(by omega) = y := (List.getElem?_eq_some_iff.mp hy').2
          simp [e1, e2]
        rw [hdrop] at R'
        have own5 : ∀ p ∈ [(z, o1), (TI, o2), (TO, o3), (i1, o4), (i2, o5)], p.1 ∈ [z, TI, TO, i1, i2] := by
          exact fm5 (by simp) (by simp) (by simp) (by simp) (by simp)
        have N₄ : News h₀ L h₄ ((H2.objs.size, oC) :: (s₂.heap.objs.size, lst ys) :: (news' ++ [(z, o1), (TI, o2), (TO, o3), (i1, o4), (i2, o5)])) := fun q hq => by
          rcases List.mem_cons.mp hq with rfl | hq
          · exact ⟨heC, hCL, hC₀⟩
          rcases List.mem_cons.mp hq with rfl | hq
          · exact ⟨up _ _ nD hDC (N' _ (.head _)).1, hDL, hD₀⟩
          rcases List.mem_append.mp hq with hq | hq
          · have zz := N' q (.tail _ hq)
            exact ⟨up _ _ (fun e => (off' q hq).2.2 (wr5 _ e)) (off' q hq).1 zz.1, zz.2⟩
          · exact ⟨ho q hq, (h5 _ (own5 q hq)).1, (h5 _ (own5 q hq)).2⟩
        have fin : ∀ (ys' : List Value) (h₅ : Heap) (tk₅ : Nat) (news₅ : List (Addr × Obj)), ys'.length ≤ i + 1 → Fr h₀ L h₅ m → News h₀ L h₅ ((H2.objs.size, oC) :: (s₂.heap.objs.size, lst ys') :: (news₅ ++ [(z, o1), (TI, o2), (TO, o3), (i1, o4), (i2, o5)])) →
            (∀ q ∈ news₅, q.1 ≠ H2.objs.size ∧ q.1 ≠ s₂.heap.objs.size ∧ ∀ p ∈ [(z, o1), (TI, o2), (TO, o3), (i1, o4), (i2, o5)], q.1 ≠ p.1) → ((l1, lo1) ∈ news₅ ∧ (l2, lo2) ∈ news₅) →
            ZRest prog w A h₀ L m env c elt a b scope cl s₂ (fun nx => (l1, lo1) ∈ nx ∧ (l2, lo2) ∈ nx) Fin ((xs.zip vs).drop (i + 1)) ys' news₅ →
            ∃ q', q' < xs.length + 1 - i ∧ J q' ({ s₂ with heap := h₅, toks := tk₅ } : Shared) := by
          intro ys' h₅ tk₅ news₅ hl F₅ N₅ off₅ hS₅ R₅
          have zC := (N₅ _ (.head _)).1
          have g1 := fun (p : Addr × Obj) (hp : p ∈ news₅ ++ [(z, o1), (TI, o2), (TO, o3), (i1, o4), (i2, o5)]) => (N₅ p (.tail _ (.tail _ hp))).1
          have own' : ∀ p ∈ [(z, o1), (TI, o2), (TO, o3), (i1, o4), (i2, o5)], ∀ o, h₄.get? p.1 = some o → h₅.get? p.1 = some o := fun p hp o e => by
            have a1 := ho p hp
            rw [e] at a1
            have a2 := g1 p (List.mem_append_right _ hp)
            rw [← Option.some.inj a1] at a2
            exact a2
          have own2 : ∀ p : Addr × Obj, p ∈ news' → p ∈ news₅ → ∀ o, h₄.get? p.1 = some o → h₅.get? p.1 = some o := fun p h1 h2 o e => by
            have b1 := N₄ p (.tail _ (.tail _ (List.mem_append_left _ h1)))
            have b2 := g1 p (List.mem_append_left _ h2)
            rw [b1.1] at e; rw [← Option.some.inj e]; exact b2
          have hst₅ : ZSt z TI TO i1 i2 l1 l2 xs.toArray vs.toArray (i + 1) h₅ := W.frame _ _ _ hst₄ (fm7 (own' (_, o1) (by simp)) (own' (_, o2) (by simp)) (own' (_, o3) (by simp)) (own' (_, o4) (by simp)) (own' (_, o5) (by simp)) (own2 (_, lo1) hS'.1 hS₅.1) (own2 (_, lo2) hS'.2 hS₅.2))
          refine ⟨xs.length + 1 - (i + 1), by omega, (hJ _ _).mpr ⟨h₅, tk₅, i + 1, ys', _, news₅, rfl, hlt, rfl, hl, hst₅, F₅, hoC.ns zC, fun q hq => ?_, fun q hq => ⟨(off₅ q hq).1, (off₅ q hq).2.1, fun hm => ?_⟩, hS₅, R₅⟩⟩
          · rcases List.mem_cons.mp hq with rfl | hq
            · exact N₅ _ (.tail _ (.head _))
            · exact N₅ q (.tail _ (.tail _ (List.mem_append_left _ hq)))
          · simp only [List.mem_cons, List.not_mem_nil, or_false] at hm
            rcases hm with e | e | e | e | e
            · exact (off₅ q hq).2.2 (z, o1) (by simp) e
            · exact (off₅ q hq).2.2 (TI, o2) (by simp) e
            · exact (off₅ q hq).2.2 (TO, o3) (by simp) e
            · exact (off₅ q hq).2.2 (i1, o4) (by simp) e
            · exact (off₅ q hq).2.2 (i2, o5) (by simp) e
        refine wpAny_mono (R' [(z, o1), (TI, o2), (TO, o3), (i1, o4), (i2, o5)] H2.objs.size oC s₂.heap.objs.size _ h₄ _ _ hoC (by simp [hab]) (by simp) F₄ N₄ (Ne.symm hDC)
          (fun q hq => ⟨(off' q hq).1, (off' q hq).2.1, fun p hp e => (off' q hq).2.2 (e ▸ own5 p hp)⟩) (fun p hp => ⟨(below _ (lt5 _ (own5 p hp))).1, (below _ (lt5 _ (own5 p hp))).2⟩)) (fun okb s₅ h₅ => ?_) fun _ _ e => e
        cases okb with
        | false =>
          simp only [Bool.false_eq_true, if_false] at h₅ ⊢
          refine Classical.byContradiction fun ng9 => ?_
          obtain ⟨h₅, tk₅, news₅, rfl, F₅, N₅, off₅, hS₅, R₅⟩ := h₅
          refine ng9 ?_
          clear ng9
          exact fin ys h₅ tk₅ news₅ (Nat.le_succ_of_le hyl) F₅ N₅ off₅ hS₅ R₅
        | true =>
          simp only [if_true] at h₅ ⊢
          refine wpAny_mono h₅ (fun y s₆ h₆ => ?_) fun _ _ e => e
          refine Classical.byContradiction fun ng9 => ?_
          obtain ⟨h₅, tk₅, news₅, rfl, F₅, N₅, off₅, hS₅, R₅⟩ := h₆
          refine ng9 ?_
          clear ng9
          have zD := (N₅ _ (.tail _ (.head _))).1
          refine append_at (hsz := by show ys.toArray.size ≤ sizeLine; rw [List.size_toArray]; exact Nat.le_trans hyl (Nat.le_trans hi hsz)) zD fun h₆ hs₆ hD₆ => ?_
          refine fin (ys ++ [y]) h₆ _ news₅ (by rw [List.length_append, List.length_singleton]; exact Nat.succ_le_succ hyl) (F₅.change hs₆ hDL hD₀) (fun q hq => ?_) off₅ hS₅ R₅
          rcases List.mem_cons.mp hq with rfl | hq
          · exact ⟨hs₆.extBut _ oC (Ne.symm hDC) (N₅ _ (.head _)).1, hCL, hC₀⟩
          rcases List.mem_cons.mp hq with rfl | hq
          · exact ⟨hD₆.trans (congrArg some (lst_snoc ys y)), hDL, hD₀⟩
          · have zz := N₅ q (.tail _ (.tail _ hq))
            refine ⟨hs₆.extBut _ _ ?_ zz.1, zz.2⟩
            rcases List.mem_append.mp hq with hq | hq
            · exact (off₅ q hq).2.1
            · exact (below _ (lt5 _ (own5 q hq))).2
      · have hin : i = xs.length := Nat.le_antisymm hi (Nat.not_lt.mp hlt)
        subst hin
        have hnil : (xs.zip vs).drop xs.length = [] := List.drop_eq_nil_of_le (by rw [List.length_zip]; omega)
        rw [hnil] at R'
        refine W.done _ _ _ hst' fun h₂ tk₂ hk₂ => ?_
        have F₂ : Fr h₀ L h₂ m := ⟨F'.ns.at' fun o e => hk₂ L o (fun q => (h5 _ (wr5 _ q)).1 rfl) e, fun c o e => hk₂ c o (fun q => by rw [(h5 _ (wr5 _ q)).2] at e; cases e) (F'.keep c o e), F'.above⟩
        refine hRR _ _ h₂ tk₂ _ ys news' F₂ (fun p hp => ?_) ?_ (hn'.at' fun o e => hk₂ _ o (fun q => absurd (lt5 _ (wr5 _ q)) (by rw [hC]; exact Nat.not_lt.mpr (Nat.le_succ _))) e) hC₀ hD₀ hCL hDL (Ne.symm hDC) (fun p hp => (off' p hp).1) R'
        · have zz := N' p hp
          refine ⟨hk₂ _ _ ?_ zz.1, zz.2⟩
          rcases List.mem_cons.mp hp with rfl | hp
          · exact fun q => absurd (lt5 _ (wr5 _ q)) (Nat.lt_irrefl _)
          · exact fun q => (off' p hp).2.2 (wr5 _ q)
        · exact off1_of fun p hp => (off' p hp).2.1
    · rcases List.mem_cons.mp hp with rfl | hp
      · exact ⟨hacc, hDL, hD₀⟩
      · exact ⟨old _ _ (N p hp).1, (N p hp).2⟩
  exact codeAny_compStart_list (loop _ rfl) (W.self 0 _ _ _ hst₁ (loop _ rfl))
noncomputable def ZSrc (prog : Program) (w : World) (A : Around) (h₀ : Heap) (L : Addr) (m : Str → Option Value) (env : Env) (c elt : PySem.Expr) (a b : Str) (scope : Scope) (cl : List (Str × Addr)) (Fin : Shared → List Value → List (Addr × Obj) → Prop) (xv : Value) (s₁ : Shared) : Prop :=
  ∃ (l1 l2 : Addr) (lo1 lo2 : Obj) (xs vs : List Value) (n1 n2 : Nat) (z TI TO i1 i2 : Addr) (news : List (Addr × Obj)), xv = .ref z ∧ A.handled = none ∧ ZipApart z TI TO i1 i2 l1 l2 ∧ lo1.cls = .type "list" ∧ lo1.data = .seq xs.toArray n1 ∧ lo2.cls = .type "list" ∧ lo2.data = .seq vs.toArray n2 ∧
    vs.length = xs.length ∧ xs.length ≤ sizeLine ∧ ZSt z TI TO i1 i2 l1 l2 xs.toArray vs.toArray 0 s₁.heap ∧ (∀ q ∈ [z, TI, TO, i1, i2], q ≠ L ∧ h₀.get? q = none) ∧ ((l1, lo1) ∈ news ∧ (l2, lo2) ∈ news) ∧ Fr h₀ L s₁.heap m ∧ News h₀ L s₁.heap news ∧ (∀ p ∈ news, p.1 ∉ [z, TI, TO, i1, i2]) ∧
    ZRest prog w A h₀ L m env c elt a b scope cl s₁ (fun nx => (l1, lo1) ∈ nx ∧ (l2, lo2) ∈ nx) (Fin s₁) (xs.zip vs) [] news
theorem zip_src :
 ∀ {prog : Program} {w : World} {A : Around} {E : Value → Shared → Prop} {s : Shared} {h₀ : Heap} {L : Addr} {m : Str → Option Value} {env : Env} {c elt : PySem.Expr} {a b : Str} {scope : Scope} {cl : List (Str × Addr)} {Fin : Shared → List Value → List (Addr × Obj) → Prop} {l1 l2 : Addr} {lo1 lo2 : Obj} {xs vs : List Value} {n1 n2 : Nat} {news : List (Addr × Obj)}
 (hh : A.handled = none) (F : Fr h₀ L s.heap m) (N : News h₀ L s.heap news) (hm1 : (l1, lo1) ∈ news) (hc1 : lo1.cls = .type "list") (hd1 : lo1.data = .seq xs.toArray n1) (hm2 : (l2, lo2) ∈ news) (hc2 : lo2.cls = .type "list") (hd2 : lo2.data = .seq vs.toArray n2) (hlen : vs.length = xs.length) (hsz : xs.length ≤ sizeLine) (R : ∀ g, ZRest prog w A h₀ L m env c elt a b scope cl { s with heap := g } (fun nx => (l1, lo1) ∈ nx ∧ (l2, lo2) ∈ nx) (Fin { s with heap := g }) (xs.zip vs) [] news), wpAny (model prog w) A (call (.type "zip") [.ref l1, .ref l2]) (ZSrc prog w A h₀ L m env c elt a b scope cl Fin) E s := by
  iterate 7 refine @Mine.pad _ ?_
  iterate 2 k_extra "pkG"
  iterate 12 k_extra "pk9"
  rename_i prog w A E s h₀ L m env c elt a b scope cl Fin l1 l2 lo1 lo2 xs vs n1 n2 news hh F N hm1 hc1 hd1 hm2 hc2 hd2 hlen hsz R
  have hl1 : s.heap.IsList l1 xs.toArray := ⟨lo1, (N _ hm1).1, hc1, n1, hd1⟩
  have hl2 : s.heap.IsList l2 vs.toArray := ⟨lo2, (N _ hm2).1, hc2, n2, hd2⟩
  have hlt1 : l1 < s.heap.objs.size := Heap.lt_size (N _ hm1).1
  have hlt2 : l2 < s.heap.objs.size := Heap.lt_size (N _ hm2).1
  have hLs : L < s.heap.objs.size := F.ns.lt
  have D5 : ZipApart (s.heap.objs.size + 4) (s.heap.objs.size + 2) (s.heap.objs.size + 3) s.heap.objs.size (s.heap.objs.size + 1) l1 l2 := ktu_apart _ _ _ hlt1 hlt2
  have ge5 : ∀ q ∈ [s.heap.objs.size + 4, s.heap.objs.size + 2, s.heap.objs.size + 3, s.heap.objs.size, s.heap.objs.size + 1], s.heap.objs.size ≤ q := by
    intro q hq
    simp only [List.mem_cons, List.not_mem_nil, or_false] at hq
    rcases hq with rfl | rfl | rfl | rfl | rfl
    · exact Nat.le_add_right _ _
    · exact Nat.le_add_right _ _
    · exact Nat.le_add_right _ _
    · exact Nat.le_refl _
    · exact Nat.le_add_right _ _
  refine call_zip_2 hl1 hl2 fun h' hz hTI hTO hi1 hi2 hsz' hk => ?_
  exact ⟨l1, l2, lo1, lo2, xs, vs, n1, n2, _, _, _, _, _, news, rfl, hh, D5, hc1, hd1, hc2, hd2, hlen, hsz, ⟨hz, hTI, ⟨_, _, hTO⟩, hi1, hi2, hl1.at fun o e => hk l1 o e, hl2.at fun o e => hk l2 o e⟩,
    fun q hq => ⟨fun e => absurd (ge5 q hq) (by rw [e]; exact Nat.not_le.mpr hLs), ktu_new F (ge5 q hq)⟩, ⟨hm1, hm2⟩, F.keeps hk, N.grown hk, fun p hp hm => absurd (ge5 _ hm) (Nat.not_le.mpr (Heap.lt_size (N p hp).1)), R h'⟩
theorem z_ListComp :
 ∀ {prog : Program} {w : World} {A : Around} {E : Value → Shared → Prop} {s : Shared} {h₀ : Heap} {L : Addr} {m : Str → Option Value} {env : Env} {elt iter c : PySem.Expr} {a b : Str} {pa pb tp : Pos} {kk : Nat} {scope : Scope} {cl : List (Str × Addr)} {pos : Pos} {Q : Value → Shared → Prop}
 (_F₀ : Fr h₀ L s.heap m) (hclos : closureFor scope env = pure cl) (hcell : ∀ y ∈ scope.names, y.2 ≠ .cell) (hkind : scope.kind = .function) (hnames : ∀ y ∈ scope.names, y.2 = .local → scope.names.lookup y.1 = some .local) (hxa : scope.names.lookup a = some .local) (hxb : scope.names.lookup b = some .local) (hab : ¬ a = b) (h : wpAny (model prog w) A (eval iter env) (ZSrc prog w A h₀ L m env c elt a b scope cl (fun s₂ => FinE h₀ L m s₂ Q)) E s) (hs : ∀ x, foldedSetIterable iter env x = pure x := by intro _; rfl), wpAny (model prog w) A (eval (.ListComp elt [⟨.Tuple [.Name a pa, .Name b pb] kk tp, iter, [c], 0⟩] scope pos) env) Q E s := by
  iterate 10 refine @Mine.pad _ ?_
  iterate 2 k_extra "pkG"
  iterate 10 k_extra "pk9"
  rename_i prog w A E s h₀ L m env elt iter c a b pa pb tp kk scope cl pos Q _F₀ hclos hcell hkind hnames hxa hxb hab h hs
  rw [eval_ListComp]
  refine wpAny_comprehension_free (use := none) rfl hs hclos hkind hnames (wpAny_mono h (fun xv s₁ h₁ => ?_) fun _ _ e => e)
  refine Classical.byContradiction fun ng9 => ?_
  obtain ⟨l1, l2, lo1, lo2, xs, vs, n1, n2, z, TI, TO, i1, i2, news, rfl, hh, D5, hc1, hd1, hc2, hd2, hlen, hsz, hst, h5, hS, F, N, off, R⟩ := h₁
  refine ng9 ?_
  clear ng9
  refine wpAny_pyIter_zip hst.1 ?_
  refine z_block hh D5 hc1 hd1 hc2 hd2 hlen hsz hst h5 hS hcell hkind hxa hxb hab F N off R ?_
  intro D C h tk m' ys news' F' N' o1 hn hC₀ hD₀ hCL hDL hCD offC fin
  refine ⟨m', hn, fun h'' hs'' => fin D h'' tk (F'.change hs'' hCL hC₀) (fun p hp => ?_) o1⟩
  refine ⟨hs''.extBut _ _ ?_ (N' p hp).1, (N' p hp).2⟩
  rcases List.mem_cons.mp hp with rfl | hp
  · exact Ne.symm hCD
  · exact offC p hp
end
end Mine
end
open PySem PySem.W PyProof.Rows in
example : Mine.RS := by intro M A Q E s h; w_top off; first | walk1 | skip; all_goals first | exact h | exact wpAny_pure h
section
open PySem PySem.W PyProof.Rows PySem.Calls PySem.Spec
set_option maxHeartbeats 4000000
namespace Mine
open LCg
section
variable {prog : Program} {w : World} {A : Around} {h₀ : Heap} {L : Addr} {m : Str → Option Value} {env : Env} {c elt : PySem.Expr} {scope : Scope} {cl : List (Str × Addr)} {s : Shared} {S : List (Addr × Obj) → Prop} {Fin : List Value → List (Addr × Obj) → Prop}
theorem zr_inv {a b : Str} {ps : List (Value × Value)} {news : List (Addr × Obj)} (J : Nat → List Value → List (Addr × Obj) → Prop)
    (turn : ∀ i p ys nx own C oC D m₂ h tk (E' : Value → Shared → Prop), ps[i]? = some p → J i ys nx → NsObj oC m₂ → m₂ a = some p.1 → m₂ b = some p.2 → Fr h₀ L h m → News h₀ L h ((C, oC) :: (D, lst ys) :: (nx ++ own)) → C ≠ D → (∀ q ∈ nx, q.1 ≠ C ∧ q.1 ≠ D ∧ ∀ p ∈ own, q.1 ≠ p.1) → (∀ p ∈ own, p.1 ≠ C ∧ p.1 ≠ D) →
      wpAny (model prog w) A (isTrue c (compEnvC scope cl C env) (eval c (compEnvC scope cl C env))) (fun okb s₃ => if okb = true then
        wpAny (model prog w) A (eval elt (compEnvC scope cl C env)) (ZEnd h₀ L m { s with heap := h, toks := tk } own C oC D (lst ys) S (fun y nx' => J (i + 1) (ys ++ [y]) nx')) E' s₃
        else ZEnd h₀ L m { s with heap := h, toks := tk } own C oC D (lst ys) S (fun _ nx' => J (i + 1) ys nx') .none s₃) E' { s with heap := h, toks := tk })
    (fin : ∀ ys nx, J ps.length ys nx → Fin ys nx) (h0 : J 0 [] news) : ZRest prog w A h₀ L m env c elt a b scope cl s S Fin ps [] news := by
  have key : ∀ (r : List (Value × Value)) (i : Nat) (ys : List Value) (nx : List (Addr × Obj)), i + r.length = ps.length → r = ps.drop i → J i ys nx → ZRest prog w A h₀ L m env c elt a b scope cl s S Fin r ys nx := by
    intro r
    induction r with
    | nil =>
      intro i ys nx hi _ hJ
      have : i = ps.length := by simpa using hi
      exact fin ys nx (this ▸ hJ)
    | cons p r ih =>
      intro i ys nx hi hr hJ
      have hp : ps[i]? = some p := by
        have : (ps.drop i)[0]? = some p := by rw [← hr]; rfl
        simpa using this
      have hr' : r = ps.drop (i + 1) := by
        have : (ps.drop i).drop 1 = r := by rw [← hr]; rfl
        rw [List.drop_drop] at this
        exact this.symm
      show ∀ own C oC D m₂ h tk (E' : Value → Shared → Prop), _
      intro own C oC D m₂ h tk E' hC ha hb F N hCD o1 o2
      have up : ∀ {ys' : Value → List Value} {y : Value} {s₂ : Shared}, ZEnd h₀ L m { s with heap := h, toks := tk } own C oC D (lst ys) S (fun z nx' => J (i + 1) (ys' z) nx') y s₂ → ZEnd h₀ L m { s with heap := h, toks := tk } own C oC D (lst ys) S (fun z nx' => ZRest prog w A h₀ L m env c elt a b scope cl s S Fin r (ys' z) nx') y s₂ := by
        intro ys' y s₂
        intro hz9
        refine Classical.byContradiction fun ng9 => ?_
        obtain ⟨h', tk', nx', e, F', N', o', hS, hJ'⟩ := hz9
        refine ng9 ?_
        clear ng9
        exact ⟨h', tk', nx', e, F', N', o', hS, ih (i + 1) _ nx' (by simp at hi; omega) hr' hJ'⟩
      refine wpAny_mono (turn i p ys nx own C oC D m₂ h tk E' hp hJ hC ha hb F N hCD o1 o2) (fun okb s₃ hq => ?_) fun _ _ e => e
      cases okb with
      | true =>
        simp only [if_true] at hq ⊢
        exact wpAny_mono hq (fun y s₄ hq' => up (ys' := fun z => ys ++ [z]) hq') fun _ _ e => e
      | false =>
        simp only [Bool.false_eq_true, if_false] at hq ⊢
        exact up (ys' := fun _ => ys) hq
  exact key ps 0 [] news (by simp) (by simp) h0
theorem ct_inv {x : Str} {P : Nat → Value → Prop} {n : Nat} {news : List (Addr × Obj)} (J : Nat → List Value → List (Addr × Obj) → Prop)
    (turn : ∀ i v ys nx I oI C oC D m₂ h tk (E' : Value → Shared → Prop), i < n → P i v → J i ys nx → NsObj oC m₂ → m₂ x = some v → Fr h₀ L h m → News h₀ L h ((I, oI) :: (C, oC) :: (D, lst ys) :: nx) → Off3 I C D nx → ((@Ne Nat I C) ∧ (@Ne Nat I D) ∧ (@Ne Nat C D)) →
      wpAny (model prog w) A (isTrue c (compEnvC scope cl C env) (eval c (compEnvC scope cl C env))) (fun ok s' => if ok = true then
        wpAny (model prog w) A (eval elt (compEnvC scope cl C env)) (CompEnd h₀ L m { s with heap := h, toks := tk } I oI C oC D (lst ys) S (fun y nx' => J (i + 1) (ys ++ [y]) nx')) E' s'
        else CompEnd h₀ L m { s with heap := h, toks := tk } I oI C oC D (lst ys) S (fun _ nx' => J (i + 1) ys nx') Value.none s') E' { s with heap := h, toks := tk })
    (fin : ∀ ys nx, J n ys nx → Fin ys nx) (h0 : J 0 [] news) : LCt.CompRestT prog w A h₀ L m env c elt x scope cl s S P Fin n 0 [] news := by
  have key : ∀ (j i : Nat) (ys : List Value) (nx : List (Addr × Obj)), i + j = n → J i ys nx → LCt.CompRestT prog w A h₀ L m env c elt x scope cl s S P Fin j i ys nx := by
    intro j
    induction j with
    | zero =>
      intro i ys nx hi hJ
      have : i = n := by simpa using hi
      exact LCt.CompRestT.zero (fin ys nx (this ▸ hJ))
    | succ j ih =>
      intro i ys nx hi hJ
      refine LCt.CompRestT.succ ?_
      intro v I oI C oC D m₂ h tk E' hv hC hx F N off ne
      have up : ∀ {ys' : Value → List Value} {y : Value} {s₂ : Shared}, CompEnd h₀ L m { s with heap := h, toks := tk } I oI C oC D (lst ys) S (fun z nx' => J (i + 1) (ys' z) nx') y s₂ → CompEnd h₀ L m { s with heap := h, toks := tk } I oI C oC D (lst ys) S (fun z nx' => LCt.CompRestT prog w A h₀ L m env c elt x scope cl s S P Fin j (i + 1) (ys' z) nx') y s₂ := by
        intro ys' y s₂
        intro hz9
        refine Classical.byContradiction fun ng9 => ?_
        obtain ⟨h', tk', nx', e, F', N', o', hS, hJ'⟩ := hz9
        refine ng9 ?_
        clear ng9
        exact ⟨h', tk', nx', e, F', N', o', hS, ih (i + 1) _ nx' (by omega) hJ'⟩
      refine wpAny_mono (turn i v ys nx I oI C oC D m₂ h tk E' (by omega) hv hJ hC hx F N off ne) (fun okb s₃ hq => ?_) fun _ _ e => e
      cases okb with
      | true =>
        simp only [if_true] at hq ⊢
        exact wpAny_mono hq (fun y s₄ hq' => up (ys' := fun z => ys ++ [z]) hq') fun _ _ e => e
      | false =>
        simp only [Bool.false_eq_true, if_false] at hq ⊢
        exact up (ys' := fun _ => ys) hq
  exact key n 0 [] news (by omega) h0
end
end Mine
end
section
open PySem PySem.W PyProof.Rows PySem.W.X
namespace Mine
noncomputable abbrev denX : Code → Sem Fin := PySem.W.XFast.xw11892475500146522536 PySem.W.XFast.tableX
theorem denX_eq : denote table = denX := by
  unfold denX
  rw [← PySem.W.XFast.tableX_eq, ← PySem.W.XFast.xe11892475500146522536]
theorem xca_nil (p : Pos) : PySem.W.XFast.xw7104952167334194321 p [] = none := by rw [← PySem.W.XFast.xe7104952167334194321]; rfl
theorem xca_hit {l k el ek : Nat} {c : Value} {rest : List Value} : PySem.W.XFast.xw7104952167334194321 ⟨l, k, el, ek⟩ (rawInt (l : Int) :: rawInt (k : Int) :: c :: rest) = some c := by
  rw [← PySem.W.XFast.xe7104952167334194321]
  simp [codeAmong, rawInt]
theorem xca_miss {a b l k el ek : Nat} {c : Value} {rest : List Value} (h : (Nat.beq a l && Nat.beq b k) = false) : PySem.W.XFast.xw7104952167334194321 ⟨l, k, el, ek⟩ (rawInt (a : Int) :: rawInt (b : Int) :: c :: rest) = PySem.W.XFast.xw7104952167334194321 ⟨l, k, el, ek⟩ rest := by
  rw [← PySem.W.XFast.xe7104952167334194321]
  rw [Bool.and_eq_false_iff] at h
  have : ((a : Int) == (l : Int) && (b : Int) == (k : Int)) = false := by
    rw [Bool.and_eq_false_iff]
    rcases h with h | h
    · left; rw [beq_eq_false_iff_ne]; intro e; rw [Int.ofNat.inj e, Nat.beq_refl] at h; cases h
    · right; rw [beq_eq_false_iff_ne]; intro e; rw [Int.ofNat.inj e, Nat.beq_refl] at h; cases h
  simp only [rawInt]
  rw [codeAmong]
  simp [this]
theorem or_mid {p q r : Bool} (h : q = true) : (p || q || r) = true := by subst h; simp
theorem or_midS {d : DecidableEq Value} {p r : Bool} {a : Value} : (p || (@BEq.beq Value (@instBEqOfDecidableEq Value d) a a) || r) = true := or_mid (by simp)
theorem bneS {d : DecidableEq Value} (a : Value) : @bne Value (@instBEqOfDecidableEq Value d) a a = false := by simp
theorem bneTR {d : DecidableEq Value} (n : String) (x : Addr) : @bne Value (@instBEqOfDecidableEq Value d) (.type n) (.ref x) = true := by simp
theorem bneRT {d : DecidableEq Value} (n : String) (x : Addr) : @bne Value (@instBEqOfDecidableEq Value d) (.ref x) (.type n) = true := by simp
theorem filtK {d : DecidableEq Value} (a : Addr) (n : String) : List.filter (fun x => @bne Value (@instBEqOfDecidableEq Value d) x (.ref a)) [.ref a, .type n] = [.type n] := by simp
theorem contK {d : DecidableEq Value} {x : Value} {l : List Value} : @List.contains Value (@instBEqOfDecidableEq Value d) (x :: l) x = true := by simp
theorem dropK {d : DecidableEq Value} {x T : Value} : List.drop 1 (List.dropWhile (fun y => @bne Value (@instBEqOfDecidableEq Value d) y x) [x, T]) = [T] := by simp [List.dropWhile]
theorem loop_any {β : Type} {g : Value → β → Sem (ForInStep β)} : ∀ (l as₁ as₂ : List Value) (b : β) (h₁ : ∃ bs, bs ++ l = as₁) (h₂ : ∃ bs, bs ++ l = as₂), List.forIn'.loop as₁ (fun a _ b => g a b) l b h₁ = List.forIn'.loop as₂ (fun a _ b => g a b) l b h₂
  | [], _, _, _, _, _ => by simp only [List.forIn'.loop]
  | a :: l, as₁, as₂, b, h₁, h₂ => by
    simp only [List.forIn'.loop]
    refine congrArg _ (funext fun r => ?_)
    cases r with
    | done b => rfl
    | yield b => exact loop_any l as₁ as₂ b _ _
theorem and_r {p q : Bool} (h : q = false) : (p && q) = false := by subst h; simp
theorem condT {α : Type} (x y : α) : condFn α true x y = x := rfl
theorem condF {α : Type} (x y : α) : condFn α false x y = y := rfl
theorem setKeys {news : List (Addr × Obj)} {i : Nat} {a : Addr} {o o' : Obj} (hi : news[i]? = some (a, o)) : ∀ p ∈ news.set i (a, o'), ∃ q ∈ news, q.1 = p.1 := fun p hp => by
  rcases List.mem_or_eq_of_mem_set hp with hp | rfl
  · exact ⟨p, hp, rfl⟩
  · exact ⟨_, List.mem_of_getElem? hi, rfl⟩
structure Mem2 (h₀ h : Heap) (chg news : List (Addr × Obj)) : Prop where
  m : Mem h₀ h chg news
  lo : ∀ p ∈ news, h₀.objs.size ≤ p.1
  sz : h₀.objs.size ≤ h.objs.size
theorem Mem2.start (h : Heap) : Mem2 h h [] [] := ⟨Mem.start h, fun _ hp => (nomatch hp), Nat.le_refl _⟩
theorem Mem2.alloc {h₀ h : Heap} {chg news : List (Addr × Obj)} (D : Mem2 h₀ h chg news) {o : Obj} (hf : o.isFreed = false) : Mem2 h₀ (h.push o) chg ((h.objs.size, o) :: news) := by
  refine ⟨D.m.alloc hf, fun p hp => ?_, ?_⟩
  · rcases List.mem_cons.mp hp with rfl | hp
    · exact D.sz
    · exact D.lo p hp
  · have := D.sz
    rw [Heap.size_push]; omega
theorem Mem2.upd {h₀ h : Heap} {chg news chg' : List (Addr × Obj)} {a : Addr} {f : Obj → Obj} {news' : List (Addr × Obj)} (D : Mem2 h₀ h chg news) (m : Mem h₀ (h.update a f) chg' news') (ek : ∀ p ∈ news', ∃ q ∈ news, q.1 = p.1 := by first | exact fun p hp => ⟨p, hp, rfl⟩ | exact Mine.setKeys (by assumption)) : Mem2 h₀ (h.update a f) chg' news' := by
  refine ⟨m, fun p hp => ?_, ?_⟩
  · obtain ⟨q, hq, e⟩ := ek p hp
    rw [← e]; exact D.lo q hq
  · have := D.sz
    rw [Heap.size_after_update]; exact this
theorem Mem2.app {h₀ h h₂ : Heap} {chg news n₂ : List (Addr × Obj)} (D : Mem2 h₀ h chg news) (D₂ : Mem2 h h₂ [] n₂) : Mem2 h₀ h₂ chg (n₂ ++ news) := by
  have k2 : ∀ b o, h.get? b = some o → h₂.get? b = some o := fun b o e => D₂.m.keep b o e (by simp [away])
  refine ⟨⟨fun b o e q => k2 b o (D.m.keep b o e q), fun p hp => ⟨k2 _ _ (D.m.ch p hp).1, (D.m.ch p hp).2⟩, D.m.cd, fun p hp => ?_, ?_⟩, fun p hp => ?_, Nat.le_trans D.sz D₂.sz⟩
  · rcases List.mem_append.mp hp with hp | hp
    · refine ⟨(D₂.m.nw p hp).1, ?_⟩
      cases q : h₀.get? p.1 with
      | none => rfl
      | some o =>
        obtain ⟨o', e⟩ := D.m.there q
        have z := (D₂.m.nw p hp).2
        rw [e] at z; cases z
    · exact ⟨k2 _ _ (D.m.nw p hp).1, (D.m.nw p hp).2⟩
  · rw [List.map_append, List.pairwise_append]
    refine ⟨D₂.m.ord, D.m.ord, fun a ha b hb => ?_⟩
    obtain ⟨p, hp, rfl⟩ := List.mem_map.mp ha
    obtain ⟨q, hq, rfl⟩ := List.mem_map.mp hb
    exact Nat.lt_of_lt_of_le (Heap.lt_size (D.m.nw q hq).1) (D₂.lo p hp)
  · rcases List.mem_append.mp hp with hp | hp
    · exact Nat.le_trans D.sz (D₂.lo p hp)
    · exact D.lo p hp
section
variable {α : Type} {prog : Program} {w : World} {A : Around} {c : Code} {Q : α → Shared → Prop} {E : Value → Shared → Prop} {h₀ h : Heap} {chg news : List (Addr × Obj)} {g : Array GenState} {d : Drawn} {t : Nat} {os : OsState}
theorem mNew (D : Mem2 h₀ h chg news) {a : Addr} {o : Obj} (hm : (a, o) ∈ news) : h.get? a = some o := (D.m.nw _ hm).1
theorem mOld (D : Mem2 h₀ h chg news) (a : Addr) (o : Obj) (e : h₀.get? a = some o) (q : (hasCls o || away chg a) = true) : h.get? a = some o := D.m.keep a o e q
theorem mOldA (D : Mem2 h₀ h chg news) (a : Addr) (o : Obj) (e : h₀.get? a = some o) (q : away chg a = true) : h.get? a = some o := mOld D a o e (by rw [q, Bool.or_true])
theorem mChg (D : Mem2 h₀ h chg news) {a : Addr} {o : Obj} (hm : (a, o) ∈ chg) : h.get? a = some o := (D.m.ch _ hm).1
theorem q_neO (D : Mem2 h₀ h chg news) {a b : Addr} {ob : Obj} (e : h₀.get? b = some ob) {o : Obj} (hm : (a, o) ∈ news) : (a == b) = false := by
  rw [beq_eq_false_iff_ne]
  rintro rfl
  have := (D.m.nw _ hm).2
  rw [e] at this; cases this
theorem q_neO' (D : Mem2 h₀ h chg news) {a b : Addr} {ob : Obj} (e : h₀.get? b = some ob) {o : Obj} (hm : (a, o) ∈ news) : (b == a) = false := by
  rw [beq_eq_false_iff_ne]
  intro z
  exact absurd z.symm (beq_eq_false_iff_ne.mp (q_neO D e hm))
theorem q_adO (D : Mem2 h₀ h chg news) {a b : Addr} {ob : Obj} (e : h₀.get? b = some ob) {o : Obj} (hm : (a, o) ∈ news) : oAd.1 a b = .isFalse (beq_eq_false_iff_ne.mp (q_neO D e hm)) := Subsingleton.elim _ _
theorem q_adO' (D : Mem2 h₀ h chg news) {a b : Addr} {ob : Obj} (e : h₀.get? b = some ob) {o : Obj} (hm : (a, o) ∈ news) : oAd.1 b a = .isFalse (beq_eq_false_iff_ne.mp (q_neO' D e hm)) := Subsingleton.elim _ _
theorem q_adS (a : Addr) : oAd.1 a a = .isTrue rfl := Subsingleton.elim _ _
theorem q_load {a : Addr} {q : Option Value} {k : Obj → Sem α} {o : Obj} (ho : h.get? a = some o) (x : wpOwn (model prog w) A c (k o) Q E ⟨h, g, d, t, os⟩) : wpOwn (model prog w) A c (.load a q k) Q E ⟨h, g, d, t, os⟩ := y_load _ _ _ _ _ _ _ _ _ _ _ _ _ _ _ _ ho x
inductive At3 {α : Type} : List α → Nat → α → List α → Prop
  | at30 {l : List α} {p x : α} : At3 (p :: l) Nat.zero x (x :: l)
  | at3S {l l' : List α} {p x : α} {i : Nat} (h : At3 l i x l') : At3 (p :: l) (Nat.succ i) x (p :: l')
noncomputable abbrev TS {α : Type} (l : List α) (i : Nat) (x : α) (l' : List α) : Prop := At3 l i x l' → l' = l.set i x
theorem q_allocN {o o' : Obj} {k : Addr → Sem α} (D : Mem2 h₀ h chg news) (eo : o = o') (hf : o'.isFreed = false) (x : ∀ a h', Mem2 h₀ h' chg ((a, o') :: news) → wpOwn (model prog w) A c (k a) Q E ⟨h', g, d, t, os⟩) : wpOwn (model prog w) A c (.alloc o k) Q E ⟨h, g, d, t, os⟩ := by
  subst eo
  exact wpOwn_bind (m := alloc o) (f := k) (wpOwn_of_wpAny (wpAny_alloc (x _ _ (D.alloc hf))))
theorem q_alloc {o : Obj} {k : Addr → Sem α} (D : Mem2 h₀ h chg news) (hf : o.isFreed = false) (x : ∀ a h', Mem2 h₀ h' chg ((a, o) :: news) → wpOwn (model prog w) A c (k a) Q E ⟨h', g, d, t, os⟩) : wpOwn (model prog w) A c (.alloc o k) Q E ⟨h, g, d, t, os⟩ := wpOwn_bind (m := alloc o) (f := k) (wpOwn_of_wpAny (wpAny_alloc (x _ _ (D.alloc hf))))
theorem q_upd {a : Addr} {q : Option Value} {f : Obj → Obj} {k : Unit → Sem α} {o : Obj} (D : Mem2 h₀ h chg news) (i : Nat) (hi : news[i]? = some (a, o)) (o' : Obj) (e : f o = o') (hf : o'.isFreed = false) (x : ∀ h', Mem2 h₀ h' chg (news.set i (a, o')) → wpOwn (model prog w) A c (k ()) Q E ⟨h', g, d, t, os⟩) : wpOwn (model prog w) A c (.update a q f k) Q E ⟨h, g, d, t, os⟩ := by
  subst e
  exact wpOwn_bind (m := updatePart a q f) (f := k) (wpOwn_of_wpAny (wpAny_updatePart (D.m.at i a o hi) (x _ (D.upd (D.m.update hi hf)))))
theorem q_updU {a : Addr} {q : Option Value} {f : Obj → Obj} {k : Unit → Sem α} {o o' : Obj} {i : Nat} {l' : List (Addr × Obj)} (D : Mem2 h₀ h chg news) (u : some (a, o) = news[i]?) (e : f o = o') (hf : o'.isFreed = false) (v : l' = news.set i (a, o')) (x : ∀ h', Mem2 h₀ h' chg l' → wpOwn (model prog w) A c (k ()) Q E ⟨h', g, d, t, os⟩) : wpOwn (model prog w) A c (.update a q f k) Q E ⟨h, g, d, t, os⟩ :=
  q_upd D i u.symm o' e hf fun h' D' => x h' (v ▸ D')
theorem q_grow {a : Addr} {q : Option Value} {f : Obj → Obj} {k : Unit → Sem α} {c₀ : Addr} {ps more : Array Value} (D : Mem2 h₀ h chg news) (ht : h₀.TableAt c₀ a ps) (hw : away chg a = true) (hn : f (tableObj ps) = tableObj (ps ++ more)) {l : Array Value} (el : ps ++ more = l)
    (x : ∀ h', Mem2 h₀ h' ((a, tableObj l) :: chg) news → wpOwn (model prog w) A c (k ()) Q E ⟨h', g, d, t, os⟩) : wpOwn (model prog w) A c (.update a q f k) Q E ⟨h, g, d, t, os⟩ := by
  subst el
  exact wpOwn_bind (m := updatePart a q f) (f := k) (wpOwn_of_wpAny (wpAny_updatePart (D.m.keep a _ ht.2 (by rw [hw, Bool.or_true])) (x _ (D.upd (D.m.grow ht hw hn)))))
theorem q_regrow {a : Addr} {q : Option Value} {f : Obj → Obj} {k : Unit → Sem α} {vs more : Array Value} (D : Mem2 h₀ h chg news) (i : Nat) (hi : chg[i]? = some (a, tableObj vs)) (hn : f (tableObj vs) = tableObj (vs ++ more)) {l : Array Value} (el : vs ++ more = l)
    (x : ∀ h', Mem2 h₀ h' (chg.set i (a, tableObj l)) news → wpOwn (model prog w) A c (k ()) Q E ⟨h', g, d, t, os⟩) : wpOwn (model prog w) A c (.update a q f k) Q E ⟨h, g, d, t, os⟩ := by
  subst el
  exact wpOwn_bind (m := updatePart a q f) (f := k) (wpOwn_of_wpAny (wpAny_updatePart (D.m.atC i a _ hi) (x _ (D.upd (D.m.regrow hi hn)))))
theorem q_rule {n : String} {k : Unit → Sem α} {s : Shared} (x : wpOwn (model prog w) A c (k ()) Q E s) : wpOwn (model prog w) A c (.rule n k) Q E s := y_skim α prog w A c Q E s (.rule n k) 1 x
theorem q_at {n : Pos} {k : Unit → Sem α} {s : Shared} (x : wpOwn (model prog w) A c (k ()) Q E s) : wpOwn (model prog w) A c (.at n k) Q E s := y_skim α prog w A c Q E s (.at n k) 1 x
theorem q_point {n : List Value} {k : Unit → Sem α} {s : Shared} (x : wpOwn (model prog w) A c (k ()) Q E s) : wpOwn (model prog w) A c (.point n k) Q E s := y_skim α prog w A c Q E s (.point n k) 1 x
theorem q_ask {k : Setting → Sem α} {s : Shared} (x : wpOwn (model prog w) A c (k ⟨prog, w.params⟩) Q E s) : wpOwn (model prog w) A c (.ask k) Q E s := y_skim α prog w A c Q E s (.ask k) 1 x
theorem q_fresh {k : Tok → Sem α} (x : wpOwn (model prog w) A c (k t) Q E ⟨h, g, d, t + 1, os⟩) : wpOwn (model prog w) A c (.fresh k) Q E ⟨h, g, d, t, os⟩ := y_fresh _ _ _ _ _ _ _ _ _ _ _ _ _ x
theorem q_stack {s : Shared} {k : List (Code × Pos) → Sem α} (x : ∀ (p : Pos) (below : List (Code × Pos)), Lies (A.under c) ((c, p) :: below) → wpOwn (model prog w) A c (k ((c, p) :: below)) Q E s) : wpOwn (model prog w) A c (.stack k) Q E s := y_stack _ _ _ _ _ _ _ _ _ x
theorem q_handled {s : Shared} {k : Option Value → Sem α} {v : Option Value} (hv : A.handled = v) (x : wpOwn (model prog w) A c (k v) Q E s) : wpOwn (model prog w) A c (.handled false k) Q E s := by
  subst hv; exact y_handled _ _ _ _ _ _ _ _ _ x
end
structure In23 (K : Frag) (h : Heap) : Prop where
  at' : ∀ a o, Nat.beq a 23 = false → K.lookup a = some o → h.get? a = some o
  s1 : ∃ o, h.get? (nat_lit 1) = some o
theorem ns_y {es : Array DictEntry} {n : Str} {v : Value} {y : Option DictEntry × Bool} (e : nsFind es n = some v) (hy : PySem.W.XFast.xw3451499830137702736 n.cps.size n.cps.toList es.toList false = y) : ∃ hh k b, y = (some ⟨hh, k, v⟩, b) := by
  rw [← PySem.W.XFast.xe3451499830137702736] at hy
  have q := nsNameIn_fst n es
  rw [hy] at q
  obtain ⟨y1, b⟩ := y
  unfold nsFind findBy at e
  rw [← q] at e
  cases y1 with
  | none => cases e
  | some d => obtain ⟨hh, k, v'⟩ := d; cases e; exact ⟨hh, k, b, rfl⟩
structure Room (A : Around) (n m : Nat) : Prop where
  d : A.depth + n < recursionLimit
  u : A.units + m < cLine
structure RoomC (A : Around) (c : Code) (n m : Nat) : Prop where
  r : Room (A.under c) n m
theorem Room.under {A : Around} {c : Code} {n m n' m' : Nat} (r : Room A n m) (hw : Nat.ble c.weight n = true) (hu : Nat.ble c.cUnits m = true) (hn : n - c.weight = n') (hm : m - c.cUnits = m') : RoomC A c n' m' := by
  subst hn hm
  have := Nat.le_of_ble_eq_true hw
  have := Nat.le_of_ble_eq_true hu
  refine ⟨?_, ?_⟩
  · rw [show (A.under c).depth = A.depth + c.weight by first | rfl | exact Nat.add_comm _ _]
    have := r.d; omega
  · rw [show (A.under c).units = A.units + c.cUnits by first | rfl | exact Nat.add_comm _ _]
    have := r.u; omega
structure KR (α : Type) (prog : Program) (w : World) (A : Around) (c : Code) (Q : α → Shared → Prop) (E : Value → Shared → Prop) (k : Result → Sem α) (R : Result → Shared → Prop) : Prop where
  h : ∀ f s', wpOwn (model prog w) A c (k (.ok f)) Q E s' → R (.ok f) s'
structure KA (α : Type) (prog : Program) (w : World) (A : Around) (Q : α → Shared → Prop) (E : Value → Shared → Prop) (k : Result → Sem α) (R : Result → Shared → Prop) : Prop where
  h : ∀ f s', wpAny (model prog w) A (k (.ok f)) Q E s' → R (.ok f) s'
structure KQ (α β : Type) (prog : Program) (w : World) (A : Around) (c : Code) (Q : α → Shared → Prop) (E : Value → Shared → Prop) (f : β → Sem α) (Q' : β → Shared → Prop) : Prop where
  h : ∀ a s', wpOwn (model prog w) A c (f a) Q E s' → Q' a s'
section
variable {α : Type} {prog : Program} {w : World} {A A' A₁ : Around} {c c₁ c' : Code} {Q : α → Shared → Prop} {E E₁ : Value → Shared → Prop} {s : Shared}
theorem q_code {A' : Around} {R : Result → Shared → Prop} {s : Shared} {c' : Code} (x : wpOwn (model prog w) A' c' (denX c') (postC prog w A' R) (postE R) s) : codeAny (model prog w) A' c' R s :=
  y_code _ _ _ _ _ _ (by rw [denX_eq]; exact x)
theorem q_call {n m n' m' : Nat} {c₀ c' : Code} {hd : Option Value} {gd : Bool} {l : List Value} {k : Result → Sem α} (hnb : hd ≠ some byPass) (ec : c₀ = c') (RC : RoomC A c n m) (hw : Nat.ble c'.weight n = true) (hu : Nat.ble c'.cUnits m = true) (hn : n - c'.weight = n') (hm : m - c'.cUnits = m')
    (x : ∀ A₂ c₂ R E₂, KR α prog w A c Q E k R → Room A₂ n m → RoomC A₂ c₂ n' m' → wpOwn (model prog w) A₂ c₂ (denX c') (postC prog w A₂ R) E₂ s) : wpOwn (model prog w) A c (.call c₀ hd gd l k) Q E s := by
  subst ec
  have r : Room ((A.under c).mark hd) n m := ⟨RC.r.d, RC.r.u⟩
  exact y_call _ _ _ _ _ _ _ _ _ _ _ _ _ hnb (q_code (x _ _ _ _ ⟨fun _ _ h => h⟩ r (r.under hw hu hn hm)))
theorem q_start {n m n' m' : Nat} {c₀ c' : Code} {hd : Option Value} {gd : Bool} {l : List Value} {k : Result → Sem α} (hnb : hd ≠ some byPass) (ec : c₀ = c') (r : Room A n m) (hw : Nat.ble c'.weight n = true) (hu : Nat.ble c'.cUnits m = true) (hn : n - c'.weight = n') (hm : m - c'.cUnits = m')
    (x : ∀ A₂ c₂ R E₂, KA α prog w A Q E k R → Room A₂ n m → RoomC A₂ c₂ n' m' → wpOwn (model prog w) A₂ c₂ (denX c') (postC prog w A₂ R) E₂ s) : wpAny (model prog w) A (.call c₀ hd gd l k) Q E s := by
  subst ec
  have r' : Room (A.mark hd) n m := ⟨r.d, r.u⟩
  exact y_start _ _ _ _ _ _ _ _ _ _ _ _ hnb (q_code (x _ _ _ _ ⟨fun _ _ h => h⟩ r' (r'.under hw hu hn hm)))
theorem q_again {n m n' m' : Nat} {c₀ : Code} {v : Fin} {R : Result → Shared → Prop} (e : v = .again c₀) (ec : c₀ = c') (r : Room A' n m) (hq : c'.quiet = true) (hw : Nat.ble c'.weight n = true) (hu : Nat.ble c'.cUnits m = true) (hn : n - c'.weight = n') (hm : m - c'.cUnits = m')
    (x : ∀ c₂ E₂, RoomC A' c₂ n' m' → wpOwn (model prog w) A' c₂ (denX c') (postC prog w A' R) E₂ s) : wpOwn (model prog w) A' c (.pure v) (postC prog w A' R) E s := by
  subst e ec; exact y_pure _ _ _ _ _ _ _ _ _ ⟨hq, q_code (x _ _ (r.under hw hu hn hm))⟩
theorem q_done {v : Fin} {f : Flow} {k : Result → Sem α} {R : Result → Shared → Prop} {E₀ : Value → Shared → Prop} (K : KR α prog w A₁ c₁ Q E₁ k R) (e : v = .done f) (x : wpOwn (model prog w) A₁ c₁ (k (.ok f)) Q E₁ s) : wpOwn (model prog w) A c (.pure v) (postC prog w A' R) E₀ s := by
  subst e; exact y_pure _ _ _ _ _ _ _ _ _ (K.h _ _ x)
theorem q_doneA {v : Fin} {f : Flow} {k : Result → Sem α} {R : Result → Shared → Prop} {E₀ : Value → Shared → Prop} (K : KA α prog w A₁ Q E₁ k R) (e : v = .done f) {a : α} (e' : k (.ok f) = .pure a) (x : Q a s) : wpOwn (model prog w) A c (.pure v) (postC prog w A' R) E₀ s := by
  subst e; exact y_pure _ _ _ _ _ _ _ _ _ (K.h _ _ (by rw [e']; exact wpAny_pure x))
theorem q_bind {β : Type} {m : Sem β} {f : β → Sem α} (x : ∀ Q', KQ α β prog w A c Q E f Q' → wpOwn (model prog w) A c m Q' E s) : wpOwn (model prog w) A c (m.bind f) Q E s := wpOwn_bind (m := m) (f := f) (x _ ⟨fun _ _ h => h⟩)
theorem q_back {β : Type} {v : β} {f : β → Sem α} {Q' : β → Shared → Prop} {E' : Value → Shared → Prop} (K : KQ α β prog w A c Q E f Q') (x : wpOwn (model prog w) A c (f v) Q E s) : wpOwn (model prog w) A c (.pure v) Q' E' s := y_pure _ _ _ _ _ _ _ _ _ (K.h _ _ x)
theorem q_onRaise {m : Sem α} {k : Value → Sem Unit} (x : ∀ E', wpOwn (model prog w) A c m Q E' s) : wpOwn (model prog w) A c (m.onRaise k) Q E s := fun Γ p hc hΓ => by
  rw [Sem.wp_onRaise]
  exact Sem.wp_mono _ Γ m (fun _ _ _ h' => h') (fun e p' s' h' => h' Γ p' hc hΓ) p s (x (fun e s' => wpOwn (model prog w) A c (k e) (fun _ s'' => E e s'') E s') Γ p hc hΓ)
theorem q_keep {m : Sem α} {vs : List Value} (x : wpOwn (model prog w) A c m Q E s) : wpOwn (model prog w) A c (m.keep vs) Q E s := fun Γ p hc hΓ => by
  rw [Sem.wp_keep]
  exact x Γ p hc hΓ
theorem q_try {m : Sem α} {k : Value → Sem α} (x : ∀ E', wpOwn (model prog w) A c m Q E' s) : wpOwn (model prog w) A c (m.tryCatch k) Q E s := fun Γ p hc hΓ => by
  rw [Sem.wp_tryCatch]
  exact Sem.wp_mono _ Γ m (fun _ _ _ h' => h') (fun e p' s' h' => h' Γ p' hc hΓ) p s (x (fun e s' => wpOwn (model prog w) A c (k e) Q E s') Γ p hc hΓ)
theorem q_near {st : List (Code × Pos)} {n m : Nat} (l : Lies (A.under c) st) (r : RoomC A c n m) (own : Nat) : nearF st own recursionLimit = false := l.near' (Nat.lt_of_le_of_lt (Nat.le_add_right _ _) r.r.d) own
theorem q_over {st : List (Code × Pos)} {n m : Nat} (l : Lies (A.under c) st) (r : RoomC A c n m) (own : Nat) : overF st own recursionLimit = false := l.over (Nat.lt_of_le_of_lt (Nat.le_add_right _ _) r.r.d) own
theorem q_warm {st : List (Code × Pos)} {n m : Nat} (l : Lies (A.under c) st) (r : RoomC A c n m) (own : Nat) : warmF st own recursionLimit = false := l.warm (Nat.lt_of_le_of_lt (Nat.le_add_right _ _) r.r.d) own
theorem q_room {st : List (Code × Pos)} {n m : Nat} (l : Lies (A.under c) st) (r : RoomC A c n m) : roomF st = false := l.room (Nat.lt_of_le_of_lt (Nat.le_add_right _ _) r.r.u)
theorem q_bt {b : Bool} {x y : Sem α} (hb : b = true) (k : wpOwn (model prog w) A c y Q E s) : wpOwn (model prog w) A c (@Bool.rec (fun _ => Sem α) x y b) Q E s := by subst hb; exact k
theorem q_bf {b : Bool} {x y : Sem α} (hb : b = false) (k : wpOwn (model prog w) A c x Q E s) : wpOwn (model prog w) A c (@Bool.rec (fun _ => Sem α) x y b) Q E s := by subst hb; exact k
theorem q_loop {β : Type} {as as' l : List Value} {g : Value → β → Sem (ForInStep β)} {b : β} {h : ∃ bs, bs ++ as' = as} {Q : β → Shared → Prop} (e : as' = l) (x : wpOwn (model prog w) A c (List.forIn'.loop l (fun a _ b => g a b) l b ⟨[], rfl⟩) Q E s) : wpOwn (model prog w) A c (List.forIn'.loop as (fun a _ b => g a b) as' b h) Q E s := by
  subst e
  rw [loop_any as' as as' b h ⟨[], rfl⟩]
  exact x
theorem q_pure {v : α} (x : Q v s) : wpOwn (model prog w) A c (.pure v) Q E s := y_pure _ _ _ _ _ _ _ _ _ x
end
end Mine
end
section
open PySem PySem.W
namespace Mine
theorem st0 : Str.ofString "/" = ⟨#[47]⟩ := Fast.ofString_ofList ['/']
theorem st1 : Str.ofString "/claim/cut.py" = ⟨#[47, 99, 108, 97, 105, 109, 47, 99, 117, 116, 46, 112, 121]⟩ := Fast.ofString_ofList ['/', 'c', 'l', 'a', 'i', 'm', '/', 'c', 'u', 't', '.', 'p', 'y']
theorem st2 : Str.ofString "ArithmeticError" = ⟨#[65, 114, 105, 116, 104, 109, 101, 116, 105, 99, 69, 114, 114, 111, 114]⟩ := Fast.ofString_ofList ['A', 'r', 'i', 't', 'h', 'm', 'e', 't', 'i', 'c', 'E', 'r', 'r', 'o', 'r']
theorem st3 : Str.ofString "AssertionError" = ⟨#[65, 115, 115, 101, 114, 116, 105, 111, 110, 69, 114, 114, 111, 114]⟩ := Fast.ofString_ofList ['A', 's', 's', 'e', 'r', 't', 'i', 'o', 'n', 'E', 'r', 'r', 'o', 'r']
theorem st4 : Str.ofString "AttributeError" = ⟨#[65, 116, 116, 114, 105, 98, 117, 116, 101, 69, 114, 114, 111, 114]⟩ := Fast.ofString_ofList ['A', 't', 't', 'r', 'i', 'b', 'u', 't', 'e', 'E', 'r', 'r', 'o', 'r']
theorem st5 : Str.ofString "BaseException" = ⟨#[66, 97, 115, 101, 69, 120, 99, 101, 112, 116, 105, 111, 110]⟩ := Fast.ofString_ofList ['B', 'a', 's', 'e', 'E', 'x', 'c', 'e', 'p', 't', 'i', 'o', 'n']
theorem st6 : Str.ofString "BaseExceptionGroup" = ⟨#[66, 97, 115, 101, 69, 120, 99, 101, 112, 116, 105, 111, 110, 71, 114, 111, 117, 112]⟩ := Fast.ofString_ofList ['B', 'a', 's', 'e', 'E', 'x', 'c', 'e', 'p', 't', 'i', 'o', 'n', 'G', 'r', 'o', 'u', 'p']
theorem st7 : Str.ofString "BlockingIOError" = ⟨#[66, 108, 111, 99, 107, 105, 110, 103, 73, 79, 69, 114, 114, 111, 114]⟩ := Fast.ofString_ofList ['B', 'l', 'o', 'c', 'k', 'i', 'n', 'g', 'I', 'O', 'E', 'r', 'r', 'o', 'r']
theorem st8 : Str.ofString "BrokenPipeError" = ⟨#[66, 114, 111, 107, 101, 110, 80, 105, 112, 101, 69, 114, 114, 111, 114]⟩ := Fast.ofString_ofList ['B', 'r', 'o', 'k', 'e', 'n', 'P', 'i', 'p', 'e', 'E', 'r', 'r', 'o', 'r']
theorem st9 : Str.ofString "BufferError" = ⟨#[66, 117, 102, 102, 101, 114, 69, 114, 114, 111, 114]⟩ := Fast.ofString_ofList ['B', 'u', 'f', 'f', 'e', 'r', 'E', 'r', 'r', 'o', 'r']
theorem st10 : Str.ofString "BytesWarning" = ⟨#[66, 121, 116, 101, 115, 87, 97, 114, 110, 105, 110, 103]⟩ := Fast.ofString_ofList ['B', 'y', 't', 'e', 's', 'W', 'a', 'r', 'n', 'i', 'n', 'g']
theorem st11 : Str.ofString "ChildProcessError" = ⟨#[67, 104, 105, 108, 100, 80, 114, 111, 99, 101, 115, 115, 69, 114, 114, 111, 114]⟩ := Fast.ofString_ofList ['C', 'h', 'i', 'l', 'd', 'P', 'r', 'o', 'c', 'e', 's', 's', 'E', 'r', 'r', 'o', 'r']
theorem st12 : Str.ofString "ConnectionAbortedError" = ⟨#[67, 111, 110, 110, 101, 99, 116, 105, 111, 110, 65, 98, 111, 114, 116, 101, 100, 69, 114, 114, 111, 114]⟩ := Fast.ofString_ofList ['C', 'o', 'n', 'n', 'e', 'c', 't', 'i', 'o', 'n', 'A', 'b', 'o', 'r', 't', 'e', 'd', 'E', 'r', 'r', 'o', 'r']
theorem st13 : Str.ofString "ConnectionError" = ⟨#[67, 111, 110, 110, 101, 99, 116, 105, 111, 110, 69, 114, 114, 111, 114]⟩ := Fast.ofString_ofList ['C', 'o', 'n', 'n', 'e', 'c', 't', 'i', 'o', 'n', 'E', 'r', 'r', 'o', 'r']
theorem st14 : Str.ofString "ConnectionRefusedError" = ⟨#[67, 111, 110, 110, 101, 99, 116, 105, 111, 110, 82, 101, 102, 117, 115, 101, 100, 69, 114, 114, 111, 114]⟩ := Fast.ofString_ofList ['C', 'o', 'n', 'n', 'e', 'c', 't', 'i', 'o', 'n', 'R', 'e', 'f', 'u', 's', 'e', 'd', 'E', 'r', 'r', 'o', 'r']
theorem st15 : Str.ofString "ConnectionResetError" = ⟨#[67, 111, 110, 110, 101, 99, 116, 105, 111, 110, 82, 101, 115, 101, 116, 69, 114, 114, 111, 114]⟩ := Fast.ofString_ofList ['C', 'o', 'n', 'n', 'e', 'c', 't', 'i', 'o', 'n', 'R', 'e', 's', 'e', 't', 'E', 'r', 'r', 'o', 'r']
theorem st16 : Str.ofString "DeprecationWarning" = ⟨#[68, 101, 112, 114, 101, 99, 97, 116, 105, 111, 110, 87, 97, 114, 110, 105, 110, 103]⟩ := Fast.ofString_ofList ['D', 'e', 'p', 'r', 'e', 'c', 'a', 't', 'i', 'o', 'n', 'W', 'a', 'r', 'n', 'i', 'n', 'g']
theorem st17 : Str.ofString "EOFError" = ⟨#[69, 79, 70, 69, 114, 114, 111, 114]⟩ := Fast.ofString_ofList ['E', 'O', 'F', 'E', 'r', 'r', 'o', 'r']
theorem st18 : Str.ofString "Ellipsis" = ⟨#[69, 108, 108, 105, 112, 115, 105, 115]⟩ := Fast.ofString_ofList ['E', 'l', 'l', 'i', 'p', 's', 'i', 's']
theorem st19 : Str.ofString "EncodingWarning" = ⟨#[69, 110, 99, 111, 100, 105, 110, 103, 87, 97, 114, 110, 105, 110, 103]⟩ := Fast.ofString_ofList ['E', 'n', 'c', 'o', 'd', 'i', 'n', 'g', 'W', 'a', 'r', 'n', 'i', 'n', 'g']
theorem st20 : Str.ofString "EnvironmentError" = ⟨#[69, 110, 118, 105, 114, 111, 110, 109, 101, 110, 116, 69, 114, 114, 111, 114]⟩ := Fast.ofString_ofList ['E', 'n', 'v', 'i', 'r', 'o', 'n', 'm', 'e', 'n', 't', 'E', 'r', 'r', 'o', 'r']
theorem st21 : Str.ofString "Exception" = ⟨#[69, 120, 99, 101, 112, 116, 105, 111, 110]⟩ := Fast.ofString_ofList ['E', 'x', 'c', 'e', 'p', 't', 'i', 'o', 'n']
theorem st22 : Str.ofString "ExceptionGroup" = ⟨#[69, 120, 99, 101, 112, 116, 105, 111, 110, 71, 114, 111, 117, 112]⟩ := Fast.ofString_ofList ['E', 'x', 'c', 'e', 'p', 't', 'i', 'o', 'n', 'G', 'r', 'o', 'u', 'p']
theorem st23 : Str.ofString "False" = ⟨#[70, 97, 108, 115, 101]⟩ := Fast.ofString_ofList ['F', 'a', 'l', 's', 'e']
theorem st24 : Str.ofString "FileExistsError" = ⟨#[70, 105, 108, 101, 69, 120, 105, 115, 116, 115, 69, 114, 114, 111, 114]⟩ := Fast.ofString_ofList ['F', 'i', 'l', 'e', 'E', 'x', 'i', 's', 't', 's', 'E', 'r', 'r', 'o', 'r']
theorem st25 : Str.ofString "FileNotFoundError" = ⟨#[70, 105, 108, 101, 78, 111, 116, 70, 111, 117, 110, 100, 69, 114, 114, 111, 114]⟩ := Fast.ofString_ofList ['F', 'i', 'l', 'e', 'N', 'o', 't', 'F', 'o', 'u', 'n', 'd', 'E', 'r', 'r', 'o', 'r']
theorem st26 : Str.ofString "FloatingPointError" = ⟨#[70, 108, 111, 97, 116, 105, 110, 103, 80, 111, 105, 110, 116, 69, 114, 114, 111, 114]⟩ := Fast.ofString_ofList ['F', 'l', 'o', 'a', 't', 'i', 'n', 'g', 'P', 'o', 'i', 'n', 't', 'E', 'r', 'r', 'o', 'r']
theorem st27 : Str.ofString "FutureWarning" = ⟨#[70, 117, 116, 117, 114, 101, 87, 97, 114, 110, 105, 110, 103]⟩ := Fast.ofString_ofList ['F', 'u', 't', 'u', 'r', 'e', 'W', 'a', 'r', 'n', 'i', 'n', 'g']
theorem st28 : Str.ofString "GeneratorExit" = ⟨#[71, 101, 110, 101, 114, 97, 116, 111, 114, 69, 120, 105, 116]⟩ := Fast.ofString_ofList ['G', 'e', 'n', 'e', 'r', 'a', 't', 'o', 'r', 'E', 'x', 'i', 't']
theorem st29 : Str.ofString "IOError" = ⟨#[73, 79, 69, 114, 114, 111, 114]⟩ := Fast.ofString_ofList ['I', 'O', 'E', 'r', 'r', 'o', 'r']
theorem st30 : Str.ofString "ImportError" = ⟨#[73, 109, 112, 111, 114, 116, 69, 114, 114, 111, 114]⟩ := Fast.ofString_ofList ['I', 'm', 'p', 'o', 'r', 't', 'E', 'r', 'r', 'o', 'r']
theorem st31 : Str.ofString "ImportWarning" = ⟨#[73, 109, 112, 111, 114, 116, 87, 97, 114, 110, 105, 110, 103]⟩ := Fast.ofString_ofList ['I', 'm', 'p', 'o', 'r', 't', 'W', 'a', 'r', 'n', 'i', 'n', 'g']
theorem st32 : Str.ofString "IndentationError" = ⟨#[73, 110, 100, 101, 110, 116, 97, 116, 105, 111, 110, 69, 114, 114, 111, 114]⟩ := Fast.ofString_ofList ['I', 'n', 'd', 'e', 'n', 't', 'a', 't', 'i', 'o', 'n', 'E', 'r', 'r', 'o', 'r']
theorem st33 : Str.ofString "IndexError" = ⟨#[73, 110, 100, 101, 120, 69, 114, 114, 111, 114]⟩ := Fast.ofString_ofList ['I', 'n', 'd', 'e', 'x', 'E', 'r', 'r', 'o', 'r']
theorem st34 : Str.ofString "InterruptedError" = ⟨#[73, 110, 116, 101, 114, 114, 117, 112, 116, 101, 100, 69, 114, 114, 111, 114]⟩ := Fast.ofString_ofList ['I', 'n', 't', 'e', 'r', 'r', 'u', 'p', 't', 'e', 'd', 'E', 'r', 'r', 'o', 'r']
theorem st35 : Str.ofString "IsADirectoryError" = ⟨#[73, 115, 65, 68, 105, 114, 101, 99, 116, 111, 114, 121, 69, 114, 114, 111, 114]⟩ := Fast.ofString_ofList ['I', 's', 'A', 'D', 'i', 'r', 'e', 'c', 't', 'o', 'r', 'y', 'E', 'r', 'r', 'o', 'r']
theorem st36 : Str.ofString "K" = ⟨#[75]⟩ := Fast.ofString_ofList ['K']
theorem st37 : Str.ofString "KeyError" = ⟨#[75, 101, 121, 69, 114, 114, 111, 114]⟩ := Fast.ofString_ofList ['K', 'e', 'y', 'E', 'r', 'r', 'o', 'r']
theorem st38 : Str.ofString "KeyboardInterrupt" = ⟨#[75, 101, 121, 98, 111, 97, 114, 100, 73, 110, 116, 101, 114, 114, 117, 112, 116]⟩ := Fast.ofString_ofList ['K', 'e', 'y', 'b', 'o', 'a', 'r', 'd', 'I', 'n', 't', 'e', 'r', 'r', 'u', 'p', 't']
theorem st39 : Str.ofString "LookupError" = ⟨#[76, 111, 111, 107, 117, 112, 69, 114, 114, 111, 114]⟩ := Fast.ofString_ofList ['L', 'o', 'o', 'k', 'u', 'p', 'E', 'r', 'r', 'o', 'r']
theorem st40 : Str.ofString "MemoryError" = ⟨#[77, 101, 109, 111, 114, 121, 69, 114, 114, 111, 114]⟩ := Fast.ofString_ofList ['M', 'e', 'm', 'o', 'r', 'y', 'E', 'r', 'r', 'o', 'r']
theorem st41 : Str.ofString "ModuleNotFoundError" = ⟨#[77, 111, 100, 117, 108, 101, 78, 111, 116, 70, 111, 117, 110, 100, 69, 114, 114, 111, 114]⟩ := Fast.ofString_ofList ['M', 'o', 'd', 'u', 'l', 'e', 'N', 'o', 't', 'F', 'o', 'u', 'n', 'd', 'E', 'r', 'r', 'o', 'r']
theorem st42 : Str.ofString "NameError" = ⟨#[78, 97, 109, 101, 69, 114, 114, 111, 114]⟩ := Fast.ofString_ofList ['N', 'a', 'm', 'e', 'E', 'r', 'r', 'o', 'r']
theorem st43 : Str.ofString "None" = ⟨#[78, 111, 110, 101]⟩ := Fast.ofString_ofList ['N', 'o', 'n', 'e']
theorem st44 : Str.ofString "NotADirectoryError" = ⟨#[78, 111, 116, 65, 68, 105, 114, 101, 99, 116, 111, 114, 121, 69, 114, 114, 111, 114]⟩ := Fast.ofString_ofList ['N', 'o', 't', 'A', 'D', 'i', 'r', 'e', 'c', 't', 'o', 'r', 'y', 'E', 'r', 'r', 'o', 'r']
theorem st45 : Str.ofString "NotImplemented" = ⟨#[78, 111, 116, 73, 109, 112, 108, 101, 109, 101, 110, 116, 101, 100]⟩ := Fast.ofString_ofList ['N', 'o', 't', 'I', 'm', 'p', 'l', 'e', 'm', 'e', 'n', 't', 'e', 'd']
theorem st46 : Str.ofString "NotImplementedError" = ⟨#[78, 111, 116, 73, 109, 112, 108, 101, 109, 101, 110, 116, 101, 100, 69, 114, 114, 111, 114]⟩ := Fast.ofString_ofList ['N', 'o', 't', 'I', 'm', 'p', 'l', 'e', 'm', 'e', 'n', 't', 'e', 'd', 'E', 'r', 'r', 'o', 'r']
theorem st47 : Str.ofString "OSError" = ⟨#[79, 83, 69, 114, 114, 111, 114]⟩ := Fast.ofString_ofList ['O', 'S', 'E', 'r', 'r', 'o', 'r']
theorem st48 : Str.ofString "OverflowError" = ⟨#[79, 118, 101, 114, 102, 108, 111, 119, 69, 114, 114, 111, 114]⟩ := Fast.ofString_ofList ['O', 'v', 'e', 'r', 'f', 'l', 'o', 'w', 'E', 'r', 'r', 'o', 'r']
theorem st49 : Str.ofString "PendingDeprecationWarning" = ⟨#[80, 101, 110, 100, 105, 110, 103, 68, 101, 112, 114, 101, 99, 97, 116, 105, 111, 110, 87, 97, 114, 110, 105, 110, 103]⟩ := Fast.ofString_ofList ['P', 'e', 'n', 'd', 'i', 'n', 'g', 'D', 'e', 'p', 'r', 'e', 'c', 'a', 't', 'i', 'o', 'n', 'W', 'a', 'r', 'n', 'i', 'n', 'g']
theorem st50 : Str.ofString "PermissionError" = ⟨#[80, 101, 114, 109, 105, 115, 115, 105, 111, 110, 69, 114, 114, 111, 114]⟩ := Fast.ofString_ofList ['P', 'e', 'r', 'm', 'i', 's', 's', 'i', 'o', 'n', 'E', 'r', 'r', 'o', 'r']
theorem st51 : Str.ofString "ProcessLookupError" = ⟨#[80, 114, 111, 99, 101, 115, 115, 76, 111, 111, 107, 117, 112, 69, 114, 114, 111, 114]⟩ := Fast.ofString_ofList ['P', 'r', 'o', 'c', 'e', 's', 's', 'L', 'o', 'o', 'k', 'u', 'p', 'E', 'r', 'r', 'o', 'r']
theorem st52 : Str.ofString "PythonFinalizationError" = ⟨#[80, 121, 116, 104, 111, 110, 70, 105, 110, 97, 108, 105, 122, 97, 116, 105, 111, 110, 69, 114, 114, 111, 114]⟩ := Fast.ofString_ofList ['P', 'y', 't', 'h', 'o', 'n', 'F', 'i', 'n', 'a', 'l', 'i', 'z', 'a', 't', 'i', 'o', 'n', 'E', 'r', 'r', 'o', 'r']
theorem st53 : Str.ofString "RecursionError" = ⟨#[82, 101, 99, 117, 114, 115, 105, 111, 110, 69, 114, 114, 111, 114]⟩ := Fast.ofString_ofList ['R', 'e', 'c', 'u', 'r', 's', 'i', 'o', 'n', 'E', 'r', 'r', 'o', 'r']
theorem st54 : Str.ofString "ReferenceError" = ⟨#[82, 101, 102, 101, 114, 101, 110, 99, 101, 69, 114, 114, 111, 114]⟩ := Fast.ofString_ofList ['R', 'e', 'f', 'e', 'r', 'e', 'n', 'c', 'e', 'E', 'r', 'r', 'o', 'r']
theorem st55 : Str.ofString "ResourceWarning" = ⟨#[82, 101, 115, 111, 117, 114, 99, 101, 87, 97, 114, 110, 105, 110, 103]⟩ := Fast.ofString_ofList ['R', 'e', 's', 'o', 'u', 'r', 'c', 'e', 'W', 'a', 'r', 'n', 'i', 'n', 'g']
theorem st56 : Str.ofString "RuntimeError" = ⟨#[82, 117, 110, 116, 105, 109, 101, 69, 114, 114, 111, 114]⟩ := Fast.ofString_ofList ['R', 'u', 'n', 't', 'i', 'm', 'e', 'E', 'r', 'r', 'o', 'r']
theorem st57 : Str.ofString "RuntimeWarning" = ⟨#[82, 117, 110, 116, 105, 109, 101, 87, 97, 114, 110, 105, 110, 103]⟩ := Fast.ofString_ofList ['R', 'u', 'n', 't', 'i', 'm', 'e', 'W', 'a', 'r', 'n', 'i', 'n', 'g']
theorem st58 : Str.ofString "StopAsyncIteration" = ⟨#[83, 116, 111, 112, 65, 115, 121, 110, 99, 73, 116, 101, 114, 97, 116, 105, 111, 110]⟩ := Fast.ofString_ofList ['S', 't', 'o', 'p', 'A', 's', 'y', 'n', 'c', 'I', 't', 'e', 'r', 'a', 't', 'i', 'o', 'n']
theorem st59 : Str.ofString "StopIteration" = ⟨#[83, 116, 111, 112, 73, 116, 101, 114, 97, 116, 105, 111, 110]⟩ := Fast.ofString_ofList ['S', 't', 'o', 'p', 'I', 't', 'e', 'r', 'a', 't', 'i', 'o', 'n']
theorem st60 : Str.ofString "SyntaxError" = ⟨#[83, 121, 110, 116, 97, 120, 69, 114, 114, 111, 114]⟩ := Fast.ofString_ofList ['S', 'y', 'n', 't', 'a', 'x', 'E', 'r', 'r', 'o', 'r']
theorem st61 : Str.ofString "SyntaxWarning" = ⟨#[83, 121, 110, 116, 97, 120, 87, 97, 114, 110, 105, 110, 103]⟩ := Fast.ofString_ofList ['S', 'y', 'n', 't', 'a', 'x', 'W', 'a', 'r', 'n', 'i', 'n', 'g']
theorem st62 : Str.ofString "SystemError" = ⟨#[83, 121, 115, 116, 101, 109, 69, 114, 114, 111, 114]⟩ := Fast.ofString_ofList ['S', 'y', 's', 't', 'e', 'm', 'E', 'r', 'r', 'o', 'r']
theorem st63 : Str.ofString "SystemExit" = ⟨#[83, 121, 115, 116, 101, 109, 69, 120, 105, 116]⟩ := Fast.ofString_ofList ['S', 'y', 's', 't', 'e', 'm', 'E', 'x', 'i', 't']
theorem st64 : Str.ofString "TabError" = ⟨#[84, 97, 98, 69, 114, 114, 111, 114]⟩ := Fast.ofString_ofList ['T', 'a', 'b', 'E', 'r', 'r', 'o', 'r']
theorem st65 : Str.ofString "TimeoutError" = ⟨#[84, 105, 109, 101, 111, 117, 116, 69, 114, 114, 111, 114]⟩ := Fast.ofString_ofList ['T', 'i', 'm', 'e', 'o', 'u', 't', 'E', 'r', 'r', 'o', 'r']
theorem st66 : Str.ofString "True" = ⟨#[84, 114, 117, 101]⟩ := Fast.ofString_ofList ['T', 'r', 'u', 'e']
theorem st67 : Str.ofString "TypeError" = ⟨#[84, 121, 112, 101, 69, 114, 114, 111, 114]⟩ := Fast.ofString_ofList ['T', 'y', 'p', 'e', 'E', 'r', 'r', 'o', 'r']
theorem st68 : Str.ofString "UnboundLocalError" = ⟨#[85, 110, 98, 111, 117, 110, 100, 76, 111, 99, 97, 108, 69, 114, 114, 111, 114]⟩ := Fast.ofString_ofList ['U', 'n', 'b', 'o', 'u', 'n', 'd', 'L', 'o', 'c', 'a', 'l', 'E', 'r', 'r', 'o', 'r']
theorem st69 : Str.ofString "UnicodeDecodeError" = ⟨#[85, 110, 105, 99, 111, 100, 101, 68, 101, 99, 111, 100, 101, 69, 114, 114, 111, 114]⟩ := Fast.ofString_ofList ['U', 'n', 'i', 'c', 'o', 'd', 'e', 'D', 'e', 'c', 'o', 'd', 'e', 'E', 'r', 'r', 'o', 'r']
theorem st70 : Str.ofString "UnicodeEncodeError" = ⟨#[85, 110, 105, 99, 111, 100, 101, 69, 110, 99, 111, 100, 101, 69, 114, 114, 111, 114]⟩ := Fast.ofString_ofList ['U', 'n', 'i', 'c', 'o', 'd', 'e', 'E', 'n', 'c', 'o', 'd', 'e', 'E', 'r', 'r', 'o', 'r']
theorem st71 : Str.ofString "UnicodeError" = ⟨#[85, 110, 105, 99, 111, 100, 101, 69, 114, 114, 111, 114]⟩ := Fast.ofString_ofList ['U', 'n', 'i', 'c', 'o', 'd', 'e', 'E', 'r', 'r', 'o', 'r']
theorem st72 : Str.ofString "UnicodeTranslateError" = ⟨#[85, 110, 105, 99, 111, 100, 101, 84, 114, 97, 110, 115, 108, 97, 116, 101, 69, 114, 114, 111, 114]⟩ := Fast.ofString_ofList ['U', 'n', 'i', 'c', 'o', 'd', 'e', 'T', 'r', 'a', 'n', 's', 'l', 'a', 't', 'e', 'E', 'r', 'r', 'o', 'r']
theorem st73 : Str.ofString "UnicodeWarning" = ⟨#[85, 110, 105, 99, 111, 100, 101, 87, 97, 114, 110, 105, 110, 103]⟩ := Fast.ofString_ofList ['U', 'n', 'i', 'c', 'o', 'd', 'e', 'W', 'a', 'r', 'n', 'i', 'n', 'g']
theorem st74 : Str.ofString "UserWarning" = ⟨#[85, 115, 101, 114, 87, 97, 114, 110, 105, 110, 103]⟩ := Fast.ofString_ofList ['U', 's', 'e', 'r', 'W', 'a', 'r', 'n', 'i', 'n', 'g']
theorem st75 : Str.ofString "ValueError" = ⟨#[86, 97, 108, 117, 101, 69, 114, 114, 111, 114]⟩ := Fast.ofString_ofList ['V', 'a', 'l', 'u', 'e', 'E', 'r', 'r', 'o', 'r']
theorem st76 : Str.ofString "Warning" = ⟨#[87, 97, 114, 110, 105, 110, 103]⟩ := Fast.ofString_ofList ['W', 'a', 'r', 'n', 'i', 'n', 'g']
theorem st77 : Str.ofString "ZeroDivisionError" = ⟨#[90, 101, 114, 111, 68, 105, 118, 105, 115, 105, 111, 110, 69, 114, 114, 111, 114]⟩ := Fast.ofString_ofList ['Z', 'e', 'r', 'o', 'D', 'i', 'v', 'i', 's', 'i', 'o', 'n', 'E', 'r', 'r', 'o', 'r']
theorem st78 : Str.ofString "_Ignore" = ⟨#[95, 73, 103, 110, 111, 114, 101]⟩ := Fast.ofString_ofList ['_', 'I', 'g', 'n', 'o', 'r', 'e']
theorem st79 : Str.ofString "_IncompleteInputError" = ⟨#[95, 73, 110, 99, 111, 109, 112, 108, 101, 116, 101, 73, 110, 112, 117, 116, 69, 114, 114, 111, 114]⟩ := Fast.ofString_ofList ['_', 'I', 'n', 'c', 'o', 'm', 'p', 'l', 'e', 't', 'e', 'I', 'n', 'p', 'u', 't', 'E', 'r', 'r', 'o', 'r']
theorem st80 : Str.ofString "__annotations__" = ⟨#[95, 95, 97, 110, 110, 111, 116, 97, 116, 105, 111, 110, 115, 95, 95]⟩ := Fast.ofString_ofList ['_', '_', 'a', 'n', 'n', 'o', 't', 'a', 't', 'i', 'o', 'n', 's', '_', '_']
theorem st81 : Str.ofString "__build_class__" = ⟨#[95, 95, 98, 117, 105, 108, 100, 95, 99, 108, 97, 115, 115, 95, 95]⟩ := Fast.ofString_ofList ['_', '_', 'b', 'u', 'i', 'l', 'd', '_', 'c', 'l', 'a', 's', 's', '_', '_']
theorem st82 : Str.ofString "__builtins__" = ⟨#[95, 95, 98, 117, 105, 108, 116, 105, 110, 115, 95, 95]⟩ := Fast.ofString_ofList ['_', '_', 'b', 'u', 'i', 'l', 't', 'i', 'n', 's', '_', '_']
theorem st83 : Str.ofString "__cached__" = ⟨#[95, 95, 99, 97, 99, 104, 101, 100, 95, 95]⟩ := Fast.ofString_ofList ['_', '_', 'c', 'a', 'c', 'h', 'e', 'd', '_', '_']
theorem st84 : Str.ofString "__debug__" = ⟨#[95, 95, 100, 101, 98, 117, 103, 95, 95]⟩ := Fast.ofString_ofList ['_', '_', 'd', 'e', 'b', 'u', 'g', '_', '_']
theorem st85 : Str.ofString "__doc__" = ⟨#[95, 95, 100, 111, 99, 95, 95]⟩ := Fast.ofString_ofList ['_', '_', 'd', 'o', 'c', '_', '_']
theorem st86 : Str.ofString "__eq__" = ⟨#[95, 95, 101, 113, 95, 95]⟩ := Fast.ofString_ofList ['_', '_', 'e', 'q', '_', '_']
theorem st87 : Str.ofString "__file__" = ⟨#[95, 95, 102, 105, 108, 101, 95, 95]⟩ := Fast.ofString_ofList ['_', '_', 'f', 'i', 'l', 'e', '_', '_']
theorem st88 : Str.ofString "__ge__" = ⟨#[95, 95, 103, 101, 95, 95]⟩ := Fast.ofString_ofList ['_', '_', 'g', 'e', '_', '_']
theorem st89 : Str.ofString "__gt__" = ⟨#[95, 95, 103, 116, 95, 95]⟩ := Fast.ofString_ofList ['_', '_', 'g', 't', '_', '_']
theorem st90 : Str.ofString "__hash__" = ⟨#[95, 95, 104, 97, 115, 104, 95, 95]⟩ := Fast.ofString_ofList ['_', '_', 'h', 'a', 's', 'h', '_', '_']
theorem st91 : Str.ofString "__\x69mport__" = ⟨#[95, 95, 105, 109, 112, 111, 114, 116, 95, 95]⟩ := Fast.ofString_ofList ['_', '_', 'i', 'm', 'p', 'o', 'r', 't', '_', '_']
theorem st92 : Str.ofString "__init__" = ⟨#[95, 95, 105, 110, 105, 116, 95, 95]⟩ := Fast.ofString_ofList ['_', '_', 'i', 'n', 'i', 't', '_', '_']
theorem st93 : Str.ofString "__le__" = ⟨#[95, 95, 108, 101, 95, 95]⟩ := Fast.ofString_ofList ['_', '_', 'l', 'e', '_', '_']
theorem st94 : Str.ofString "__loader__" = ⟨#[95, 95, 108, 111, 97, 100, 101, 114, 95, 95]⟩ := Fast.ofString_ofList ['_', '_', 'l', 'o', 'a', 'd', 'e', 'r', '_', '_']
theorem st95 : Str.ofString "__lt__" = ⟨#[95, 95, 108, 116, 95, 95]⟩ := Fast.ofString_ofList ['_', '_', 'l', 't', '_', '_']
theorem st96 : Str.ofString "__main__" = ⟨#[95, 95, 109, 97, 105, 110, 95, 95]⟩ := Fast.ofString_ofList ['_', '_', 'm', 'a', 'i', 'n', '_', '_']
theorem st97 : Str.ofString "__module__" = ⟨#[95, 95, 109, 111, 100, 117, 108, 101, 95, 95]⟩ := Fast.ofString_ofList ['_', '_', 'm', 'o', 'd', 'u', 'l', 'e', '_', '_']
theorem st98 : Str.ofString "__name__" = ⟨#[95, 95, 110, 97, 109, 101, 95, 95]⟩ := Fast.ofString_ofList ['_', '_', 'n', 'a', 'm', 'e', '_', '_']
theorem st99 : Str.ofString "__package__" = ⟨#[95, 95, 112, 97, 99, 107, 97, 103, 101, 95, 95]⟩ := Fast.ofString_ofList ['_', '_', 'p', 'a', 'c', 'k', 'a', 'g', 'e', '_', '_']
theorem st100 : Str.ofString "__slots__" = ⟨#[95, 95, 115, 108, 111, 116, 115, 95, 95]⟩ := Fast.ofString_ofList ['_', '_', 's', 'l', 'o', 't', 's', '_', '_']
theorem st101 : Str.ofString "__spec__" = ⟨#[95, 95, 115, 112, 101, 99, 95, 95]⟩ := Fast.ofString_ofList ['_', '_', 's', 'p', 'e', 'c', '_', '_']
theorem st102 : Str.ofString "_c_path" = ⟨#[95, 99, 95, 112, 97, 116, 104]⟩ := Fast.ofString_ofList ['_', 'c', '_', 'p', 'a', 't', 'h']
theorem st103 : Str.ofString "_kind" = ⟨#[95, 107, 105, 110, 100]⟩ := Fast.ofString_ofList ['_', 'k', 'i', 'n', 'd']
theorem st104 : Str.ofString "_law_dealt" = ⟨#[95, 108, 97, 119, 95, 100, 101, 97, 108, 116]⟩ := Fast.ofString_ofList ['_', 'l', 'a', 'w', '_', 'd', 'e', 'a', 'l', 't']
theorem st105 : Str.ofString "_law_folder" = ⟨#[95, 108, 97, 119, 95, 102, 111, 108, 100, 101, 114]⟩ := Fast.ofString_ofList ['_', 'l', 'a', 'w', '_', 'f', 'o', 'l', 'd', 'e', 'r']
theorem st106 : Str.ofString "_law_inside_first" = ⟨#[95, 108, 97, 119, 95, 105, 110, 115, 105, 100, 101, 95, 102, 105, 114, 115, 116]⟩ := Fast.ofString_ofList ['_', 'l', 'a', 'w', '_', 'i', 'n', 's', 'i', 'd', 'e', '_', 'f', 'i', 'r', 's', 't']
theorem st107 : Str.ofString "_law_parts" = ⟨#[95, 108, 97, 119, 95, 112, 97, 114, 116, 115]⟩ := Fast.ofString_ofList ['_', 'l', 'a', 'w', '_', 'p', 'a', 'r', 't', 's']
theorem st108 : Str.ofString "_normpath" = ⟨#[95, 110, 111, 114, 109, 112, 97, 116, 104]⟩ := Fast.ofString_ofList ['_', 'n', 'o', 'r', 'm', 'p', 'a', 't', 'h']
theorem st109 : Str.ofString "_splitroot" = ⟨#[95, 115, 112, 108, 105, 116, 114, 111, 111, 116]⟩ := Fast.ofString_ofList ['_', 's', 'p', 'l', 'i', 't', 'r', 'o', 'o', 't']
theorem st110 : Str.ofString "_wall" = ⟨#[95, 119, 97, 108, 108]⟩ := Fast.ofString_ofList ['_', 'w', 'a', 'l', 'l']
theorem st111 : Str.ofString "abs" = ⟨#[97, 98, 115]⟩ := Fast.ofString_ofList ['a', 'b', 's']
theorem st112 : Str.ofString "aiter" = ⟨#[97, 105, 116, 101, 114]⟩ := Fast.ofString_ofList ['a', 'i', 't', 'e', 'r']
theorem st113 : Str.ofString "all" = ⟨#[97, 108, 108]⟩ := Fast.ofString_ofList ['a', 'l', 'l']
theorem st114 : Str.ofString "anext" = ⟨#[97, 110, 101, 120, 116]⟩ := Fast.ofString_ofList ['a', 'n', 'e', 'x', 't']
theorem st115 : Str.ofString "any" = ⟨#[97, 110, 121]⟩ := Fast.ofString_ofList ['a', 'n', 'y']
theorem st116 : Str.ofString "ascii" = ⟨#[97, 115, 99, 105, 105]⟩ := Fast.ofString_ofList ['a', 's', 'c', 'i', 'i']
theorem st117 : Str.ofString "bin" = ⟨#[98, 105, 110]⟩ := Fast.ofString_ofList ['b', 'i', 'n']
theorem st118 : Str.ofString "bool" = ⟨#[98, 111, 111, 108]⟩ := Fast.ofString_ofList ['b', 'o', 'o', 'l']
theorem st119 : Str.ofString "breakpoint" = ⟨#[98, 114, 101, 97, 107, 112, 111, 105, 110, 116]⟩ := Fast.ofString_ofList ['b', 'r', 'e', 'a', 'k', 'p', 'o', 'i', 'n', 't']
theorem st120 : Str.ofString "builtins" = ⟨#[98, 117, 105, 108, 116, 105, 110, 115]⟩ := Fast.ofString_ofList ['b', 'u', 'i', 'l', 't', 'i', 'n', 's']
theorem st121 : Str.ofString "bytearray" = ⟨#[98, 121, 116, 101, 97, 114, 114, 97, 121]⟩ := Fast.ofString_ofList ['b', 'y', 't', 'e', 'a', 'r', 'r', 'a', 'y']
theorem st122 : Str.ofString "bytes" = ⟨#[98, 121, 116, 101, 115]⟩ := Fast.ofString_ofList ['b', 'y', 't', 'e', 's']
theorem st123 : Str.ofString "callable" = ⟨#[99, 97, 108, 108, 97, 98, 108, 101]⟩ := Fast.ofString_ofList ['c', 'a', 'l', 'l', 'a', 'b', 'l', 'e']
theorem st124 : Str.ofString "chr" = ⟨#[99, 104, 114]⟩ := Fast.ofString_ofList ['c', 'h', 'r']
theorem st125 : Str.ofString "classmethod" = ⟨#[99, 108, 97, 115, 115, 109, 101, 116, 104, 111, 100]⟩ := Fast.ofString_ofList ['c', 'l', 'a', 's', 's', 'm', 'e', 't', 'h', 'o', 'd']
theorem st126 : Str.ofString "cmp_to_key" = ⟨#[99, 109, 112, 95, 116, 111, 95, 107, 101, 121]⟩ := Fast.ofString_ofList ['c', 'm', 'p', '_', 't', 'o', '_', 'k', 'e', 'y']
theorem st127 : Str.ofString "compile" = ⟨#[99, 111, 109, 112, 105, 108, 101]⟩ := Fast.ofString_ofList ['c', 'o', 'm', 'p', 'i', 'l', 'e']
theorem st128 : Str.ofString "complex" = ⟨#[99, 111, 109, 112, 108, 101, 120]⟩ := Fast.ofString_ofList ['c', 'o', 'm', 'p', 'l', 'e', 'x']
theorem st129 : Str.ofString "copyright" = ⟨#[99, 111, 112, 121, 114, 105, 103, 104, 116]⟩ := Fast.ofString_ofList ['c', 'o', 'p', 'y', 'r', 'i', 'g', 'h', 't']
theorem st130 : Str.ofString "cpy313.functools" = ⟨#[99, 112, 121, 51, 49, 51, 46, 102, 117, 110, 99, 116, 111, 111, 108, 115]⟩ := Fast.ofString_ofList ['c', 'p', 'y', '3', '1', '3', '.', 'f', 'u', 'n', 'c', 't', 'o', 'o', 'l', 's']
theorem st131 : Str.ofString "credits" = ⟨#[99, 114, 101, 100, 105, 116, 115]⟩ := Fast.ofString_ofList ['c', 'r', 'e', 'd', 'i', 't', 's']
theorem st132 : Str.ofString "delattr" = ⟨#[100, 101, 108, 97, 116, 116, 114]⟩ := Fast.ofString_ofList ['d', 'e', 'l', 'a', 't', 't', 'r']
theorem st133 : Str.ofString "dict" = ⟨#[100, 105, 99, 116]⟩ := Fast.ofString_ofList ['d', 'i', 'c', 't']
theorem st134 : Str.ofString "dir" = ⟨#[100, 105, 114]⟩ := Fast.ofString_ofList ['d', 'i', 'r']
theorem st135 : Str.ofString "divmod" = ⟨#[100, 105, 118, 109, 111, 100]⟩ := Fast.ofString_ofList ['d', 'i', 'v', 'm', 'o', 'd']
theorem st136 : Str.ofString "enumerate" = ⟨#[101, 110, 117, 109, 101, 114, 97, 116, 101]⟩ := Fast.ofString_ofList ['e', 'n', 'u', 'm', 'e', 'r', 'a', 't', 'e']
theorem st137 : Str.ofString "eval" = ⟨#[101, 118, 97, 108]⟩ := Fast.ofString_ofList ['e', 'v', 'a', 'l']
theorem st138 : Str.ofString "exec" = ⟨#[101, 120, 101, 99]⟩ := Fast.ofString_ofList ['e', 'x', 'e', 'c']
theorem st139 : Str.ofString "exit" = ⟨#[101, 120, 105, 116]⟩ := Fast.ofString_ofList ['e', 'x', 'i', 't']
theorem st140 : Str.ofString "filter" = ⟨#[102, 105, 108, 116, 101, 114]⟩ := Fast.ofString_ofList ['f', 'i', 'l', 't', 'e', 'r']
theorem st141 : Str.ofString "float" = ⟨#[102, 108, 111, 97, 116]⟩ := Fast.ofString_ofList ['f', 'l', 'o', 'a', 't']
theorem st142 : Str.ofString "format" = ⟨#[102, 111, 114, 109, 97, 116]⟩ := Fast.ofString_ofList ['f', 'o', 'r', 'm', 'a', 't']
theorem st143 : Str.ofString "frozenset" = ⟨#[102, 114, 111, 122, 101, 110, 115, 101, 116]⟩ := Fast.ofString_ofList ['f', 'r', 'o', 'z', 'e', 'n', 's', 'e', 't']
theorem st144 : Str.ofString "getattr" = ⟨#[103, 101, 116, 97, 116, 116, 114]⟩ := Fast.ofString_ofList ['g', 'e', 't', 'a', 't', 't', 'r']
theorem st145 : Str.ofString "globals" = ⟨#[103, 108, 111, 98, 97, 108, 115]⟩ := Fast.ofString_ofList ['g', 'l', 'o', 'b', 'a', 'l', 's']
theorem st146 : Str.ofString "hasattr" = ⟨#[104, 97, 115, 97, 116, 116, 114]⟩ := Fast.ofString_ofList ['h', 'a', 's', 'a', 't', 't', 'r']
theorem st147 : Str.ofString "hash" = ⟨#[104, 97, 115, 104]⟩ := Fast.ofString_ofList ['h', 'a', 's', 'h']
theorem st148 : Str.ofString "help" = ⟨#[104, 101, 108, 112]⟩ := Fast.ofString_ofList ['h', 'e', 'l', 'p']
theorem st149 : Str.ofString "hex" = ⟨#[104, 101, 120]⟩ := Fast.ofString_ofList ['h', 'e', 'x']
theorem st150 : Str.ofString "id" = ⟨#[105, 100]⟩ := Fast.ofString_ofList ['i', 'd']
theorem st151 : Str.ofString "input" = ⟨#[105, 110, 112, 117, 116]⟩ := Fast.ofString_ofList ['i', 'n', 'p', 'u', 't']
theorem st152 : Str.ofString "int" = ⟨#[105, 110, 116]⟩ := Fast.ofString_ofList ['i', 'n', 't']
theorem st153 : Str.ofString "isinstance" = ⟨#[105, 115, 105, 110, 115, 116, 97, 110, 99, 101]⟩ := Fast.ofString_ofList ['i', 's', 'i', 'n', 's', 't', 'a', 'n', 'c', 'e']
theorem st154 : Str.ofString "issubclass" = ⟨#[105, 115, 115, 117, 98, 99, 108, 97, 115, 115]⟩ := Fast.ofString_ofList ['i', 's', 's', 'u', 'b', 'c', 'l', 'a', 's', 's']
theorem st155 : Str.ofString "iter" = ⟨#[105, 116, 101, 114]⟩ := Fast.ofString_ofList ['i', 't', 'e', 'r']
theorem st156 : Str.ofString "law" = ⟨#[108, 97, 119]⟩ := Fast.ofString_ofList ['l', 'a', 'w']
theorem st157 : Str.ofString "law_of0013_01" = ⟨#[108, 97, 119, 95, 111, 102, 48, 48, 49, 51, 95, 48, 49]⟩ := Fast.ofString_ofList ['l', 'a', 'w', '_', 'o', 'f', '0', '0', '1', '3', '_', '0', '1']
theorem st158 : Str.ofString "len" = ⟨#[108, 101, 110]⟩ := Fast.ofString_ofList ['l', 'e', 'n']
theorem st159 : Str.ofString "license" = ⟨#[108, 105, 99, 101, 110, 115, 101]⟩ := Fast.ofString_ofList ['l', 'i', 'c', 'e', 'n', 's', 'e']
theorem st160 : Str.ofString "list" = ⟨#[108, 105, 115, 116]⟩ := Fast.ofString_ofList ['l', 'i', 's', 't']
theorem st161 : Str.ofString "locals" = ⟨#[108, 111, 99, 97, 108, 115]⟩ := Fast.ofString_ofList ['l', 'o', 'c', 'a', 'l', 's']
theorem st162 : Str.ofString "map" = ⟨#[109, 97, 112]⟩ := Fast.ofString_ofList ['m', 'a', 'p']
theorem st163 : Str.ofString "max" = ⟨#[109, 97, 120]⟩ := Fast.ofString_ofList ['m', 'a', 'x']
theorem st164 : Str.ofString "memoryview" = ⟨#[109, 101, 109, 111, 114, 121, 118, 105, 101, 119]⟩ := Fast.ofString_ofList ['m', 'e', 'm', 'o', 'r', 'y', 'v', 'i', 'e', 'w']
theorem st165 : Str.ofString "min" = ⟨#[109, 105, 110]⟩ := Fast.ofString_ofList ['m', 'i', 'n']
theorem st166 : Str.ofString "mycmp" = ⟨#[109, 121, 99, 109, 112]⟩ := Fast.ofString_ofList ['m', 'y', 'c', 'm', 'p']
theorem st167 : Str.ofString "next" = ⟨#[110, 101, 120, 116]⟩ := Fast.ofString_ofList ['n', 'e', 'x', 't']
theorem st168 : Str.ofString "normpath" = ⟨#[110, 111, 114, 109, 112, 97, 116, 104]⟩ := Fast.ofString_ofList ['n', 'o', 'r', 'm', 'p', 'a', 't', 'h']
theorem st169 : Str.ofString "obj" = ⟨#[111, 98, 106]⟩ := Fast.ofString_ofList ['o', 'b', 'j']
theorem st170 : Str.ofString "object" = ⟨#[111, 98, 106, 101, 99, 116]⟩ := Fast.ofString_ofList ['o', 'b', 'j', 'e', 'c', 't']
theorem st171 : Str.ofString "oct" = ⟨#[111, 99, 116]⟩ := Fast.ofString_ofList ['o', 'c', 't']
theorem st172 : Str.ofString "open" = ⟨#[111, 112, 101, 110]⟩ := Fast.ofString_ofList ['o', 'p', 'e', 'n']
theorem st173 : Str.ofString "ord" = ⟨#[111, 114, 100]⟩ := Fast.ofString_ofList ['o', 'r', 'd']
theorem st174 : Str.ofString "other" = ⟨#[111, 116, 104, 101, 114]⟩ := Fast.ofString_ofList ['o', 't', 'h', 'e', 'r']
theorem st175 : Str.ofString "pow" = ⟨#[112, 111, 119]⟩ := Fast.ofString_ofList ['p', 'o', 'w']
theorem st176 : Str.ofString "print" = ⟨#[112, 114, 105, 110, 116]⟩ := Fast.ofString_ofList ['p', 'r', 'i', 'n', 't']
theorem st177 : Str.ofString "property" = ⟨#[112, 114, 111, 112, 101, 114, 116, 121]⟩ := Fast.ofString_ofList ['p', 'r', 'o', 'p', 'e', 'r', 't', 'y']
theorem st178 : Str.ofString "quit" = ⟨#[113, 117, 105, 116]⟩ := Fast.ofString_ofList ['q', 'u', 'i', 't']
theorem st179 : Str.ofString "range" = ⟨#[114, 97, 110, 103, 101]⟩ := Fast.ofString_ofList ['r', 'a', 'n', 'g', 'e']
theorem st180 : Str.ofString "repr" = ⟨#[114, 101, 112, 114]⟩ := Fast.ofString_ofList ['r', 'e', 'p', 'r']
theorem st181 : Str.ofString "reversed" = ⟨#[114, 101, 118, 101, 114, 115, 101, 100]⟩ := Fast.ofString_ofList ['r', 'e', 'v', 'e', 'r', 's', 'e', 'd']
theorem st182 : Str.ofString "round" = ⟨#[114, 111, 117, 110, 100]⟩ := Fast.ofString_ofList ['r', 'o', 'u', 'n', 'd']
theorem st183 : Str.ofString "self" = ⟨#[115, 101, 108, 102]⟩ := Fast.ofString_ofList ['s', 'e', 'l', 'f']
theorem st184 : Str.ofString "sep" = ⟨#[115, 101, 112]⟩ := Fast.ofString_ofList ['s', 'e', 'p']
theorem st185 : Str.ofString "set" = ⟨#[115, 101, 116]⟩ := Fast.ofString_ofList ['s', 'e', 't']
theorem st186 : Str.ofString "setattr" = ⟨#[115, 101, 116, 97, 116, 116, 114]⟩ := Fast.ofString_ofList ['s', 'e', 't', 'a', 't', 't', 'r']
theorem st187 : Str.ofString "slice" = ⟨#[115, 108, 105, 99, 101]⟩ := Fast.ofString_ofList ['s', 'l', 'i', 'c', 'e']
theorem st188 : Str.ofString "sorted" = ⟨#[115, 111, 114, 116, 101, 100]⟩ := Fast.ofString_ofList ['s', 'o', 'r', 't', 'e', 'd']
theorem st189 : Str.ofString "sorted_list_difference" = ⟨#[115, 111, 114, 116, 101, 100, 95, 108, 105, 115, 116, 95, 100, 105, 102, 102, 101, 114, 101, 110, 99, 101]⟩ := Fast.ofString_ofList ['s', 'o', 'r', 't', 'e', 'd', '_', 'l', 'i', 's', 't', '_', 'd', 'i', 'f', 'f', 'e', 'r', 'e', 'n', 'c', 'e']
theorem st190 : Str.ofString "staticmethod" = ⟨#[115, 116, 97, 116, 105, 99, 109, 101, 116, 104, 111, 100]⟩ := Fast.ofString_ofList ['s', 't', 'a', 't', 'i', 'c', 'm', 'e', 't', 'h', 'o', 'd']
theorem st191 : Str.ofString "str" = ⟨#[115, 116, 114]⟩ := Fast.ofString_ofList ['s', 't', 'r']
theorem st192 : Str.ofString "sum" = ⟨#[115, 117, 109]⟩ := Fast.ofString_ofList ['s', 'u', 'm']
theorem st193 : Str.ofString "super" = ⟨#[115, 117, 112, 101, 114]⟩ := Fast.ofString_ofList ['s', 'u', 'p', 'e', 'r']
theorem st194 : Str.ofString "three_way_cmp" = ⟨#[116, 104, 114, 101, 101, 95, 119, 97, 121, 95, 99, 109, 112]⟩ := Fast.ofString_ofList ['t', 'h', 'r', 'e', 'e', '_', 'w', 'a', 'y', '_', 'c', 'm', 'p']
theorem st195 : Str.ofString "tuple" = ⟨#[116, 117, 112, 108, 101]⟩ := Fast.ofString_ofList ['t', 'u', 'p', 'l', 'e']
theorem st196 : Str.ofString "type" = ⟨#[116, 121, 112, 101]⟩ := Fast.ofString_ofList ['t', 'y', 'p', 'e']
theorem st197 : Str.ofString "vars" = ⟨#[118, 97, 114, 115]⟩ := Fast.ofString_ofList ['v', 'a', 'r', 's']
theorem st198 : Str.ofString "zip" = ⟨#[122, 105, 112]⟩ := Fast.ofString_ofList ['z', 'i', 'p']
theorem st199 : Str.ofString "__qualname__" = ⟨#[95, 95, 113, 117, 97, 108, 110, 97, 109, 101, 95, 95]⟩ := Fast.ofString_ofList ['_', '_', 'q', 'u', 'a', 'l', 'n', 'a', 'm', 'e', '_', '_']
theorem st200 : Str.ofString "__firstlineno__" = ⟨#[95, 95, 102, 105, 114, 115, 116, 108, 105, 110, 101, 110, 111, 95, 95]⟩ := Fast.ofString_ofList ['_', '_', 'f', 'i', 'r', 's', 't', 'l', 'i', 'n', 'e', 'n', 'o', '_', '_']
theorem st201 : Str.ofString "__static_attributes__" = ⟨#[95, 95, 115, 116, 97, 116, 105, 99, 95, 97, 116, 116, 114, 105, 98, 117, 116, 101, 115, 95, 95]⟩ := Fast.ofString_ofList ['_', '_', 's', 't', 'a', 't', 'i', 'c', '_', 'a', 't', 't', 'r', 'i', 'b', 'u', 't', 'e', 's', '_', '_']
theorem st202 : Str.ofString "cmp_to_key.<locals>.K" = ⟨#[99, 109, 112, 95, 116, 111, 95, 107, 101, 121, 46, 60, 108, 111, 99, 97, 108, 115, 62, 46, 75]⟩ := Fast.ofString_ofList ['c', 'm', 'p', '_', 't', 'o', '_', 'k', 'e', 'y', '.', '<', 'l', 'o', 'c', 'a', 'l', 's', '>', '.', 'K']
theorem st203 : Str.ofString "cmp_to_key.<locals>.K.__lt__" = ⟨#[99, 109, 112, 95, 116, 111, 95, 107, 101, 121, 46, 60, 108, 111, 99, 97, 108, 115, 62, 46, 75, 46, 95, 95, 108, 116, 95, 95]⟩ := Fast.ofString_ofList ['c', 'm', 'p', '_', 't', 'o', '_', 'k', 'e', 'y', '.', '<', 'l', 'o', 'c', 'a', 'l', 's', '>', '.', 'K', '.', '_', '_', 'l', 't', '_', '_']
theorem st204 : Str.ofString "cmp_to_key.<locals>.K.__init__" = ⟨#[99, 109, 112, 95, 116, 111, 95, 107, 101, 121, 46, 60, 108, 111, 99, 97, 108, 115, 62, 46, 75, 46, 95, 95, 105, 110, 105, 116, 95, 95]⟩ := Fast.ofString_ofList ['c', 'm', 'p', '_', 't', 'o', '_', 'k', 'e', 'y', '.', '<', 'l', 'o', 'c', 'a', 'l', 's', '>', '.', 'K', '.', '_', '_', 'i', 'n', 'i', 't', '_', '_']
end Mine
end
section
open PySem PySem.W
namespace Mine
theorem k_ident : PySem.W.XFast.xw10133417225327028743 ⟨#[111, 98, 106]⟩ = some true := by kernel_rfl
end Mine
end
section
open PySem PySem.W PyProof.Rows PySem.W.X
namespace Mine
theorem notContK {d : DecidableEq Value} {x : Value} {l : List Value} : (!(@List.contains Value (@instBEqOfDecidableEq Value d) (x :: l) x)) = false := by simp
end Mine
end
open PySem.W.X in
local macro_rules | `(tactic| k_extra "q at") => `(tactic| (apply (?g9 : Mine.TA _ _ _); (· (repeat (first | exact Mine.At.at0 | apply Mine.At.atS))); (· (intro h9; exact rfl))))
open PySem.W.X in
local macro_rules | `(tactic| k_extra "q set") => `(tactic| (apply (?g9 : Mine.TS _ _ _ _); (· (repeat (first | exact Mine.At3.at30 | apply Mine.At3.at3S))); (· (intro h9; exact rfl))))
open PySem.W.X in
local macro_rules | `(tactic| k_extra "q obj") => `(tactic| (refine' (?g9 : Mine.TE _ _) ?pf9; (case pf9 => exact Eq.trans (by conv => (lhs; whnf; arg 3; whnf; try (arg 1; (try simp (disch := decide) only [Mine.xca_nil, Mine.xca_hit, Mine.xca_miss, Option.isSome_some, Option.isSome_none, Mine.condT, Mine.condF, List.append_toArray, List.cons_append, List.nil_append]); whnf; try (arg 1; repeat (whnf; arg 2))))) (Eq.trans (by conv => (lhs; arg 1; whnf)) (by conv => (lhs; arg 4; whnf; try (arg 1; repeat (whnf; arg 2)))))); (case g9 => (intro h9; first | kernel_rfl! | exact h9))))
open PySem.W.X in
local macro_rules | `(tactic| k_extra "q mem") => `(tactic| (apply Mine.mget; k_extra "q at"))
open PySem.W.X in
local macro_rules | `(tactic| k_extra "q ho") => `(tactic| first | exact Mine.mOld (by assumption) _ _ (by assumption) rfl | exact Mine.mNew (by assumption) (by k_extra "q mem") | exact Mine.mOld (by assumption) _ _ ((by assumption : Frag.In (hd.heap_1 _) _) _ _ rfl) rfl | exact Mine.mOld (by assumption) _ _ ((by assumption : Mine.In23 (hd.heap_1 _) _).at' _ _ rfl rfl) rfl | exact Mine.mChg (by assumption) (by k_extra "q mem") | exact Mine.mOldA (by assumption) _ _ (by assumption) (by rfl))
open PySem.W.X in
local macro_rules | `(tactic| k_extra "q code") => `(tactic| (conv => (lhs; whnf; (try dsimp only))))
open PySem.W.X in
local macro_rules | `(tactic| k_extra "q tab") => `(tactic| (conv => (lhs; simp only [List.append_toArray, List.cons_append, List.nil_append])))
open PySem.W.X in
local macro_rules | `(tactic| k_extra "q kern") => `(tactic| first | exact rfl | kernel_rfl)
open PySem.W.X in
local macro_rules | `(tactic| k_extra "q one") => `(tactic| first
  | with_reducible refine Mine.q_rule ?_ | with_reducible refine Mine.q_at ?_ | with_reducible refine Mine.q_point ?_ | with_reducible refine Mine.q_ask ?_ | with_reducible refine Mine.q_fresh ?_
  | ((with_reducible show wpOwn _ _ _ (Sem.load _ _ _) _ _ _); refine Mine.q_load (by k_extra "q ho") ?_)
  | (rename Mine.Mem2 _ _ _ _ => D9; (with_reducible show wpOwn _ _ _ (Sem.alloc _ _) _ _ _); refine Mine.q_allocN D9 (by k_extra "q obj") rfl ?_; clear D9; intro a' h' D')
  | ((with_reducible show wpOwn _ _ _ (Sem.update _ _ _ _) _ _ _); rename Mine.Mem2 _ _ _ _ => D9; (first | refine Mine.q_regrow D9 0 rfl rfl (by k_extra "q tab") ?_ | refine Mine.q_grow D9 (table_at (c := nat_lit 27) (by assumption) rfl rfl (by assumption) rfl) rfl rfl (by k_extra "q tab") ?_ | refine Mine.q_updU D9 (by k_extra "q at") (by k_extra "q obj") rfl (by k_extra "q set") ?_); clear D9; intro h' D')
  | k_extra "q call"
  | (with_reducible refine Mine.q_stack ?_; intro p' b' L')
  | ((with_reducible show wpOwn _ _ _ (Sem.pure _) _ _ _); first | with_reducible refine Mine.q_back (by assumption) ?_ | refine Mine.q_done (by assumption) rfl ?_ | k_extra "q again"))
open PySem.W.X in
local macro_rules | `(tactic| k_extra "q look") => `(tactic| first
  | rw [Mine.q_near (by assumption) (by assumption)] | rw [Mine.q_over (by assumption) (by assumption)] | rw [Mine.q_warm (by assumption) (by assumption)] | rw [Mine.q_room (by assumption) (by assumption)])
open PySem.W.X in
local macro_rules | `(tactic| k_extra "q ne") => `(tactic| (rename Mine.Mem2 _ _ _ _ => D9; first
  | (rw [Mine.q_adS])
  | (rename (_ == sysModules) = false => hne9; rw [hne9])
  | (rw [Mine.q_neO D9]; (case e => first | assumption | exact (by assumption : Frag.In (hd.heap_1 _) _) _ _ rfl); (case hm => k_extra "q mem"; done))
  | (rw [Mine.q_neO' D9]; (case e => first | assumption | exact (by assumption : Frag.In (hd.heap_1 _) _) _ _ rfl); (case hm => k_extra "q mem"; done))))
open PySem.W.X in
local macro_rules | `(tactic| k_extra "q twin") => `(tactic| first | (rw [Mine.xca_hit]) | (rw [Mine.xca_miss (by decide)]) | (rw [Mine.xca_nil]) | (rw [Mine.k_ident]))
open PySem.W.X in
local macro_rules | `(tactic| k_extra "q bool") => `(tactic| ((with_reducible show wpOwn _ _ _ (@Bool.rec (fun _ => Sem _) _ _ _) _ _ _); first
  | refine Mine.q_bt (by first | decide +kernel | exact Mine.or_midS | exact Mine.contK | (simp only [List.any_toArray]; rfl)) ?_
  | refine Mine.q_bf (by first | decide +kernel | exact Mine.and_r rfl | (simp only [List.any_toArray]; rfl) | exact Mine.notContK) ?_))
open PySem.W.X in
local macro_rules | `(tactic| k_extra "q split") => `(tactic| first | (with_reducible refine Mine.q_bind ?_; intro Q' K') | (with_reducible refine Mine.q_onRaise ?_; intro E') | with_reducible refine Mine.q_keep ?_ | (with_reducible refine Mine.q_try ?_; intro E'))
section
open PySem PySem.W PyProof.Rows PySem.W.X
set_option maxHeartbeats 0
local macro_rules | `(tactic| intro $x:ident) => `(tactic| first | (refine @Mine.pick_allM _ (by with_reducible assumption) (by k_extra "ne9") _ ?_; generalize @Mine.pick _ _ _ = $x) | intros $x)
local macro_rules | `(tactic| intro $x:term $y:term $ys:term*) => `(tactic| (intro $x:term; intro $y:term $ys:term*))
local macro_rules | `(tactic| k_fold) => `(tactic| skip)
local macro_rules | `(tactic| k_extra "q call") => `(tactic| ((with_reducible show wpOwn _ _ _ (Sem.call _ _ _ _ _) _ _ _); refine Mine.q_call (by intro hq; cases hq) (by k_extra "q code") (by assumption) (by k_extra "q kern") (by k_extra "q kern") (by k_extra "q code") (by k_extra "q code") ?_; intro A' c' R' E' K' Z' Y'))
local macro_rules | `(tactic| k_extra "q again") => `(tactic| (refine Mine.q_again rfl (by k_extra "q code") (by assumption) (by k_extra "q kern") (by k_extra "q kern") (by k_extra "q kern") (by k_extra "q code") (by k_extra "q code") ?_; intro c' E' Y'))
local macro_rules | `(tactic| k_extra "q step") => `(tactic| first | k_extra "q one" | ((conv => (arg 4; whnf)); first | k_extra "q one" | (with_reducible refine Mine.q_bind ?_; intro Q' K') | (with_reducible refine Mine.q_onRaise ?_; intro E') | with_reducible refine Mine.q_keep ?_ | (with_reducible refine Mine.q_try ?_; intro E') | ((with_reducible show wpOwn _ _ _ (List.anyM _ _) _ _ _); rw [Mine.filtK]) | ((with_reducible show wpOwn _ _ _ (List.forIn'.loop _ _ _ _ _) _ _ _); refine Mine.q_loop Mine.dropK ?_) | k_extra "q look" | k_extra "q ne" | k_extra "q bool" | k_extra "q twin" | ((conv => (arg 4; simp only [List.any_toArray]; whnf)); first | k_extra "q one" | (with_reducible refine Mine.q_bind ?_; intro Q' K') | k_extra "q bool")))
namespace Mine
noncomputable abbrev nsIn (P : Params) (t : Nat) (sl fi fl fg fe fle fge st : Addr) : Obj := { cls := .type "dict", data := .dict #[kE P (Str.ofString "__module__") (t + 8) (.str (Str.ofString "cpy313.functools") (t + 13)), kE P (Str.ofString "__qualname__") (t + 10) (.str (Str.ofString "cmp_to_key.<locals>.K") (t + 9)), kE P (Str.ofString "__firstlineno__") (t + 12) (.int 7 (t + 11)), kE P (Str.ofString "__slots__") (t + 16) (.ref sl), kE P (Str.ofString "__init__") (t + 24) (.ref fi),     kE P (Str.ofString "__lt__") (t + 33) (.ref fl), kE P (Str.ofString "__gt__") (t + 42) (.ref fg), kE P (Str.ofString "__eq__") (t + 51) (.ref fe), kE P (Str.ofString "__le__") (t + 60) (.ref fle), kE P (Str.ofString "__ge__") (t + 69) (.ref fge), kE P (Str.ofString "__hash__") (t + 70) .none,     kE P (Str.ofString "__static_attributes__") (t + 72) (.ref st)] 12 }
noncomputable def TypeRet (w : World) (h : Heap) (t : Nat) (g : Array GenState) (d : Drawn) (os : OsState) (R : Result → Shared → Prop) (bt sl fi fl fg fe fle fge st : Addr) : Prop :=
  ∀ a0 a1 a2 a3 a4 a5 o0 o1 o5 h' tk', Mem2 h h' [] [(a0, o0), (a1, o1), (a2, mdK t a3), (a3, clsK t a3 a4 bt), (a4, nsK w.params t sl fi fl fg fe fle fge st a2), (a5, o5)] → R (.ok (.ret (.ref a3))) ⟨h', g, d, tk', os⟩
theorem fin_type {prog : Program} {A : Around} {c : Code} {E : Value → Shared → Prop} {w : World} {h h' : Heap} {t tk' : Nat} {g : Array GenState} {d : Drawn} {os : OsState} {R : Result → Shared → Prop} {bt sl fi fl fg fe fle fge st : Addr} {a0 a1 a2 a3 a4 a5 : Addr} {o0 o1 o2 o3 o4 o5 : Obj}
    (hret : TypeRet w h t g d os R bt sl fi fl fg fe fle fge st) (D : Mem2 h h' [] [(a0, o0), (a1, o1), (a2, o2), (a3, o3), (a4, o4), (a5, o5)]) (e2 : o2 = mdK t a3) (e3 : o3 = clsK t a3 a4 bt) (e4 : o4 = nsK w.params t sl fi fl fg fe fle fge st a2) :
    wpOwn (model prog w) A c (Sem.pure (Fin.done (Flow.ret (Value.ref a3)))) (postC prog w A R) E ⟨h', g, d, tk', os⟩ := by
  subst e2 e3 e4
  exact q_pure (hret _ _ _ _ _ _ _ _ _ h' tk' D)
theorem c_type {w : World} {A : Around} {c : Code} {h : Heap} {g : Array GenState} {d : Drawn} {t : Nat} {os : OsState} {R : Result → Shared → Prop} {E : Value → Shared → Prop} {bt nsA sl fi fl fg fe fle fge st : Addr} {dfi dfl dfg dfe dfle dfge dst : Data} {tl : Tok}
   (Z : Room A 500 2900) (Y : RoomC A c 500 2899) (X : In23 (hd.heap_1 w.params) h) (hne : (nsA == sysModules) = false)
   (hbt : h.get? bt = some { cls := .type "tuple", data := .seq #[.type "object"] 0 })
   (hns : h.get? nsA = some (nsIn w.params t sl fi fl fg fe fle fge st))
   (hsl : h.get? sl = some { cls := .type "list", data := .seq #[.str ⟨#[111, 98, 106]⟩ tl] 0 })
   (hfi : h.get? fi = some { cls := .type "function", dict := none, data := dfi, slots := #[] }) (hfl : h.get? fl = some { cls := .type "function", dict := none, data := dfl, slots := #[] }) (hfg : h.get? fg = some { cls := .type "function", dict := none, data := dfg, slots := #[] }) (hfe : h.get? fe = some { cls := .type "function", dict := none, data := dfe, slots := #[] }) (hfle : h.get? fle = some { cls := .type "function", dict := none, data := dfle, slots := #[] }) (hfge : h.get? fge = some { cls := .type "function", dict := none, data := dfge, slots := #[] })
   (hst : h.get? st = some { cls := .type "tuple", dict := none, data := dst, slots := #[] })
   (hret : TypeRet w h t g d os R bt sl fi fl fg fe fle fge st) :
   wpOwn (model PySem.Challenge.rw_of0013_01.prog w) A c (denX (.call (.type "type") ⟨[.str (Str.ofString "K") t, .ref bt, .ref nsA], []⟩)) (postC PySem.Challenge.rw_of0013_01.prog w A R) E ⟨h, g, d, t + 73, os⟩ := by
  have hpk9 := Mine.pickOn
  revert w A c h g d t os R E bt nsA sl fi fl fg fe fle fge st dfi dfl dfg dfe dfle dfge dst tl Z Y X hne hbt hns hsl hfi hfl hfg hfe hfle hfge hst hret
  intro w A c h g d t os R E bt nsA sl fi fl fg fe fle fge st dfi dfl dfg dfe dfle dfge dst tl Z Y X hne hbt hns hsl hfi hfl hfg hfe hfle hfge hst hret
  unfold nsIn at hns
  simp only [st0, st1, st2, st3, st4, st5, st6, st7, st8, st9, st10, st11, st12, st13, st14, st15, st16, st17, st18, st19, st20, st21, st22, st23, st24, st25, st26, st27, st28, st29, st30, st31, st32, st33, st34, st35, st36, st37, st38, st39, st40, st41, st42, st43, st44, st45, st46, st47, st48, st49, st50, st51, st52, st53, st54, st55, st56, st57, st58, st59, st60, st61, st62, st63, st64, st65, st66, st67, st68, st69, st70, st71, st72, st73, st74, st75, st76, st77, st78, st79, st80, st81, st82, st83, st84, st85, st86, st87, st88, st89, st90, st91, st92, st93, st94, st95, st96, st97, st98, st99, st100, st101, st102, st103, st104, st105, st106, st107, st108, st109, st110, st111, st112, st113, st114, st115, st116, st117, st118, st119, st120, st121, st122, st123, st124, st125, st126, st127, st128, st129, st130, st131, st132, st133, st134, st135, st136, st137, st138, st139, st140, st141, st142, st143, st144, st145, st146, st147, st148, st149, st150, st151, st152, st153, st154, st155, st156, st157, st158, st159, st160, st161, st162, st163, st164, st165, st166, st167, st168, st169, st170, st171, st172, st173, st174, st175, st176, st177, st178, st179, st180, st181, st182, st183, st184, st185, st186, st187, st188, st189, st190, st191, st192, st193, st194, st195, st196, st197, st198, st199, st200, st201, st202, st203, st204] at hns ⊢
  have D0 := Mem2.start h
  repeat k_extra "q step"
  rename Mem2 _ _ _ _ => D9
  refine fin_type hret D9 ?_ ?_ ?_ <;> kernel_rfl
end Mine
end
open PySem PySem.W PyProof.Rows in
example : Mine.RS := by intro M A Q E s h; w_top off; first | walk1 | skip; all_goals first | exact h | exact wpAny_pure h
section
open PySem PySem.W PyProof.Rows PySem.W.X
set_option maxHeartbeats 0
local macro_rules | `(tactic| k_extra "q call") => `(tactic| ((with_reducible show wpOwn _ _ _ (Sem.call _ _ _ _ _) _ _ _); (fail_if_success (show wpOwn _ _ _ (Sem.call (PySem.Code.call (PySem.Value.type "type") _) _ _ _ _) _ _ _)); refine Mine.q_call (by intro hq; cases hq) (by k_extra "q code") (by assumption) (by k_extra "q kern") (by k_extra "q kern") (by k_extra "q code") (by k_extra "q code") ?_; intro A' c' R' E' K' Z' Y'))
local macro_rules | `(tactic| k_extra "q again") => `(tactic| (refine Mine.q_again rfl (by k_extra "q code") (by assumption) (by k_extra "q kern") (by k_extra "q kern") (by k_extra "q kern") (by k_extra "q code") (by k_extra "q code") ?_; intro c' E' Y'))
local macro_rules | `(tactic| k_extra "q step") => `(tactic| first | k_extra "q one" | ((conv => (arg 4; whnf)); first | k_extra "q one" | (with_reducible refine Mine.q_bind ?_; intro Q' K') | (with_reducible refine Mine.q_onRaise ?_; intro E') | with_reducible refine Mine.q_keep ?_ | (with_reducible refine Mine.q_try ?_; intro E') | ((with_reducible show wpOwn _ _ _ (List.anyM _ _) _ _ _); rw [Mine.filtK]) | ((with_reducible show wpOwn _ _ _ (List.forIn'.loop _ _ _ _ _) _ _ _); refine Mine.q_loop Mine.dropK ?_) | k_extra "q look" | k_extra "q ne" | k_extra "q bool" | k_extra "q twin" | ((conv => (arg 4; simp only [List.any_toArray]; whnf)); first | k_extra "q one" | (with_reducible refine Mine.q_bind ?_; intro Q' K') | k_extra "q bool")))
local macro_rules | `(tactic| intro $x:ident) => `(tactic| first | (refine @Mine.pick_allM _ (by with_reducible assumption) (by k_extra "ne9") _ ?_; generalize @Mine.pick _ _ _ = $x) | intros $x)
local macro_rules | `(tactic| intro $x:term $y:term $ys:term*) => `(tactic| (intro $x:term; intro $y:term $ys:term*))
local macro_rules | `(tactic| k_fold) => `(tactic| skip)
namespace Mine
theorem mNewE {h₀ h : Heap} {chg news : List (Addr × Obj)} (D : Mem2 h₀ h chg news) {a : Addr} {o o' : Obj} (hm : (a, o) ∈ news) (e : o = o') : h.get? a = some o' := e ▸ mNew D hm
theorem In23.of {K : Frag} {h₀ h : Heap} {T : Obj} {news : List (Addr × Obj)} (X : K.In h₀) (X1 : ∃ o, h₀.get? (nat_lit 1) = some o) (D : Mem2 h₀ h [(nat_lit 23, T)] news) : In23 K h := ⟨fun a o q e => D.m.keep a o (X a o e) (by
  have : away [(nat_lit 23, T)] a = true := by
    unfold away
    have z : Nat.beq 23 a = false := by
      cases y : Nat.beq 23 a with
      | false => rfl
      | true => rw [Nat.eq_of_beq_eq_true y] at q; rw [Nat.beq_refl] at q; cases q
    simp [z]
  rw [this, Bool.or_true]), X1.elim fun o e => ⟨o, D.m.keep _ _ e (by rw [show away [(nat_lit 23, T)] (nat_lit 1) = true from rfl, Bool.or_true])⟩⟩
theorem Room.less {A : Around} {n m n' m' : Nat} (r : Room A n m) (hn : Nat.ble n' n = true) (hm : Nat.ble m' m = true) : Room A n' m' := ⟨Nat.lt_of_le_of_lt (Nat.add_le_add_left (Nat.le_of_ble_eq_true hn) _) r.d, Nat.lt_of_le_of_lt (Nat.add_le_add_left (Nat.le_of_ble_eq_true hm) _) r.u⟩
theorem RoomC.less {A : Around} {c : Code} {n m n' m' : Nat} (r : RoomC A c n m) (hn : Nat.ble n' n = true) (hm : Nat.ble m' m = true) : RoomC A c n' m' := ⟨r.r.less hn hm⟩
noncomputable abbrev nsInL (P : Params) (t : Nat) (sl fi fl fg fe fle fge st : Addr) : Obj := { cls := .type "dict", data := .dict #[kE P ⟨#[95, 95, 109, 111, 100, 117, 108, 101, 95, 95]⟩ (t + 8) (.str ⟨#[99, 112, 121, 51, 49, 51, 46, 102, 117, 110, 99, 116, 111, 111, 108, 115]⟩ (t + 13)), kE P ⟨#[95, 95, 113, 117, 97, 108, 110, 97, 109, 101, 95, 95]⟩ (t + 10) (.str ⟨#[99, 109, 112, 95, 116, 111, 95, 107, 101, 121, 46, 60, 108, 111, 99, 97, 108, 115, 62, 46, 75]⟩ (t + 9)), kE P ⟨#[95, 95, 102, 105, 114, 115, 116, 108, 105, 110, 101, 110, 111, 95, 95]⟩ (t + 12) (.int 7 (t + 11)), kE P ⟨#[95, 95, 115, 108, 111, 116, 115, 95, 95]⟩ (t + 16) (.ref sl), kE P ⟨#[95, 95, 105, 110, 105, 116, 95, 95]⟩ (t + 24) (.ref fi),     kE P ⟨#[95, 95, 108, 116, 95, 95]⟩ (t + 33) (.ref fl), kE P ⟨#[95, 95, 103, 116, 95, 95]⟩ (t + 42) (.ref fg), kE P ⟨#[95, 95, 101, 113, 95, 95]⟩ (t + 51) (.ref fe), kE P ⟨#[95, 95, 108, 101, 95, 95]⟩ (t + 60) (.ref fle), kE P ⟨#[95, 95, 103, 101, 95, 95]⟩ (t + 69) (.ref fge), kE P ⟨#[95, 95, 104, 97, 115, 104, 95, 95]⟩ (t + 70) .none,     kE P ⟨#[95, 95, 115, 116, 97, 116, 105, 99, 95, 97, 116, 116, 114, 105, 98, 117, 116, 101, 115, 95, 95]⟩ (t + 72) (.ref st)] 12 }
theorem q_callT {α : Type} {prog : Program} {w : World} {A : Around} {c : Code} {Q : α → Shared → Prop} {E : Value → Shared → Prop} {n m : Nat} {c₀ : Code} {tk : Tok} {bt nsA : Addr} {k : Result → Sem α} {s : Shared}
    (ec : c₀ = .call (.type "type") ⟨[.str ⟨#[75]⟩ tk, .ref bt, .ref nsA], []⟩) (RC : RoomC A c n m) (hn : Nat.ble 500 n = true) (hm : Nat.ble 2900 m = true)
    (x : ∀ A₂ c₂ R E₂, KR α prog w A c Q E k R → Room A₂ 500 2900 → RoomC A₂ c₂ 500 2899 → wpOwn (model prog w) A₂ c₂ (denX (.call (.type "type") ⟨[.str ⟨#[75]⟩ tk, .ref bt, .ref nsA], []⟩)) (postC prog w A₂ R) E₂ s) : wpOwn (model prog w) A c (.call c₀ none false [] k) Q E s :=
  q_call (by intro hq; cases hq) ec ⟨RC.r.less hn hm⟩ (by first | exact rfl | kernel_rfl) (by first | exact rfl | kernel_rfl) (by first | exact rfl | kernel_rfl) (by first | exact rfl | kernel_rfl) x
theorem c_typeS {w : World} {A : Around} {c : Code} {h : Heap} {g : Array GenState} {d : Drawn} {t tk : Nat} {os : OsState} {R : Result → Shared → Prop} {E : Value → Shared → Prop} {bt nsA sl fi fl fg fe fle fge st : Addr} {dfi dfl dfg dfe dfle dfge dst : Data} {tl : Tok}
   (Z : Room A 500 2900) (Y : RoomC A c 500 2899) (X : In23 (hd.heap_1 w.params) h) (hne : (nsA == sysModules) = false)
   (hbt : h.get? bt = some { cls := .type "tuple", data := .seq #[.type "object"] 0 })
   (hns : h.get? nsA = some (nsInL w.params t sl fi fl fg fe fle fge st))
   (hsl : h.get? sl = some { cls := .type "list", data := .seq #[.str ⟨#[111, 98, 106]⟩ tl] 0 })
   (hfi : h.get? fi = some { cls := .type "function", dict := none, data := dfi, slots := #[] }) (hfl : h.get? fl = some { cls := .type "function", dict := none, data := dfl, slots := #[] }) (hfg : h.get? fg = some { cls := .type "function", dict := none, data := dfg, slots := #[] }) (hfe : h.get? fe = some { cls := .type "function", dict := none, data := dfe, slots := #[] }) (hfle : h.get? fle = some { cls := .type "function", dict := none, data := dfle, slots := #[] }) (hfge : h.get? fge = some { cls := .type "function", dict := none, data := dfge, slots := #[] })
   (hst : h.get? st = some { cls := .type "tuple", dict := none, data := dst, slots := #[] }) (etk : tk = t + 73)
   (hret : TypeRet w h t g d os R bt sl fi fl fg fe fle fge st) :
   wpOwn (model PySem.Challenge.rw_of0013_01.prog w) A c (denX (.call (.type "type") ⟨[.str ⟨#[75]⟩ t, .ref bt, .ref nsA], []⟩)) (postC PySem.Challenge.rw_of0013_01.prog w A R) E ⟨h, g, d, tk, os⟩ := by
  subst etk
  have en : nsInL w.params t sl fi fl fg fe fle fge st = nsIn w.params t sl fi fl fg fe fle fge st := by kernel_rfl
  have := c_type (E := E) Z Y X hne hbt (hns.trans (congrArg some en)) hsl hfi hfl hfg hfe hfle hfge hst hret
  rw [st36] at this
  exact this
theorem exE {α : Type} {p : α → Prop} {G : Prop} (h : ∃ x, p x) (k : ∀ x, p x → G) : G := h.elim k
theorem nsFlat {h : Heap} {a : Addr} {m : Str → Option Value} (X : h.Ns a m) : ∃ c dd es ep sl, h.get? a = some ⟨c, dd, .dict es ep, sl⟩ ∧ ∀ n, nsFind es n = m n := by
  obtain ⟨⟨c, dd, dt, sl⟩, es, ep, e, q, _, l⟩ := X
  obtain rfl : dt = .dict es ep := q
  exact ⟨c, dd, es, ep, sl, e, l⟩
theorem c_key {w : World} {A : Around} {h₀ : Heap} {g : Array GenState} {d : Drawn} {t : Nat} {os : OsState} {Q E : Value → Shared → Prop}
   (X : (hd.heap_1 w.params).In h₀) (X23 : h₀.get? (nat_lit 23) = some (tabObj #[])) (X0 : ∃ mb, h₀.Ns builtinsNs mb ∧ ∀ x : Str, x ≠ "__name__" → mb x = bootBuiltins x) (X1 : ∃ o, h₀.get? (nat_lit 1) = some o) (e4 : h₀.get? (nat_lit 4) = some { cls := .type "module", dict := some (nat_lit 0) }) (e5 : h₀.get? (nat_lit 5) = some { cls := .type "module", dict := some (nat_lit 3) }) (hR : Room A 600 3000)
   (hret : ∀ Kc ns bt sl fi fl fg fe fle fge st md ci cl cell q1 q2 q3 q4 q5 q6 r1 r2 r3 r4 r5 h' tk' ps, (∀ b o, h₀.get? b = some o → b ≠ nat_lit 23 → h'.get? b = some o) → h'.get? (nat_lit 23) = some (tabObj ps) → (∀ b ∈ [Kc, ns, md, fl, cl, fi, ci, cell], h₀.get? b = none) →
      IsK w h' t Kc ns bt sl fi fl fg fe fle fge st md ci cl cell q1 q2 q3 q4 q5 q6 r1 r2 r3 r4 r5 → Q (.ref Kc) ⟨h', g, d, tk', os⟩) :
   wpAny (model PySem.Challenge.rw_of0013_01.prog w) A (call (.ref 28) [.ref 128]) Q E ⟨h₀, g, d, t, os⟩ := by
  have hpk9 := Mine.pickOn
  revert w A h₀ g d t os Q E X X23 X0 X1 e4 e5 hR hret
  intro w A h₀ g d t os Q E X X23 X0 X1 e4 e5 hR hret
  refine exE X0 ?_; intro mb X0'; clear X0; refine exE (nsFlat X0'.1) ?_; intro c0 Z0; refine exE Z0 ?_; intro dd0 Z1; clear Z0; refine exE Z1 ?_; intro es0 Z2; clear Z1; refine exE Z2 ?_; intro ep0 Z3; clear Z2; refine exE Z3 ?_; intro sl0 Z4; clear Z3
  have e0 := Z4.1
  have hl0 := Z4.2
  have hb0 := X0'.2
  clear X0' Z4
  have hB : nsFind es0 ⟨#[95, 95, 98, 117, 105, 108, 100, 95, 99, 108, 97, 115, 115, 95, 95]⟩ = some (.builtin "__build_class__") := (hl0 ⟨#[95, 95, 98, 117, 105, 108, 100, 95, 99, 108, 97, 115, 115, 95, 95]⟩).trans ((hb0 ⟨#[95, 95, 98, 117, 105, 108, 100, 95, 99, 108, 97, 115, 115, 95, 95]⟩ (by decide)).trans (by kernel_rfl))
  have hO : nsFind es0 ⟨#[111, 98, 106, 101, 99, 116]⟩ = some (.type "object") := (hl0 ⟨#[111, 98, 106, 101, 99, 116]⟩).trans ((hb0 ⟨#[111, 98, 106, 101, 99, 116]⟩ (by decide)).trans (by kernel_rfl))
  obtain ⟨o1, e1⟩ := X1
  have e3 := X (nat_lit 3) _ rfl
  have e23 := X23
  have e27 := X (nat_lit 27) _ rfl
  have e28 := X (nat_lit 28) _ rfl
  simp only [st0, st1, st2, st3, st4, st5, st6, st7, st8, st9, st10, st11, st12, st13, st14, st15, st16, st17, st18, st19, st20, st21, st22, st23, st24, st25, st26, st27, st28, st29, st30, st31, st32, st33, st34, st35, st36, st37, st38, st39, st40, st41, st42, st43, st44, st45, st46, st47, st48, st49, st50, st51, st52, st53, st54, st55, st56, st57, st58, st59, st60, st61, st62, st63, st64, st65, st66, st67, st68, st69, st70, st71, st72, st73, st74, st75, st76, st77, st78, st79, st80, st81, st82, st83, st84, st85, st86, st87, st88, st89, st90, st91, st92, st93, st94, st95, st96, st97, st98, st99, st100, st101, st102, st103, st104, st105, st106, st107, st108, st109, st110, st111, st112, st113, st114, st115, st116, st117, st118, st119, st120, st121, st122, st123, st124, st125, st126, st127, st128, st129, st130, st131, st132, st133, st134, st135, st136, st137, st138, st139, st140, st141, st142, st143, st144, st145, st146, st147, st148, st149, st150, st151, st152, st153, st154, st155, st156, st157, st158, st159, st160, st161, st162, st163, st164, st165, st166, st167, st168, st169, st170, st171, st172, st173, st174, st175, st176, st177, st178, st179, st180, st181, st182, st183, st184, st185, st186, st187, st188, st189, st190, st191, st192, st193, st194, st195, st196, st197, st198, st199, st200, st201, st202, st203, st204] at e3 e27 e28
  have D0 := Mem2.start h₀
  refine q_start (by intro hq; cases hq) rfl hR (by k_extra "q kern") (by k_extra "q kern") (by k_extra "q code") (by k_extra "q code") ?_
  intro A1 c1 R1 E1 KA1 Z1 Y1
  repeat k_extra "q step"
  (conv => (arg 4; whnf))
  generalize hg9 : PySem.W.XFast.xw3451499830137702736 _ _ es0.toList false = y9
  (first | refine exE (ns_y hB hg9) ?_ | refine exE (ns_y hO hg9) ?_); clear hg9; intro hh9 z8; refine exE z8 ?_; intro k9 z7; clear z8; refine exE z7 ?_; intro b9 z6; clear z7; subst z6
  repeat k_extra "q step"
  (conv => (arg 4; whnf))
  generalize hg9 : PySem.W.XFast.xw3451499830137702736 _ _ es0.toList false = y9
  (first | refine exE (ns_y hB hg9) ?_ | refine exE (ns_y hO hg9) ?_); clear hg9; intro hh9 z8; refine exE z8 ?_; intro k9 z7; clear z8; refine exE z7 ?_; intro b9 z6; clear z7; subst z6
  repeat k_extra "q step"
  (conv => (arg 4; whnf))
  rename Mem2 _ _ _ _ => D9
  refine q_callT rfl (by assumption) rfl rfl ?_
  intro A' c' R' E' K' Z' Y'
  refine c_typeS Z' Y' (In23.of X ⟨o1, e1⟩ D9) (q_neO D9 (b := sysModules) e1 (by k_extra "q mem")) (mNewE D9 (by k_extra "q mem") (by kernel_rfl)) (mNewE D9 (by k_extra "q mem") rfl) (mNewE D9 (by k_extra "q mem") rfl) (mNewE D9 (by k_extra "q mem") rfl) (mNewE D9 (by k_extra "q mem") rfl) (mNewE D9 (by k_extra "q mem") rfl) (mNewE D9 (by k_extra "q mem") rfl) (mNewE D9 (by k_extra "q mem") rfl) (mNewE D9 (by k_extra "q mem") rfl) (mNewE D9 (by k_extra "q mem") rfl) rfl ?_
  intro a0 a1 a2 a3 a4 a5 o0 o1 o5 h2 tk2 D2
  have D3 := D9.app D2
  clear D9 D2
  simp only [List.cons_append, List.nil_append] at D3
  refine K'.h _ _ ?_
  repeat k_extra "q step"
  (conv => (arg 4; whnf))
  rename Mem2 _ _ _ _ => D9
  refine q_doneA KA1 rfl rfl ?_
  refine key_fin hret D9.m ?_ ?_ ?_ ?_ ?_ ?_ ?_ ?_ <;> kernel_rfl
end Mine
end
open PySem PySem.W PyProof.Rows in
example : Mine.RS := by intro M A Q E s h; w_top off; first | walk1 | skip; all_goals first | exact h | exact wpAny_pure h
section
open PySem PySem.W PyProof.Rows PySem.W.X
set_option maxHeartbeats 0
local macro_rules | `(tactic| k_extra "q call") => `(tactic| ((with_reducible show wpOwn _ _ _ (Sem.call _ _ _ _ _) _ _ _); refine Mine.q_call (by intro hq; cases hq) (by k_extra "q code") (by assumption) (by k_extra "q kern") (by k_extra "q kern") (by k_extra "q code") (by k_extra "q code") ?_; intro A' c' R' E' K' Z' Y'))
local macro_rules | `(tactic| k_extra "q again") => `(tactic| (refine Mine.q_again rfl (by k_extra "q code") (by assumption) (by k_extra "q kern") (by k_extra "q kern") (by k_extra "q kern") (by k_extra "q code") (by k_extra "q code") ?_; intro c' E' Y'))
local macro_rules | `(tactic| k_extra "q step") => `(tactic| first | k_extra "q one" | ((conv => (arg 4; whnf)); first | k_extra "q one" | (with_reducible refine Mine.q_bind ?_; intro Q' K') | (with_reducible refine Mine.q_onRaise ?_; intro E') | with_reducible refine Mine.q_keep ?_ | (with_reducible refine Mine.q_try ?_; intro E') | ((with_reducible show wpOwn _ _ _ (List.anyM _ _) _ _ _); rw [Mine.filtK]) | ((with_reducible show wpOwn _ _ _ (List.forIn'.loop _ _ _ _ _) _ _ _); refine Mine.q_loop Mine.dropK ?_) | k_extra "q look" | k_extra "q ne" | k_extra "q bool" | k_extra "q twin" | ((conv => (arg 4; simp only [List.any_toArray]; whnf)); first | k_extra "q one" | (with_reducible refine Mine.q_bind ?_; intro Q' K') | k_extra "q bool")))
local macro_rules | `(tactic| intro $x:ident) => `(tactic| first | (refine @Mine.pick_allM _ (by with_reducible assumption) (by k_extra "ne9") _ ?_; generalize @Mine.pick _ _ _ = $x) | intros $x)
local macro_rules | `(tactic| intro $x:term $y:term $ys:term*) => `(tactic| (intro $x:term; intro $y:term $ys:term*))
local macro_rules | `(tactic| k_fold) => `(tactic| skip)
namespace Mine
noncomputable abbrev instK (Kc dct : Addr) (nm : Str) (u : Tok) : Obj := { cls := .ref Kc, dict := some dct, slots := #[some (.str nm u)] }
noncomputable def NewRet (h : Heap) (g : Array GenState) (d : Drawn) (os : OsState) (Q : Value → Shared → Prop) (Kc : Addr) (nm : Str) (u : Tok) : Prop :=
  ∀ x dct h' tk', (∀ b o, h.get? b = some o → h'.get? b = some o) → h.get? x = none → h.objs.size ≤ x → h'.get? x = some (instK Kc dct nm u) → Q (.ref x) ⟨h', g, d, tk', os⟩
theorem fin_new {h h' : Heap} {g : Array GenState} {d : Drawn} {os : OsState} {Q : Value → Shared → Prop} {Kc : Addr} {nm : Str} {u : Tok} {tk' : Nat} {a0 a1 a2 : Addr} {o0 o1 o2 : Obj} (hret : NewRet h g d os Q Kc nm u)
    (D : Mem2 h h' [] [(a0, o0), (a1, o1), (a2, o2)]) (e1 : o1 = instK Kc a2 nm u) : Q (.ref a1) ⟨h', g, d, tk', os⟩ := by
  have k1 := D.m.nw (a1, o1) (.tail _ (.head _))
  exact hret a1 a2 h' tk' (fun b o e => D.m.keep b o e (by simp [away])) k1.2 (D.lo (a1, o1) (.tail _ (.head _))) (k1.1.trans (congrArg some e1))
theorem weq0 {α : Type} {a b : α} {G : Prop} (e : a = b) (h : a = b → G) : G := h e
theorem k_new {w : World} {A : Around} {h : Heap} {g : Array GenState} {d : Drawn} {t tk : Nat} {os : OsState} {Q E : Value → Shared → Prop} {Kc ns bt sl fi fl fg fe fle fge st md ci cl cell q1 q2 q3 q4 q5 q6 r1 r2 r3 r4 r5 : Addr} {nm : Str} {u : Tok}
   (I : IsK w h t Kc ns bt sl fi fl fg fe fle fge st md ci cl cell q1 q2 q3 q4 q5 q6 r1 r2 r3 r4 r5) (X : In23 (hd.heap_1 w.params) h) (hR : Room A 500 2900)
   (hret : NewRet h g d os Q Kc nm u) :
   wpAny (model PySem.Challenge.rw_of0013_01.prog w) A (call (.ref Kc) [.str nm u]) Q E ⟨h, g, d, tk, os⟩ := by
  have hpk9 := Mine.pickOn
  revert w A h g d t tk os Q E Kc ns bt sl fi fl fg fe fle fge st md ci cl cell q1 q2 q3 q4 q5 q6 r1 r2 r3 r4 r5 nm u I X hR hret
  intro w A h g d t tk os Q E Kc ns bt sl fi fl fg fe fle fge st md ci cl cell q1 q2 q3 q4 q5 q6 r1 r2 r3 r4 r5 nm u I X hR hret
  have hK := I.hK
  have hns := I.hns
  have hmd := I.hmd
  have hfi := I.hfi
  have hci := I.hci
  simp only [nsK, clsK, mdK, codeK, kE] at hK hns hmd hci
  simp only [fnK] at hfi
  refine weq0 (a := kStmts w.params 2) (by conv => (lhs; whnf; arg 1; whnf)) fun e1 => ?_
  refine weq0 (a := kArgs w.params 2) (by conv => (lhs; whnf)) fun e2 => ?_
  refine weq0 (a := kScope w.params 2) (by conv => (lhs; whnf)) fun e3 => ?_
  rw [e1, e2, e3] at hfi
  clear e1 e2 e3
  simp only [st0, st1, st2, st3, st4, st5, st6, st7, st8, st9, st10, st11, st12, st13, st14, st15, st16, st17, st18, st19, st20, st21, st22, st23, st24, st25, st26, st27, st28, st29, st30, st31, st32, st33, st34, st35, st36, st37, st38, st39, st40, st41, st42, st43, st44, st45, st46, st47, st48, st49, st50, st51, st52, st53, st54, st55, st56, st57, st58, st59, st60, st61, st62, st63, st64, st65, st66, st67, st68, st69, st70, st71, st72, st73, st74, st75, st76, st77, st78, st79, st80, st81, st82, st83, st84, st85, st86, st87, st88, st89, st90, st91, st92, st93, st94, st95, st96, st97, st98, st99, st100, st101, st102, st103, st104, st105, st106, st107, st108, st109, st110, st111, st112, st113, st114, st115, st116, st117, st118, st119, st120, st121, st122, st123, st124, st125, st126, st127, st128, st129, st130, st131, st132, st133, st134, st135, st136, st137, st138, st139, st140, st141, st142, st143, st144, st145, st146, st147, st148, st149, st150, st151, st152, st153, st154, st155, st156, st157, st158, st159, st160, st161, st162, st163, st164, st165, st166, st167, st168, st169, st170, st171, st172, st173, st174, st175, st176, st177, st178, st179, st180, st181, st182, st183, st184, st185, st186, st187, st188, st189, st190, st191, st192, st193, st194, st195, st196, st197, st198, st199, st200, st201, st202, st203, st204] at hK hns hmd hfi hci
  have D0 := Mem2.start h
  refine q_start (by intro hq; cases hq) rfl hR (by k_extra "q kern") (by k_extra "q kern") (by k_extra "q code") (by k_extra "q code") ?_
  intro A1 c1 R1 E1 KA1 Z1 Y1
  repeat k_extra "q step"
  rename Mem2 _ _ _ _ => D9
  refine q_doneA KA1 rfl rfl ?_
  refine fin_new hret D9 ?_
  kernel_rfl
end Mine
end
open PySem PySem.W PyProof.Rows in
example : Mine.RS := by intro M A Q E s h; w_top off; first | walk1 | skip; all_goals first | exact h | exact wpAny_pure h
section
set_option maxHeartbeats 4000000
namespace Mine
structure ItIs (vs : List Value) (k : Int) (v : Value) : Prop where
  lo : 0 ≤ k
  hi : k < 2 ^ 63
  at' : vs[k.toNat]? = some v
structure ItOut (vs : List Value) (k : Int) : Prop where
  lo : (vs.length : Int) ≤ k
  hi : k < 2 ^ 63
structure CutAt (vs : List Value) (k : Int) (zs : List Value) : Prop where
  lo : 0 ≤ k
  len : vs.length ≤ 1000
  cut : vs.drop k.toNat = zs
noncomputable abbrev ltT (a b : Str) : Prop := a.cps.toList < b.cps.toList
noncomputable def diffS (E A : List Str) : List Str := E.filter fun x => decide (x ∉ A)
structure SlJ (E A : List Str) (us : List Value) (i j : Nat) : Prop where
  ok : StrsAre us (diffS (E.take i) A)
  hi : i ≤ E.length
  sub : (A.drop j).Sublist (E.drop i)
  hj : j ≤ A.length
  old : ∀ a ∈ A.take j, a ∈ E.take i
inductive SlCase (Es As : List Value) (E A : List Str) (us : List Value) (i j : Nat) : Prop
  | endE : us.length ≤ 1000 → ItOut Es (i : Int) → CutAt Es (i : Int) [] → CutAt As (j : Int) [] → StrsAre (us ++ []) (diffS E A) → SlCase Es As E A us i j
  | endA (x t zs) : us.length ≤ 1000 → ItIs Es (i : Int) (.str x t) → ItOut As (j : Int) → CutAt Es (i : Int) zs → CutAt As (j : Int) [] → zs.length ≤ 1000 → StrsAre (us ++ zs) (diffS E A) → SlCase Es As E A us i j
  | less (x t y u z v) : us.length ≤ 1000 → ItIs Es (i : Int) (.str x t) → ItIs As (j : Int) (.str y u) → decide (x.cps.toList < y.cps.toList) = true → ItIs Es ((i : Int) + 1) (.str z v) → (z == x) = false → SlJ E A (us ++ [.str x t]) (i + 1) j → i < E.length → SlCase Es As E A us i j
  | same (x t u z v z2 v2) : us.length ≤ 1000 → ItIs Es (i : Int) (.str x t) → ItIs As (j : Int) (.str x u) → decide (x.cps.toList < x.cps.toList) = false → ItIs Es ((i : Int) + 1) (.str z v) → (z == x) = false → ItIs As ((j : Int) + 1) (.str z2 v2) → (z2 == x) = false → SlJ E A us (i + 1) (j + 1) → i < E.length → SlCase Es As E A us i j
  | sameA (x t u z v zs) : us.length ≤ 1000 → ItIs Es (i : Int) (.str x t) → ItIs As (j : Int) (.str x u) → decide (x.cps.toList < x.cps.toList) = false → ItIs Es ((i : Int) + 1) (.str z v) → (z == x) = false → ItOut As ((j : Int) + 1) → CutAt Es ((i : Int) + 1) zs → CutAt As ((j : Int) + 1) [] → zs.length ≤ 1000 → StrsAre (us ++ zs) (diffS E A) → SlCase Es As E A us i j
  | sameE (x t u) : us.length ≤ 1000 → ItIs Es (i : Int) (.str x t) → ItIs As (j : Int) (.str x u) → decide (x.cps.toList < x.cps.toList) = false → ItOut Es ((i : Int) + 1) → ItOut As ((j : Int) + 1) → CutAt Es ((i : Int) + 1) [] → CutAt As ((j : Int) + 1) [] → StrsAre (us ++ []) (diffS E A) → SlCase Es As E A us i j
theorem SlJ.start {E A : List Str} (h : A.Sublist E) : SlJ E A [] 0 0 := ⟨by simpa [diffS] using StrsAre.nil, Nat.zero_le _, by simpa using h, Nat.zero_le _, by simp⟩
theorem ltT_irr (x : Str) : ¬ ltT x x := List.lt_irrefl _
theorem ltT_trans {x y z : Str} (a : ltT x y) (b : ltT y z) : ltT x z := List.lt_trans a b
section
variable {Es As : List Value} {E A : List Str} (hE : StrsAre Es E) (hA : StrsAre As A)
theorem it_of {Es : List Value} {E : List Str} (hE : StrsAre Es E) {k : Nat} {x : Str} (hl : E.length ≤ 900) (h : E[k]? = some x) : ∃ t, ItIs Es (k : Int) (.str x t) := by
  obtain ⟨t, ht⟩ := StrsAre.at hE h
  have hk : k < E.length := (List.getElem?_eq_some_iff.mp h).1
  exact ⟨t, Int.natCast_nonneg _, by omega, by simpa using ht⟩
theorem out_of {Es : List Value} {E : List Str} (hE : StrsAre Es E) {k : Nat} (hl : k ≤ 900) (h : E.length ≤ k) : ItOut Es (k : Int) := ⟨by rw [hE.length]; omega, by omega⟩
theorem cut_of {Es : List Value} {E : List Str} (hE : StrsAre Es E) (k : Nat) (hl : E.length ≤ 900) : CutAt Es (k : Int) (Es.drop k) := ⟨Int.natCast_nonneg _, by rw [hE.length]; omega, by simp⟩
theorem cut_nil {Es : List Value} {E : List Str} (hE : StrsAre Es E) {k : Nat} (hl : E.length ≤ 900) (h : E.length ≤ k) : CutAt Es (k : Int) [] := ⟨Int.natCast_nonneg _, by rw [hE.length]; omega, by simp; rw [hE.length]; exact h⟩
theorem filt_all {l A : List Str} (h : ∀ x ∈ l, x ∉ A) : diffS l A = l := List.filter_eq_self.mpr fun x hx => decide_eq_true (h x hx)
theorem filt_app (l l' A : List Str) : diffS (l ++ l') A = diffS l A ++ diffS l' A := List.filter_append ..
theorem sl_case :
 ∀ {Es : List Value} {As : List Value} {E : List Str} {A : List Str} {us : List Value} {i j : Nat}
 (hE : StrsAre Es E) (hA : StrsAre As A) (J : SlJ E A us i j) (hP : E.Pairwise ltT) (hl : E.length ≤ 900) (hlA : A.length ≤ 900), SlCase Es As E A us i j := by
  iterate 9 refine @Mine.pad _ ?_
  iterate 1 k_extra "pkG"
  iterate 6 k_extra "pk9"
  rename_i Es As E A us i j hE hA J hP hl hlA
  have hul : us.length ≤ 1000 := by
    rw [J.ok.length]
    refine Nat.le_trans (List.length_filter_le ..) ?_
    rw [List.length_take]; omega
  have hnd : E.Nodup := by
    refine List.Pairwise.imp (fun {a b} (h : ltT a b) => ?_) hP
    intro e; subst e; exact ltT_irr _ h
  have hsplit : E = E.take i ++ E.drop i := (List.take_append_drop i E).symm
  have hdisj : ∀ a, a ∈ E.take i → a ∈ E.drop i → False := fun a h1 h2 => by
    rw [hsplit] at hnd
    exact (List.nodup_append.mp hnd).2.2 a h1 a h2 rfl
  have inA : ∀ a, a ∈ A → a ∈ E.take i ∨ a ∈ A.drop j := fun a h => by
    rw [← List.take_append_drop j A] at h
    rcases List.mem_append.mp h with h | h
    · exact .inl (J.old a h)
    · exact .inr h
  by_cases hi : i < E.length
  · obtain ⟨x, hx⟩ : ∃ x, E[i]? = some x := ⟨_, List.getElem?_eq_getElem hi⟩
    obtain ⟨t, ht⟩ := it_of hE hl hx
    have hdr : E.drop i = x :: E.drop (i + 1) := by
      rw [List.drop_eq_getElem_cons hi]
      rw [List.getElem?_eq_getElem hi] at hx
      cases hx; rfl
    have htk : E.take (i + 1) = E.take i ++ [x] := by rw [List.take_add_one, hx]; rfl
    have hPd : (x :: E.drop (i + 1)).Pairwise ltT := hdr ▸ hP.sublist (List.drop_sublist i E)
    have hgt : ∀ z ∈ E.drop (i + 1), ltT x z := (List.pairwise_cons.mp hPd).1
    by_cases hj : j < A.length
    · obtain ⟨y, hy⟩ : ∃ y, A[j]? = some y := ⟨_, List.getElem?_eq_getElem hj⟩
      obtain ⟨u, hu⟩ := it_of hA hlA hy
      have hda : A.drop j = y :: A.drop (j + 1) := by
        rw [List.drop_eq_getElem_cons hj]
        rw [List.getElem?_eq_getElem hj] at hy
        cases hy; rfl
      have hta : A.take (j + 1) = A.take j ++ [y] := by rw [List.take_add_one, hy]; rfl
      have hs := J.sub
      rw [hda, hdr] at hs
      by_cases hxy : x = y
      · subst hxy
        have hs' : (A.drop (j + 1)).Sublist (E.drop (i + 1)) := by
          cases hs with
          | cons _ h => exact absurd (hgt x (h.subset (List.mem_cons_self ..))) (ltT_irr x)
          | cons_cons _ h => exact h
        have hok : diffS (E.take (i + 1)) A = diffS (E.take i) A := by
          rw [htk, filt_app]
          have : diffS [x] A = [] := by
            have hm : x ∈ A := List.mem_of_getElem? hy
            simp [diffS, hm]
          rw [this, List.append_nil]
        have J' : SlJ E A us (i + 1) (j + 1) := ⟨hok ▸ J.ok, hi, hs', hj, fun a ha => by
          rw [hta] at ha; rw [htk]
          rcases List.mem_append.mp ha with ha | ha
          · exact List.mem_append_left _ (J.old a ha)
          · exact List.mem_append_right _ ha⟩
        have hd : decide (x.cps.toList < x.cps.toList) = false := decide_eq_false (ltT_irr x)
        have hdisj' : ∀ z ∈ E.drop (i + 1), A.drop (j + 1) = [] → z ∉ A := fun z hz hn hzA => by
          rw [← List.take_append_drop (j + 1) A, hn, List.append_nil] at hzA
          have := J'.old z hzA
          rw [← List.take_append_drop (i + 1) E] at hnd
          exact (List.nodup_append.mp hnd).2.2 z this z hz rfl
        by_cases hi1 : i + 1 < E.length
        · obtain ⟨z, hz⟩ : ∃ z, E[i + 1]? = some z := ⟨_, List.getElem?_eq_getElem hi1⟩
          obtain ⟨v, hv⟩ := it_of hE hl hz
          have hzm : z ∈ E.drop (i + 1) := by
            rw [List.drop_eq_getElem_cons hi1]
            rw [List.getElem?_eq_getElem hi1] at hz
            cases hz; exact List.mem_cons_self ..
          have hzx : (z == x) = false := by
            simp only [beq_eq_false_iff_ne]
            intro e; exact ltT_irr x (e ▸ hgt z hzm)
          by_cases hj1 : j + 1 < A.length
          · obtain ⟨z2, hz2⟩ : ∃ z, A[j + 1]? = some z := ⟨_, List.getElem?_eq_getElem hj1⟩
            obtain ⟨v2, hv2⟩ := it_of hA hlA hz2
            have hzm2 : z2 ∈ A.drop (j + 1) := by
              rw [List.drop_eq_getElem_cons hj1]
              rw [List.getElem?_eq_getElem hj1] at hz2
              cases hz2; exact List.mem_cons_self ..
            have hzx2 : (z2 == x) = false := by
              simp only [beq_eq_false_iff_ne]
              intro e; exact ltT_irr x (e ▸ hgt z2 (hs'.subset hzm2))
            exact .same x t u z v z2 v2 hul ht hu hd hv hzx hv2 hzx2 J' hi
          · have hn : A.drop (j + 1) = [] := List.drop_eq_nil_of_le (by omega)
            refine .sameA x t u z v (Es.drop (i + 1)) hul ht hu hd hv hzx (out_of hA (k := j + 1) (by omega) (by omega)) (cut_of hE (i + 1) hl) (cut_nil hA (k := j + 1) hlA (by omega)) (by rw [List.length_drop, hE.length]; omega) ?_
            have : diffS E A = diffS (E.take (i + 1)) A ++ E.drop (i + 1) := by
              conv => lhs; rw [← List.take_append_drop (i + 1) E]
              rw [filt_app, filt_all fun z hz => hdisj' z hz hn]
            rw [this]
            exact J'.ok.append' (hE.drop' _)
        · have hn : E.drop (i + 1) = [] := List.drop_eq_nil_of_le (by omega)
          have hnA : A.drop (j + 1) = [] := by rw [hn] at hs'; exact List.sublist_nil.mp hs'
          have hlA' : A.length ≤ j + 1 := List.drop_eq_nil_iff.mp hnA
          refine .sameE x t u hul ht hu hd (out_of hE (k := i + 1) (by omega) (by omega)) (out_of hA (k := j + 1) (by omega) hlA') (cut_nil hE (k := i + 1) hl (by omega)) (cut_nil hA (k := j + 1) hlA hlA') ?_
          have : E.take (i + 1) = E := List.take_of_length_le (by omega)
          have o := J'.ok
          rw [this] at o
          rw [List.append_nil]; exact o
      · have hs' : (y :: A.drop (j + 1)).Sublist (E.drop (i + 1)) := by
          cases hs with
          | cons _ h => exact h
          | cons_cons _ h => exact absurd rfl hxy
        have hym : y ∈ E.drop (i + 1) := hs'.subset (List.mem_cons_self ..)
        have hlt : decide (x.cps.toList < y.cps.toList) = true := decide_eq_true (hgt y hym)
        have hi1 : i + 1 < E.length := by
          have := List.length_pos_of_mem hym
          rw [List.length_drop] at this; omega
        obtain ⟨z, hz⟩ : ∃ z, E[i + 1]? = some z := ⟨_, List.getElem?_eq_getElem hi1⟩
        obtain ⟨v, hv⟩ := it_of hE hl hz
        have hzm : z ∈ E.drop (i + 1) := by
          rw [List.drop_eq_getElem_cons hi1]
          rw [List.getElem?_eq_getElem hi1] at hz
          cases hz; exact List.mem_cons_self ..
        have hzx : (z == x) = false := by
          simp only [beq_eq_false_iff_ne]
          intro e; exact ltT_irr x (e ▸ hgt z hzm)
        have hxA : x ∉ A := fun hm => by
          rcases inA x hm with h | h
          · exact hdisj x h (by rw [hdr]; exact List.mem_cons_self ..)
          · rw [hda] at h
            exact ltT_irr x (hgt x (hs'.subset h))
        refine .less x t y u z v hul ht hu hlt hv hzx ⟨?_, hi, by rw [hda]; exact hs', J.hj, fun a ha => by rw [htk]; exact List.mem_append_left _ (J.old a ha)⟩ hi
        rw [htk, filt_app, filt_all (l := [x]) (fun a ha => by rw [List.mem_singleton.mp ha]; exact hxA)]
        exact J.ok.append' (StrsAre.cons x t StrsAre.nil)
    · have hn : A.drop j = [] := List.drop_eq_nil_of_le (by omega)
      refine .endA x t (Es.drop i) hul ht (out_of hA (by have := J.hj; omega) (by omega)) (cut_of hE i hl) (cut_nil hA hlA (by omega)) (by rw [List.length_drop, hE.length]; omega) ?_
      have hz : ∀ z ∈ E.drop i, z ∉ A := fun z hz hm => by
        rcases inA z hm with h | h
        · exact hdisj z h hz
        · rw [hn] at h; cases h
      have : diffS E A = diffS (E.take i) A ++ E.drop i := by
        conv => lhs; rw [← List.take_append_drop i E]
        rw [filt_app, filt_all hz]
      rw [this]
      exact J.ok.append' (hE.drop' _)
  · have hn : E.drop i = [] := List.drop_eq_nil_of_le (by omega)
    have hnA : A.drop j = [] := by have := J.sub; rw [hn] at this; exact List.sublist_nil.mp this
    refine .endE hul (out_of hE (by have := J.hi; omega) (by omega)) (cut_nil hE hl (by omega)) (cut_nil hA hlA (List.drop_eq_nil_iff.mp hnA)) ?_
    have e : E.take i = E := List.take_of_length_le (by omega)
    have o := J.ok
    rw [e] at o
    rw [List.append_nil]; exact o
end
end Mine
end
open PySem PySem.W PyProof.Rows in
example : Mine.RS := by intro M A Q E s h; w_top off; first | walk1 | skip; all_goals first | exact h | exact wpAny_pure h
section
set_option maxHeartbeats 8000000
local macro_rules | `(tactic| walk_at "execs cons") => `(tactic| (refine wpAny_execs_cons ?_; (try dsimp only); (try k_fold)))
namespace Mine
theorem it_is {prog : Program} {w : World} {A : Around} {E : Value → Shared → Prop} {s : Shared} {value slice : PySem.Expr} {l : Addr} {vs : List Value} {k : Int} {u : Tok} {v : Value} {Q : Value → Shared → Prop} (hl : s.heap.IsList l vs.toArray) (hi : ItIs vs k v) (h : Q v s)
    (hs : subscripted slice false (.ref l) (.int k u) = operate [.ref l, .int k u] (getItem (.ref l) (.int k u)) := by with_unfolding_all rfl) : wpAny (model prog w) A (subscriptTail value slice (.ref l) (.int k u)) Q E s :=
  item_litK hl hi.lo hi.hi hi.at' h hs
theorem it_out {prog : Program} {w : World} {A : Around} {E : Value → Shared → Prop} {s : Shared} {value slice : PySem.Expr} {l : Addr} {vs : List Value} {k : Int} {u : Tok} {Q : Value → Shared → Prop} (hA : A.handled = none) (hl : s.heap.IsList l vs.toArray) (hi : ItOut vs k)
    (hE : ∀ h' tk e, Heap.NewExc s.heap h' e "IndexError" → E (.ref e) { s with heap := h', toks := tk })
    (hs : subscripted slice false (.ref l) (.int k u) = operate [.ref l, .int k u] (getItem (.ref l) (.int k u)) := by with_unfolding_all rfl) : wpAny (model prog w) A (subscriptTail value slice (.ref l) (.int k u)) Q E s :=
  item_outK hA hl (.inr (by rw [List.size_toArray]; exact hi.lo)) (by have := hi.lo; omega) hi.hi hE hs
theorem my_cut {prog : Program} {w : World} {A : Around} {E : Value → Shared → Prop} {s : Shared} {value slice : PySem.Expr} {h₀ : Heap} {L l : Addr} {m : Str → Option Value} {news : List (Addr × Obj)} {vs zs : List Value} {k : Int} {u : Tok} {Q : Value → Shared → Prop}
    (F : Fr h₀ L s.heap m) (N : News h₀ L s.heap news) (hl : s.heap.IsList l vs.toArray) (c : CutAt vs k zs)
    (h : ∀ D h', Fr h₀ L h' m → News h₀ L h' ((D, listOf zs.toArray 0) :: news) → (∀ p ∈ news, p.1 < D) → Q (.ref D) { s with heap := h' })
    (hs : subscripted slice false (.ref l) (.ref s.heap.objs.size) = operate [.ref s.heap.objs.size, .ref l] (getItem (.ref l) (.ref s.heap.objs.size))) (ht : ∀ r, letTemporaryGo value (.ref l) r = pure ()) :
    wpAny (model prog w) A (subscriptTail value slice (.ref l) (.ref s.heap.objs.size)) Q E { s with heap := s.heap.push { cls := .type "slice", data := .fields #[.int k u, .none, .none] } } := by
  refine kms_slice_lit F N hl (lo := some k) (hi := none) (by kmk_part) (by kmk_part) ?_ h hs ht ?_
  · have h1 : ¬ k < 0 := by have := c.lo; omega
    unfold kms_pick
    rw [← c.cut]
    simp only [kms_lo, kms_hi, if_neg h1]
    by_cases q : k.toNat ≤ vs.length
    · rw [Nat.min_eq_left q]; exact List.take_of_length_le (by simp)
    · rw [Nat.min_eq_right (by omega)]
      rw [List.drop_eq_nil_of_le (Nat.le_refl _), List.drop_eq_nil_of_le (by omega)]; simp
  · rw [List.size_toArray, sizeLine_eq]; have := c.len; omega
theorem my_ext {prog : Program} {w : World} {A : Around} {E : Value → Shared → Prop} {s : Shared} {h₀ : Heap} {L D b : Addr} {m : Str → Option Value} {news : List (Addr × Obj)} {us zs : List Value} {nn n2 : Nat} {g : Obj → List (Addr × Obj)} {Q : Value → Shared → Prop}
    (F : Fr h₀ L s.heap m) (N : News h₀ L s.heap news) (hb : (b, listOf zs.toArray n2) ∈ news) (U : UpdF D (listOf us.toArray nn) news g) (hu : us.length ≤ 1000) (hz : zs.length ≤ 1000)
    (h : ∀ h' n', Fr h₀ L h' m → News h₀ L h' (g (listOf (us ++ zs).toArray n')) → Q .none { s with heap := h' }) : wpAny (model prog w) A (call (.builtin "list.extend") [.ref D, .ref b]) Q E s := by
  obtain ⟨pre, post, e0, hg, x1, x2⟩ := U.split
  have nb := (N _ hb).1
  rw [e0] at N
  refine extend_in F N x1 x2 nb (fun h' n' F' N' => h h' n' F' ?_) (by rw [List.size_toArray, sizeLine_eq]; omega)
  rw [hg]
  exact N'
theorem my_app {prog : Program} {w : World} {A : Around} {E : Value → Shared → Prop} {s : Shared} {h₀ : Heap} {L D : Addr} {m : Str → Option Value} {news : List (Addr × Obj)} {us : List Value} {v : Value} {nn : Nat} {g : Obj → List (Addr × Obj)} {Q : Value → Shared → Prop}
    (F : Fr h₀ L s.heap m) (N : News h₀ L s.heap news) (U : UpdF D (listOf us.toArray nn) news g) (hu : us.length ≤ 1000)
    (h : ∀ h', Fr h₀ L h' m → News h₀ L h' (g (listOf (us ++ [v]).toArray (nn + 1))) → Q .none { s with heap := h' }) : wpAny (model prog w) A (call (.builtin "list.append") [.ref D, v]) Q E s := by
  obtain ⟨pre, post, e0, hg, x1, x2⟩ := U.split
  rw [e0] at N
  have z := N (D, listOf us.toArray nn) (List.mem_append_right _ (.head _))
  refine append_at (hsz := by show us.toArray.size ≤ sizeLine; rw [List.size_toArray, PySem.sizeLine_eq]; omega) z.1 fun h' hs hD => h h' (F.change hs z.2.1 z.2.2) ?_
  rw [hg]
  refine news_set N x1 x2 hs ?_
  rw [hD, List.push_toArray]
structure Parked (P : Prop) : Prop where
  out : P
theorem park {P : Prop} (h : Parked P) : P := h.out
theorem fly2 {M : Model} {A : Around} {E : Value → Shared → Prop} {s' : Shared} {h₀ : Heap} {L e : Addr} {m : Str → Option Value} {X : String} {news : List (Addr × Obj)} {fl : Value} {Q : Unit → Shared → Prop} (H : TT.HeldNA h₀ L s'.heap m e X news fl) (hc : NoCtx s'.heap e) (fr : Option Addr)
    (k : ∀ h', TT.HeldNA h₀ L h' m e X news (fr.elim .none fun f => rawInt f) → NoCtx h' e → Q () { s' with heap := h' }) : wpAny M A (setFlight (.ref e) fr) Q E s' := by
  obtain ⟨⟨F, ⟨ob, vs, tb, otb, tvs, he, hcls, hd, h1, htb, htd, h3, htbL, htbe, htb0⟩, hf⟩, N, hap⟩ := H
  have hsz : 3 < tvs.size := (Array.getElem?_eq_some_iff.mp h3).1
  have happ := hap ob vs tb he hd h1
  obtain ⟨oL, esL, epL, hL, hLd, hLk, hLf⟩ := F.ns
  generalize hv : (fr.elim Value.none fun f => rawInt f) = v at k ⊢
  have he' := (Heap.get?_update_ne s'.heap _ _ (Obj.mapFields (·.setIfInBounds 3 v)) htbe.symm).trans he
  have F' : Fr h₀ L (s'.heap.update tb (Obj.mapFields (·.setIfInBounds 3 v))) m :=
    ⟨⟨oL, esL, epL, (Heap.get?_update_ne _ _ _ _ htbL.symm).trans hL, hLd, hLk, hLf⟩,
     fun b o hb => (Heap.get?_update_ne _ _ _ _ (fun q => by rw [q, htb0] at hb; cases hb)).trans (F.keep b o hb), F.above⟩
  unfold setFlight
  rw [hv]
  refine wpAny_bind (wpAny_field he hd h1 ?_)
  rw [if_pos (show (Value.ref tb != Value.none) = true from by simp)]
  refine wpAny_setField htb htd hsz (k _ ⟨⟨F', ⟨ob, vs, tb, _, _, he', hcls, hd, h1,
    Heap.get?_update_self _ htb (Obj.isFreed_of_fields (Obj.data_mapFields htd _)), Obj.data_mapFields htd _, by simp [Array.getElem?_setIfInBounds, hsz], htbL, htbe, htb0⟩, hf⟩,
    fun p hp => ⟨(Heap.get?_update_ne _ _ _ _ (happ p hp)).trans (N p hp).1, (N p hp).2⟩, ?_⟩ ?_)
  · intro ob' vs' tb' e1 e2 e3 p hp
    rw [he'] at e1
    obtain rfl := Option.some.inj e1
    exact hap ob vs' tb' he e2 e3 p hp
  · obtain ⟨ob2, ws, c1, c2, c3⟩ := hc
    rw [he] at c1
    obtain rfl := Option.some.inj c1
    exact ⟨_, _, he', c2, c3⟩
theorem came_back {M : Model} {A : Around} {E : Value → Shared → Prop} {s' : Shared} {h₀ : Heap} {L e : Addr} {m : Str → Option Value} {X : String} {news : List (Addr × Obj)} {fl : Value} {env : Env} (H : TT.HeldNA h₀ L s'.heap m e X news fl) (hc : NoCtx s'.heap e) (hf : env.frame = some L)
    (k : ∀ h', TT.HeldN h₀ L h' m e X news → NoCtx h' e → E (.ref e) { s' with heap := h' }) : cameBackBy M A env E (.ref e) s' := by
  unfold cameBackBy
  obtain ⟨ob, vs, tb, otb, tvs, he, hcls, hd, h1, htb, htd, h3, htbL, htbe, htb0⟩ := H.held.there
  refine wpAny_bind (wpAny_field he hd h1 ?_)
  rw [if_neg (by simp)]
  refine fly2 H hc _ fun h' H' hc' => ?_
  rw [hf] at H'
  exact k h' H' hc'
theorem came_backG {M : Model} {A : Around} {E : Value → Shared → Prop} {s' : Shared} {h₀ : Heap} {L e : Addr} {m : Str → Option Value} {X : String} {news : List (Addr × Obj)} {fl : Value} {env : Env} (H : TT.HeldNA h₀ L s'.heap m e X news fl) (hf : env.frame = some L)
    (k : ∀ h', TT.HeldN h₀ L h' m e X news → E (.ref e) { s' with heap := h' }) : cameBackBy M A env E (.ref e) s' := by
  unfold cameBackBy
  obtain ⟨⟨F, ⟨ob, vs, tb, otb, tvs, he, hcls, hd, h1, htb, htd, h3, htbL, htbe, htb0⟩, hf0⟩, N, hap⟩ := H
  refine wpAny_bind (wpAny_field he hd h1 ?_)
  rw [if_neg (by simp)]
  have hsz : 3 < tvs.size := (Array.getElem?_eq_some_iff.mp h3).1
  have happ := hap ob vs tb he hd h1
  obtain ⟨oL, esL, epL, hL, hLd, hLk, hLf⟩ := F.ns
  have he' := (Heap.get?_update_ne s'.heap _ _ (Obj.mapFields (·.setIfInBounds 3 (rawInt L))) htbe.symm).trans he
  have F' : Fr h₀ L (s'.heap.update tb (Obj.mapFields (·.setIfInBounds 3 (rawInt L)))) m :=
    ⟨⟨oL, esL, epL, (Heap.get?_update_ne _ _ _ _ htbL.symm).trans hL, hLd, hLk, hLf⟩,
     fun b o hb => (Heap.get?_update_ne _ _ _ _ (fun q => by rw [q, htb0] at hb; cases hb)).trans (F.keep b o hb), F.above⟩
  show wpAny M A (setFlight (.ref e) env.frame) _ _ _
  unfold setFlight
  rw [hf]
  refine wpAny_bind (wpAny_field he hd h1 ?_)
  rw [if_pos (show (Value.ref tb != Value.none) = true from by simp)]
  refine wpAny_setField htb htd hsz (k _ ⟨⟨F', ⟨ob, vs, tb, _, _, he', hcls, hd, h1,
    Heap.get?_update_self _ htb (Obj.isFreed_of_fields (Obj.data_mapFields htd _)), Obj.data_mapFields htd _, by simp [Array.getElem?_setIfInBounds, hsz], htbL, htbe, htb0⟩, hf0⟩,
    fun p hp => ⟨(Heap.get?_update_ne _ _ _ _ (happ p hp)).trans (N p hp).1, (N p hp).2⟩, ?_⟩)
  intro ob' vs' tb' e1 e2 e3 p hp
  change (s'.heap.update tb (Obj.mapFields (·.setIfInBounds 3 (rawInt L)))).get? e = _ at e1
  rw [he'] at e1
  obtain rfl := Option.some.inj e1
  exact hap ob vs' tb' he e2 e3 p hp
theorem fly_made {h₀ h : Heap} {L e : Addr} {m : Str → Option Value} {X : String} {news : List (Addr × Obj)} {fl : Value} (H : TT.HeldNA h₀ L h m e X news fl) (hc : NoCtx h e) : ∃ ob, News h₀ L h ((e, ob) :: news) ∧ (∃ ws, ob.data = .fields ws ∧ ws[2]? = some Value.none) := by
  obtain ⟨ob, ws, c1, c2, c3⟩ := hc
  refine ⟨ob, fun p hp => ?_, ws, c2, c3⟩
  rcases List.mem_cons.mp hp with rfl | hp
  · refine ⟨c1, fun q => ?_, H.held.fresh⟩
    obtain ⟨oL, esL, epL, hL, hLd, _⟩ := H.held.fr.ns
    rw [← show e = L from q, c1] at hL
    cases hL
    rw [c2] at hLd; cases hLd
  · exact H.made p hp
theorem fly_off {h₀ h : Heap} {L e : Addr} {news : List (Addr × Obj)} {ob : Obj} (N : News h₀ L h ((e, ob) :: news)) (hw : ∃ ws, ob.data = .fields ws ∧ ws[2]? = some Value.none) (hn : ∀ p ∈ news, ∀ ws, p.2.data ≠ .fields ws) : ∀ p ∈ news, e ≠ p.1 := fun p hp q => by
  obtain ⟨ws, c2, _⟩ := hw
  have h1 := (N (e, ob) (.head _)).1
  have h2 := (N p (.tail _ hp)).1
  rw [show e = p.1 from q, h2] at h1
  have : p.2 = ob := Option.some.inj h1
  exact hn p hp ws (this ▸ c2)
theorem off3 {e a b c : Addr} {x y z : Obj} (h : ∀ p ∈ [(a, x), (b, y), (c, z)], e ≠ p.1) : @Ne Nat e a ∧ @Ne Nat e b ∧ @Ne Nat e c := ⟨h _ (.head _), h _ (.tail _ (.head _)), h _ (.tail _ (.tail _ (.head _)))⟩
theorem fly_ctx {h₀ h : Heap} {L e : Addr} {news : List (Addr × Obj)} {ob : Obj} (N : News h₀ L h news) (hm : (e, ob) ∈ news) (hw : ∃ ws, ob.data = .fields ws ∧ ws[2]? = some Value.none) : NoCtx h e := by
  obtain ⟨ws, c2, c3⟩ := hw
  exact ⟨ob, ws, (N _ hm).1, c2, c3⟩
theorem noted4 {prog : Program} {w : World} {A₀ : Around} {E : Value → Shared → Prop} {s' : Shared} {hb h : Heap} {L L' a e D1 D2 : Addr} {o1 o2 oL : Obj} {m : Str → Option Value} {name : Str} {scope : Scope} {cd : Value} {Q : Unit → Shared → Prop} {X : String} {env : Env} (hx : Heap.NewExc h s'.heap e X) (hfr : A₀.frames = some [env]) (Fs : TI.Frs [env] [(L, oL)]) (F : Fr hb L' h m) (N : News hb L' h [(D1, o1), (D2, o2), (L, oL)]) (h1 : D1 ≠ L) (h2 : D2 ≠ L)
    (k : ∀ h' sl, TI.Frs [env] [(L, { oL with slots := sl })] → TT.HeldN hb L' h' m e X [(D1, o1), (D2, o2), (L, { oL with slots := sl })] → NoCtx h' e → Q () { s' with heap := h' }) (hk : scope.kind = .function := by rfl) :
    wpAny (model prog w) (A₀.deeper (envOf name scope L' a cd)) (noteFrame (.ref e) (envOf name scope L' a cd)) Q E s' :=
  noted2 (new := [(D1, o1), (D2, o2)]) hfr Fs hx F N ⟨h1, h2, trivial⟩ k hk
theorem notedG4 {prog : Program} {w : World} {A₀ : Around} {E : Value → Shared → Prop} {s' : Shared} {hb h : Heap} {L L' a e D0 D1 D2 : Addr} {o0 o1 o2 oL : Obj} {m : Str → Option Value} {name : Str} {scope : Scope} {cd : Value} {Q : Unit → Shared → Prop} {X : String} {env : Env} (hx : NewG h s'.heap e X) (hfr : A₀.frames = some [env]) (Fs : TI.Frs [env] [(L, oL)]) (F : Fr hb L' h m) (N : News hb L' h [(D0, o0), (D1, o1), (D2, o2), (L, oL)]) (h0 : D0 ≠ L) (h1 : D1 ≠ L) (h2 : D2 ≠ L)
    (k : ∀ h' sl, TI.Frs [env] [(L, { oL with slots := sl })] → TT.HeldN hb L' h' m e X [(D0, o0), (D1, o1), (D2, o2), (L, { oL with slots := sl })] → Q () { s' with heap := h' }) (hk : scope.kind = .function := by rfl) :
    wpAny (model prog w) (A₀.deeper (envOf name scope L' a cd)) (noteFrame (.ref e) (envOf name scope L' a cd)) Q E s' :=
  notedG (new := [(D0, o0), (D1, o1), (D2, o2)]) hfr Fs hx F N ⟨h0, h1, h2, trivial⟩ k hk
structure SlS where
  i : Nat
  j : Nat
  ti : Tok
  tj : Tok
  us : List Value
  nn : Nat
noncomputable abbrev tup2 (a b : Value) : Obj := { cls := .type "tuple", data := .seq #[a, b] 0 }
noncomputable def SldRet (H : Heap) (L : Addr) (oL : Obj) (g : Array GenState) (d : Drawn) (os : OsState) (Q : Value → Shared → Prop) (E A : List Str) : Prop :=
  ∀ x D1 D2 h' tk' us n1 n2 sl, (∀ b o, H.get? b = some o → h'.get? b = some o) → h'.get? L = some { oL with slots := sl } → h'.get? x = some (tup2 (.ref D1) (.ref D2)) → h'.get? D1 = some (listOf us.toArray n1) → h'.get? D2 = some (listOf #[] n2) →
    (H.get? x = none ∧ x ≠ L) → (H.get? D1 = none ∧ D1 ≠ L) → (H.get? D2 = none ∧ D2 ≠ L) → StrsAre us (diffS E A) → Q (.ref x) ⟨h', g, d, tk', os⟩
theorem sld_fin {H : Heap} {L : Addr} {oL : Obj} {g : Array GenState} {d : Drawn} {os : OsState} {Q : Value → Shared → Prop} {E A : List Str} {L' x D1 D2 : Addr} {h' : Heap} {tk' : Nat} {us : List Value} {n1 n2 : Nat} {sl : Array (Option Value)} {m : Str → Option Value} {news : List (Addr × Obj)}
    (hret : SldRet H L oL g d os Q E A) (F : Fr H L' h' m) (N : News H L' h' news) (mx : (x, tup2 (.ref D1) (.ref D2)) ∈ news) (m1 : (D1, listOf us.toArray n1) ∈ news) (m2 : (D2, listOf #[] n2) ∈ news) (mL : (L, { oL with slots := sl }) ∈ news)
    (nx : x ≠ L) (h1 : D1 ≠ L) (h2 : D2 ≠ L) (hs : StrsAre us (diffS E A)) : Q (.ref x) ⟨h', g, d, tk', os⟩ :=
  hret x D1 D2 h' tk' us n1 n2 sl F.keep (N _ mL).1 (N _ mx).1 (N _ m1).1 (N _ m2).1 ⟨(N _ mx).2.2, nx⟩ ⟨(N _ m1).2.2, h1⟩ ⟨(N _ m2).2.2, h2⟩ hs
theorem c_sld :
 ∀ {w : World} {p : Program} {loose : List Str} {mean : ExcName → Option Value} {mg mb : Str → Option Value} {dp un : Nat} {gd : Option (List Code)} {env : Env} {H h : Heap} {L : Addr} {oL : Obj} {es : Array DictEntry} {ep : Nat} {g : Array GenState} {d : Drawn} {t : Nat} {os : OsState} {Q E : Value → Shared → Prop} {l1 l2 : Addr} {Es As : List Value} {E0 A0 : List Str} {n1 n2 : Nat}
 (X : (hd.heap_1 w.params).In H) (T : Top p loose mean mg mb H) (hL : h.get? L = some oL) (hLd : oL.data = .dict es ep) (hf : env.frame = some L) (hke : env.scope.kind = .function) (hH : H = hideAll h [L]) (hdp : dp + 8 < recursionLimit) (hu : un + 80 < cLine) (ie2 : Str.ofString "IndexError" ∉ loose) (ie3 : Str.ofString "IndexError" ∉ (recsOf p).map (·.name)) (ie4 : Str.ofString "IndexError" ∉ (litsOf p).map (·.1)) (ie5 : Str.ofString "IndexError" ∉ (clssOf p loose).map (·.name)) (hl : H.get? l1 = some (listOf Es.toArray n1)) (hl2 : H.get? l2 = some (listOf As.toArray n2)) (sE : StrsAre Es E0) (sA : StrsAre As A0) (hP : E0.Pairwise ltT) (hS : A0.Sublist E0) (hlE : E0.length ≤ 900) (hret : SldRet H L oL g d os Q E0 A0), wpAny (model PySem.Challenge.rw_of0013_01.prog w) (aTop dp un gd [env]) (call (.ref 97) [.ref l1, .ref l2]) Q E ⟨h, g, d, t, os⟩ := by
  iterate 2 refine @Mine.pad _ ?_
  iterate 2 k_extra "pkG"
  iterate 21 k_extra "pk9"
  rename_i w p loose mean mg mb dp un gd env H h L oL es ep g d t os Q E l1 l2 Es As E0 A0 n1 n2 X T hL hLd hf hke hH hdp hu ie2 ie3 ie4 ie5 hl hl2 sE sA hP hS hlE hret
  have i1 : H.IsList l1 Es.toArray := ⟨_, hl, rfl, _, rfl⟩
  have i2 : H.IsList l2 As.toArray := ⟨_, hl2, rfl, _, rfl⟩
  have hlA : A0.length ≤ 900 := Nat.le_trans hS.length_le hlE
  revert X; k_fill; intro X
  (refine wpAny_call ?_; k_dflt (refine' Mine.enterT ?j1 ?j2 ?j3 ?j4 ?j5 ?k3 ?k5 ?k6 ?k7 ?k8 ?k9 ?kB ?_ ?c2 ?c3 ?c4 ?c5; (case j1 => assumption); (case j2 => assumption); (case j3 => assumption); (case j4 => assumption); (case j5 => assumption); (case k3 => k_asm); (case k5 => k_asm); (case k6 => k_is); (case k7 => k_is); (case k8 => ktr_room); (case k9 => first | exact BindsTo.of_eq rfl | exact binds_K (by k_in) rfl (by k_is) rfl rfl rfl); (case c5 => decide); (case kB => exact locs rfl); (case c2 => exact rfl); (case c3 => exact rfl); (case c4 => exact rfl); k_whole; intro L9e h9e tiF' F9e N9e l9e; (try dsimp only); (try k_fold)))
  (repeat' (first | (k_unfold; (try dsimp only)) | (k_end; wrow_close) | ((with_reducible show wpAny _ _ (exec (PySem.Stmt.While _ _ _ _) _) _ _ _); refine Mine.park ?_) | walk1 | (dsimp only; walk1) | (leave1; try dsimp only)))
  refine ⟨?_⟩
  (with_reducible rename Fr _ _ _ _ => F9)
  (with_reducible rename News _ _ _ _ => N9)
  refine ksw_while (σ := SlS) (fun c => [(_, listOf #[] 0), (_, listOf c.us.toArray c.nn), (L, oL)]) (fun c => [(Str.ofString "i", .int (c.i : Int) c.ti), (Str.ofString "j", .int (c.j : Int) c.tj)]) (fun _ => True) [Str.ofString "e", Str.ofString "a"] (fun c => SlJ E0 A0 c.us c.i c.j) (fun c => E0.length - c.i) ⟨0, 0, ?ti, ?tj, [], 0⟩ F9 N9 trivial ?hk ?hp ?_
  case hk =>
    intro p hp
    simp only [List.mem_cons, List.not_mem_nil, or_false] at hp
    rcases hp with rfl | rfl
    · exact rfl
    · exact rfl
  case hp => exact SlJ.start hS
  clear F9 N9
  intro c u h tk _ J F N
  dsimp only [kstB] at F
  have SC := sl_case sE sA J hP hlE hlA
  clear hP hS sE sA J
  cases SC with
  | endE =>
    (repeat' (first | (k_unfold; (try dsimp only)) | (k_end; wrow_close) | ((with_reducible show wpAny _ _ (setFlight _ _) _ _ _); (with_reducible rename TT.HeldNA _ _ _ _ _ _ _ _ => ttN); (with_reducible rename Mine.NoCtx _ _ => ttC); refine Mine.fly2 ttN ttC none ?_; clear ttN ttC; (try (with_reducible rename HeldAt _ _ _ _ _ _ _ => ttH; clear ttH)); intro _ ttN ttC; have ttHH := TT.HeldNA.held ttN) | ((with_reducible show wpAny _ _ (noteFrame _ _) _ _ _); (with_reducible rename Heap.NewExc _ _ _ _ => tiX'); k_dflt (refine' Mine.noted4 tiX' rfl ?f ?F ?N ?ne1 ?ne2 ?_ ?hk; (case f => assumption); (case F => k_asm); (case N => k_asm); (case ne1 => k_ne); (case ne2 => k_ne); (case hk => rfl)); clear tiX'; intro h' sl' tiF' tiH' tiC'; have tiHH' := TT.HeldNA.held tiH') | ((with_reducible show wpAny _ _ (subscriptTail _ _ (Value.ref _) (Value.int _ _)) _ _ _); (with_unfolding_all refine' Mine.it_out ?k0 ?k1 ?k2 ?_ ?k6; (case k2 => assumption); (case k0 => rfl); (case k1 => is_list); (case k6 => with_unfolding_all rfl); k_whole); intro h' tk' e' x') | ((with_reducible show wpAny _ _ (subscriptTail _ (PySem.Expr.Slice _ none none _) (Value.ref _) (Value.ref _)) _ _ _); k_dflt (refine' Mine.my_cut ?F ?N ?l ?c ?_ ?s ?t; (case F => k_asm); (case N => k_asm); (case c => assumption); (case l => is_list); (case s => with_unfolding_all rfl); (case t => kmk_pure)); intro D' h' F' N' l1; (try k_lt l1); (try dsimp only); (try k_fold)) | ((with_reducible show wpAny _ _ (call (Value.builtin _) [Value.ref _, Value.ref _]) _ _ _); k_dflt (refine' Mine.my_ext (us := _) ?F ?N ?b ?U ?y ?z ?_; (case F => k_asm); (case N => k_asm); (case b => k_mem); (case U => k_updF); (case y => first | assumption | (simp; done)); (case z => first | assumption | (simp; done))); intro h' n' F' N'; (try dsimp only)) | ((with_reducible show wpAny _ _ (handleBy _ _ _) _ _ _); (with_reducible rename TT.HeldNA _ _ _ _ _ _ _ _ => hH'); k_dflt (refine' TT.clause_hitTN (x := Str.ofString "IndexError") hH' (by assumption) (by decide +kernel) (by assumption) (by assumption) (by assumption) (by assumption) ?_ ?h3 ?hv ?h1 ?h2 ?hn ?hk ?hxk ?hdb ?hE; (case h3 => decide +kernel); (case hv => decide +kernel); (case h1 => decide +kernel); (case h2 => decide +kernel); (case hn => decide); (case hk => rfl); (case hxk => rfl); (case hdb => decide); (case hE => passes_own)); intro h' F' N'; (try dsimp only)) | walk1 | (dsimp only; walk1) | (leave1; try dsimp only)))
    all_goals ((with_reducible rename Fr _ _ _ _ => F8); (with_reducible rename News _ _ _ _ => N8); exact sld_fin hret F8 N8 (.head _) (by k_mem) (by k_mem) (by k_mem) (by k_ne) (by k_ne) (by k_ne) (by assumption))
  | endA =>
    (repeat' (first | (k_unfold; (try dsimp only)) | (k_end; wrow_close) | ((with_reducible show wpAny _ _ (setFlight _ _) _ _ _); (with_reducible rename TT.HeldNA _ _ _ _ _ _ _ _ => ttN); (with_reducible rename Mine.NoCtx _ _ => ttC); refine Mine.fly2 ttN ttC none ?_; clear ttN ttC; (try (with_reducible rename HeldAt _ _ _ _ _ _ _ => ttH; clear ttH)); intro _ ttN ttC; have ttHH := TT.HeldNA.held ttN) | ((with_reducible show wpAny _ _ (noteFrame _ _) _ _ _); (with_reducible rename Heap.NewExc _ _ _ _ => tiX'); k_dflt (refine' Mine.noted4 tiX' rfl ?f ?F ?N ?ne1 ?ne2 ?_ ?hk; (case f => assumption); (case F => k_asm); (case N => k_asm); (case ne1 => k_ne); (case ne2 => k_ne); (case hk => rfl)); clear tiX'; intro h' sl' tiF' tiH' tiC'; have tiHH' := TT.HeldNA.held tiH') | ((with_reducible show wpAny _ _ (subscriptTail _ _ (Value.ref _) (Value.int _ _)) _ _ _); (with_unfolding_all refine' Mine.it_out ?k0 ?k1 ?k2 ?_ ?k6; (case k2 => assumption); (case k0 => rfl); (case k1 => is_list); (case k6 => with_unfolding_all rfl); k_whole); intro h' tk' e' x') | ((with_reducible show wpAny _ _ (subscriptTail _ _ (Value.ref _) (Value.int _ _)) _ _ _); (with_unfolding_all refine' Mine.it_is ?k1 ?k2 ?_ ?k6; (case k2 => assumption); (case k1 => is_list); (case k6 => with_unfolding_all rfl); k_whole)) | ((with_reducible show wpAny _ _ (subscriptTail _ (PySem.Expr.Slice _ none none _) (Value.ref _) (Value.ref _)) _ _ _); k_dflt (refine' Mine.my_cut ?F ?N ?l ?c ?_ ?s ?t; (case F => k_asm); (case N => k_asm); (case c => assumption); (case l => is_list); (case s => with_unfolding_all rfl); (case t => kmk_pure)); intro D' h' F' N' l1; (try k_lt l1); (try dsimp only); (try k_fold)) | ((with_reducible show wpAny _ _ (call (Value.builtin _) [Value.ref _, Value.ref _]) _ _ _); k_dflt (refine' Mine.my_ext (us := _) ?F ?N ?b ?U ?y ?z ?_; (case F => k_asm); (case N => k_asm); (case b => k_mem); (case U => k_updF); (case y => first | assumption | (simp; done)); (case z => first | assumption | (simp; done))); intro h' n' F' N'; (try dsimp only)) | ((with_reducible show wpAny _ _ (handleBy _ _ _) _ _ _); (with_reducible rename TT.HeldNA _ _ _ _ _ _ _ _ => hH'); k_dflt (refine' TT.clause_hitTN (x := Str.ofString "IndexError") hH' (by assumption) (by decide +kernel) (by assumption) (by assumption) (by assumption) (by assumption) ?_ ?h3 ?hv ?h1 ?h2 ?hn ?hk ?hxk ?hdb ?hE; (case h3 => decide +kernel); (case hv => decide +kernel); (case h1 => decide +kernel); (case h2 => decide +kernel); (case hn => decide); (case hk => rfl); (case hxk => rfl); (case hdb => decide); (case hE => passes_own)); intro h' F' N'; (try dsimp only)) | walk1 | (dsimp only; walk1) | (leave1; try dsimp only)))
    all_goals ((with_reducible rename Fr _ _ _ _ => F8); (with_reducible rename News _ _ _ _ => N8); exact sld_fin hret F8 N8 (.head _) (by k_mem) (by k_mem) (by k_mem) (by k_ne) (by k_ne) (by k_ne) (by assumption))
  | less =>
    (repeat' (first | (k_unfold; (try dsimp only)) | (k_end; wrow_close) | ((with_reducible show wpAny _ _ (subscriptTail _ _ (Value.ref _) (Value.int _ _)) _ _ _); (with_unfolding_all refine' Mine.it_is ?k1 ?k2 ?_ ?k6; (case k2 => assumption); (case k1 => is_list); (case k6 => with_unfolding_all rfl); k_whole)) | ((with_reducible show wpAny _ _ (call (Value.builtin _) [Value.ref _, _]) _ _ _); k_dflt (refine' Mine.my_app (us := _) ?F ?N ?U ?y ?_; (case F => k_asm); (case N => k_asm); (case U => k_updF); (case y => first | assumption | (simp; done))); intro h' F' N'; (try dsimp only)) | ((with_reducible show wpAny _ _ (exec (PySem.Stmt.While _ _ _ _) _) _ _ _); k_dflt (refine whl_start 100 ?_)) | walk1 | (dsimp only; walk1) | (leave1; try dsimp only)))
    refine WhlIf.no (by assumption) ?_
    k_steps
    (with_reducible rename Fr _ _ _ _ => F8); (with_reducible rename News _ _ _ _ => N8)
    refine ksw_end ⟨c.i + 1, c.j, ?ti2, ?tj2, ?us2, ?nn2⟩ F8 N8 ?h1 trivial ?h2 ?h3 ?h4 ?h5
    case h1 => intro p hp; exact hp
    case h2 =>
      intro p hp
      simp only [List.mem_cons, List.not_mem_nil, or_false] at hp
      rcases hp with rfl | rfl <;> exact rfl
    case h3 => ksw_same
    case h4 => assumption
    case h5 => (try dsimp only); omega
  | same =>
    (repeat' (first | (k_unfold; (try dsimp only)) | (k_end; wrow_close) | ((with_reducible show wpAny _ _ (subscriptTail _ _ (Value.ref _) (Value.int _ _)) _ _ _); (with_unfolding_all refine' Mine.it_is ?k1 ?k2 ?_ ?k6; (case k2 => assumption); (case k1 => is_list); (case k6 => with_unfolding_all rfl); k_whole)) | ((with_reducible show wpAny _ _ (exec (PySem.Stmt.While _ _ _ _) _) _ _ _); k_dflt (refine whl_start 100 ?_)) | walk1 | (dsimp only; walk1) | (leave1; try dsimp only)))
    refine WhlIf.no (by assumption) ?_
    (repeat' (first | (k_unfold; (try dsimp only)) | (k_end; wrow_close) | ((with_reducible show wpAny _ _ (subscriptTail _ _ (Value.ref _) (Value.int _ _)) _ _ _); (with_unfolding_all refine' Mine.it_is ?k1 ?k2 ?_ ?k6; (case k2 => assumption); (case k1 => is_list); (case k6 => with_unfolding_all rfl); k_whole)) | ((with_reducible show wpAny _ _ (exec (PySem.Stmt.While _ _ _ _) _) _ _ _); k_dflt (refine whl_start 100 ?_)) | walk1 | (dsimp only; walk1) | (leave1; try dsimp only)))
    refine WhlIf.no (by assumption) ?_
    k_steps
    (with_reducible rename Fr _ _ _ _ => F8); (with_reducible rename News _ _ _ _ => N8)
    refine ksw_end ⟨c.i + 1, c.j + 1, ?ti3, ?tj3, ?us3, ?nn3⟩ F8 N8 ?h1 trivial ?h2 ?h3 ?h4 ?h5
    case h1 => intro p hp; exact hp
    case h2 =>
      intro p hp
      simp only [List.mem_cons, List.not_mem_nil, or_false] at hp
      rcases hp with rfl | rfl <;> exact rfl
    case h3 => ksw_same
    case h4 => assumption
    case h5 => (try dsimp only); omega
  | sameA =>
    (repeat' (first | (k_unfold; (try dsimp only)) | (k_end; wrow_close) | ((with_reducible show wpAny _ _ (subscriptTail _ _ (Value.ref _) (Value.int _ _)) _ _ _); (with_unfolding_all refine' Mine.it_is ?k1 ?k2 ?_ ?k6; (case k2 => assumption); (case k1 => is_list); (case k6 => with_unfolding_all rfl); k_whole)) | ((with_reducible show wpAny _ _ (exec (PySem.Stmt.While _ _ _ _) _) _ _ _); k_dflt (refine whl_start 100 ?_)) | walk1 | (dsimp only; walk1) | (leave1; try dsimp only)))
    refine WhlIf.no (by assumption) ?_
    (repeat' (first | (k_unfold; (try dsimp only)) | (k_end; wrow_close) | ((with_reducible show wpAny _ _ (subscriptTail _ _ (Value.ref _) (Value.int _ _)) _ _ _); (with_unfolding_all refine' Mine.it_out ?k0 ?k1 ?k2 ?_ ?k6; (case k2 => assumption); (case k0 => rfl); (case k1 => is_list); (case k6 => with_unfolding_all rfl); k_whole); intro h' tk' e' x') | ((with_reducible show wpAny _ _ (exec (PySem.Stmt.While _ _ _ _) _) _ _ _); k_dflt (refine whl_start 100 ?_)) | walk1 | (dsimp only; walk1) | (leave1; try dsimp only)))
    (try (k_unfold; try dsimp only)); unfold notedBy
    (repeat' (first | (k_unfold; (try dsimp only)) | (k_end; wrow_close) | ((with_reducible show wpAny _ _ (noteFrame _ _) _ _ _); (with_reducible rename Heap.NewExc _ _ _ _ => tiX'); k_dflt (refine' Mine.noted4 tiX' rfl ?f ?F ?N ?ne1 ?ne2 ?_ ?hk; (case f => assumption); (case F => k_asm); (case N => k_asm); (case ne1 => k_ne); (case ne2 => k_ne); (case hk => rfl)); clear tiX'; intro h' sl' tiF' tiH' tiC'; have tiHH' := TT.HeldNA.held tiH') | walk1 | (dsimp only; walk1) | (leave1; try dsimp only)))
    (rename TT.HeldNA _ _ _ _ _ _ _ _ => ttN); (rename NoCtx _ _ => ttC); refine came_back ttN ttC rfl ?_; clear ttN ttC; (rename HeldAt _ _ _ _ _ _ _ => ttH; clear ttH); intro _ ttN ttC; have ttHH := TT.HeldNA.held ttN
    (try dsimp only)
    (repeat' (first | (k_unfold; (try dsimp only)) | (k_end; wrow_close) | ((with_reducible show wpAny _ _ (setFlight _ _) _ _ _); (with_reducible rename TT.HeldNA _ _ _ _ _ _ _ _ => ttN); (with_reducible rename Mine.NoCtx _ _ => ttC); refine Mine.fly2 ttN ttC none ?_; clear ttN ttC; (try (with_reducible rename HeldAt _ _ _ _ _ _ _ => ttH; clear ttH)); intro _ ttN ttC; have ttHH := TT.HeldNA.held ttN) | ((with_reducible show wpAny _ _ (subscriptTail _ (PySem.Expr.Slice _ none none _) (Value.ref _) (Value.ref _)) _ _ _); k_dflt (refine' Mine.my_cut ?F ?N ?l ?c ?_ ?s ?t; (case F => k_asm); (case N => k_asm); (case c => assumption); (case l => is_list); (case s => with_unfolding_all rfl); (case t => kmk_pure)); intro D' h' F' N' l1; (try k_lt l1); (try dsimp only); (try k_fold)) | ((with_reducible show wpAny _ _ (call (Value.builtin _) [Value.ref _, Value.ref _]) _ _ _); k_dflt (refine' Mine.my_ext (us := _) ?F ?N ?b ?U ?y ?z ?_; (case F => k_asm); (case N => k_asm); (case b => k_mem); (case U => k_updF); (case y => first | assumption | (simp; done)); (case z => first | assumption | (simp; done))); intro h' n' F' N'; (try dsimp only)) | ((with_reducible show wpAny _ _ (handleBy _ _ _) _ _ _); (with_reducible rename TT.HeldNA _ _ _ _ _ _ _ _ => hH'); k_dflt (refine' TT.clause_hitTN (x := Str.ofString "IndexError") hH' (by assumption) (by decide +kernel) (by assumption) (by assumption) (by assumption) (by assumption) ?_ ?h3 ?hv ?h1 ?h2 ?hn ?hk ?hxk ?hdb ?hE; (case h3 => decide +kernel); (case hv => decide +kernel); (case h1 => decide +kernel); (case h2 => decide +kernel); (case hn => decide); (case hk => rfl); (case hxk => rfl); (case hdb => decide); (case hE => passes_own)); intro h' F' N'; (try dsimp only)) | walk1 | (dsimp only; walk1) | (leave1; try dsimp only)))
    all_goals ((with_reducible rename Fr _ _ _ _ => F8); (with_reducible rename News _ _ _ _ => N8); exact sld_fin hret F8 N8 (.head _) (by k_mem) (by k_mem) (by k_mem) (by k_ne) (by k_ne) (by k_ne) (by assumption))
  | sameE =>
    (repeat' (first | (k_unfold; (try dsimp only)) | (k_end; wrow_close) | ((with_reducible show wpAny _ _ (setFlight _ _) _ _ _); (with_reducible rename TT.HeldNA _ _ _ _ _ _ _ _ => ttN); (with_reducible rename Mine.NoCtx _ _ => ttC); refine Mine.fly2 ttN ttC none ?_; clear ttN ttC; (try (with_reducible rename HeldAt _ _ _ _ _ _ _ => ttH; clear ttH)); intro _ ttN ttC; have ttHH := TT.HeldNA.held ttN) | ((with_reducible show wpAny _ _ (noteFrame _ _) _ _ _); (with_reducible rename Heap.NewExc _ _ _ _ => tiX'); k_dflt (refine' Mine.noted4 tiX' rfl ?f ?F ?N ?ne1 ?ne2 ?_ ?hk; (case f => assumption); (case F => k_asm); (case N => k_asm); (case ne1 => k_ne); (case ne2 => k_ne); (case hk => rfl)); clear tiX'; intro h' sl' tiF' tiH' tiC'; have tiHH' := TT.HeldNA.held tiH') | ((with_reducible show wpAny _ _ (subscriptTail _ _ (Value.ref _) (Value.int _ _)) _ _ _); (with_unfolding_all refine' Mine.it_out ?k0 ?k1 ?k2 ?_ ?k6; (case k2 => assumption); (case k0 => rfl); (case k1 => is_list); (case k6 => with_unfolding_all rfl); k_whole); intro h' tk' e' x') | ((with_reducible show wpAny _ _ (subscriptTail _ _ (Value.ref _) (Value.int _ _)) _ _ _); (with_unfolding_all refine' Mine.it_is ?k1 ?k2 ?_ ?k6; (case k2 => assumption); (case k1 => is_list); (case k6 => with_unfolding_all rfl); k_whole)) | ((with_reducible show wpAny _ _ (exec (PySem.Stmt.While _ _ _ _) _) _ _ _); k_dflt (refine whl_start 100 ?_)) | walk1 | (dsimp only; walk1) | (leave1; try dsimp only)))
    (rename TT.HeldNA _ _ _ _ _ _ _ _ => hH); (rename NoCtx _ _ => hC)
    have F9 := hH.held.fr
    obtain ⟨ob, N9, hw⟩ := fly_made hH hC
    have off := fly_off N9 hw (by intro p hp ws q; simp only [List.mem_cons, List.not_mem_nil, or_false] at hp; rcases hp with rfl | rfl | rfl; cases q; cases q; rw [hLd] at q; cases q)
    obtain ⟨oo1, oo2, oo3⟩ := off3 off
    clear off
    clear hH hC
    (repeat' (first | (k_unfold; (try dsimp only)) | (k_end; wrow_close) | ((with_reducible show wpAny _ _ (exec (PySem.Stmt.While _ _ _ _) _) _ _ _); k_dflt (refine whl_start 100 ?_)) | walk1 | (dsimp only; walk1) | (leave1; try dsimp only)))
    (with_reducible rename Fr _ _ _ _ => F8); (with_reducible rename News _ _ _ _ => N8)
    (rename ItOut As _ => io)
    refine item_outC rfl (fly_ctx N8 (.head _) hw) (by is_list) (Int.le_trans (Int.natCast_nonneg _) io.lo) (by rw [List.size_toArray]; exact io.lo) io.hi ?_ (by with_unfolding_all rfl)
    intro h9 tk9 e9 G9
    (try (k_unfold; try dsimp only)); unfold notedBy
    refine notedG4 (A₀ := (aTop dp un gd [env]).mark (some (Value.ref _))) G9 rfl (by assumption) F8 N8 (by k_ne) (by k_ne) (by k_ne) ?_ rfl
    intro h10 sl10 Fs10 H10
    refine came_backG H10 rfl ?_
    clear H10
    intro h11 H11
    have H12 := TT.HeldNA.held H11
    (try dsimp only)
    (repeat' (first | (k_unfold; (try dsimp only)) | (k_end; wrow_close) | ((with_reducible show wpAny _ _ (subscriptTail _ (PySem.Expr.Slice _ none none _) (Value.ref _) (Value.ref _)) _ _ _); k_dflt (refine' Mine.my_cut ?F ?N ?l ?c ?_ ?s ?t; (case F => k_asm); (case N => k_asm); (case c => assumption); (case l => is_list); (case s => with_unfolding_all rfl); (case t => kmk_pure)); intro D' h' F' N' l1; (try k_lt l1); (try dsimp only); (try k_fold)) | ((with_reducible show wpAny _ _ (call (Value.builtin _) [Value.ref _, Value.ref _]) _ _ _); k_dflt (refine' Mine.my_ext (us := _) ?F ?N ?b ?U ?y ?z ?_; (case F => k_asm); (case N => k_asm); (case b => k_mem); (case U => k_updF); (case y => first | assumption | (simp; done)); (case z => first | assumption | (simp; done))); intro h' n' F' N'; (try dsimp only)) | ((with_reducible show wpAny _ _ (handleBy _ _ _) _ _ _); (with_reducible rename TT.HeldNA _ _ _ _ _ _ _ _ => hH'); k_dflt (refine' TT.clause_hitTN (x := Str.ofString "IndexError") hH' (by assumption) (by decide +kernel) (by assumption) (by assumption) (by assumption) (by assumption) ?_ ?h3 ?hv ?h1 ?h2 ?hn ?hk ?hxk ?hdb ?hE; (case h3 => decide +kernel); (case hv => decide +kernel); (case h1 => decide +kernel); (case h2 => decide +kernel); (case hn => decide); (case hk => rfl); (case hxk => rfl); (case hdb => decide); (case hE => passes_own)); intro h' F' N'; (try dsimp only)) | walk1 | (dsimp only; walk1) | (leave1; try dsimp only)))
    all_goals ((with_reducible rename Fr _ _ _ _ => F8); (with_reducible rename News _ _ _ _ => N8); exact sld_fin hret F8 N8 (.head _) (by k_mem) (by k_mem) (by k_mem) (by k_ne) (by k_ne) (by k_ne) (by assumption))
end Mine
end
open PySem PySem.W PyProof.Rows in
example : Mine.RS := by intro M A Q E s h; w_top off; first | walk1 | skip; all_goals first | exact h | exact wpAny_pure h
section
open PySem PySem.W PyProof.Rows PySem.W.X
namespace Mine
theorem with_eq {α : Type} {a b : α} {P : Prop} (e : a = b) (x : a = b → P) : P := x e
noncomputable def stopC : Code → Bool
  | .call (.ref _) _ => true
  | .builtin id _ => id == "proto.getattr_hooked"
  | _ => false
theorem q_callN {α : Type} {prog : Program} {w : World} {A : Around} {c : Code} {Q : α → Shared → Prop} {E : Value → Shared → Prop} {s : Shared} {n m n' m' : Nat} {c₀ c' : Code} {hd : Option Value} {gd : Bool} {l : List Value} {k : Result → Sem α} (hnb : hd ≠ some byPass) (ec : c₀ = c') (_hs : stopC c' = false) (RC : RoomC A c n m) (hw : Nat.ble c'.weight n = true) (hu : Nat.ble c'.cUnits m = true) (hn : n - c'.weight = n') (hm : m - c'.cUnits = m')
    (x : ∀ A₂ c₂ R E₂, KR α prog w A c Q E k R → Room A₂ n m → RoomC A₂ c₂ n' m' → wpOwn (model prog w) A₂ c₂ (denX c') (postC prog w A₂ R) E₂ s) : wpOwn (model prog w) A c (.call c₀ hd gd l k) Q E s :=
  q_call hnb ec RC hw hu hn hm x
theorem q_startE {α : Type} {prog : Program} {w : World} {A : Around} {Q : α → Shared → Prop} {E : Value → Shared → Prop} {s : Shared} {n m n' m' : Nat} {c₀ c' : Code} {gd : Bool} {l : List Value} {k : Result → Sem α} (ec : c₀ = c') (r : Room A n m) (hw : Nat.ble c'.weight n = true) (hu : Nat.ble c'.cUnits m = true) (hn : n - c'.weight = n') (hm : m - c'.cUnits = m')
    (x : ∀ R E₂, KA α prog w A Q E k R → RoomC (A.mark none) c' n' m' → wpOwn (model prog w) (A.mark none) c' (denX c') (postC prog w (A.mark none) R) E₂ s) : wpAny (model prog w) A (.call c₀ none gd l k) Q E s := by
  subst ec
  have r' : Room (A.mark none) n m := ⟨r.d, r.u⟩
  exact y_start _ _ _ _ _ _ _ _ _ _ _ _ (by intro hq; cases hq) (q_code (x _ _ ⟨fun _ _ h => h⟩ (r'.under hw hu hn hm)))
end Mine
end
section
open PySem PySem.W PyProof.Rows PySem.W.X
set_option maxHeartbeats 0
local macro_rules | `(tactic| k_extra "q call") => `(tactic| ((with_reducible show wpOwn _ _ _ (Sem.call _ _ _ _ _) _ _ _); refine Mine.q_callN (by intro hq; cases hq) (by k_extra "q code") rfl (by assumption) (by k_extra "q kern") (by k_extra "q kern") (by k_extra "q code") (by k_extra "q code") ?_; intro A' c' R' E' K' Z' Y'))
local macro_rules | `(tactic| k_extra "q again") => `(tactic| (refine Mine.q_again rfl (by k_extra "q code") (by assumption) (by k_extra "q kern") (by k_extra "q kern") (by k_extra "q kern") (by k_extra "q code") (by k_extra "q code") ?_; intro c' E' Y'))
local macro_rules | `(tactic| k_extra "q step") => `(tactic| first | k_extra "q one" | k_extra "q split" | ((with_reducible (conv => (arg 4; whnf))); first | k_extra "q one" | k_extra "q split") | ((conv => (arg 4; whnf)); first | k_extra "q one" | (with_reducible refine Mine.q_bind ?_; intro Q' K') | (with_reducible refine Mine.q_onRaise ?_; intro E') | with_reducible refine Mine.q_keep ?_ | (with_reducible refine Mine.q_try ?_; intro E') | ((with_reducible show wpOwn _ _ _ (List.anyM _ _) _ _ _); rw [Mine.filtK]) | ((with_reducible show wpOwn _ _ _ (List.forIn'.loop _ _ _ _ _) _ _ _); refine Mine.q_loop Mine.dropK ?_) | k_extra "q look" | k_extra "q ne" | k_extra "q bool" | k_extra "q twin" | ((conv => (arg 4; simp only [List.any_toArray]; whnf)); first | k_extra "q one" | (with_reducible refine Mine.q_bind ?_; intro Q' K') | k_extra "q bool")))
namespace Mine
theorem IsK.keeps {w : World} {h h' : Heap} {t : Nat} {Kc ns bt sl fi fl fg fe fle fge st md ci cl cell q1 q2 q3 q4 q5 q6 r1 r2 r3 r4 r5 : Addr} (I : IsK w h t Kc ns bt sl fi fl fg fe fle fge st md ci cl cell q1 q2 q3 q4 q5 q6 r1 r2 r3 r4 r5) (k : ∀ b o, h.get? b = some o → h'.get? b = some o) : IsK w h' t Kc ns bt sl fi fl fg fe fle fge st md ci cl cell q1 q2 q3 q4 q5 q6 r1 r2 r3 r4 r5 :=
  ⟨k _ _ I.hK, k _ _ I.hns, k _ _ I.hmd, k _ _ I.hfl, k _ _ I.hcl, k _ _ I.hfi, k _ _ I.hci, k _ _ I.hcell⟩
theorem In23.keeps {K : Frag} {h h' : Heap} (X : In23 K h) (k : ∀ b o, h.get? b = some o → h'.get? b = some o) : In23 K h' := ⟨fun a o q e => k _ _ (X.at' a o q e), X.s1.elim fun o e => ⟨o, k _ _ e⟩⟩
theorem c_get :
 ∀ {w : World} {A : Around} {c : Code} {h : Heap} {g : Array GenState} {d : Drawn} {t tk tt : Nat} {os : OsState} {R : Result → Shared → Prop} {E : Value → Shared → Prop} {Kc ns bt sl fi fl fg fe fle fge st md ci cl cell q1 q2 q3 q4 q5 q6 r1 r2 r3 r4 r5 k1 d1 : Addr} {n1 : Str} {u1 : Tok}
 (I : IsK w h t Kc ns bt sl fi fl fg fe fle fge st md ci cl cell q1 q2 q3 q4 q5 q6 r1 r2 r3 r4 r5) (X : In23 (hd.heap_1 w.params) h) (Z : Room A 400 2800) (Y : RoomC A c 400 2799) (hk1 : h.get? k1 = some (instK Kc d1 n1 u1)) (hret : ∀ tk', R (.ok (.ret (.str n1 u1))) ⟨h, g, d, tk', os⟩), wpOwn (model PySem.Challenge.rw_of0013_01.prog w) A c (denX (.builtin "proto.getattr_hooked" ⟨[.ref k1, .str ⟨#[111, 98, 106]⟩ tt], []⟩)) (postC PySem.Challenge.rw_of0013_01.prog w A R) E ⟨h, g, d, tk, os⟩ := by
  iterate 6 refine @Mine.pad _ ?_
  iterate 3 k_extra "pkG"
  iterate 6 k_extra "pk9"
  rename_i w A c h g d t tk tt os R E Kc ns bt sl fi fl fg fe fle fge st md ci cl cell q1 q2 q3 q4 q5 q6 r1 r2 r3 r4 r5 k1 d1 n1 u1 I X Z Y hk1 hret
  revert w A c h g d t tk tt os R E Kc ns bt sl fi fl fg fe fle fge st md ci cl cell q1 q2 q3 q4 q5 q6 r1 r2 r3 r4 r5 k1 d1 n1 u1 I X Z Y hk1 hret
  iterate 48 (k_extra "pk9")
  rename_i w A c h g d t tk tt os R E Kc ns bt sl fi fl fg fe fle fge st md ci cl cell q1 q2 q3 q4 q5 q6 r1 r2 r3 r4 r5 k1 d1 n1 u1 I X Z Y hk1 hret
  have hK := I.hK
  have hns := I.hns
  have hmd := I.hmd
  simp only [nsK, clsK, mdK, kE] at hK hns hmd
  simp only [st0, st1, st2, st3, st4, st5, st6, st7, st8, st9, st10, st11, st12, st13, st14, st15, st16, st17, st18, st19, st20, st21, st22, st23, st24, st25, st26, st27, st28, st29, st30, st31, st32, st33, st34, st35, st36, st37, st38, st39, st40, st41, st42, st43, st44, st45, st46, st47, st48, st49, st50, st51, st52, st53, st54, st55, st56, st57, st58, st59, st60, st61, st62, st63, st64, st65, st66, st67, st68, st69, st70, st71, st72, st73, st74, st75, st76, st77, st78, st79, st80, st81, st82, st83, st84, st85, st86, st87, st88, st89, st90, st91, st92, st93, st94, st95, st96, st97, st98, st99, st100, st101, st102, st103, st104, st105, st106, st107, st108, st109, st110, st111, st112, st113, st114, st115, st116, st117, st118, st119, st120, st121, st122, st123, st124, st125, st126, st127, st128, st129, st130, st131, st132, st133, st134, st135, st136, st137, st138, st139, st140, st141, st142, st143, st144, st145, st146, st147, st148, st149, st150, st151, st152, st153, st154, st155, st156, st157, st158, st159, st160, st161, st162, st163, st164, st165, st166, st167, st168, st169, st170, st171, st172, st173, st174, st175, st176, st177, st178, st179, st180, st181, st182, st183, st184, st185, st186, st187, st188, st189, st190, st191, st192, st193, st194, st195, st196, st197, st198, st199, st200, st201, st202, st203, st204] at hK hns hmd
  have D0 := Mem2.start h
  repeat k_extra "q step"
  exact y_pure _ _ _ _ _ _ _ _ _ (hret _)
theorem q_callG {α : Type} {prog : Program} {w : World} {A : Around} {c : Code} {Q : α → Shared → Prop} {E : Value → Shared → Prop} {n m : Nat} {c₀ : Code} {tk : Tok} {k1 : Addr} {k : Result → Sem α} {s : Shared} {l : List Value}
    (ec : c₀ = .builtin "proto.getattr_hooked" ⟨[.ref k1, .str ⟨#[111, 98, 106]⟩ tk], []⟩) (RC : RoomC A c n m) (hn : Nat.ble 400 n = true) (hm : Nat.ble 2800 m = true)
    (x : ∀ A₂ c₂ R E₂, KR α prog w A c Q E k R → Room A₂ 400 2800 → RoomC A₂ c₂ 400 2799 → wpOwn (model prog w) A₂ c₂ (denX (.builtin "proto.getattr_hooked" ⟨[.ref k1, .str ⟨#[111, 98, 106]⟩ tk], []⟩)) (postC prog w A₂ R) E₂ s) : wpOwn (model prog w) A c (.call c₀ none false l k) Q E s :=
  q_call (by intro hq; cases hq) ec ⟨RC.r.less hn hm⟩ (by first | exact rfl | kernel_rfl) (by first | exact rfl | kernel_rfl) (by first | exact rfl | kernel_rfl) (by first | exact rfl | kernel_rfl) x
theorem Mem2.keepAll {h h' : Heap} {news : List (Addr × Obj)} (D : Mem2 h h' [] news) : ∀ b o, h.get? b = some o → h'.get? b = some o := fun b o e => D.m.keep b o e (by simp [away])
structure CEq (c c' : Code) : Prop where
  e : c = c'
theorem q_againE {prog : Program} {w : World} {A A' : Around} {c c' : Code} {s : Shared} {n m n' m' : Nat} {c₀ : Code} {v : Fin} {R : Result → Shared → Prop} {E : Value → Shared → Prop} (e : v = .again c₀) (ec : c₀ = c') (r : Room A' n m) (hq : c'.quiet = true) (hw : Nat.ble c'.weight n = true) (hu : Nat.ble c'.cUnits m = true) (hn : n - c'.weight = n') (hm : m - c'.cUnits = m')
    (x : ∀ c₂ E₂, RoomC A' c₂ n' m' → CEq c₂ c' → wpOwn (model prog w) A' c₂ (denX c') (postC prog w A' R) E₂ s) : wpOwn (model prog w) A c (.pure v) (postC prog w A' R) E s := by
  subst e ec; exact y_pure _ _ _ _ _ _ _ _ _ ⟨hq, q_code (x _ _ (r.under hw hu hn hm) ⟨rfl⟩)⟩
end Mine
end
open PySem PySem.W PyProof.Rows in
example : Mine.RS := by intro M A Q E s h; w_top off; first | walk1 | skip; all_goals first | exact h | exact wpAny_pure h
section
open PySem PySem.W PyProof.Rows PySem.W.X
namespace Mine
theorem around_eq {A : Around} {fs : List Env} (h1 : A.handled = none) (h2 : A.frames = some fs) : A = aTop A.depth A.units A.guards fs := by
  obtain ⟨hd, d, fr, gs, u⟩ := A
  dsimp only at h1 h2
  subst h1 h2; rfl
theorem below_in {A₀ : Around} {base h h' : Heap} {outer : List Env} (B : Below A₀ base outer h) (keep : ∀ b o, h.get? b = some o → h'.get? b = some o) {env : Env} {L : Addr} {o : Obj} (hf : env.frame = some L) (hk : env.scope.kind = .function) (h0 : h.get? L = none) (hL : h'.get? L = some o) (hd : ∀ vs, o.data ≠ .fields vs) : Below (aTop 0 1 none (env :: outer)) base (env :: outer) h' := by
  refine ⟨rfl, fun b o e => keep b o (B.stays b o e), by rw [hk]; decide, ⟨L, o, hf, ?_, hL, hd⟩, ?_⟩
  · cases q : base.get? L with
    | none => rfl
    | some o' => rw [B.stays L o' q] at h0; cases h0
  · exact Heap.FunFrames.of_keeps (fun b o e hn => ⟨o, keep b o e, rfl⟩) B.frames
theorem Mem2.grow1 {h h' h'' : Heap} {a : Addr} {o : Obj} (D : Mem2 h h' [] [(a, o)]) (k : ∀ b o, h'.get? b = some o → h''.get? b = some o) : Mem2 h h'' [] [(a, o)] := by
  have ha := (D.m.nw _ (.head _)).1
  refine ⟨⟨fun b o e q => k b o (D.m.keep b o e q), fun p hp => (nomatch hp), D.m.cd, fun p hp => ?_, D.m.ord⟩, D.lo, ?_⟩
  · obtain rfl := List.mem_singleton.mp hp
    exact ⟨k _ _ ha, (D.m.nw _ (.head _)).2⟩
  · have h1 := D.lo (a, o) (.head _)
    have h2 := Heap.lt_size (k _ _ ha)
    exact Nat.le_of_lt (Nat.lt_of_le_of_lt h1 h2)
theorem q_inside {α : Type} {w : World} {A A₀ : Around} {c c₀ : Code} {Q : α → Shared → Prop} {E : Value → Shared → Prop} {h h' : Heap} {g : Array GenState} {d : Drawn} {tk : Nat} {os : OsState} {n m : Nat} {l : List Value} {k : Result → Sem α} {b : List Stmt} {env : Env} {base : Heap} {outer : List Env} {a : Addr} {o : Obj} {n1 n2 : Str} {u1 u2 : Tok}
    {p : Program} {loose : List Str} {mean : ExcName → Option Value} {mg mb : Str → Option Value}
    (hc : CEq c (.func b env)) (B : Below A₀ base outer h) (hfr : A.frames = some outer) (hh : A.handled = none) (hfL : env.frame = some a) (hk : env.scope.kind = .function)
    (D : Mem2 h h' [] [(a, o)]) (hd' : ∀ vs, o.data ≠ .fields vs) (X : (hd.heap_1 w.params).In h) (T : Top p loose mean mg mb h) (RC : RoomC (A.mark none) c n m) (hn : Nat.ble 24 n = true) (hm : Nat.ble 240 m = true)
    (hl1 : n1.length ≤ 300) (hl2 : n2.length ≤ 300) (hs1 : n1 ≠ Str.ofString "<string>") (hs2 : n2 ≠ Str.ofString "<string>")
    (ec : c₀ = .call (.ref 128) ⟨[.str n1 u1, .str n2 u2], []⟩)
    (x : ∀ t' h'' tk', Mem2 h h'' [] [(a, o)] → wpOwn (model PySem.Challenge.rw_of0013_01.prog w) (A.mark none) c (k (.ok (.ret (.int (inF n1 n2) t')))) Q E ⟨h'', g, d, tk', os⟩) :
    wpOwn (model PySem.Challenge.rw_of0013_01.prog w) (A.mark none) c (.call c₀ none false l k) Q E ⟨h', g, d, tk, os⟩ := by
  subst ec
  obtain rfl := hc.e
  refine y_call _ _ _ _ _ _ _ _ _ _ _ _ _ (by intro hq; cases hq) ?_
  have e : ((A.mark none).under (Code.func b env)).mark none = aTop (((A.mark none).under (Code.func b env)).mark none).depth (((A.mark none).under (Code.func b env)).mark none).units (((A.mark none).under (Code.func b env)).mark none).guards (env :: outer) := by
    refine around_eq ?_ ?_
    · obtain ⟨hd, dd, fr, gs, u⟩ := A
      dsimp only at hh
      subst hh; rfl
    · obtain ⟨hd, dd, fr, gs, u⟩ := A
      dsimp only at hfr
      subst hfr; rfl
  rw [e]
  have keep := D.keepAll
  have ha := D.m.nw _ (.head _)
  refine c_insideC (below_in B keep hfL hk ha.2 ha.1 hd') (X.keeps keep) (T.keeps keep) ?_ ?_ hl1 hl2 hs1 hs2 fun t' h'' tk' kk => ?_
  · have := RC.r.d
    have := Nat.le_of_ble_eq_true hn
    show ((A.mark none).under (Code.func b env)).depth + 24 < _
    omega
  · have := RC.r.u
    have := Nat.le_of_ble_eq_true hm
    show ((A.mark none).under (Code.func b env)).units + 240 < _
    omega
  · exact x t' h'' tk' (D.grow1 kk)
end Mine
end
section
open PySem PySem.W PyProof.Rows PySem.W.X
set_option maxHeartbeats 0
local macro_rules | `(tactic| k_extra "q call") => `(tactic| first | ((with_reducible show wpOwn _ _ _ (Sem.call _ _ _ _ _) _ _ _); rename Mine.Mem2 _ _ _ _ => D9; refine Mine.q_callG (by exact rfl) (by assumption) rfl rfl ?_; intro A' c' R' E' K' Z' Y'; refine Mine.c_get (Mine.IsK.keeps (by assumption) (Mine.Mem2.keepAll D9)) (Mine.In23.keeps (by assumption) (Mine.Mem2.keepAll D9)) Z' Y' (Mine.Mem2.keepAll D9 _ _ (by assumption)) ?_; intro tk'; refine Mine.KR.h K' _ _ ?_; clear K' Z' Y'; clear A' c' R' E') | ((with_reducible show wpOwn _ _ _ (Sem.call _ _ _ _ _) _ _ _); refine Mine.q_callN (by intro hq; cases hq) (by k_extra "q code") rfl (by assumption) (by k_extra "q kern") (by k_extra "q kern") (by k_extra "q code") (by k_extra "q code") ?_; intro A' c' R' E' K' Z' Y'))
local macro_rules | `(tactic| k_extra "q again") => `(tactic| (refine Mine.q_againE rfl (by k_extra "q code") (by assumption) (by k_extra "q kern") (by k_extra "q kern") (by k_extra "q kern") (by k_extra "q code") (by k_extra "q code") ?_; intro c' E' Y' W'))
local macro_rules | `(tactic| k_extra "q step") => `(tactic| first | k_extra "q one" | k_extra "q split" | ((with_reducible (conv => (arg 4; whnf))); first | k_extra "q one" | k_extra "q split") | ((conv => (arg 4; whnf)); first | k_extra "q one" | (with_reducible refine Mine.q_bind ?_; intro Q' K') | (with_reducible refine Mine.q_onRaise ?_; intro E') | with_reducible refine Mine.q_keep ?_ | (with_reducible refine Mine.q_try ?_; intro E') | ((with_reducible show wpOwn _ _ _ (List.anyM _ _) _ _ _); rw [Mine.filtK]) | ((with_reducible show wpOwn _ _ _ (List.forIn'.loop _ _ _ _ _) _ _ _); refine Mine.q_loop Mine.dropK ?_) | k_extra "q look" | k_extra "q ne" | k_extra "q bool" | k_extra "q twin" | ((conv => (arg 4; simp only [List.any_toArray]; whnf)); first | k_extra "q one" | (with_reducible refine Mine.q_bind ?_; intro Q' K') | k_extra "q bool")))
local macro_rules | `(tactic| intro $x:ident) => `(tactic| first | (refine @Mine.pick_allM _ (by with_reducible assumption) (by k_extra "ne9") _ ?_; generalize @Mine.pick _ _ _ = $x) | intros $x)
local macro_rules | `(tactic| intro $x:term $y:term $ys:term*) => `(tactic| (intro $x:term; intro $y:term $ys:term*))
local macro_rules | `(tactic| k_fold) => `(tactic| skip)
namespace Mine
theorem k_lt {w : World} {A : Around} {h : Heap} {g : Array GenState} {d : Drawn} {t tk : Nat} {os : OsState} {Q E : Value → Shared → Prop} {Kc ns bt sl fi fl fg fe fle fge st md ci cl cell q1 q2 q3 q4 q5 q6 r1 r2 r3 r4 r5 k1 k2 d1 d2 : Addr} {n1 n2 : Str} {u1 u2 : Tok}
   (I : IsK w h t Kc ns bt sl fi fl fg fe fle fge st md ci cl cell q1 q2 q3 q4 q5 q6 r1 r2 r3 r4 r5) (X : In23 (hd.heap_1 w.params) h) (hR : Room A 500 2900) {A₀ : Around} {base : Heap} {outer : List Env} {p : Program} {loose : List Str} {mean : ExcName → Option Value} {mg mb : Str → Option Value} (B : Below A₀ base outer h) (hfr : A.frames = some outer) (hh : A.handled = none) (XD : (hd.heap_1 w.params).In h) (TT : Top p loose mean mg mb h)
   (hl1 : n1.length ≤ 300) (hl2 : n2.length ≤ 300) (hs1 : n1 ≠ Str.ofString "<string>") (hs2 : n2 ≠ Str.ofString "<string>")
   (hk1 : h.get? k1 = some (instK Kc d1 n1 u1)) (hk2 : h.get? k2 = some (instK Kc d2 n2 u2))
   (hret : ∀ b a o h' tk', (b = true ↔ inF n1 n2 < 0) → Mem2 h h' [] [(a, o)] → Q (.bool b) ⟨h', g, d, tk', os⟩) :
   wpAny (model PySem.Challenge.rw_of0013_01.prog w) A (call (.ref fl) [.ref k1, .ref k2]) Q E ⟨h, g, d, tk, os⟩ := by
  have hpk9 := Mine.pickOn
  revert w A h g d t tk os Q E Kc ns bt sl fi fl fg fe fle fge st md ci cl cell q1 q2 q3 q4 q5 q6 r1 r2 r3 r4 r5 k1 k2 d1 d2 n1 n2 u1 u2 I X hR A₀ base outer p loose mean mg mb B hfr hh XD TT hl1 hl2 hs1 hs2 hk1 hk2 hret
  intro w A h g d t tk os Q E Kc ns bt sl fi fl fg fe fle fge st md ci cl cell q1 q2 q3 q4 q5 q6 r1 r2 r3 r4 r5 k1 k2 d1 d2 n1 n2 u1 u2 I X hR A₀ base outer p loose mean mg mb B hfr hh XD TT hl1 hl2 hs1 hs2 hk1 hk2 hret
  have hfl := I.hfl
  have hcl := I.hcl
  have hcell := I.hcell
  have hK := I.hK
  have hns := I.hns
  have hmd := I.hmd
  have hfi := I.hfi
  have hci := I.hci
  simp only [nsK, clsK, mdK, codeK, kE] at hK hns hmd hci hcl
  simp only [fnK] at hfl
  refine with_eq (a := kStmts w.params 3) (by conv => (lhs; whnf; arg 1; whnf)) fun e1 => ?_
  refine with_eq (a := kArgs w.params 3) (by conv => (lhs; whnf)) fun e2 => ?_
  refine with_eq (a := kScope w.params 3) (by conv => (lhs; whnf)) fun e3 => ?_
  rw [e1, e2, e3] at hfl
  clear e1 e2 e3
  obtain ⟨o1, e1⟩ := X.s1
  simp only [st0, st1, st2, st3, st4, st5, st6, st7, st8, st9, st10, st11, st12, st13, st14, st15, st16, st17, st18, st19, st20, st21, st22, st23, st24, st25, st26, st27, st28, st29, st30, st31, st32, st33, st34, st35, st36, st37, st38, st39, st40, st41, st42, st43, st44, st45, st46, st47, st48, st49, st50, st51, st52, st53, st54, st55, st56, st57, st58, st59, st60, st61, st62, st63, st64, st65, st66, st67, st68, st69, st70, st71, st72, st73, st74, st75, st76, st77, st78, st79, st80, st81, st82, st83, st84, st85, st86, st87, st88, st89, st90, st91, st92, st93, st94, st95, st96, st97, st98, st99, st100, st101, st102, st103, st104, st105, st106, st107, st108, st109, st110, st111, st112, st113, st114, st115, st116, st117, st118, st119, st120, st121, st122, st123, st124, st125, st126, st127, st128, st129, st130, st131, st132, st133, st134, st135, st136, st137, st138, st139, st140, st141, st142, st143, st144, st145, st146, st147, st148, st149, st150, st151, st152, st153, st154, st155, st156, st157, st158, st159, st160, st161, st162, st163, st164, st165, st166, st167, st168, st169, st170, st171, st172, st173, st174, st175, st176, st177, st178, st179, st180, st181, st182, st183, st184, st185, st186, st187, st188, st189, st190, st191, st192, st193, st194, st195, st196, st197, st198, st199, st200, st201, st202, st203, st204] at hK hns hmd hfl hcl
  have D0 := Mem2.start h
  refine q_startE rfl hR (by k_extra "q kern") (by k_extra "q kern") (by k_extra "q code") (by k_extra "q code") ?_
  intro R1 E1 KA1 Y1
  have Z1 : Room (A.mark none) 500 2900 := ⟨hR.d, hR.u⟩
  repeat k_extra "q step"
  (conv => (arg 4; whnf))
  rename Mine.Mem2 _ _ _ _ => D9
  rename CEq _ _ => W9
  refine q_inside W9 B hfr hh rfl rfl D9 (by intro vs q; cases q) XD TT (by assumption) rfl rfl hl1 hl2 hs1 hs2 rfl ?_
  clear D9
  intro t9 h9 tk9 D9
  repeat k_extra "q step"
  (conv => (arg 4; dsimp only))
  generalize Params.followText w.params "special-get-raises" = b9
  cases b9
  · repeat k_extra "q step"
    (conv => (arg 4; whnf))
    rename Mine.Mem2 _ _ _ _ => D9
    refine q_doneA KA1 rfl rfl ?_
    exact hret _ _ _ _ _ (by simp) D9
  · repeat k_extra "q step"
    (conv => (arg 4; whnf))
    rename Mine.Mem2 _ _ _ _ => D9
    refine q_doneA KA1 rfl rfl ?_
    exact hret _ _ _ _ _ (by simp) D9
end Mine
end
open PySem PySem.W PyProof.Rows in
example : Mine.RS := by intro M A Q E s h; w_top off; first | walk1 | skip; all_goals first | exact h | exact wpAny_pure h
section
open PySem PySem.W PyProof.Rows PySem.W.X PySem.Calls
set_option maxHeartbeats 4000000
namespace Mine
section
variable {w : World} {t : Nat} {Kc ns bt sl fi fl fg fe fle fge st md ci cl cell q1 q2 q3 q4 q5 q6 r1 r2 r3 r4 r5 : Addr}
theorem isK_find :
 ∀ {w : World} {t : Nat} {Kc : Addr} {ns : Addr} {bt : Addr} {sl : Addr} {fi : Addr} {fl : Addr} {fg : Addr} {fe : Addr} {fle : Addr} {fge : Addr} {st : Addr} {md : Addr} {ci : Addr} {cl : Addr} {cell : Addr} {q1 : Addr} {q2 : Addr} {q3 : Addr} {q4 : Addr} {q5 : Addr} {q6 : Addr} {r1 : Addr} {r2 : Addr} {r3 : Addr} {r4 : Addr} {r5 : Addr} {h : Heap}
 (I : IsK w h t Kc ns bt sl fi fl fg fe fle fge st md ci cl cell q1 q2 q3 q4 q5 q6 r1 r2 r3 r4 r5), ∃ K : Frag, K.In h ∧ findIn K (.ref Kc) "__lt__" = some (some (.ref fl)) ∧ isFn K (.ref fl) = true := by
  iterate 3 refine @Mine.pad _ ?_
  iterate 2 k_extra "pkG"
  iterate 1 k_extra "pk9"
  rename_i w t Kc ns bt sl fi fl fg fe fle fge st md ci cl cell q1 q2 q3 q4 q5 q6 r1 r2 r3 r4 r5 h I
  have n1 : ns ≠ Kc := fun q => by have a := I.hns; rw [q, I.hK] at a; have z := congrArg Obj.cls (Option.some.inj a); simp at z
  have n2 : fl ≠ Kc := fun q => by have a := I.hfl; rw [q, I.hK] at a; have z := congrArg Obj.cls (Option.some.inj a); simp at z
  have n3 : fl ≠ ns := fun q => by have a := I.hfl; rw [q, I.hns] at a; have z := congrArg Obj.cls (Option.some.inj a); simp at z
  refine ⟨[(Kc, clsK t Kc ns bt), (ns, nsK w.params t sl fi fl fg fe fle fge st md), (fl, fnK w.params 3 (Str.ofString "__lt__") (Str.ofString "cmp_to_key.<locals>.K.__lt__") [(Str.ofString "mycmp", cell)] cl (.ref q6))], ?_, ?_, ?_⟩
  · intro a o e
    simp only [List.lookup] at e
    split at e
    · rename_i q; cases e; rw [eq_of_beq q]; exact I.hK
    · split at e
      · rename_i q; cases e; rw [eq_of_beq q]; exact I.hns
      · split at e
        · rename_i q; cases e; rw [eq_of_beq q]; exact I.hfl
        · cases e
  · have l1 : ∀ (a b c : Obj), List.lookup Kc [(Kc, a), (ns, b), (fl, c)] = some a := fun a b c => by simp [List.lookup]
    have l2 : ∀ (a b c : Obj), List.lookup ns [(Kc, a), (ns, b), (fl, c)] = some b := fun a b c => by
      have : (ns == Kc) = false := beq_eq_false_iff_ne.mpr n1
      simp [List.lookup, this]
    have hn : PySem.W.nsIn [(Kc, clsK t Kc ns bt), (ns, nsK w.params t sl fi fl fg fe fle fge st md), (fl, fnK w.params 3 (Str.ofString "__lt__") (Str.ofString "cmp_to_key.<locals>.K.__lt__") [(Str.ofString "mycmp", cell)] cl (.ref q6))] ns "__lt__" = some (some (.ref fl)) := by
      unfold PySem.W.nsIn
      rw [l2]
      kernel_rfl
    simp only [findIn, l1, alongIn, ownIn, hn]
  · have l3 : ∀ (a b c : Obj), List.lookup fl [(Kc, a), (ns, b), (fl, c)] = some c := fun a b c => by
      have h1 : (fl == Kc) = false := beq_eq_false_iff_ne.mpr n2
      have h2 : (fl == ns) = false := beq_eq_false_iff_ne.mpr n3
      simp [List.lookup, h1, h2]
    unfold isFn typeIn
    simp only [l3]
    rfl
theorem inst_type {M : Model} {h : Heap} {x d1 : Addr} {n1 : Str} {u1 : Tok} (hk : h.get? x = some (instK Kc d1 n1 u1)) : Looks M h (typeOf (.ref x)) (.ref Kc) :=
  (show Looks M h (typeOf (.ref x)) (instK Kc d1 n1 u1).cls from (Looks.ld hk).andThen .now)
theorem kas_lt_K {A : Around} {E : Value → Shared → Prop} {prog : Program} {s : Shared} {Q : Bool → Shared → Prop} {x d1 : Addr} {n1 : Str} {u1 : Tok} {b : Value} (hu : A.units < cLine) (I : IsK w s.heap t Kc ns bt sl fi fl fg fe fle fge st md ci cl cell q1 q2 q3 q4 q5 q6 r1 r2 r3 r4 r5)
    (hk : s.heap.get? x = some (instK Kc d1 n1 u1))
    (h : wpAny (model prog w) A (call (.ref fl) [.ref x, b]) (PySem.W.BoolBack Q) E s) : wpAny (model prog w) A (keyLt' oneType' (.ref x) b) Q E s := by
  refine Classical.byContradiction fun ng9 => ?_
  obtain ⟨K, X, hs, hf⟩ := isK_find I
  refine ng9 ?_
  clear ng9
  rw [keyLt'_oneType, oneLt'_eq]
  simp only [if_true]
  refine wpAny_bind (wpAny_cRoomFor hu ?_)
  have h2 : wpAny (model prog w) A (callSpecialIfBound? (.ref x) "__lt__" [b]) (fun r s' => ∃ v, r = some v ∧ PySem.W.BoolBack Q v s') E s := by
    simp only [callSpecialIfBound?, bindSpecialIfBound?]
    refine wpAny_holding (wpAny_bind (wpAny_bind (wpAny_bind ((inst_type hk).here ((looks_findIn X hs).here ?_)))))
    refine wpAny_bind (wpAny_askSetting (wpAny_ite ?_))
    have fin : wpAny (model prog w) A (call (.ref fl) ([.ref x] ++ [b]) >>= fun v => pure (some v)) (fun r s' => ∃ v, r = some v ∧ PySem.W.BoolBack Q v s') E s := wpAny_bind (wpAny_mono h (fun v s' h' => wpAny_pure ⟨v, rfl, h'⟩) fun _ _ h' => h')
    split
    · exact wpAny_bind ((bind_fn X _ (beq_iff_eq.mp hf)).here (wpAny_pure (by exact fin)))
    · exact wpAny_tryCatch (wpAny_bind ((bind_fn X _ (beq_iff_eq.mp hf)).here (wpAny_pure (by exact fin))))
  refine wpAny_bind (wpAny_mono h2 (fun r s' hr => ?_) fun _ _ e => e)
  refine Classical.byContradiction fun ng9 => ?_
  obtain ⟨v, rfl, hv⟩ := hr
  refine ng9 ?_
  clear ng9
  cases v <;> first | exact hv.elim | skip
  exact wpAny_truthy_bool hv
end
end Mine
end
open PySem PySem.W PyProof.Rows in
example : Mine.RS := by intro M A Q E s h; w_top off; first | walk1 | skip; all_goals first | exact h | exact wpAny_pure h
section
open PySem PySem.W PyProof.Rows PySem.W.X PySem.Calls
set_option maxHeartbeats 4000000
namespace Mine
section
variable {w : World} {t : Nat} {Kc ns bt sl fi fl fg fe fle fge st md ci cl cell q1 q2 q3 q4 q5 q6 r1 r2 r3 r4 r5 : Addr}
structure KnowK (w : World) (t : Nat) (Kc ns bt sl fi fl fg fe fle fge st md ci cl cell q1 q2 q3 q4 q5 q6 r1 r2 r3 r4 r5 : Addr) (p : Program) (loose : List Str) (mean : ExcName → Option Value) (mg mb : Str → Option Value) (h : Heap) : Prop where
  k : IsK w h t Kc ns bt sl fi fl fg fe fle fge st md ci cl cell q1 q2 q3 q4 q5 q6 r1 r2 r3 r4 r5
  x : In23 (hd.heap_1 w.params) h
  d : (hd.heap_1 w.params).In h
  t : Top p loose mean mg mb h
theorem KnowK.keeps {p : Program} {loose : List Str} {mean : ExcName → Option Value} {mg mb : Str → Option Value} {h h' : Heap} (I : KnowK w t Kc ns bt sl fi fl fg fe fle fge st md ci cl cell q1 q2 q3 q4 q5 q6 r1 r2 r3 r4 r5 p loose mean mg mb h) (k : ∀ b o, h.get? b = some o → h'.get? b = some o) :
    KnowK w t Kc ns bt sl fi fl fg fe fle fge st md ci cl cell q1 q2 q3 q4 q5 q6 r1 r2 r3 r4 r5 p loose mean mg mb h' := ⟨I.k.keeps k, I.x.keeps k, I.d.keeps k, I.t.keeps k⟩
structure KeysP (Kc : Addr) (P : Addr → Obj → Prop) (ks : List Value) (ss : List Str) : Prop where
  len : ks.length = ss.length
  at' : ∀ i, i < ss.length → ∃ x d u, ks.getD i Value.none = .ref x ∧ P x (instK Kc d (ss.getD i Str.empty) u)
theorem KeysP.mono {P P' : Addr → Obj → Prop} {ks : List Value} {ss : List Str} (K : KeysP Kc P ks ss) (k : ∀ b o, P b o → P' b o) : KeysP Kc P' ks ss :=
  ⟨K.len, fun i hi => by obtain ⟨x, d, u, e1, e2⟩ := K.at' i hi; exact ⟨x, d, u, e1, k _ _ e2⟩⟩
theorem KeysP.nil {P : Addr → Obj → Prop} : KeysP Kc P [] [] := ⟨rfl, fun i hi => absurd hi (Nat.not_lt_zero _)⟩
theorem KeysP.snoc {P : Addr → Obj → Prop} {ks : List Value} {ss : List Str} {x d : Addr} {y : Str} {u : Tok} (K : KeysP Kc P ks ss) (hx : P x (instK Kc d y u)) : KeysP Kc P (ks ++ [.ref x]) (ss ++ [y]) := by
  refine ⟨by simp [K.len], fun i hi => ?_⟩
  rw [List.length_append, List.length_singleton] at hi
  by_cases q : i < ss.length
  · refine Classical.byContradiction fun ng9 => ?_
    obtain ⟨x', d', u', e1, e2⟩ := K.at' i q
    refine ng9 ?_
    clear ng9
    refine ⟨x', d', u', ?_, ?_⟩
    · rw [List.getD_eq_getElem?_getD] at e1 ⊢; rw [List.getElem?_append_left (by rw [K.len]; exact q)]; exact e1
    · rw [List.getD_eq_getElem?_getD] at e2 ⊢; rw [List.getElem?_append_left q]; exact e2
  · have : i = ss.length := by omega
    subst this
    refine ⟨x, d, u, ?_, ?_⟩
    · rw [← K.len]; simp
    · simpa using hx
noncomputable abbrev KeysAre (Kc : Addr) (h : Heap) (ks : List Value) (ss : List Str) : Prop := KeysP Kc (fun x o => h.get? x = some o) ks ss
noncomputable abbrev KeysIn (Kc : Addr) (ins : List (Addr × Obj)) (ks : List Value) (ss : List Str) : Prop := KeysP Kc (fun x o => (x, o) ∈ ins) ks ss
theorem kTopRoom {dp un : Nat} {gd : Option (List Code)} {fs : List Env} (hdp : dp + 520 < recursionLimit) (hu : un + 3000 < cLine) : Room (aTop dp un gd fs).in1.in1 500 2900 := ⟨by show dp + 500 < _; omega, by show un + 1 + 1 + 2900 < _; omega⟩
theorem ask_K {p : Program} {loose : List Str} {mean : ExcName → Option Value} {mg mb : Str → Option Value} {dp un : Nat} {gd : Option (List Code)} {fs : List Env} {A₀ : Around} {base : Heap} {s : Shared} {ks : List Value} {ss : List Str} {i j : Nat} {C : Bool → Shared → Prop}
    (I : KnowK w t Kc ns bt sl fi fl fg fe fle fge st md ci cl cell q1 q2 q3 q4 q5 q6 r1 r2 r3 r4 r5 p loose mean mg mb s.heap) (B : Below A₀ base fs s.heap) (hdp : dp + 520 < recursionLimit) (hu : un + 3000 < cLine)
    (K : KeysAre Kc s.heap ks ss) (hs : ∀ y ∈ ss, y.length ≤ 300 ∧ y ≠ Str.ofString "<string>") (hi : i < ss.length) (hj : j < ss.length)
    (hC : ∀ b h' tk', (b = true ↔ inF (ss.getD i Str.empty) (ss.getD j Str.empty) < 0) → (∀ b o, s.heap.get? b = some o → h'.get? b = some o) → C b { s with heap := h', toks := tk' }) :
    kas_ask PySem.Challenge.rw_of0013_01.prog w (aTop dp un gd fs).in1.in1 oneType' ks i j C s := by
  refine Classical.byContradiction fun ng9 => ?_
  obtain ⟨x, d1, u1, e1, o1⟩ := K.at' i hi
  refine ng9 ?_
  clear ng9
  refine Classical.byContradiction fun ng9 => ?_
  obtain ⟨y, d2, u2, e2, o2⟩ := K.at' j hj
  refine ng9 ?_
  clear ng9
  have m1 : ss.getD i Str.empty ∈ ss := by simp [List.getD_eq_getElem?_getD, hi]
  have m2 : ss.getD j Str.empty ∈ ss := by simp [List.getD_eq_getElem?_getD, hj]
  unfold kas_ask
  rw [e1, e2]
  refine kas_lt_K (by show un + 1 + 1 < _; omega) I.k o1 ?_
  refine k_lt (t := t) I.k I.x (kTopRoom hdp hu) B rfl rfl I.d I.t (hs _ m1).1 (hs _ m2).1 (hs _ m1).2 (hs _ m2).2 o1 o2 ?_
  intro b a o h' tk' hb D
  exact hC b h' tk' hb D.keepAll
section
variable {dp un : Nat} {gd : Option (List Code)} {env : Env} {outer : List Env} {A₀ : Around} {base h₀ : Heap} {L : Addr} {m : Str → Option Value} {s : Shared} {news : List (Addr × Obj)} {p : Program} {loose : List Str} {mean : ExcName → Option Value} {mg mb : Str → Option Value}
theorem keys_go {kS D : Addr} {e1 : Nat} {Fin : List Value → Nat → Shared → Prop} (hdp : dp + 520 < recursionLimit) (hu : un + 3000 < cLine)
    (Kn : ∀ h, Fr h₀ L h m → News h₀ L h news → KnowK w t Kc ns bt sl fi fl fg fe fle fge st md ci cl cell q1 q2 q3 q4 q5 q6 r1 r2 r3 r4 r5 p loose mean mg mb h) (hD : D < kS) (hN : ∀ q ∈ news, q.1 < D) :
    ∀ (rv : List Value) (rs : List Str), StrsAre rv rs → ∀ (ks : List Value) (dn : List Str) (e : Nat) (h : Heap) (tk : Nat) (ins : List (Addr × Obj)), Fr h₀ L h m → News h₀ L h ((kS, seqObj "list" (List.toArray ks) e) :: (D, seqObj "list" #[] e1) :: (ins ++ news)) → (∀ q ∈ ins, kS < q.1) → KeysIn Kc ins ks dn →
      (∀ ks e h tk ins, Fr h₀ L h m → News h₀ L h ((kS, seqObj "list" (List.toArray ks) e) :: (D, seqObj "list" #[] e1) :: (ins ++ news)) → (∀ q ∈ ins, kS < q.1) → KeysIn Kc ins ks (dn ++ rs) → Fin ks e ⟨h, s.gens, s.drawn, tk, s.os⟩) →
      KatKeys PySem.Challenge.rw_of0013_01.prog w (aTop dp un gd (env :: outer)).in1.in1 h₀ L m kS (.ref Kc) Fin rv ks e ⟨h, s.gens, s.drawn, tk, s.os⟩
  | _, _, .nil, ks, dn, e, h, tk, ins, F, N, hi, K, fin => KatKeys.nil (fin ks e h tk ins F N hi (by rw [List.append_nil]; exact K))
  | _, _, .cons y u hr, ks, dn, e, h, tk, ins, F, N, hi, K, fin => by
    refine KatKeys.cons ?_
    have I := Kn h F (fun q hq => N q (.tail _ (.tail _ (List.mem_append_right _ hq))))
    refine k_new (t := t) I.k I.x (kTopRoom hdp hu) ?_
    intro x dct h' tk' keep x0 x1 hx
    have hkS : kS < h.objs.size := Heap.lt_size (N _ (.head _)).1
    have hL : L < h.objs.size := F.ns.lt
    have N' : News h₀ L h' ((kS, seqObj "list" (List.toArray ks) e) :: (D, seqObj "list" #[] e1) :: (((x, instK Kc dct y u) :: ins) ++ news)) := fun q hq => by
      rcases List.mem_cons.mp hq with rfl | hq
      · exact ⟨keep _ _ (N _ (.head _)).1, (N _ (.head _)).2⟩
      · rcases List.mem_cons.mp hq with rfl | hq
        · exact ⟨keep _ _ (N _ (.tail _ (.head _))).1, (N _ (.tail _ (.head _))).2⟩
        · rcases List.mem_cons.mp hq with rfl | hq
          · refine ⟨hx, Nat.ne_of_gt (Nat.lt_of_lt_of_le hL x1), ?_⟩
            cases z : h₀.get? x with
            | none => rfl
            | some o => rw [F.keep _ _ z] at x0; cases x0
          · exact ⟨keep _ _ (N _ (.tail _ (.tail _ hq))).1, (N _ (.tail _ (.tail _ hq))).2⟩
    have hi' : ∀ q ∈ (x, instK Kc dct y u) :: ins, kS < q.1 := fun q hq => by
      rcases List.mem_cons.mp hq with rfl | hq
      · exact Nat.lt_of_lt_of_le hkS x1
      · exact hi q hq
    refine KatBack.intro (F.keeps keep) N' (UpdF.head fun q hq => ?_) fun h2 c2 F2 N2 => ?_
    · rcases List.mem_cons.mp hq with rfl | hq
      · exact Nat.ne_of_lt hD
      · rcases List.mem_append.mp hq with hq | hq
        · exact Nat.ne_of_gt (hi' q hq)
        · exact Nat.ne_of_lt (Nat.lt_trans (hN q hq) hD)
    · refine keys_go hdp hu Kn hD hN _ _ hr (ks ++ [.ref x]) (dn ++ [y]) c2 h2 tk' ((x, instK Kc dct y u) :: ins) F2 N2 hi' (KeysP.snoc (P := fun a o => (a, o) ∈ (x, instK Kc dct y u) :: ins) (K.mono fun b o hb => List.mem_cons_of_mem _ hb) (List.mem_cons_self ..)) ?_
      intro ks' e' h3 tk3 ins' F3 N3 hi3 K3
      exact fin ks' e' h3 tk3 ins' F3 N3 hi3 (by rw [List.append_assoc] at K3; exact K3)
theorem sortK2 {l : Addr} {vs : List Value} {ss : List Str} {nl : Nat} {Q E : Value → Shared → Prop} (r : Nat → Nat) (B : Below A₀ base outer h₀) (F : Fr h₀ L s.heap m) (N : News h₀ L s.heap news) (hf : env.frame = some L) (hke : env.scope.kind = .function) (hdp : dp + 520 < recursionLimit) (hu : un + 3000 < cLine)
    (Kn : ∀ h, Fr h₀ L h m → News h₀ L h news → KnowK w t Kc ns bt sl fi fl fg fe fle fge st md ci cl cell q1 q2 q3 q4 q5 q6 r1 r2 r3 r4 r5 p loose mean mg mb h)
    (hl : (l, listOf vs.toArray nl) ∈ news) (hv : StrsAre vs ss) (hs : ∀ y ∈ ss, y.length ≤ 300 ∧ y ≠ Str.ofString "<string>") (h2 : 2 ≤ ss.length) (h64 : ss.length < 64)
    (hr : ∀ i j, i < ss.length → j < ss.length → (inF (ss.getD i Str.empty) (ss.getD j Str.empty) < 0 ↔ r i < r j)) (hinj : ∀ i j, i < ss.length → j < ss.length → r i = r j → i = j)
    (hret : ∀ D c h' tk' q, Fr h₀ L h' m → News h₀ L h' ((D, listOf (List.toArray (q.toList.map fun i => vs.getD i Value.none)) c) :: news) → (∀ q ∈ news, q.1 < D) → Arr ss.length q → UpTo r q ss.length → Q (.ref D) ⟨h', s.gens, s.drawn, tk', s.os⟩) :
    wpAny (model PySem.Challenge.rw_of0013_01.prog w) (aTop dp un gd (env :: outer)) (call (.builtin "sorted") [.ref l] [(Str.ofString "key", .ref Kc)]) Q E s := by
  have hlen : vs.length = ss.length := hv.length
  refine kat_sortedK (b := false) (f := .ref Kc) F N (N.isList hl) (by rw [hlen]; exact h2) (by rw [hlen]; exact h64) (by ksk_a1) (by intro _; ksk_a2) (by intro _; ksk_a3) ?_
  intro D kS e1 h' F' N' l0 l1
  refine keys_go (env := env) (outer := outer) (gd := gd) hdp hu Kn l0 l1 vs ss hv [] [] 0 h' s.toks [] F' N' (fun q hq => (nomatch hq)) KeysP.nil ?_
  intro ks e h3 tk3 ins F3 N3 hi3 K3
  rw [List.nil_append] at K3
  have hins : ∀ h5, (∀ b o, h3.get? b = some o → h5.get? b = some o) → KeysAre Kc h5 ks ss := fun h5 k5 => K3.mono fun b o hb => k5 _ _ (N3 (b, o) (.tail _ (.tail _ (List.mem_append_left _ hb)))).1
  have Kn3 := Kn h3 F3 (fun q hq => N3 q (.tail _ (.tail _ (List.mem_append_right _ hq))))
  refine kas_kind (T := .ref Kc) (by rw [K3.len]; exact h2) (fun v hv' => ?_) (by simp) (by simp) ?_
  · refine Classical.byContradiction fun ng9 => ?_
    obtain ⟨i, hi, rfl⟩ := List.getElem_of_mem hv'
    refine ng9 ?_
    clear ng9
    obtain ⟨x, d, u, g1, g2⟩ := (hins h3 fun _ _ e => e).at' i (by rw [← K3.len]; exact hi)
    have : ks[i] = .ref x := by rw [← g1]; simp [List.getD_eq_getElem?_getD, hi]
    rw [this]
    exact inst_type g2
  · refine Classical.byContradiction fun ng9 => ?_
    obtain ⟨q, hq1, hq2, hq3, hq4⟩ := ev_sort r hinj (by omega : 1 ≤ ss.length)
    refine ng9 ?_
    clear ng9
    have ek : katRev false ks = ks := rfl
    have ev : katRev false vs = vs := rfl
    have eo : ∀ l : List Value, katRev false l = l := fun _ => rfl
    rw [hlen]
    simp only [eo]
    refine wp_evK (n := ss.length) (lt := ltR r) (fun s5 => ∃ h5 tk5, s5 = ⟨h5, s.gens, s.drawn, tk5, s.os⟩ ∧ ∀ b o, h3.get? b = some o → h5.get? b = some o) ?_ (kas_sort ss.length) _ hq4 ⟨h3, tk3, rfl, fun _ _ e => e⟩ ?_
    · intro i j _ C hi hj
      intro hz9
      refine Classical.byContradiction fun ng9 => ?_
      obtain ⟨h5, tk5, rfl, k5⟩ := hz9
      refine ng9 ?_
      clear ng9
      intro hC
      refine ask_K (t := t) (Kn3.keeps k5) (pushX B (F3.keeps k5) hf hke) hdp hu (hins h5 k5) hs hi hj ?_
      intro b h6 tk6 hb k6
      have : b = ltR r i j := by
        have := hr i j hi hj
        cases b with
        | true => exact (decide_eq_true (this.mp (hb.mp rfl))).symm
        | false => exact (decide_eq_false fun z => by have := hb.mpr (this.mpr z); cases this).symm
      rw [this]
      exact hC _ ⟨h6, tk6, rfl, fun b o e => k6 _ _ (k5 _ _ e)⟩
    · intro _
      intro hz9
      refine Classical.byContradiction fun ng9 => ?_
      obtain ⟨h5, tk5, rfl, k5⟩ := hz9
      refine ng9 ?_
      clear ng9
      rw [hq1]
      refine KatFin.intro (F3.keeps k5) (N3.grown k5) (UpdF.head fun q hq => ?_) fun h6 c6 F6 N6 => KasFin.intro F6 N6 (UpdF.tail (Nat.ne_of_gt l0) (UpdF.head fun q hq => ?_)) fun h7 c7 F7 N7 => ?_
      · rcases List.mem_cons.mp hq with rfl | hq
        · exact Nat.ne_of_lt l0
        · rcases List.mem_append.mp hq with hq | hq
          · exact Nat.ne_of_gt (hi3 q hq)
          · exact Nat.ne_of_lt (Nat.lt_trans (l1 q hq) l0)
      · rcases List.mem_append.mp hq with hq | hq
        · exact Nat.ne_of_gt (Nat.lt_trans l0 (hi3 q hq))
        · exact Nat.ne_of_lt (l1 q hq)
      · refine hret D c7 h7 tk5 q F7 (fun z hz => ?_) l1 hq2 hq3
        rcases List.mem_cons.mp hz with rfl | hz
        · exact N7 _ (.tail _ (.head _))
        · exact N7 _ (.tail _ (.tail _ (List.mem_append_right _ hz)))
end
end
end Mine
end
section
open PySem PySem.W PyProof.Rows PySem.W.X PySem.Calls
set_option maxHeartbeats 4000000
namespace Mine
section
variable {prog : Program} {w : World} {A : Around} {E : Value → Shared → Prop} {s : Shared} {h₀ : Heap} {L : Addr} {m : Str → Option Value} {news : List (Addr × Obj)} {vs : List Value}
theorem sorted_open :
 ∀ {prog : Program} {w : World} {A : Around} {E : Value → Shared → Prop} {s : Shared} {h₀ : Heap} {L : Addr} {m : Str → Option Value} {news : List (Addr × Obj)} {vs : List Value} {l : Addr} {kw : List (Str × Value)} {Q : Value → Shared → Prop}
 (F : Fr h₀ L s.heap m) (N : News h₀ L s.heap news) (hl : s.heap.IsList l vs.toArray) (h64 : vs.length < 64) (ha1 : argsOk "sorted" ⟨[.ref l], kw⟩) (ha2 : ∀ x, argsOk "list.sort" ⟨[.ref x], kw⟩) (h : ∀ D h', Fr h₀ L h' m → News h₀ L h' news → h'.get? D = some (seqObj "list" vs.toArray 0) → D ≠ L → h₀.get? D = none → (∀ q ∈ news, q.1 < D) →
      wpAny (model prog w) A.in1.in1 (Builtin.«list.sort» ⟨[.ref D], kw⟩) (fun fin s' => fin = .done (.ret .none) ∧ Q (.ref D) s') (fun _ _ => False) { s with heap := h' }), wpAny (model prog w) A (call (.builtin "sorted") [.ref l] kw) Q E s := by
  iterate 3 refine @Mine.pad _ ?_
  iterate 1 k_extra "pkG"
  iterate 7 k_extra "pk9"
  rename_i prog w A E s h₀ L m news vs l kw Q F N hl h64 ha1 ha2 h
  refine call_function_entry_kw kind_sorted plain_sorted entry_sorted ha1 ?_
  unfold Builtin.«sorted»
  refine wpAny_bind (m := checkCount "sorted" 1 1 _) (wpAny_pure ?_)
  refine wpAny_bind (collect_list hl ?_ (by rw [sizeLine_eq]; omega))
  refine wpAny_bind (wpAny_newList ?_ (by rw [sizeLine_eq]; omega))
  have e0 : ((s.heap.push (seqObj "list" #[] 0)).update s.heap.objs.size (Obj.mapSeq (· ++ vs.toArray))).objs.size = s.heap.objs.size + 1 := by rw [Heap.size_update, size_push']
  have keep : ∀ b o, s.heap.get? b = some o → (((s.heap.push (seqObj "list" #[] 0)).update s.heap.objs.size (Obj.mapSeq (· ++ vs.toArray))).push (seqObj "list" vs.toArray 0)).get? b = some o := fun b o q => by
    have hb := Heap.lt_size q
    rw [Heap.get?_push_ne _ _ _ (by rw [e0]; exact Nat.ne_of_lt (Nat.lt_succ_of_lt hb)), Heap.get?_update_ne _ _ _ _ (Nat.ne_of_lt hb), Heap.get?_push_ne _ _ _ (Nat.ne_of_lt hb)]
    exact q
  have hD : (((s.heap.push (seqObj "list" #[] 0)).update s.heap.objs.size (Obj.mapSeq (· ++ vs.toArray))).push (seqObj "list" vs.toArray 0)).get? (s.heap.objs.size + 1) = some (seqObj "list" vs.toArray 0) := by
    rw [← e0]; exact Heap.get?_push_size _ rfl
  have hL := F.ns.lt
  show wpAny _ _ _ _ _ { s with heap := ((s.heap.push (seqObj "list" #[] 0)).update s.heap.objs.size (Obj.mapSeq (· ++ vs.toArray))).push (seqObj "list" vs.toArray 0) }
  rw [e0]
  refine wpAny_bind (wpAny_holding (wpAny_call_entry_kw slot_list_sort ⟨_, hD, rfl⟩ entry_list_sort ?_ (ha2 _)))
  refine wpAny_mono (h (s.heap.objs.size + 1) _ (F.kept keep) (N.grown keep) hD (Nat.ne_of_gt (Nat.lt_succ_of_lt hL)) (Heap.get?_none_of_le (Nat.le_trans F.above (Nat.le_succ_of_le (Nat.le_of_lt hL)))) fun q hq => Nat.lt_succ_of_lt (Heap.lt_size (N q hq).1)) (fun fin s' hf => ?_) fun _ _ x => x.elim
  obtain ⟨rfl, hq⟩ := hf
  exact ⟨_, rfl, wpAny_pure ⟨_, rfl, hq⟩⟩
theorem lsort_small :
 ∀ {prog : Program} {w : World} {A : Around} {E : Value → Shared → Prop} {s : Shared} {h₀ : Heap} {L : Addr} {m : Str → Option Value} {news : List (Addr × Obj)} {vs : List Value} {D : Addr} {n : Nat} {P : PySem.Fin → Shared → Prop}
 (F : Fr h₀ L s.heap m) (N : News h₀ L s.heap news) (ho : s.heap.get? D = some (seqObj "list" vs.toArray n)) (hDL : D ≠ L) (hD0 : h₀.get? D = none) (hna : ∀ p ∈ news, p.1 ≠ D) (h1 : vs.length < 2) (h : ∀ h' c, Fr h₀ L h' m → News h₀ L h' ((D, listOf vs.toArray c) :: news) → P (.done (.ret .none)) { s with heap := h' }), wpAny (model prog w) A (Builtin.«list.sort» ⟨[.ref D], []⟩) P E s := by
  iterate 3 refine @Mine.pad _ ?_
  iterate 1 k_extra "pkG"
  iterate 8 k_extra "pk9"
  rename_i prog w A E s h₀ L m news vs D n P F N ho hDL hD0 hna h1 h
  have hb := Heap.lt_size ho
  have s1 := Heap.SameBut.update s.heap D (Obj.mapSeq fun _ => (#[] : Array Value))
  obtain ⟨e1, ho1⟩ : ∃ e1, (s.heap.update D (Obj.mapSeq fun _ => (#[] : Array Value))).get? D = some (seqObj "list" #[] e1) := ⟨_, get?_update_seq ho fun _ => #[]⟩
  have F3 : Fr h₀ L (((s.heap.update D (Obj.mapSeq fun _ => (#[] : Array Value))).push (seqObj "tuple" vs.toArray 0)).push (seqObj "list" #[] 0)) m := ((kas_fr F s1 hDL hD0).push _).push _
  have N2 : News h₀ L (((s.heap.update D (Obj.mapSeq fun _ => (#[] : Array Value))).push (seqObj "tuple" vs.toArray 0)).push (seqObj "list" #[] 0)) news :=
    (kas_news N s1 hna).grown fun b x e => Heap.get?_push_of_some _ (Heap.get?_push_of_some _ e)
  have ho3 := Heap.get?_push_of_some (seqObj "list" #[] 0) (Heap.get?_push_of_some (seqObj "tuple" vs.toArray 0) ho1)
  have s4 := Heap.SameBut.update (((s.heap.update D (Obj.mapSeq fun _ => (#[] : Array Value))).push (seqObj "tuple" vs.toArray 0)).push (seqObj "list" #[] 0)) D (Obj.mapSeq fun _ => vs.toArray)
  obtain ⟨c2, hc2⟩ : ∃ c2, ((((s.heap.update D (Obj.mapSeq fun _ => (#[] : Array Value))).push (seqObj "tuple" vs.toArray 0)).push (seqObj "list" #[] 0)).update D (Obj.mapSeq fun _ => vs.toArray)).get? D = some (seqObj "list" vs.toArray c2) := ⟨_, get?_update_seq ho3 fun _ => vs.toArray⟩
  rw [list_sort_plain]
  refine wpAny_bind (listItems_at ho rfl ?_)
  refine wpAny_bind (listUpdate_at ho rfl ?_ (by rw [List.size_toArray, sizeLine_eq]; omega) (Nat.zero_le _))
  refine wpAny_bind (seqEpoch_at ho1 rfl ?_)
  refine wpAny_bind (wpAny_newTuple ?_ (by show vs.length ≤ _; rw [sizeLine_eq]; omega))
  refine wpAny_bind (wpAny_newList ?_ (Nat.zero_le _))
  refine wpAny_holding ?_
  show wpAny (model prog w) A _ P E { s with heap := ((s.heap.update D (Obj.mapSeq fun _ => (#[] : Array Value))).push (seqObj "tuple" vs.toArray 0)).push (seqObj "list" #[] 0) }
  dsimp only
  have hn2 : vs.toArray.size < 2 := by rw [List.size_toArray]; exact h1
  rw [if_pos hn2, if_pos hn2]
  refine wpAny_bind (wpAny_pure ?_)
  rw [StateT.run_pure]
  refine wpAny_bind (wpAny_pure ?_)
  dsimp only
  have eo : (arrOf (SortSt.mk' general' (vs.toArray.zip vs.toArray) #[] 7 none)).map (·.2) = vs.toArray := by
    show (vs.toArray.zip vs.toArray).map (·.2) = vs.toArray
    apply Array.toList_inj.mp
    simp [List.map_snd_zip]
  rw [eo]
  refine wpAny_bind (seqEpoch_at ho3 rfl ?_)
  refine wpAny_bind (listUpdate_at ho3 rfl ?_ (Nat.zero_le _) (by rw [List.size_toArray, sizeLine_eq]; omega))
  simp only [bne_self_eq_false, Bool.false_eq_true, if_false]
  refine wpAny_pure (h _ c2 (kas_fr F3 s4 hDL hD0) fun p hp => ?_)
  rcases List.mem_cons.mp hp with rfl | hp
  · exact ⟨hc2, hDL, hD0⟩
  · exact ⟨(s4.2 p.1 (hna p hp)).trans (N2 p hp).1, (N2 p hp).2⟩
theorem key_one :
 ∀ {prog : Program} {w : World} {A : Around} {E : Value → Shared → Prop} {s : Shared} {h₀ : Heap} {L : Addr} {m : Str → Option Value} {news : List (Addr × Obj)} {D : Addr} {n : Nat} {v f : Value} {P : PySem.Fin → Shared → Prop}
 (F : Fr h₀ L s.heap m) (N : News h₀ L s.heap news) (ho : s.heap.get? D = some (seqObj "list" #[v] n)) (hDL : D ≠ L) (hD0 : h₀.get? D = none) (hna : ∀ p ∈ news, p.1 ≠ D) (h : ∀ kS e1 h', Fr h₀ L h' m → News h₀ L h' ((kS, seqObj "list" #[] 0) :: (D, seqObj "list" #[] e1) :: news) → D < kS → (∀ q ∈ news, q.1 < kS) →
      wpAny (model prog w) A (call f [v]) (fun _ s' => ∃ e2, Fr h₀ L s'.heap m ∧ News h₀ L s'.heap ((kS, seqObj "list" #[] e2) :: (D, seqObj "list" #[] e1) :: news) ∧ ∀ h'' c, Fr h₀ L h'' m → News h₀ L h'' ((D, listOf #[v] c) :: news) → P (.done (.ret .none)) { s' with heap := h'' }) (fun _ _ => False) { s with heap := h' }), wpAny (model prog w) A (ksk_tree D f false) P E s := by
  iterate 2 refine @Mine.pad _ ?_
  iterate 1 k_extra "pkG"
  iterate 7 k_extra "pk9"
  rename_i prog w A E s h₀ L m news D n v f P F N ho hDL hD0 hna h
  have hb := Heap.lt_size ho
  have s1 := Heap.SameBut.update s.heap D (Obj.mapSeq fun _ => (#[] : Array Value))
  obtain ⟨e1, ho1⟩ : ∃ e1, (s.heap.update D (Obj.mapSeq fun _ => (#[] : Array Value))).get? D = some (seqObj "list" #[] e1) := ⟨_, get?_update_seq ho fun _ => #[]⟩
  have F1 := kas_fr F s1 hDL hD0
  have N1 := kas_news N s1 hna
  have hkS : ((s.heap.update D (Obj.mapSeq fun _ => (#[] : Array Value))).push (seqObj "tuple" #[v] 0)).objs.size = s.heap.objs.size + 1 := by rw [size_push', Heap.size_update]
  have hLk : L < ((s.heap.update D (Obj.mapSeq fun _ => (#[] : Array Value))).push (seqObj "tuple" #[v] 0)).objs.size := (F1.push _).ns.lt
  unfold ksk_tree
  refine wpAny_bind (listItems_at ho rfl ?_)
  refine wpAny_bind (listUpdate_at ho rfl ?_ (by rw [sizeLine_eq]; simp) (Nat.zero_le _))
  refine wpAny_bind (seqEpoch_at ho1 rfl ?_)
  refine wpAny_bind (wpAny_newTuple ?_ (by rw [sizeLine_eq]; simp))
  refine wpAny_bind (wpAny_newList ?_ (Nat.zero_le _))
  refine wpAny_holding ?_
  have H := h ((s.heap.update D (Obj.mapSeq fun _ => (#[] : Array Value))).push (seqObj "tuple" #[v] 0)).objs.size e1 (((s.heap.update D (Obj.mapSeq fun _ => (#[] : Array Value))).push (seqObj "tuple" #[v] 0)).push (seqObj "list" #[] 0)) ((F1.push _).push _) (fun p hp => ?_) (by rw [hkS]; exact Nat.lt_succ_of_lt hb) fun q hq => by rw [hkS]; exact Nat.lt_succ_of_lt (Heap.lt_size (N q hq).1)
  · unfold ksk_rest
    refine wpAny_bind (wpAny_rule ?_)
    show wpAny _ _ (forIn #[v] _ _ >>= _) _ _ _
    rw [List.forIn_toArray (l := [v]), List.forIn_cons]
    refine wpAny_bind (wpAny_bind (wpAny_bind (wpAny_attempt (wpAny_mono H (fun k s' hk => ?_) fun _ _ hF => hF.elim))))
    refine Classical.byContradiction fun ng9 => ?_
    obtain ⟨e2, F2, N2, kk⟩ := hk
    refine ng9 ?_
    clear ng9
    have nk := N2 _ (.head _)
    have nD := N2 _ (.tail _ (.head _))
    have sk := Heap.SameBut.update s'.heap ((s.heap.update D (Obj.mapSeq fun _ => (#[] : Array Value))).push (seqObj "tuple" #[v] 0)).objs.size (Obj.mapSeq (·.push k))
    obtain ⟨c2, hc2⟩ := (⟨_, get?_update_seq nk.1 (·.push k)⟩ : ∃ c2, (s'.heap.update ((s.heap.update D (Obj.mapSeq fun _ => (#[] : Array Value))).push (seqObj "tuple" #[v] 0)).objs.size (Obj.mapSeq (·.push k))).get? ((s.heap.update D (Obj.mapSeq fun _ => (#[] : Array Value))).push (seqObj "tuple" #[v] 0)).objs.size = some (seqObj "list" #[k] c2))
    try dsimp only
    refine wpAny_bind (listUpdate_at nk.1 rfl ?_ (Nat.zero_le _) (by rw [sizeLine_eq]; simp))
    refine wpAny_pure ?_
    try dsimp only
    rw [List.forIn_nil]
    refine wpAny_pure ?_
    refine wpAny_bind (listItems_at hc2 rfl ?_)
    unfold ksk_end
    try dsimp only
    simp only [Bool.false_eq_true, if_false]
    rw [if_pos (by simp), if_pos (by simp)]
    refine wpAny_bind (wpAny_pure ?_)
    rw [StateT.run_pure]
    refine wpAny_bind (wpAny_pure ?_)
    have x1 : ∀ p ∈ (D, seqObj "list" #[] e1) :: news, p.1 ≠ ((s.heap.update D (Obj.mapSeq fun _ => (#[] : Array Value))).push (seqObj "tuple" #[v] 0)).objs.size := fun p hp => by
      rw [hkS]
      rcases List.mem_cons.mp hp with rfl | hp
      · exact Nat.ne_of_lt (Nat.lt_succ_of_lt hb)
      · exact Nat.ne_of_lt (Nat.lt_succ_of_lt (Heap.lt_size (N p hp).1))
    refine kat_tail (h₀ := h₀) (L := L) (m := m) (ks := [k]) (e := c2) (out := [v]) (by show (#[k].zip #[v]).map (·.2) = #[v]; simp) (by simp) (by simp) rfl ?_
    refine KatFin.intro (kas_fr F2 sk nk.2.1 nk.2.2) (news := (_, seqObj "list" #[k] c2) :: (D, seqObj "list" #[] e1) :: news) (fun p hp => ?_) (UpdF.head x1) fun h6 c6 F6 N6 => KasFin.intro F6 N6 (UpdF.tail (by rw [hkS]; exact Nat.ne_of_gt (Nat.lt_succ_of_lt hb)) (UpdF.head hna)) fun h7 c7 F7 N7 => kk h7 c7 F7 fun p hp => N7 p (.tail _ hp)
    rcases List.mem_cons.mp hp with rfl | hp
    · exact ⟨hc2, nk.2⟩
    · exact ⟨(sk.2 p.1 (x1 p hp)).trans (N2 p (.tail _ hp)).1, (N2 p (.tail _ hp)).2⟩
  · rcases List.mem_cons.mp hp with rfl | hp
    · exact ⟨Heap.get?_push_size _ rfl, Nat.ne_of_gt hLk, Heap.get?_none_of_le (Nat.le_trans F.above (Nat.le_of_lt hLk))⟩
    · rcases List.mem_cons.mp hp with rfl | hp
      · exact ⟨Heap.get?_push_of_some _ (Heap.get?_push_of_some _ ho1), hDL, hD0⟩
      · exact ⟨Heap.get?_push_of_some _ (Heap.get?_push_of_some _ (N1 p hp).1), (N1 p hp).2⟩
end
end Mine
end
open PySem PySem.W PyProof.Rows in
example : Mine.RS := by intro M A Q E s h; w_top off; first | walk1 | skip; all_goals first | exact h | exact wpAny_pure h
section
open PySem PySem.W PyProof.Rows PySem.W.X PySem.Calls
set_option maxHeartbeats 4000000
namespace Mine
theorem map_getD_range {α : Type} (d : α) : ∀ (l : List α), (List.range l.length).map (fun i => l.getD i d) = l := fun l => by
  apply List.ext_getElem?
  intro i
  simp only [List.getElem?_map, List.getElem?_range, List.getD_eq_getElem?_getD]
  by_cases h : i < l.length
  · rw [List.getElem?_range h]; simp [h]
  · rw [List.getElem?_eq_none (by rw [List.length_range]; omega), List.getElem?_eq_none (by omega)]; rfl
theorem Arr.perm_map {α : Type} {q : Array Nat} {l : List α} (h : Arr l.length q) (d : α) : (q.toList.map fun i => l.getD i d).Perm l := by
  have hl : q.toList.Perm (List.range l.length) := by simpa using Array.perm_iff_toList_perm.mp h.perm
  have := hl.map fun i => l.getD i d
  rwa [map_getD_range] at this
theorem Arr.strs {q : Array Nat} {vs : List Value} {ss : List Str} (h : Arr ss.length q) (hv : StrsAre vs ss) : StrsAre (q.toList.map fun i => vs.getD i Value.none) (q.toList.map fun i => ss.getD i Str.empty) := by
  have go : ∀ l : List Nat, (∀ i ∈ l, i < ss.length) → StrsAre (l.map fun i => vs.getD i Value.none) (l.map fun i => ss.getD i Str.empty) := by
    intro l
    induction l with
    | nil => intro _; exact .nil
    | cons i l ih =>
      intro hi
      obtain ⟨t, ht⟩ := StrsAre.at hv (j := i) (y := ss.getD i Str.empty) (by have := hi i (.head _); simp [List.getD_eq_getElem?_getD, this])
      have : vs.getD i Value.none = .str (ss.getD i Str.empty) t := by rw [List.getD_eq_getElem?_getD, ht]; rfl
      rw [List.map_cons, List.map_cons, this]
      exact .cons _ _ (ih fun j hj => hi j (.tail _ hj))
  refine go _ fun i hi => ?_
  have hl : q.toList.Perm (List.range ss.length) := by simpa using Array.perm_iff_toList_perm.mp h.perm
  simpa using hl.mem_iff.mp hi
theorem UpTo.pairwise {r : Nat → Nat} {q : Array Nat} {n : Nat} {α : Type} {R : α → α → Prop} {f : Nat → α} (hq : Arr n q) (hu : UpTo r q n) (hR : ∀ i j, i < n → j < n → r i < r j → R (f i) (f j)) : (q.toList.map f).Pairwise R := by
  rw [List.pairwise_map, List.pairwise_iff_getElem]
  intro i j hi hj hij
  have hs : q.toList.length = n := by simpa using hq.size
  have e : ∀ k (hk : k < q.toList.length), q.getD k 0 = q.toList[k] := fun k hk => by
    have : k < q.size := by simpa using hk
    simp [Array.getD, this]
  have h1 := hu i j hij (by omega)
  have b1 := hq.lt i (by omega)
  have b2 := hq.lt j (by omega)
  rw [e i hi] at h1 b1
  rw [e j hj] at h1 b2
  exact hR _ _ b1 b2 h1
theorem ltT_tri {x y : Str} (h : ¬ ltT x y) (hne : x ≠ y) : ltT y x := by
  have h1 : y.cps.toList ≤ x.cps.toList := List.not_lt.mp h
  by_cases q : ltT y x
  · exact q
  · have h2 : x.cps.toList ≤ y.cps.toList := List.not_lt.mp q
    exact absurd (by have := List.le_antisymm h2 h1; cases x; cases y; simp at this ⊢; exact this) hne
noncomputable def rkS (ss : List Str) (i : Nat) : Nat := (ss.filter fun y => decide (ltT y (ss.getD i Str.empty))).length
theorem filter_lt {α : Type} (p q : α → Bool) : ∀ (l : List α), (∀ x ∈ l, p x = true → q x = true) → ∀ a ∈ l, p a = false → q a = true → (l.filter p).length < (l.filter q).length
  | [], _, a, ha, _, _ => (nomatch ha)
  | x :: l, h, a, ha, hp, hq => by
    have hle : ∀ l' : List α, (∀ x ∈ l', p x = true → q x = true) → (l'.filter p).length ≤ (l'.filter q).length := by
      intro l'
      induction l' with
      | nil => intro _; exact Nat.le_refl _
      | cons y l' ih =>
        intro hy
        have := ih fun z hz => hy z (.tail _ hz)
        by_cases c : p y = true
        · rw [List.filter_cons_of_pos c, List.filter_cons_of_pos (hy y (.head _) c)]; simpa using this
        · rw [List.filter_cons_of_neg c]
          by_cases c2 : q y = true
          · rw [List.filter_cons_of_pos c2]; exact Nat.le_succ_of_le this
          · rw [List.filter_cons_of_neg c2]; exact this
    rcases List.mem_cons.mp ha with rfl | ha
    · rw [List.filter_cons_of_neg (by rw [hp]; simp), List.filter_cons_of_pos hq]
      exact Nat.lt_succ_of_le (hle l fun z hz => h z (.tail _ hz))
    · have := filter_lt p q l (fun z hz => h z (.tail _ hz)) a ha hp hq
      by_cases c : p x = true
      · rw [List.filter_cons_of_pos c, List.filter_cons_of_pos (h x (.head _) c)]; simpa using this
      · rw [List.filter_cons_of_neg c]
        by_cases c2 : q x = true
        · rw [List.filter_cons_of_pos c2]; exact Nat.lt_succ_of_lt this
        · rw [List.filter_cons_of_neg c2]; exact this
theorem rkS_lt {ss : List Str} {i j : Nat} (hi : i < ss.length) (_hj : j < ss.length) (h : ltT (ss.getD i Str.empty) (ss.getD j Str.empty)) : rkS ss i < rkS ss j := by
  refine filter_lt _ _ ss (fun x _ hx => decide_eq_true (ltT_trans (of_decide_eq_true hx) h)) (ss.getD i Str.empty) (by simp [List.getD_eq_getElem?_getD, hi]) (decide_eq_false (ltT_irr _)) (decide_eq_true h)
theorem getD_inj {ss : List Str} (hnd : ss.Nodup) {i j : Nat} (hi : i < ss.length) (hj : j < ss.length) (h : ss.getD i Str.empty = ss.getD j Str.empty) : i = j := by
  simp only [List.getD_eq_getElem?_getD, List.getElem?_eq_getElem hi, List.getElem?_eq_getElem hj, Option.getD_some] at h
  exact (List.getElem_inj hnd).mp h
theorem rkS_iff {ss : List Str} (hnd : ss.Nodup) {i j : Nat} (hi : i < ss.length) (hj : j < ss.length) : ltT (ss.getD i Str.empty) (ss.getD j Str.empty) ↔ rkS ss i < rkS ss j := by
  refine ⟨rkS_lt hi hj, fun h => ?_⟩
  by_cases q : ltT (ss.getD i Str.empty) (ss.getD j Str.empty)
  · exact q
  · by_cases e : i = j
    · subst e; exact absurd h (Nat.lt_irrefl _)
    · exact absurd (rkS_lt hj hi (ltT_tri q fun z => e (getD_inj hnd hi hj z))) (by omega)
theorem rkS_inj {ss : List Str} (hnd : ss.Nodup) (i j : Nat) (hi : i < ss.length) (hj : j < ss.length) (h : rkS ss i = rkS ss j) : i = j := by
  by_cases e : i = j
  · exact e
  · by_cases q : ltT (ss.getD i Str.empty) (ss.getD j Str.empty)
    · exact absurd (rkS_lt hi hj q) (by omega)
    · exact absurd (rkS_lt hj hi (ltT_tri q fun z => e (getD_inj hnd hi hj z))) (by omega)
section
variable {prog : Program} {w : World} {A : Around} {E : Value → Shared → Prop} {s : Shared} {h₀ : Heap} {L : Addr} {m : Str → Option Value} {news : List (Addr × Obj)} {vs : List Value}
theorem sortS :
 ∀ {prog : Program} {w : World} {A : Around} {E : Value → Shared → Prop} {s : Shared} {h₀ : Heap} {L : Addr} {m : Str → Option Value} {news : List (Addr × Obj)} {vs : List Value} {l : Addr} {ss : List Str} {nl : Nat} {Q : Value → Shared → Prop}
 (F : Fr h₀ L s.heap m) (N : News h₀ L s.heap news) (hl : (l, listOf vs.toArray nl) ∈ news) (hv : StrsAre vs ss) (hnd : ss.Nodup) (h64 : ss.length < 64) (hret : ∀ D c h' out os, Fr h₀ L h' m → News h₀ L h' ((D, listOf out.toArray c) :: news) → (∀ q ∈ news, q.1 < D) → StrsAre out os → os.Perm ss → os.Pairwise ltT → Q (.ref D) { s with heap := h' }), wpAny (model prog w) A (call (.builtin "sorted") [.ref l]) Q E s := by
  iterate 2 refine @Mine.pad _ ?_
  iterate 1 k_extra "pkG"
  iterate 7 k_extra "pk9"
  rename_i prog w A E s h₀ L m news vs l ss nl Q F N hl hv hnd h64 hret
  have hlen : vs.length = ss.length := hv.length
  by_cases h2 : 2 ≤ ss.length
  · refine kas_sorted (T := .type "str") F N (N.isList hl) (by rw [hlen]; exact h2) (by rw [hlen]; exact h64) (fun h _ _ v hvm => ?_) (by simp) ?_
    · refine Classical.byContradiction fun ng9 => ?_
      obtain ⟨i, hi, rfl⟩ := List.getElem_of_mem hvm
      refine ng9 ?_
      clear ng9
      refine Classical.byContradiction fun ng9 => ?_
      obtain ⟨x, u, e, _⟩ := strs_getV hv (i := i) (v := vs[i]) (by simp [hi])
      refine ng9 ?_
      clear ng9
      rw [e]
      exact Looks.of_pure rfl
    · intro D e1 h' F' N' l1
      refine Classical.byContradiction fun ng9 => ?_
      obtain ⟨q, hq1, hq2, hq3, hq4⟩ := ev_sort (rkS ss) (rkS_inj hnd) (by omega : 1 ≤ ss.length)
      refine ng9 ?_
      clear ng9
      rw [hlen]
      refine wp_evK (n := ss.length) (lt := ltR (rkS ss)) (fun s5 => s5 = { s with heap := h' }) ?_ (kas_sort ss.length) _ hq4 rfl ?_
      · rintro i j _ C hi hj rfl hC
        obtain ⟨t, ht⟩ := StrsAre.at hv (j := i) (y := ss.getD i Str.empty) (by simp [List.getD_eq_getElem?_getD, hi])
        obtain ⟨u, hu⟩ := StrsAre.at hv (j := j) (y := ss.getD j Str.empty) (by simp [List.getD_eq_getElem?_getD, hj])
        unfold kas_ask
        rw [show vs.getD i Value.none = .str (ss.getD i Str.empty) t by rw [List.getD_eq_getElem?_getD, ht]; rfl, show vs.getD j Value.none = .str (ss.getD j Str.empty) u by rw [List.getD_eq_getElem?_getD, hu]; rfl]
        refine kas_lt_str ?_
        have : decide ((ss.getD i Str.empty).cps.toList < (ss.getD j Str.empty).cps.toList) = ltR (rkS ss) i j := by
          have := rkS_iff hnd hi hj
          exact decide_eq_decide.mpr this
        rw [this]
        exact hC _ rfl
      · rintro _ rfl
        rw [hq1]
        refine KasFin.intro F' N' (UpdF.head fun p hp => Nat.ne_of_lt (l1 p hp)) fun h7 c7 F7 N7 => ?_
        refine hret D c7 h7 _ (q.toList.map fun i => ss.getD i Str.empty) F7 N7 l1 (hq2.strs hv) (hq2.perm_map _) ?_
        exact UpTo.pairwise hq2 hq3 fun i j hi hj h => (rkS_iff hnd hi hj).mpr h
  · refine sorted_open F N (N.isList hl) (by rw [hlen]; exact h64) (args_sorted1 _) (fun x => args_list_sort (.ref x)) fun D h' F' N' hD hDL hD0 l1 => ?_
    refine lsort_small F' N' hD hDL hD0 (fun p hp => Nat.ne_of_lt (l1 p hp)) (by rw [hlen]; omega) fun h7 c7 F7 N7 => ⟨rfl, ?_⟩
    refine hret D c7 h7 vs ss F7 N7 l1 hv (List.Perm.refl _) ?_
    match ss, h2 with
    | [], _ => exact .nil
    | [x], _ => exact List.pairwise_singleton _ _
    | _ :: _ :: _, h2 => exact absurd (by simp) h2
end
section
variable {w : World} {t : Nat} {Kc ns bt sl fi fl fg fe fle fge st md ci cl cell q1 q2 q3 q4 q5 q6 r1 r2 r3 r4 r5 : Addr}
variable {dp un : Nat} {gd : Option (List Code)} {env : Env} {outer : List Env} {A₀ : Around} {base h₀ : Heap} {L : Addr} {m : Str → Option Value} {s : Shared} {news : List (Addr × Obj)} {p : Program} {loose : List Str} {mean : ExcName → Option Value} {mg mb : Str → Option Value}
theorem single {α : Type} {l : List α} (h1 : 1 ≤ l.length) (h2 : ¬ 2 ≤ l.length) : ∃ x, l = [x] := by
  cases l with
  | nil => exact absurd h1 (by simp)
  | cons x l => cases l with
    | nil => exact ⟨x, rfl⟩
    | cons y l => exact absurd (by simp) h2
theorem strs_one {vs : List Value} {x : Str} (h : StrsAre vs [x]) : ∃ u, vs = [.str x u] := by
  cases h with | cons _ u h => cases h; exact ⟨u, rfl⟩
theorem ints_one {vs : List Value} {x : Int} (h : IntsAre vs [x]) : ∃ u, vs = [.int x u] := by
  cases h with | cons _ u h => cases h; exact ⟨u, rfl⟩
theorem sortK {l : Addr} {vs : List Value} {ss : List Str} {nl : Nat} {Q E : Value → Shared → Prop} (r : Nat → Nat) (B : Below A₀ base outer h₀) (F : Fr h₀ L s.heap m) (N : News h₀ L s.heap news) (hf : env.frame = some L) (hke : env.scope.kind = .function) (hdp : dp + 520 < recursionLimit) (hu : un + 3000 < cLine)
    (Kn : ∀ h, Fr h₀ L h m → News h₀ L h news → KnowK w t Kc ns bt sl fi fl fg fe fle fge st md ci cl cell q1 q2 q3 q4 q5 q6 r1 r2 r3 r4 r5 p loose mean mg mb h)
    (hl : (l, listOf vs.toArray nl) ∈ news) (hv : StrsAre vs ss) (hs : ∀ y ∈ ss, y.length ≤ 300 ∧ y ≠ Str.ofString "<string>") (h1 : 1 ≤ ss.length) (h64 : ss.length < 64)
    (hr : ∀ i j, i < ss.length → j < ss.length → (inF (ss.getD i Str.empty) (ss.getD j Str.empty) < 0 ↔ r i < r j)) (hinj : ∀ i j, i < ss.length → j < ss.length → r i = r j → i = j)
    (hret : ∀ D c h' tk' out os q, Fr h₀ L h' m → News h₀ L h' ((D, listOf out.toArray c) :: news) → (∀ q ∈ news, q.1 < D) → StrsAre out os → os = q.toList.map (fun i => ss.getD i Str.empty) → Arr ss.length q → UpTo r q ss.length → Q (.ref D) ⟨h', s.gens, s.drawn, tk', s.os⟩) :
    wpAny (model PySem.Challenge.rw_of0013_01.prog w) (aTop dp un gd (env :: outer)) (call (.builtin "sorted") [.ref l] [(Str.ofString "key", .ref Kc)]) Q E s := by
  by_cases h2 : 2 ≤ ss.length
  · exact sortK2 r B F N hf hke hdp hu Kn hl hv hs h2 h64 hr hinj fun D c h' tk' q F' N' l1 ha hup => hret D c h' tk' _ _ q F' N' l1 (ha.strs hv) rfl ha hup
  · obtain ⟨x, ex⟩ := single h1 h2
    subst ex
    obtain ⟨u, eu⟩ := strs_one hv
    subst eu
    refine sorted_open F N (N.isList hl) (by simp) (by ksk_a1) (by intro _; ksk_a2) fun D h' F' N' hD hDL hD0 l1 => ?_
    rw [ksk_t1]
    refine key_one F' N' hD hDL hD0 (fun p hp => Nat.ne_of_lt (l1 p hp)) fun kS e1 h3 F3 N3 l2 l3 => ?_
    have I := Kn h3 F3 fun q hq => N3 q (.tail _ (.tail _ hq))
    refine k_new (t := t) I.k I.x (kTopRoom hdp hu) ?_
    intro x0 dct h4 tk4 keep _ _ _
    refine ⟨0, F3.keeps keep, N3.grown keep, fun h5 c5 F5 N5 => ⟨rfl, ?_⟩⟩
    refine hret D c5 h5 tk4 _ [x] #[0] F5 N5 l1 (.cons x u .nil) rfl (Arr.of_perm (Array.Perm.refl _)) ?_
    intro i j hij hj
    exact absurd hj (by simp; omega)
end
end Mine
end
open PySem PySem.W PyProof.Rows in
example : Mine.RS := by intro M A Q E s h; w_top off; first | walk1 | skip; all_goals first | exact h | exact wpAny_pure h
section
open PySem PySem.W PyProof.Rows PySem.W.X PySem.Calls
set_option maxHeartbeats 4000000
namespace Mine
section
variable {prog : Program} {w : World} {A : Around} {E : Value → Shared → Prop} {s : Shared} {h₀ : Heap} {L : Addr} {m : Str → Option Value} {news : List (Addr × Obj)} {vs : List Value}
theorem kas_lt_lists {l b : Addr} {v1 v2 : List Value} {s1 s2 : List Str} {n n2 : Nat} {Q : Bool → Shared → Prop} (hu : A.units < cLine) (hl : s.heap.get? l = some (lsO v1 n)) (hb : s.heap.get? b = some (lsO v2 n2)) (h1 : StrsAre v1 s1) (h2 : StrsAre v2 s2)
    (h : Q (lexLt s1 s2) s) : wpAny (model prog w) A (keyLt' oneType' (.ref l) (.ref b)) Q E s := by
  rw [keyLt'_oneType, oneLt'_eq]
  simp only [if_true]
  refine wpAny_bind (wpAny_cRoomFor hu ?_)
  refine wpAny_bind (wpAny_callSpecialIfBound?_slot (lsO_type hl) PySem.F.slot_list_lt (call_meets PySem.F.slot_list_lt (lsO_type hl) PySem.F.entry_list_lt (PySem.F.args_list_lt_2 _ _) (list_lt l b v1 v2 s1 s2 h1 h2 n n2) ⟨hl, hb, ?_⟩))
  exact wpAny_truthy_bool h
structure LKeys (P : Addr → Obj → Prop) (ks : List Value) (ds : List (List Str)) : Prop where
  len : ks.length = ds.length
  at' : ∀ i, i < ds.length → ∃ x ys c, ks.getD i Value.none = .ref x ∧ P x (lsO ys c) ∧ StrsAre ys (ds.getD i [])
theorem LKeys.mono {P P' : Addr → Obj → Prop} {ks : List Value} {ds : List (List Str)} (K : LKeys P ks ds) (k : ∀ b o, P b o → P' b o) : LKeys P' ks ds :=
  ⟨K.len, fun i hi => by obtain ⟨x, d, u, e1, e2, e3⟩ := K.at' i hi; exact ⟨x, d, u, e1, k _ _ e2, e3⟩⟩
theorem LKeys.nil {P : Addr → Obj → Prop} : LKeys P [] [] := ⟨rfl, fun i hi => absurd hi (Nat.not_lt_zero _)⟩
theorem LKeys.snoc {P : Addr → Obj → Prop} {ks : List Value} {ds : List (List Str)} {x : Addr} {ys : List Value} {c : Nat} {d : List Str} (K : LKeys P ks ds) (hx : P x (lsO ys c)) (hy : StrsAre ys d) : LKeys P (ks ++ [.ref x]) (ds ++ [d]) := by
  refine ⟨by simp [K.len], fun i hi => ?_⟩
  rw [List.length_append, List.length_singleton] at hi
  by_cases q : i < ds.length
  · refine Classical.byContradiction fun ng9 => ?_
    obtain ⟨x', d', u', e1, e2, e3⟩ := K.at' i q
    refine ng9 ?_
    clear ng9
    refine ⟨x', d', u', ?_, e2, ?_⟩
    · rw [List.getD_eq_getElem?_getD] at e1 ⊢; rw [List.getElem?_append_left (by rw [K.len]; exact q)]; exact e1
    · rw [List.getD_eq_getElem?_getD] at e3 ⊢; rw [List.getElem?_append_left q]; exact e3
  · have : i = ds.length := by omega
    subst this
    refine ⟨x, ys, c, ?_, hx, ?_⟩
    · rw [← K.len]; simp
    · simpa using hy
noncomputable def KeyCall (prog : Program) (w : World) (A : Around) (h₀ : Heap) (L : Addr) (m : Str → Option Value) (news : List (Addr × Obj)) (f : Value) (key : Int → List Str) (ok : Int → Prop) : Prop :=
  ∀ (h : Heap) g d tk os (z : Int) tz, ok z → Fr h₀ L h m → News h₀ L h news → wpAny (model prog w) A (call f [.int z tz]) (fun k s' => ∃ x ys c h' tk', k = .ref x ∧ s' = ⟨h', g, d, tk', os⟩ ∧ (∀ b o, h.get? b = some o → h'.get? b = some o) ∧ h.get? x = none ∧ h'.get? x = some (lsO ys c) ∧ StrsAre ys (key z)) (fun _ _ => False) ⟨h, g, d, tk, os⟩
theorem lkeys_go {kS D : Addr} {e1 : Nat} {f : Value} {key : Int → List Str} {ok : Int → Prop} {Fin : List Value → Nat → Shared → Prop} (hc : KeyCall prog w A h₀ L m news f key ok) (hD : D < kS) (hN : ∀ q ∈ news, q.1 < kS) :
    ∀ (rv : List Value) (zs : List Int), IntsAre rv zs → (∀ z ∈ zs, ok z) → ∀ (ks : List Value) (dn : List (List Str)) (e : Nat) (h : Heap) (tk : Nat) (ins : List (Addr × Obj)), Fr h₀ L h m → News h₀ L h ((kS, seqObj "list" (List.toArray ks) e) :: (D, seqObj "list" #[] e1) :: (ins ++ news)) → (∀ q ∈ ins, q.1 ≠ kS ∧ q.1 ≠ D) → LKeys (fun x o => (x, o) ∈ ins) ks dn →
      (∀ ks e h tk ins, Fr h₀ L h m → News h₀ L h ((kS, seqObj "list" (List.toArray ks) e) :: (D, seqObj "list" #[] e1) :: (ins ++ news)) → (∀ q ∈ ins, q.1 ≠ kS ∧ q.1 ≠ D) → LKeys (fun x o => (x, o) ∈ ins) ks (dn ++ zs.map key) → Fin ks e ⟨h, s.gens, s.drawn, tk, s.os⟩) →
      KatKeys prog w A h₀ L m kS f Fin rv ks e ⟨h, s.gens, s.drawn, tk, s.os⟩
  | _, _, .nil, _, ks, dn, e, h, tk, ins, F, N, hi, K, fin => KatKeys.nil (fin ks e h tk ins F N hi (by rw [List.map_nil, List.append_nil]; exact K))
  | _, _, .cons z tz hr, hok, ks, dn, e, h, tk, ins, F, N, hi, K, fin => by
    refine KatKeys.cons ?_
    refine wpAny_mono (hc h s.gens s.drawn tk s.os z tz (hok z (.head _)) F (fun q hq => N q (.tail _ (.tail _ (List.mem_append_right _ hq))))) (fun k s' hk => ?_) fun _ _ x => x
    refine Classical.byContradiction fun ng9 => ?_
    obtain ⟨x, ys, c, h', tk', rfl, rfl, keep, x1, hx, hy⟩ := hk
    refine ng9 ?_
    clear ng9
    have N' : News h₀ L h' ((kS, seqObj "list" (List.toArray ks) e) :: (D, seqObj "list" #[] e1) :: (((x, lsO ys c) :: ins) ++ news)) := fun q hq => by
      rcases List.mem_cons.mp hq with rfl | hq
      · exact ⟨keep _ _ (N _ (.head _)).1, (N _ (.head _)).2⟩
      · rcases List.mem_cons.mp hq with rfl | hq
        · exact ⟨keep _ _ (N _ (.tail _ (.head _))).1, (N _ (.tail _ (.head _))).2⟩
        · rcases List.mem_cons.mp hq with rfl | hq
          · refine ⟨hx, fun q => ?_, ?_⟩
            · refine Classical.byContradiction fun ng9 => ?_
              obtain ⟨oL, _, _, e1, _⟩ := F.ns
              refine ng9 ?_
              clear ng9
              have e2 := x1
              rw [show x = L from q, e1] at e2; cases e2
            · cases z : h₀.get? x with
              | none => rfl
              | some o => rw [F.keep _ _ z] at x1; cases x1
          · exact ⟨keep _ _ (N _ (.tail _ (.tail _ hq))).1, (N _ (.tail _ (.tail _ hq))).2⟩
    have hi' : ∀ q ∈ (x, lsO ys c) :: ins, q.1 ≠ kS ∧ q.1 ≠ D := fun q hq => by
      rcases List.mem_cons.mp hq with rfl | hq
      · refine ⟨fun q => ?_, fun q => ?_⟩
        · have e1 := (N _ (.head _)).1
          have e2 := x1
          rw [show x = kS from q] at e2
          rw [show h.get? kS = _ from e1] at e2; cases e2
        · have e1 := (N _ (.tail _ (.head _))).1
          have e2 := x1
          rw [show x = D from q] at e2
          rw [show h.get? D = _ from e1] at e2; cases e2
      · exact hi q hq
    refine KatBack.intro (F.keeps keep) N' (UpdF.head fun q hq => ?_) fun h2 c2 F2 N2 => ?_
    · rcases List.mem_cons.mp hq with rfl | hq
      · exact Nat.ne_of_lt hD
      · rcases List.mem_append.mp hq with hq | hq
        · exact (hi' q hq).1
        · exact Nat.ne_of_lt (hN q hq)
    · refine lkeys_go hc hD hN _ _ hr (fun z hz => hok z (.tail _ hz)) (ks ++ [.ref x]) (dn ++ [key z]) c2 h2 tk' ((x, lsO ys c) :: ins) F2 N2 hi' (LKeys.snoc (P := fun a o => (a, o) ∈ (x, lsO ys c) :: ins) (K.mono fun b o hb => List.mem_cons_of_mem _ hb) (List.mem_cons_self ..) hy) ?_
      intro ks' e' h3 tk3 ins' F3 N3 hi3 K3
      exact fin ks' e' h3 tk3 ins' F3 N3 hi3 (by rw [List.append_assoc] at K3; exact K3)
theorem sortL {D : Addr} {n : Nat} {f : Value} {key : Int → List Str} {ok : Int → Prop} {zs : List Int} {P : PySem.Fin → Shared → Prop} (r : Nat → Nat) (F : Fr h₀ L s.heap m) (N : News h₀ L s.heap news) (ho : s.heap.get? D = some (seqObj "list" vs.toArray n)) (hDL : D ≠ L) (hD0 : h₀.get? D = none) (hna : ∀ p ∈ news, p.1 ≠ D)
    (hu : A.units < cLine) (hv : IntsAre vs zs) (hok : ∀ z ∈ zs, ok z) (h1 : 1 ≤ zs.length) (h64 : zs.length < 64) (hc : KeyCall prog w A h₀ L m news f key ok)
    (hr : ∀ i j, i < zs.length → j < zs.length → (lexLt (key (zs.getD i 0)) (key (zs.getD j 0)) = true ↔ r i < r j)) (hinj : ∀ i j, i < zs.length → j < zs.length → r i = r j → i = j)
    (hret : ∀ c h' tk' q, Fr h₀ L h' m → News h₀ L h' ((D, listOf (List.toArray (q.toList.map fun i => vs.getD i Value.none)) c) :: news) → Arr zs.length q → UpTo r q zs.length → P (.done (.ret .none)) ⟨h', s.gens, s.drawn, tk', s.os⟩) :
    wpAny (model prog w) A (ksk_tree D f false) P E s := by
  have hlen : vs.length = zs.length := hv.length
  by_cases h2 : 2 ≤ zs.length
  · refine kat_keyed (b := false) F N ho hDL hD0 hna (by rw [hlen]; exact h2) (by rw [hlen]; exact h64) ?_
    intro kS e1 h' F' N' l0 l1
    refine lkeys_go hc l0 l1 vs zs hv hok [] [] 0 h' s.toks [] F' N' (fun q hq => (nomatch hq)) LKeys.nil ?_
    intro ks e h3 tk3 ins F3 N3 hi3 K3
    rw [List.nil_append] at K3
    have hlk : (zs.map key).length = zs.length := List.length_map _
    have hks : ∀ i, i < zs.length → ∃ x ys c, ks.getD i Value.none = .ref x ∧ h3.get? x = some (lsO ys c) ∧ StrsAre ys (key (zs.getD i 0)) := fun i hi => by
      obtain ⟨x, ys, c, g1, g2, g3⟩ := K3.at' i (by rw [hlk]; exact hi)
      refine ⟨x, ys, c, g1, (N3 (x, lsO ys c) (.tail _ (.tail _ (List.mem_append_left _ g2)))).1, ?_⟩
      have : (zs.map key).getD i [] = key (zs.getD i 0) := by simp [List.getD_eq_getElem?_getD, hi]
      rw [← this]; exact g3
    refine kas_kind (T := .type "list") (by rw [K3.len, hlk]; exact h2) (fun v hv' => ?_) (by simp) (by simp) ?_
    · refine Classical.byContradiction fun ng9 => ?_
      obtain ⟨i, hi, rfl⟩ := List.getElem_of_mem hv'
      refine ng9 ?_
      clear ng9
      obtain ⟨x, ys, c, g1, g2, g3⟩ := hks i (by rw [← hlk, ← K3.len]; exact hi)
      have : ks[i] = .ref x := by rw [← g1]; simp [List.getD_eq_getElem?_getD, hi]
      rw [this]
      exact (show Looks _ h3 (typeOf (.ref x)) (lsO ys c).cls from (Looks.ld g2).andThen .now)
    · refine Classical.byContradiction fun ng9 => ?_
      obtain ⟨q, hq1, hq2, hq3, hq4⟩ := ev_sort r hinj (by omega : 1 ≤ zs.length)
      refine ng9 ?_
      clear ng9
      have eo : ∀ l : List Value, katRev false l = l := fun _ => rfl
      rw [hlen]
      simp only [eo]
      refine wp_evK (n := zs.length) (lt := ltR r) (fun s5 => s5 = ⟨h3, s.gens, s.drawn, tk3, s.os⟩) ?_ (kas_sort zs.length) _ hq4 rfl ?_
      · rintro i j _ C hi hj rfl hC
        refine Classical.byContradiction fun ng9 => ?_
        obtain ⟨x, ys, c, g1, g2, g3⟩ := hks i hi
        refine ng9 ?_
        clear ng9
        refine Classical.byContradiction fun ng9 => ?_
        obtain ⟨x', ys', c', g1', g2', g3'⟩ := hks j hj
        refine ng9 ?_
        clear ng9
        unfold kas_ask
        rw [g1, g1']
        refine kas_lt_lists hu g2 g2' g3 g3' ?_
        have : lexLt (key (zs.getD i 0)) (key (zs.getD j 0)) = ltR r i j := by
          have := hr i j hi hj
          cases z : lexLt (key (zs.getD i 0)) (key (zs.getD j 0)) with
          | true => exact (decide_eq_true (this.mp z)).symm
          | false => exact (decide_eq_false fun y => by have := this.mpr y; rw [z] at this; cases this).symm
        rw [this]
        exact hC _ rfl
      · rintro _ rfl
        rw [hq1]
        refine KatFin.intro F3 N3 (UpdF.head fun q hq => ?_) fun h6 c6 F6 N6 => KasFin.intro F6 N6 (UpdF.tail (Nat.ne_of_gt l0) (UpdF.head fun q hq => ?_)) fun h7 c7 F7 N7 => ?_
        · rcases List.mem_cons.mp hq with rfl | hq
          · exact Nat.ne_of_lt l0
          · rcases List.mem_append.mp hq with hq | hq
            · exact (hi3 q hq).1
            · exact Nat.ne_of_lt (l1 q hq)
        · rcases List.mem_append.mp hq with hq | hq
          · exact (hi3 q hq).2
          · exact hna q hq
        · refine hret c7 h7 tk3 q F7 (fun z hz => ?_) hq2 hq3
          rcases List.mem_cons.mp hz with rfl | hz
          · exact N7 _ (.tail _ (.head _))
          · exact N7 _ (.tail _ (.tail _ (List.mem_append_right _ hz)))
  · obtain ⟨z, ez⟩ := single h1 h2
    subst ez
    obtain ⟨tz, eu⟩ := ints_one hv
    subst eu
    refine key_one F N ho hDL hD0 hna fun kS e1 h3 F3 N3 l2 l3 => ?_
    refine wpAny_mono (hc h3 s.gens s.drawn s.toks s.os z tz (hok z (.head _)) F3 (fun q hq => N3 q (.tail _ (.tail _ hq)))) (fun k s' hk => ?_) fun _ _ x => x
    refine Classical.byContradiction fun ng9 => ?_
    obtain ⟨x, ys, c, h', tk', rfl, rfl, keep, x1, hx, hy⟩ := hk
    refine ng9 ?_
    clear ng9
    refine ⟨0, F3.keeps keep, N3.grown keep, fun h5 c5 F5 N5 => ?_⟩
    refine hret c5 h5 tk' #[0] F5 N5 (Arr.of_perm (Array.Perm.refl _)) ?_
    intro i j hij hj
    exact absurd hj (by simp; omega)
end
end Mine
end
section
open PySem PySem.W PyProof.Rows PySem.W.X PySem.Calls PySem.Spec PySem.SeqAt
set_option maxHeartbeats 4000000
namespace Mine
noncomputable def OkS (ss : List Str) : Prop := ∀ y ∈ ss, PyData.strOk y = true
theorem canLay_strs {ss : List Str} (h : OkS ss) : PyData.canLayAll0 (ss.map .str) = true := by
  rw [canLayAll_strs']; exact List.all_eq_true.mpr h
theorem eqvAll_strs : ∀ (a b : List Str), PyData.eqvAll (a.map .str) (b.map .str) = decide (a = b)
  | [], [] => by simp [PyData.eqvAll]
  | [], _ :: _ => by simp [PyData.eqvAll]
  | _ :: _, [] => by simp [PyData.eqvAll]
  | x :: a, y :: b => by
    rw [List.map_cons, List.map_cons, PyData.eqvAll, eqvAll_strs a b]
    simp only [PyData.eqv]
    by_cases h1 : x = y
    · subst h1; simp
    · simp [h1]
theorem canLay_ls {ss : List Str} (h : OkS ss) : (PyData.list (ss.map .str)).canLay0 = true := by
  simp only [PyData.canLay0]; exact canLay_strs h
theorem shaped_ls {ss : List Str} (h : OkS ss) : shaped (.list (ss.map .str)) = true := by
  unfold shaped
  rw [canLay_ls h]
  simp [PyData.depth, depthAll_strs']
theorem eqv_ls (a b : List Str) : PyData.eqv (.list (a.map .str)) (.list (b.map .str)) = decide (a = b) := by
  simp only [PyData.eqv]; exact eqvAll_strs a b
section
variable {prog : Program} {w : World} {A : Around} {E : Value → Shared → Prop} {s : Shared} {Q : Value → Shared → Prop}
theorem reads_ls {h : Heap} {l : Addr} {vs : List Value} {n : Nat} {ss : List Str} (hl : h.get? l = some (lsO vs n)) (hv : StrsAre vs ss) : Reads h (.ref l) (.list (ss.map .str)) [l] :=
  .list hl rfl rfl (by simpa using hv.reads h)
theorem eq_ls {a b : Addr} {v1 v2 : List Value} {n1 n2 : Nat} {s1 s2 : List Str} (h1 : s.heap.get? a = some (lsO v1 n1)) (h2 : s.heap.get? b = some (lsO v2 n2)) (a1 : StrsAre v1 s1) (a2 : StrsAre v2 s2) (o1 : OkS s1) (o2 : OkS s2) (hu : A.units + 64 < cLine)
    (h : Q (.bool (decide (s1 = s2))) s) : wpAny (model prog w) A (compareOp .Eq (.ref a) (.ref b)) Q E s :=
  eq_dataH (reads_ls h1 a1) (reads_ls h2 a2) (shaped_ls o1) (shaped_ls o2) hu (by rw [eqv_ls]; exact h)
theorem ne_ls {a b : Addr} {v1 v2 : List Value} {n1 n2 : Nat} {s1 s2 : List Str} (h1 : s.heap.get? a = some (lsO v1 n1)) (h2 : s.heap.get? b = some (lsO v2 n2)) (a1 : StrsAre v1 s1) (a2 : StrsAre v2 s2) (o1 : OkS s1) (o2 : OkS s2) (hu : A.units + 64 < cLine)
    (h : Q (.bool (!decide (s1 = s2))) s) : wpAny (model prog w) A (compareOp .NotEq (.ref a) (.ref b)) Q E s :=
  ne_dataH (reads_ls h1 a1) (reads_ls h2 a2) (shaped_ls o1) (shaped_ls o2) hu (by rw [eqv_ls]; exact h)
noncomputable def ListsAre (h : Heap) (vs : List Value) (dss : List (List Str)) : Prop := vs.length = dss.length ∧ ∀ i, i < dss.length → ∃ x ys c, vs.getD i Value.none = .ref x ∧ h.get? x = some (lsO ys c) ∧ StrsAre ys (dss.getD i [])
theorem reads_lists {h : Heap} : ∀ {vs : List Value} {dss : List (List Str)}, ListsAre h vs dss → ∃ as, ReadsAll h vs (dss.map fun ss => .list (ss.map .str)) as
  | [], [], _ => ⟨[], .nil⟩
  | [], _ :: _, h => absurd h.1 (by simp)
  | _ :: _, [], h => absurd h.1 (by simp)
  | v :: vs, ds :: dss, hh => by
    refine Classical.byContradiction fun ng9 => ?_
    obtain ⟨x, ys, c, e1, e2, e3⟩ := hh.2 0 (by simp)
    refine ng9 ?_
    clear ng9
    have e1' : v = .ref x := by simpa using e1
    have e3' : StrsAre ys ds := by simpa using e3
    obtain ⟨as, r⟩ := reads_lists (vs := vs) (dss := dss) ⟨by simpa using hh.1, fun i hi => by
      refine Classical.byContradiction fun ng9 => ?_
      obtain ⟨x, ys, c, g1, g2, g3⟩ := hh.2 (i + 1) (by simpa using hi)
      refine ng9 ?_
      clear ng9
      exact ⟨x, ys, c, by simpa using g1, g2, by simpa using g3⟩⟩
    rw [List.map_cons, e1']
    exact ⟨_, .cons (reads_ls e2 e3') r⟩
theorem canLay_lls : ∀ {dss : List (List Str)}, (∀ ds ∈ dss, OkS ds) → PyData.canLayAll0 (dss.map fun ss => .list (ss.map .str)) = true
  | [], _ => by simp [PyData.canLayAll0]
  | ds :: dss, h => by
    rw [List.map_cons]
    simp only [PyData.canLayAll0, canLay_ls (h ds (.head _)), canLay_lls fun z hz => h z (.tail _ hz), Bool.and_self]
theorem any_lls (d : List Str) : ∀ (dss : List (List Str)), (dss.map fun ss => PyData.list (ss.map .str)).any (fun y => PyData.eqv y (.list (d.map .str))) = decide (d ∈ dss)
  | [] => by simp
  | ds :: dss => by
    rw [List.map_cons, List.any_cons, any_lls d dss, eqv_ls]
    by_cases h1 : d = ds
    · subst h1; simp
    · have h2 : ds ≠ d := fun q => h1 q.symm
      simp [h1, h2]
theorem notin_lls {x c : Addr} {vx vc : List Value} {n1 n2 : Nat} {ds : List Str} {dss : List (List Str)} (hx : s.heap.get? x = some (lsO vx n1)) (ax : StrsAre vx ds) (hc : s.heap.get? c = some (lsO vc n2)) (ac : ListsAre s.heap vc dss) (ox : OkS ds) (oc : ∀ d ∈ dss, OkS d) (hu : A.units + 64 < cLine)
    (h : Q (.bool (!decide (ds ∈ dss))) s) : wpAny (model prog w) A (compareOp .NotIn (.ref x) (.ref c)) Q E s := by
  obtain ⟨as, r⟩ := reads_lists ac
  have rc : Reads s.heap (.ref c) (.list (dss.map fun ss => .list (ss.map .str))) (c :: as) := .list hc rfl rfl (by simpa using r)
  have hmin : min (PyData.depthAll (dss.map fun ss => PyData.list (ss.map .str))) (PyData.list (ds.map .str)).depth ≤ 1 := by
    refine Nat.le_trans (Nat.min_le_right _ _) ?_
    simp [PyData.depth, depthAll_strs']
  refine notIn_list_reads rc (reads_ls hx ax) (canLay_lls oc) (canLay_ls ox) (by omega) ?_
  rw [any_lls]; exact h
theorem reads_tup {h : Heap} {x a b : Addr} {v1 v2 : List Value} {n1 n2 : Nat} {s1 s2 : List Str} (hx : h.get? x = some { cls := .type "tuple", data := .seq #[.ref a, .ref b] 0 }) (h1 : h.get? a = some (lsO v1 n1)) (h2 : h.get? b = some (lsO v2 n2)) (a1 : StrsAre v1 s1) (a2 : StrsAre v2 s2) :
    Reads h (.ref x) (.tuple [.list (s1.map .str), .list (s2.map .str)]) ([a] ++ ([b] ++ [])) :=
  .tuple hx rfl rfl (.cons (reads_ls h1 a1) (.cons (reads_ls h2 a2) .nil))
theorem shaped_tup {s1 s2 : List Str} (o1 : OkS s1) (o2 : OkS s2) : shaped (.tuple [.list (s1.map .str), .list (s2.map .str)]) = true := by
  unfold shaped
  simp only [PyData.canLay0, PyData.canLayAll0, canLay_strs o1, canLay_strs o2, Bool.and_self, Bool.true_and]
  simp [PyData.depth, PyData.depthAll, depthAll_strs']
theorem eqv_tup (a b c d : List Str) : PyData.eqv (.tuple [.list (a.map .str), .list (b.map .str)]) (.tuple [.list (c.map .str), .list (d.map .str)]) = decide (a = c ∧ b = d) := by
  simp only [PyData.eqv, PyData.eqvAll, eqvAll_strs, Bool.and_true]
  by_cases h1 : a = c <;> by_cases h2 : b = d <;> simp [h1, h2]
theorem eq_tup {x a b y c d : Addr} {v1 v2 v3 v4 : List Value} {n1 n2 n3 n4 : Nat} {s1 s2 s3 s4 : List Str} (hx : s.heap.get? x = some { cls := .type "tuple", data := .seq #[.ref a, .ref b] 0 }) (hy : s.heap.get? y = some { cls := .type "tuple", data := .seq #[.ref c, .ref d] 0 })
    (h1 : s.heap.get? a = some (lsO v1 n1)) (h2 : s.heap.get? b = some (lsO v2 n2)) (h3 : s.heap.get? c = some (lsO v3 n3)) (h4 : s.heap.get? d = some (lsO v4 n4)) (a1 : StrsAre v1 s1) (a2 : StrsAre v2 s2) (a3 : StrsAre v3 s3) (a4 : StrsAre v4 s4) (o1 : OkS s1) (o2 : OkS s2) (o3 : OkS s3) (o4 : OkS s4) (hu : A.units + 64 < cLine)
    (h : Q (.bool (decide (s1 = s3 ∧ s2 = s4))) s) : wpAny (model prog w) A (compareOp .Eq (.ref x) (.ref y)) Q E s :=
  eq_dataH (reads_tup hx h1 h2 a1 a2) (reads_tup hy h3 h4 a3 a4) (shaped_tup o1 o2) (shaped_tup o3 o4) hu (by rw [eqv_tup]; exact h)
theorem ne_tup {x a b y c d : Addr} {v1 v2 v3 v4 : List Value} {n1 n2 n3 n4 : Nat} {s1 s2 s3 s4 : List Str} (hx : s.heap.get? x = some { cls := .type "tuple", data := .seq #[.ref a, .ref b] 0 }) (hy : s.heap.get? y = some { cls := .type "tuple", data := .seq #[.ref c, .ref d] 0 })
    (h1 : s.heap.get? a = some (lsO v1 n1)) (h2 : s.heap.get? b = some (lsO v2 n2)) (h3 : s.heap.get? c = some (lsO v3 n3)) (h4 : s.heap.get? d = some (lsO v4 n4)) (a1 : StrsAre v1 s1) (a2 : StrsAre v2 s2) (a3 : StrsAre v3 s3) (a4 : StrsAre v4 s4) (o1 : OkS s1) (o2 : OkS s2) (o3 : OkS s3) (o4 : OkS s4) (hu : A.units + 64 < cLine)
    (h : Q (.bool (!decide (s1 = s3 ∧ s2 = s4))) s) : wpAny (model prog w) A (compareOp .NotEq (.ref x) (.ref y)) Q E s :=
  ne_dataH (reads_tup hx h1 h2 a1 a2) (reads_tup hy h3 h4 a3 a4) (shaped_tup o1 o2) (shaped_tup o3 o4) hu (by rw [eqv_tup]; exact h)
end
end Mine
end
section
set_option maxHeartbeats 8000000
namespace Mine
noncomputable def lawBody (P : Params) : List Stmt := match (hd.heap_1 P).lookup (nat_lit 133) with
  | some o => (match o.data with
    | .func fd => (match fd.body with
      | .stmts l => l
      | _ => [])
    | _ => [])
  | none => []
noncomputable def lawScope (P : Params) : Scope := match (hd.heap_1 P).lookup (nat_lit 133) with
  | some o => (match o.data with
    | .func fd => fd.scope
    | _ => default)
  | none => default
noncomputable def lawStmt (P : Params) (i : Nat) : Stmt := (lawBody P).getD i default
noncomputable abbrev lawEnv (sc : Scope) (L : Addr) : Env := envOfC (Str.ofString "law") sc L 133 (.ref 132)
theorem fr_ps {h₀ h : Heap} {L : Addr} {m : Str → Option Value} {ps : List (Str × Value)} (F : Fr h₀ L h m) (hp : ∀ q ∈ ps, m q.1 = some q.2) : Fr h₀ L h (kstB m ps) := by
  have e : kstB m ps = m := funext fun y => kstB_eq hp fun _ => rfl
  rw [e]; exact F
section
variable {prog : Program} {w : World} {A : Around} {h₀ : Heap} {L : Addr} {m : Str → Option Value} {env : Env} {elt : PySem.Expr} {x : Str} {scope : Scope} {cl : List (Str × Addr)} {s : Shared} {S : List (Addr × Obj) → Prop} {P : Nat → Value → Prop} {Fin : List Value → List (Addr × Obj) → Prop} {news : List (Addr × Obj)}
theorem cr_inv {n : Nat} (J : Nat → List Value → List (Addr × Obj) → Prop)
    (turn : ∀ i v I oI C oC D m₂ ys nx h tk (E' : Value → Shared → Prop), i < n → P i v → J i ys nx → LCg.NsObj oC m₂ → m₂ x = some v → Fr h₀ L h m → News h₀ L h ((I, oI) :: (C, oC) :: (D, LCg.lst ys) :: nx) → LCg.Off3 I C D nx → ((@Ne Nat I C) ∧ (@Ne Nat I D) ∧ (@Ne Nat C D)) →
      wpAny (model prog w) A (eval elt (compEnvC scope cl C env)) (LCg.CompEnd h₀ L m { s with heap := h, toks := tk } I oI C oC D (LCg.lst ys) S (fun y nx' => J (i + 1) (ys ++ [y]) nx')) E' { s with heap := h, toks := tk })
    (fin : ∀ ys nx, J n ys nx → Fin ys nx) (h0 : J 0 [] news) : LCg.CompRest prog w A h₀ L m env elt x scope cl s S P Fin n 0 [] news := by
  have key : ∀ (j i : Nat) (ys : List Value) (nx : List (Addr × Obj)), i + j = n → J i ys nx → LCg.CompRest prog w A h₀ L m env elt x scope cl s S P Fin j i ys nx := by
    intro j
    induction j with
    | zero =>
      intro i ys nx hi hJ
      have : i = n := by simpa using hi
      exact LCg.CompRest.zero (fin ys nx (this ▸ hJ))
    | succ j ih =>
      intro i ys nx hi hJ
      refine LCg.CompRest.succ ?_
      intro v I oI C oC D m₂ h tk E' hv hC hx F N off ne
      refine wpAny_mono (turn i v I oI C oC D m₂ ys nx h tk E' (by omega) hv hJ hC hx F N off ne) (fun y s₂ hq => ?_) fun _ _ e => e
      refine Classical.byContradiction fun ng9 => ?_
      obtain ⟨h', tk', nw, e, F', N', off', hS, hJ'⟩ := hq
      refine ng9 ?_
      clear ng9
      exact ⟨h', tk', nw, e, F', N', off', hS, ih (i + 1) _ nw (by omega) hJ'⟩
  exact key n 0 [] news (by omega) h0
end
section
variable {prog : Program} {w : World} {A : Around} {E : Value → Shared → Prop} {s : Shared} {env : Env} {h₀ : Heap} {x : Str} {body : List Stmt} {Q : Flow → Shared → Prop}
noncomputable def TurnJ (h₀ : Heap) (L : Addr) (x : Str) (m₀ : Str → Option Value) (s : Shared) (D : Addr) (rest : List (Addr × Obj)) (J : List Value → Prop) (fl : Flow) (s₂ : Shared) : Prop :=
  (fl = .next ∨ fl = .cont) ∧ ∃ h' tk' m' us nn, s₂ = { s with heap := h', toks := tk' } ∧ Fr h₀ L h' m' ∧ (∀ y, y ≠ x → m' y = m₀ y) ∧ News h₀ L h' ((D, listOf us.toArray nn) :: rest) ∧ J us
theorem loop_led :
 ∀ {prog : Program} {w : World} {A : Around} {E : Value → Shared → Prop} {s : Shared} {env : Env} {h₀ : Heap} {x : Str} {body : List Stmt} {Q : Flow → Shared → Prop} {D l : Addr} {cs us₀ : List Value} {n₀ nl : Nat} {rest : List (Addr × Obj)} {m₀ : Str → Option Value}
 (J : Nat → List Value → Prop) (hh : A.handled = none) (hl : (l, listOf cs.toArray nl) ∈ rest) (F : Fr h₀ env.locals s.heap m₀) (N : News h₀ env.locals s.heap ((D, listOf us₀.toArray n₀) :: rest)) (h0 : J 0 us₀) (hD : ∀ p ∈ rest, p.1 ≠ D) (turn : ∀ i v us nn h tk own, cs[i]? = some v → J i us → (∀ p ∈ rest ++ own, p.1 ≠ D) → Fr h₀ env.locals h (fun y => if y = x then some v else m₀ y) → News h₀ env.locals h ((D, listOf us.toArray nn) :: (rest ++ own)) →
      wpAny (model prog w) A (execs body env) (TurnJ h₀ env.locals x m₀ s D (rest ++ own) (J (i + 1))) E { s with heap := h, toks := tk }) (done : ∀ us nn u h tk, J cs.length us → Fr h₀ env.locals h (fun y => if y = x then u else m₀ y) → News h₀ env.locals h ((D, listOf us.toArray nn) :: rest) → Q .next { s with heap := h, toks := tk }), wpAny (model prog w) A (pyIter (.ref l)) (fun it s₂ => LoopAtV prog w A h₀ env x body Q E it s₂) E s := by
  iterate 14 refine @Mine.pad _ ?_
  iterate 2 k_extra "pkG"
  iterate 9 k_extra "pk9"
  rename_i prog w A E s env h₀ x body Q D l cs us₀ n₀ nl rest m₀ J hh hl F N h0 hD turn done
  have eqm : ∀ (m₁ : Str → Option Value) (v : Option Value), (∀ y, y ≠ x → m₁ y = m₀ y) → (fun y => if y = x then v else m₁ y) = fun y => if y = x then v else m₀ y := by
    intro m₁ v hm
    funext y
    by_cases h : y = x
    · simp [h]
    · simp only [if_neg h]; exact hm y h
  refine kdl_iter (fun i m₁ nx => ∃ us nn, nx = (D, listOf us.toArray nn) :: rest ∧ J i us ∧ ∀ y, y ≠ x → m₁ y = m₀ y) hh (List.mem_cons_of_mem _ hl) F N ⟨us₀, n₀, rfl, h0, fun _ _ => rfl⟩ ?_ ?_
  · intro i v m₁ nx h tk own hv hoff _
    intro hz9
    refine Classical.byContradiction fun ng9 => ?_
    obtain ⟨us, nn, rfl, hS, hm⟩ := hz9
    refine ng9 ?_
    clear ng9
    intro F₁ N₁
    rw [eqm m₁ _ hm] at F₁
    refine wpAny_mono (turn i v us nn h tk own hv hS (fun p hp => (List.mem_append.mp hp).elim (hD p) fun hp => hoff p hp D (.head _)) F₁ N₁) (fun fl s₂ hq => ?_) fun _ _ e => e
    refine Classical.byContradiction fun ng9 => ?_
    obtain ⟨hfl, h', tk', m', us', nn', rfl, F', hm', N', hS'⟩ := hq
    refine ng9 ?_
    clear ng9
    have fin : InvEndG h₀ env.locals (fun m' nx => (l, listOf cs.toArray nl) ∈ nx ∧ ∃ us nn, nx = (D, listOf us.toArray nn) :: rest ∧ J (i + 1) us ∧ ∀ y, y ≠ x → m' y = m₀ y) own { s with heap := h, toks := tk } { s with heap := h', toks := tk' } := by
      refine InvEndG.intro (nx := (D, listOf us'.toArray nn') :: rest) F' N' ⟨List.mem_cons_of_mem _ hl, us', nn', rfl, hS', hm'⟩ hoff (fun p hp => ?_) (fun p hp => List.mem_cons_of_mem _ (List.mem_append_right _ hp))
      rcases List.mem_cons.mp hp with rfl | hp
      · exact .head _
      · exact .tail _ (List.mem_append_left _ hp)
    rcases hfl with rfl | rfl
    · exact fin
    · exact fin
  · intro m₁ nx h tk
    intro hz9
    refine Classical.byContradiction fun ng9 => ?_
    obtain ⟨us, nn, rfl, hS, hm⟩ := hz9
    refine ng9 ?_
    clear ng9
    intro F₁ N₁
    refine done us nn (m₁ x) h tk hS ?_ N₁
    have e : (fun y => if y = x then m₁ x else m₀ y) = m₁ := by
      funext y
      by_cases h : y = x
      · simp [h]
      · simp only [if_neg h]; exact (hm y h).symm
    rw [e]; exact F₁
end
end Mine
end
open PySem PySem.W PyProof.Rows in
example : Mine.RS := by intro M A Q E s h; w_top off; first | walk1 | skip; all_goals first | exact h | exact wpAny_pure h
section
set_option maxHeartbeats 8000000
local macro_rules | `(tactic| walk_at "execs cons") => `(tactic| (refine wpAny_execs_cons ?_; (try dsimp only); (try k_fold)))
namespace Mine
theorem off1_mem {D : Addr} : ∀ {l : List (Addr × Obj)}, LCg.Off1 D l → ∀ p ∈ l, p.1 ≠ D
  | [], _, _, h => nomatch h
  | _ :: _, x, p, h => by
    rcases List.mem_cons.mp h with rfl | h
    · exact x.1
    · exact off1_mem x.2 p h
theorem off1_mem' {D c : Addr} {o : Obj} {l : List (Addr × Obj)} (h : LCg.Off1 D l) (hm : (c, o) ∈ l) : c ≠ D := off1_mem h _ hm
theorem sub4 {a b c d : Addr × Obj} {nx : List (Addr × Obj)} : ∀ p ∈ a :: b :: c :: d :: nx, p ∈ d :: a :: b :: c :: nx := fun p hp => by
  simp only [List.mem_cons] at hp ⊢
  rcases hp with h | h | h | h | h <;> simp [h]
theorem okParts (n : Int) : OkS (partsN n) := by
  intro y hy
  unfold partsN at hy
  refine Classical.byContradiction fun ng9 => ?_
  obtain ⟨k, _, rfl⟩ := List.mem_map.mp hy
  refine ng9 ?_
  clear ng9
  unfold partAt tab3
  split
  · decide +kernel
  · split <;> decide +kernel
structure JN (i : Nat) (us : List Value) : Prop where
  out : ∃ zs : List Int, IntsAre us zs ∧ (∀ z ∈ zs, 0 ≤ z ∧ z < 10000000000) ∧ (zs.map partsN).Nodup ∧ zs.length ≤ i ∧ (0 < i → 1 ≤ zs.length)
theorem JN.snoc {i : Nat} {us : List Value} {zs : List Int} {z : Int} {tz : Tok} (hI : IntsAre us zs) (hb : ∀ z ∈ zs, 0 ≤ z ∧ z < 10000000000) (hnd : (zs.map partsN).Nodup) (hl : zs.length ≤ i) (h1 : 0 ≤ z) (h2 : z < 10000000000) (hn : partsN z ∉ zs.map partsN) : JN (i + 1) (us ++ [.int z tz]) := by
  refine ⟨zs ++ [z], hI.append (.cons z tz .nil), fun y hy => ?_, ?_, by simp; omega, fun _ => by simp⟩
  · rcases List.mem_append.mp hy with hy | hy
    · exact hb y hy
    · rw [List.mem_singleton.mp hy]; exact ⟨h1, h2⟩
  · rw [List.map_append, List.nodup_append]
    refine ⟨hnd, by simp, fun a ha b hb' e => ?_⟩
    have : b = partsN z := by simpa using hb'
    subst this; subst e; exact hn ha
theorem JN.stay {i : Nat} {us : List Value} {zs : List Int} {z : Int} (hI : IntsAre us zs) (hb : ∀ z ∈ zs, 0 ≤ z ∧ z < 10000000000) (hnd : (zs.map partsN).Nodup) (hl : zs.length ≤ i) (hm : partsN z ∈ zs.map partsN) : JN (i + 1) us :=
  ⟨zs, hI, hb, hnd, by omega, fun _ => by
    refine Classical.byContradiction fun ng9 => ?_
    obtain ⟨y, hy, _⟩ := List.mem_map.mp hm
    refine ng9 ?_
    clear ng9
    exact List.length_pos_of_mem hy⟩
theorem JN.zero : JN 0 [] := ⟨[], .nil, by simp, by simp, Nat.le_refl _, fun h => absurd h (Nat.lt_irrefl _)⟩
noncomputable abbrev addrOf {c : Addr} {l : List (Addr × Obj)} (_ : ∀ p ∈ l, p.1 ≠ c) : Addr := c
structure JC (D : Addr) (news0 : List (Addr × Obj)) (zs : List Int) (i : Nat) (ys : List Value) (nx : List (Addr × Obj)) : Prop where
  out : ∃ adds, nx = adds ++ news0 ∧ ys.length = i ∧ (∀ p ∈ adds, p.1 ≠ D) ∧ ∀ k, k < i → ∃ x vs c, ys.getD k Value.none = .ref x ∧ (x, lsO vs c) ∈ adds ∧ StrsAre vs (partsN (zs.getD k 0))
theorem JC.zero {D : Addr} {news0 : List (Addr × Obj)} {zs : List Int} : JC D news0 zs 0 [] news0 := ⟨[], rfl, rfl, fun _ h => (nomatch h), fun k hk => absurd hk (Nat.not_lt_zero _)⟩
theorem JC.mem {D : Addr} {news0 : List (Addr × Obj)} {zs : List Int} {i : Nat} {ys : List Value} {nx : List (Addr × Obj)} (J : JC D news0 zs i ys nx) {q : Addr × Obj} (h : q ∈ news0) : q ∈ nx := by
  refine Classical.byContradiction fun ng9 => ?_
  obtain ⟨adds, rfl, _⟩ := J.out
  refine ng9 ?_
  clear ng9
  exact List.mem_append_right _ h
theorem JC.snoc {D : Addr} {news0 : List (Addr × Obj)} {zs : List Int} {i : Nat} {ys : List Value} {nx : List (Addr × Obj)} (J : JC D news0 zs i ys nx) {x : Addr} {vs : List Value} {c : Nat} (hx : x ≠ D) (hs : StrsAre vs (partsN (zs.getD i 0))) : JC D news0 zs (i + 1) (ys ++ [.ref x]) ((x, lsO vs c) :: nx) := by
  refine Classical.byContradiction fun ng9 => ?_
  obtain ⟨adds, rfl, hl, ho, hk⟩ := J.out
  refine ng9 ?_
  clear ng9
  refine ⟨(x, lsO vs c) :: adds, rfl, by simp [hl], fun p hp => ?_, fun k hk' => ?_⟩
  · rcases List.mem_cons.mp hp with rfl | hp
    · exact hx
    · exact ho p hp
  · by_cases q : k < i
    · refine Classical.byContradiction fun ng9 => ?_
      obtain ⟨x', vs', c', e1, e2, e3⟩ := hk k q
      refine ng9 ?_
      clear ng9
      refine ⟨x', vs', c', ?_, .tail _ e2, e3⟩
      rw [List.getD_eq_getElem?_getD] at e1 ⊢; rw [List.getElem?_append_left (by omega)]; exact e1
    · have : k = i := by omega
      subst this
      refine ⟨x, vs, c, ?_, .head _, hs⟩
      rw [← hl]; simp
theorem JC.lists {D : Addr} {news0 : List (Addr × Obj)} {zs : List Int} {i : Nat} {ys : List Value} {nx : List (Addr × Obj)} (J : JC D news0 zs i ys nx) (hi : i = zs.length) {h₀ h : Heap} {L : Addr} (N : News h₀ L h nx) : ListsAre h ys (zs.map partsN) := by
  refine Classical.byContradiction fun ng9 => ?_
  obtain ⟨adds, rfl, hl, ho, hk⟩ := J.out
  refine ng9 ?_
  clear ng9
  refine ⟨by simp [hl, hi], fun k hk' => ?_⟩
  rw [List.length_map, ← hi] at hk'
  refine Classical.byContradiction fun ng9 => ?_
  obtain ⟨x', vs', c', e1, e2, e3⟩ := hk k hk'
  refine ng9 ?_
  clear ng9
  refine ⟨x', vs', c', e1, (N _ (List.mem_append_left _ e2)).1, ?_⟩
  have : (zs.map partsN).getD k [] = partsN (zs.getD k 0) := by simp [List.getD_eq_getElem?_getD, hi ▸ hk']
  rw [this]; exact e3
theorem JC.drop {D : Addr} {q : Addr × Obj} {news1 : List (Addr × Obj)} {zs : List Int} {i : Nat} {ys : List Value} {nx : List (Addr × Obj)} {c : Addr × Obj} (J : JC D (q :: news1) zs i ys nx) {h₀ h : Heap} {L : Addr} (N : News h₀ L h (c :: nx)) : News h₀ L h news1 := fun p hp => N p (.tail _ (J.mem (.tail _ hp)))
theorem seven {h₀ h : Heap} {L a b c : Addr} {x y z : Obj} {cs : List (Addr × Obj)} (N : News h₀ L h ((a, x) :: (b, y) :: (c, z) :: cs)) : News h₀ L h ((c, z) :: (a, x) :: cs) := fun p hp => by
  rcases List.mem_cons.mp hp with rfl | hp
  · exact N _ (.tail _ (.tail _ (.head _)))
  · rcases List.mem_cons.mp hp with rfl | hp
    · exact N _ (.head _)
    · exact N _ (.tail _ (.tail _ (.tail _ hp)))
theorem seven_off {a b c : Addr} {x y z : Obj} {cs : List (Addr × Obj)} (o : LCg.Off1 a ((b, y) :: (c, z) :: cs)) (_ : True) (l : ∀ p ∈ cs, p.1 < c) : ∀ p ∈ (a, x) :: cs, p.1 ≠ c := fun p hp => by
  rcases List.mem_cons.mp hp with rfl | hp
  · exact fun q => o.2.1 q.symm
  · exact Nat.ne_of_lt (l p hp)
theorem law01 :
 ∀ {w : World} {p : Program} {loose : List Str} {mean : ExcName → Option Value} {mg mb : Str → Option Value} {dp un : Nat} {gd : Option (List Code)} {outer : List Env} {A₀ : Around} {base h₀ h : Heap} {g : Array GenState} {d : Drawn} {tk : Nat} {os : OsState} {L : Addr} {m : Str → Option Value} {Q : Flow → Shared → Prop} {E : Value → Shared → Prop} {sc : Scope} {rest : List Stmt} {cs : List (Addr × Obj)} {ls : Addr} {vs : List Value} {ns : List Int}
 (B : Below A₀ base outer h₀) (X : (hd.heap_1 w.params).In h₀) (T : Top p loose mean mg mb h₀) (hdp : dp + 640 < recursionLimit) (hu : un + 4000 < cLine) (esc : sc = lawScope w.params) (F : Fr h₀ L h m) (Nm : ∀ q ∈ [(Str.ofString "script", Value.ref ls)], m q.1 = some q.2) (N : News h₀ L h cs) (hls : h₀.IsList ls vs.toArray) (hns : IntsAre vs ns) (hn63 : ns.length ≤ 63) (hnext : ∀ D us nn zs h' tk' m', Fr h₀ L h' m' → m' (Str.ofString "numbers") = some (.ref D) → News h₀ L h' ((D, listOf us.toArray nn) :: cs) → (∀ p ∈ cs, p.1 ≠ D) → IntsAre us zs → (∀ z ∈ zs, 0 ≤ z ∧ z < 10000000000) → 1 ≤ zs.length → zs.length ≤ 7 → (zs.map partsN).Nodup → wpAny (model PySem.Challenge.rw_of0013_01.prog w) ((aTop dp un gd outer).deeper (lawEnv sc L)) (execs rest (lawEnv sc L)) Q (fun e s' => wpAny (model PySem.Challenge.rw_of0013_01.prog w) ((aTop dp un gd outer).deeper (lawEnv sc L)) (leaving (lawEnv sc L) e) (fun _ s'' => E e s'') (fun e' s'' => E e' s'') s') ⟨h', g, d, tk', os⟩), wpAny (model PySem.Challenge.rw_of0013_01.prog w) ((aTop dp un gd outer).deeper (lawEnv sc L)) (execs (lawStmt w.params 0 :: lawStmt w.params 1 :: rest) (lawEnv sc L)) Q (fun e s' => wpAny (model PySem.Challenge.rw_of0013_01.prog w) ((aTop dp un gd outer).deeper (lawEnv sc L)) (leaving (lawEnv sc L) e) (fun _ s'' => E e s'') (fun e' s'' => E e' s'') s') ⟨h, g, d, tk, os⟩ := by
  iterate 4 refine @Mine.pad _ ?_
  iterate 2 k_extra "pkG"
  iterate 13 k_extra "pk9"
  rename_i w p loose mean mg mb dp un gd outer A₀ base h₀ h g d tk os L m Q E sc rest cs ls vs ns B X T hdp hu esc F Nm N hls hns hn63 hnext
  refine with_eq (a := lawScope w.params) (by conv => (lhs; whnf)) fun e9 => ?_
  have e8 := esc.trans e9
  subst e8
  clear e9 esc
  refine with_eq (a := lawStmt w.params 0) (by conv => (lhs; whnf)) fun e9 => ?_
  rw [e9]
  clear e9
  refine with_eq (a := lawStmt w.params 1) (by conv => (lhs; whnf)) fun e9 => ?_
  rw [e9]
  clear e9
  have F9 := fr_ps F Nm
  clear F
  dsimp only [kstB] at F9
  revert X; k_fill; intro X
  (repeat' (first | (k_unfold; (try dsimp only)) | (k_end; wrow_close) | (k_here; (with_reducible show wpAny _ _ (call (Value.ref 109) [Value.ref _, Value.ref _]) _ _ _); k_dflt (refine' f_dealt ?k1 ?k2 ?k3 ?k4 ?k5 ?kf ?kK ?kd ?ku ?kl ?ki ?kz ?ks ?_; (case k1 => k_asm); (case k2 => k_asm); (case k3 => k_asm); (case k4 => k_asm); (case k5 => k_asm); (case kf => exact rfl); (case kK => exact rfl); (case kd => ktr_room); (case ku => ktr_units); (case kl => is_list); (case ki => assumption); (case kz => assumption); (case ks => exact News.get (by k_asm) (by k_mem))); intro D' ys' h' tk' F' N' off' hl7' hz7'; (try dsimp only); (try k_fold)) | walk1 | (dsimp only; walk1) | (leave1; try dsimp only)))
  (with_reducible rename Fr _ _ _ _ => F8); (with_reducible rename News _ _ _ _ => N8)
  (rename LCg.Off1 _ _ => off8); (rename ∀ q, q ∈ cs → _ => l1c); (rename ∀ (i : Nat) (y : Value), _ → _ => hz7); (rename List.length _ = 7 => hl7)
  have N7 := seven N8
  clear N8
  refine loop_led JN rfl (.head _) F8 N7 JN.zero ?hD ?turn ?done
  case hD => exact seven_off off8 trivial l1c
  case turn =>
    intro i v us nn h tk own hv hJ hD' F N
    clear F8 N7 off8 hnext
    refine Classical.byContradiction fun ng9 => ?_
    obtain ⟨z, tz, rfl, hz1, hz2⟩ := hz7 _ _ hv
    refine ng9 ?_
    clear ng9
    refine Classical.byContradiction fun ng9 => ?_
    obtain ⟨zs, hI, hb, hnd, hl1, hl2⟩ := hJ.out
    refine ng9 ?_
    clear ng9
    simp only [List.cons_append] at N hD'
    repeat ((fail_if_success (with_reducible show LCg.CompSrc _ _ _ _ _ _ _ _ _ _ _ _ _ _)); (first | (k_here; (with_reducible show wpAny _ _ (call (Value.ref 114) [Value.int _ _]) _ _ _); k_dflt (refine' f_parts ?k1 ?k2 ?k3 ?k4 ?k5 ?kf ?kK ?kd ?ku _ _ ?kn ?km ?_; (case k1 => k_asm); (case k2 => k_asm); (case k3 => k_asm); (case k4 => k_asm); (case k5 => k_asm); (case kf => exact rfl); (case kK => exact rfl); (case kd => ktr_room); (case ku => ktr_units); (case kn => omega); (case km => omega)); intro D' ys' h' tk' F' N' off' hS'; (try simp only [LCg.Off1, and_true] at off'); (have hW' := parts_w_of hS'); (try dsimp only); (try k_fold)) | ((with_reducible show wpAny _ _ (eval (PySem.Expr.ListComp _ _ _ _) _) _ _ _); (k_here; k_dflt (refine LCg.ListComp_U (F₀ := by k_asm) (by with_unfolding_all rfl) (by decide) (by rfl) (by decide) (by rfl) ?_))) | walk1 | (dsimp only; walk1)))
    (rename News _ _ _ _ => N5); (rename (_ : Addr) ≠ _ ∧ _ ∧ LCg.Off1 _ _ => o5)
    have hl5 := hI.length
    have hi7 : i < 7 := hl7 ▸ (List.getElem?_eq_some_iff.mp hv).1
    k_dflt (refine' LCg.CompSrc.ledger ?k0 ?k1 ?k2 ?k3 ?k4 ?_; (case k0 => rfl); (case k1 => k_asm); (case k2 => exact N5); (case k3 => k_mem); (case k4 => (rw [PySem.sizeLine_eq, List.size_toArray]; omega)))
    intro g9
    refine cr_inv (JC (addrOf hD') _ zs) ?_ ?_ JC.zero
    · intro i2 v2 I oI C oC D2 m2 ys2 nx h2 tk2 E2 hi2 hv2 hJ2 hC2 hx2 F2 N2 off2 ne2
      refine Classical.byContradiction fun ng9 => ?_
      obtain ⟨z2, tz2, rfl, hz2'⟩ := ints_getV hI (by simpa using hv2)
      refine ng9 ?_
      clear ng9
      have hb2 := hb z2 (List.mem_of_getElem? hz2')
      have hb3 := hb2.1
      have hb4 := hb2.2
      (repeat' (first | (k_unfold; (try dsimp only)) | (k_end; wrow_close) | (k_here; (with_reducible show wpAny _ _ (call (Value.ref 114) [Value.int _ _]) _ _ _); k_dflt (refine' f_parts ?k1 ?k2 ?k3 ?k4 ?k5 ?kf ?kK ?kd ?ku _ _ ?kn ?km ?_; (case k1 => k_asm); (case k2 => k_asm); (case k3 => k_asm); (case k4 => k_asm); (case k5 => k_asm); (case kf => exact rfl); (case kK => exact rfl); (case kd => ktr_room); (case ku => ktr_units); (case kn => omega); (case km => omega)); intro D' ys' h' tk' F' N' off' hS'; (try simp only [LCg.Off1, and_true] at off'); (have hW' := parts_w_of hS'); (try dsimp only); (try k_fold)) | walk1 | (dsimp only; walk1) | (leave1; try dsimp only)))
      (rename News _ _ _ _ => N4); (rename (I : Nat) ≠ _ ∧ _ ∧ _ ∧ LCg.Off1 _ _ => o4)
      refine LCg.CompEnd.intro (by k_asm) N4 (_ :: nx) sub4 ⟨⟨fun q => o4.1 q.symm, fun q => o4.2.1 q.symm, fun q => o4.2.2.1 q.symm⟩, off2⟩ (Or.inr ⟨_, .tail _ (hJ2.mem (by k_mem)), rfl, _, rfl⟩) (hJ2.snoc ?_ ?_)
      · exact (off1_mem' o4.2.2.2 (hJ2.mem (.tail _ (.head _)))).symm
      · have : zs.getD i2 0 = z2 := by rw [List.getD_eq_getElem?_getD, hz2']; rfl
        rw [this]; assumption
    · intro ys nx hJ2
      k_steps
      (rename News _ _ _ _ => N4)
      refine notin_lls (N4 _ (.tail _ (hJ2.mem (.head _)))).1 (by assumption) (N4 _ (.head _)).1 (hJ2.lists (by rw [List.size_toArray]; exact hl5) (fun q hq => N4 q (.tail _ hq))) (okParts z) (fun d hd => by obtain ⟨y, _, rfl⟩ := List.mem_map.mp hd; exact okParts y) (by ktr_units) ?_
      have N6 := hJ2.drop N4
      clear N4 N5 N hJ2
      by_cases hmem : partsN z ∈ zs.map partsN
      · rw [decide_eq_true hmem]
        k_steps
        exact ⟨.inl rfl, _, _, _, _, _, rfl, by k_asm, fun y hy => if_neg hy, by k_asm, JN.stay hI hb hnd hl1 hmem⟩
      · rw [decide_eq_false hmem]
        have hus : us.length ≤ 100000 := by omega
        (repeat' (first | (k_unfold; (try dsimp only)) | (k_end; wrow_close) | ((with_reducible show wpAny _ _ (call (Value.builtin _) _) _ _ _); (k_here; k_dflt (refine' my_append ?k1 ?k2 ?k3 ?k4 ?_; (case k1 => k_asm); (case k2 => k_asm); (case k3 => assumption); (case k4 => assumption)); intro h' F' N')) | walk1 | (dsimp only; walk1) | (leave1; try dsimp only)))
        exact ⟨.inl rfl, _, _, _, _, _, rfl, by k_asm, fun y hy => if_neg hy, by k_asm, JN.snoc hI hb hnd hl1 hz1 hz2 hmem⟩
  case done =>
    intro us nn u h8 tk8 hJ F N
    refine Classical.byContradiction fun ng9 => ?_
    obtain ⟨zs, hI, hb, hnd, hl1, hl2⟩ := hJ.out
    refine ng9 ?_
    clear ng9
    exact hnext _ us nn zs h8 tk8 _ F rfl (fun p hp => N p (by rcases List.mem_cons.mp hp with rfl | hp; exact .head _; exact .tail _ (.tail _ hp))) (fun p hp => Nat.ne_of_lt (l1c p hp)) hI hb (hl2 (by omega)) (by omega) hnd
end Mine
end
open PySem PySem.W PyProof.Rows in
example : Mine.RS := by intro M A Q E s h; w_top off; first | walk1 | skip; all_goals first | exact h | exact wpAny_pure h
section
set_option maxHeartbeats 8000000
namespace Mine
noncomputable def nameN (z : Int) : Str := Txt.join (Str.ofString ".") (partsN z)
theorem law2 :
 ∀ {w : World} {p : Program} {loose : List Str} {mean : ExcName → Option Value} {mg mb : Str → Option Value} {dp un : Nat} {gd : Option (List Code)} {outer : List Env} {A₀ : Around} {base h₀ h : Heap} {g : Array GenState} {d : Drawn} {tk : Nat} {os : OsState} {L : Addr} {m : Str → Option Value} {Q : Flow → Shared → Prop} {E : Value → Shared → Prop} {sc : Scope} {rest : List Stmt} {cs : List (Addr × Obj)} {Dn : Addr} {us : List Value} {nn : Nat} {zs : List Int}
 (B : Below A₀ base outer h₀) (X : (hd.heap_1 w.params).In h₀) (T : Top p loose mean mg mb h₀) (hdp : dp + 640 < recursionLimit) (hu : un + 4000 < cLine) (esc : sc = lawScope w.params) (F : Fr h₀ L h m) (Nm : ∀ q ∈ [(Str.ofString "numbers", Value.ref Dn)], m q.1 = some q.2) (N : News h₀ L h ((Dn, listOf us.toArray nn) :: cs)) (hI : IntsAre us zs) (hb : ∀ z ∈ zs, 0 ≤ z ∧ z < 10000000000) (hl : zs.length ≤ 7) (hnext : ∀ D ys h' tk' m', Fr h₀ L h' m' → m' (Str.ofString "numbers") = some (.ref Dn) → m' (Str.ofString "names") = some (.ref D) → News h₀ L h' ((D, LCg.lst ys) :: (Dn, listOf us.toArray nn) :: cs) → (∀ p ∈ (Dn, listOf us.toArray nn) :: cs, p.1 ≠ D) → StrsAre ys (zs.map nameN) → wpAny (model PySem.Challenge.rw_of0013_01.prog w) ((aTop dp un gd outer).deeper (lawEnv sc L)) (execs rest (lawEnv sc L)) Q (fun e s' => wpAny (model PySem.Challenge.rw_of0013_01.prog w) ((aTop dp un gd outer).deeper (lawEnv sc L)) (leaving (lawEnv sc L) e) (fun _ s'' => E e s'') (fun e' s'' => E e' s'') s') ⟨h', g, d, tk', os⟩), wpAny (model PySem.Challenge.rw_of0013_01.prog w) ((aTop dp un gd outer).deeper (lawEnv sc L)) (execs (lawStmt w.params 2 :: rest) (lawEnv sc L)) Q (fun e s' => wpAny (model PySem.Challenge.rw_of0013_01.prog w) ((aTop dp un gd outer).deeper (lawEnv sc L)) (leaving (lawEnv sc L) e) (fun _ s'' => E e s'') (fun e' s'' => E e' s'') s') ⟨h, g, d, tk, os⟩ := by
  iterate 3 refine @Mine.pad _ ?_
  iterate 2 k_extra "pkG"
  iterate 13 k_extra "pk9"
  rename_i w p loose mean mg mb dp un gd outer A₀ base h₀ h g d tk os L m Q E sc rest cs Dn us nn zs B X T hdp hu esc F Nm N hI hb hl hnext
  refine with_eq (a := lawScope w.params) (by conv => (lhs; whnf)) fun e9 => ?_
  have e8 := esc.trans e9
  subst e8
  clear e9 esc
  refine with_eq (a := lawStmt w.params 2) (by conv => (lhs; whnf)) fun e9 => ?_
  rw [e9]
  clear e9
  have F9 := fr_ps F Nm
  clear F
  dsimp only [kstB] at F9
  revert X; k_fill; intro X
  have hl5 := hI.length
  repeat ((fail_if_success (with_reducible show LCg.CompSrc _ _ _ _ _ _ _ _ _ _ _ _ _ _)); (first | ((with_reducible show wpAny _ _ (exec (PySem.Stmt.Assign _ (PySem.Expr.ListComp _ _ _ _) _) _) _ _ _); (k_here; k_dflt (refine LCg.Assign_ListComp_U (F₀ := by k_asm) (by rfl) (by with_unfolding_all rfl) (by with_unfolding_all rfl) (by decide) (by rfl) (by decide) (by rfl) (by rfl) (by rfl) ?_))) | walk1 | (dsimp only; walk1)))
  k_dflt (refine' LCg.CompSrc.ledger ?k0 ?k1 ?k2 ?k3 ?k4 ?_; (case k0 => rfl); (case k1 => k_asm); (case k2 => exact N); (case k3 => k_mem); (case k4 => (rw [PySem.sizeLine_eq, List.size_toArray]; omega)))
  intro g9
  refine cr_map (fun i y => ∃ t, y = Value.str (nameN (zs.getD i 0)) t) ?_ ?_
  · intro i2 v2 I oI C oC D2 m2 ys2 h2 tk2 E2 hi2 hv2 hC2 hx2 F2 N2 off2 ne2
    refine Classical.byContradiction fun ng9 => ?_
    obtain ⟨z2, tz2, rfl, hz2'⟩ := ints_getV hI (by simpa using hv2)
    refine ng9 ?_
    clear ng9
    have hb2 := hb z2 (List.mem_of_getElem? hz2')
    have hb3 := hb2.1
    have hb4 := hb2.2
    (repeat' (first | (k_unfold; (try dsimp only)) | (k_end; wrow_close) | (k_here; (with_reducible show wpAny _ _ (call (Value.builtin _) [Value.str _ _, Value.ref _]) _ _ _); k_dflt (refine' my_join ?k1 ?k2 ?k3 ?k4 ?k5 ?_; (case k1 => k_asm); (case k2 => k_mem); (case k3 => assumption); (case k4 => decide); (case k5 => assumption)); intro t' k' hl') | (k_here; (with_reducible show wpAny _ _ (call (Value.ref 114) [Value.int _ _]) _ _ _); k_dflt (refine' f_parts ?k1 ?k2 ?k3 ?k4 ?k5 ?kf ?kK ?kd ?ku _ _ ?kn ?km ?_; (case k1 => k_asm); (case k2 => k_asm); (case k3 => k_asm); (case k4 => k_asm); (case k5 => k_asm); (case kf => exact rfl); (case kK => exact rfl); (case kd => ktr_room); (case ku => ktr_units); (case kn => omega); (case km => omega)); intro D' ys' h' tk' F' N' off' hS'; (try simp only [LCg.Off1, and_true] at off'); (have hW' := parts_w_of hS'); (try dsimp only); (try k_fold)) | walk1 | (dsimp only; walk1) | (leave1; try dsimp only)))
    refine LCg.CompEnd.intro (by k_asm) (by k_asm) _ (fun p hp => .tail _ hp) off2 (Or.inr ⟨_, (by k_mem), rfl, _, rfl⟩) ⟨rfl, ?_⟩
    have : zs.getD i2 0 = z2 := by rw [List.getD_eq_getElem?_getD, hz2']; rfl
    rw [this]; exact ⟨_, rfl⟩
  · intro ys hyl hy
    k_steps
    (rename _ ∧ LCg.Off1 _ _ => o1)
    refine hnext _ ys _ _ _ (by k_asm) rfl rfl (by k_asm) (fun p hp => off1_mem (l := (Dn, listOf us.toArray nn) :: cs) o1 p hp) ?_
    refine strsAre_of (by rw [hyl, List.size_toArray, hl5, List.length_map]) fun i y hi => ?_
    obtain ⟨t', e⟩ := hy i y hi
    refine ⟨t', ?_⟩
    have hlt : i < zs.length := by
      have := (List.getElem?_eq_some_iff.mp hi).1
      rw [hyl, List.size_toArray, hl5] at this
      exact this
    rw [e]
    simp [List.getD_eq_getElem?_getD, hlt]
end Mine
end
open PySem PySem.W PyProof.Rows in
example : Mine.RS := by intro M A Q E s h; w_top off; first | walk1 | skip; all_goals first | exact h | exact wpAny_pure h
section
set_option maxHeartbeats 8000000
namespace Mine
theorem f_key :
 ∀ {w : World} {A : Around} {h₀ : Heap} {L : Addr} {m : Str → Option Value} {s : Shared} {news news' : List (Addr × Obj)} {Q E : Value → Shared → Prop}
 (F : Fr h₀ L s.heap m) (N : News h₀ L s.heap news) (XH : (hd.heap_1 w.params).In s.heap) (X23 : s.heap.get? (nat_lit 23) = some (tabObj #[])) (X0 : ∃ mb, s.heap.Ns builtinsNs mb ∧ ∀ x : Str, x ≠ "__name__" → mb x = bootBuiltins x) (X1 : ∃ o, s.heap.get? (nat_lit 1) = some o) (X4 : s.heap.get? (nat_lit 4) = some { cls := .type "module", dict := some (nat_lit 0) }) (X5 : s.heap.get? (nat_lit 5) = some { cls := .type "module", dict := some (nat_lit 3) }) (h23 : h₀.get? (nat_lit 23) = none) (hL : L ≠ nat_lit 23) (hsub : ∀ q ∈ news', q ∈ news ∧ q.1 ≠ nat_lit 23) (hR : Room A 600 3000) (hret : ∀ Kc ns bt sl fi fl fg fe fle fge st md ci cl cell q1 q2 q3 q4 q5 q6 r1 r2 r3 r4 r5 t h' tk' ps, Fr h₀ L h' m → News h₀ L h' ((Kc, clsK t Kc ns bt) :: (ns, nsK w.params t sl fi fl fg fe fle fge st md) :: (md, mdK t Kc) :: (fl, fnK w.params 3 (Str.ofString "__lt__") (Str.ofString "cmp_to_key.<locals>.K.__lt__") [(Str.ofString "mycmp", cell)] cl (.ref q6)) :: (cl, codeK t 25 14 (Str.ofString "__lt__") (Str.ofString "cmp_to_key.<locals>.K.__lt__") q1 q2 q3 q4 q5 31) :: (fi, fnK w.params 2 (Str.ofString "__init__") (Str.ofString "cmp_to_key.<locals>.K.__init__") [] ci .none) :: (ci, codeK t 17 11 (Str.ofString "__init__") (Str.ofString "cmp_to_key.<locals>.K.__init__") r1 r2 r3 r4 r5 22) :: (cell, cellK) :: (nat_lit 23, tabObj ps) :: news') → Q (.ref Kc) { s with heap := h', toks := tk' }), wpAny (model PySem.Challenge.rw_of0013_01.prog w) A (call (.ref 28) [.ref 128]) Q E s := by
  iterate 6 refine @Mine.pad _ ?_
  iterate 1 k_extra "pkG"
  iterate 13 k_extra "pk9"
  rename_i w A h₀ L m s news news' Q E F N XH X23 X0 X1 X4 X5 h23 hL hsub hR hret
  refine c_key XH X23 X0 X1 X4 X5 hR ?_
  intro Kc ns bt sl fi fl fg fe fle fge st md ci cl cell q1 q2 q3 q4 q5 q6 r1 r2 r3 r4 r5 h' tk' ps keep e23 fresh I
  have F' : Fr h₀ L h' m := by
    refine Classical.byContradiction fun ng9 => ?_
    obtain ⟨⟨oL, es, ep, h1, h2⟩, hk, ha⟩ := F
    refine ng9 ?_
    clear ng9
    refine ⟨⟨oL, es, ep, keep _ _ h1 hL, h2⟩, fun b o e => keep b o (hk b o e) (fun q => ?_), ha⟩
    rw [q, h23] at e; cases e
  refine hret Kc ns bt sl fi fl fg fe fle fge st md ci cl cell q1 q2 q3 q4 q5 q6 r1 r2 r3 r4 r5 s.toks h' tk' ps F' fun q hq => ?_
  have new : ∀ b ∈ [Kc, ns, md, fl, cl, fi, ci, cell], ∀ o, h'.get? b = some o → h'.get? b = some o ∧ b ≠ L ∧ h₀.get? b = none := fun b hb o e => by
    refine ⟨e, fun q => ?_, ?_⟩
    · refine Classical.byContradiction fun ng9 => ?_
      obtain ⟨oL, _, _, h1, _⟩ := F.ns
      refine ng9 ?_
      clear ng9
      have := fresh b hb
      rw [q, h1] at this; cases this
    · cases z : h₀.get? b with
      | none => rfl
      | some o' => have := fresh b hb; rw [F.keep _ _ z] at this; cases this
  simp only [List.mem_cons] at hq
  rcases hq with rfl | rfl | rfl | rfl | rfl | rfl | rfl | rfl | rfl | hq
  · exact new _ (.head _) _ I.hK
  · exact new _ (.tail _ (.head _)) _ I.hns
  · exact new _ (.tail _ (.tail _ (.head _))) _ I.hmd
  · exact new _ (.tail _ (.tail _ (.tail _ (.head _)))) _ I.hfl
  · exact new _ (.tail _ (.tail _ (.tail _ (.tail _ (.head _))))) _ I.hcl
  · exact new _ (.tail _ (.tail _ (.tail _ (.tail _ (.tail _ (.head _)))))) _ I.hfi
  · exact new _ (.tail _ (.tail _ (.tail _ (.tail _ (.tail _ (.tail _ (.head _))))))) _ I.hci
  · exact new _ (.tail _ (.tail _ (.tail _ (.tail _ (.tail _ (.tail _ (.tail _ (.head _)))))))) _ I.hcell
  · exact ⟨e23, fun q => hL q.symm, h23⟩
  · obtain ⟨a, b⟩ := hsub q hq
    exact ⟨keep _ _ (N q a).1 b, (N q a).2⟩
theorem isK_news {w : World} {h₀ h : Heap} {L : Addr} {news' news : List (Addr × Obj)} {t : Nat} {Kc ns bt sl fi fl fg fe fle fge st md ci cl cell q1 q2 q3 q4 q5 q6 r1 r2 r3 r4 r5 : Addr} (N : News h₀ L h news) (hs : ∀ q ∈ ((Kc, clsK t Kc ns bt) :: (ns, nsK w.params t sl fi fl fg fe fle fge st md) :: (md, mdK t Kc) :: (fl, fnK w.params 3 (Str.ofString "__lt__") (Str.ofString "cmp_to_key.<locals>.K.__lt__") [(Str.ofString "mycmp", cell)] cl (.ref q6)) :: (cl, codeK t 25 14 (Str.ofString "__lt__") (Str.ofString "cmp_to_key.<locals>.K.__lt__") q1 q2 q3 q4 q5 31) :: (fi, fnK w.params 2 (Str.ofString "__init__") (Str.ofString "cmp_to_key.<locals>.K.__init__") [] ci .none) :: (ci, codeK t 17 11 (Str.ofString "__init__") (Str.ofString "cmp_to_key.<locals>.K.__init__") r1 r2 r3 r4 r5 22) :: (cell, cellK) :: news'), q ∈ news) : IsK w h t Kc ns bt sl fi fl fg fe fle fge st md ci cl cell q1 q2 q3 q4 q5 q6 r1 r2 r3 r4 r5 :=
  ⟨(N _ (hs _ (.head _))).1, (N _ (hs _ (.tail _ (.head _)))).1, (N _ (hs _ (.tail _ (.tail _ (.head _))))).1, (N _ (hs _ (.tail _ (.tail _ (.tail _ (.head _)))))).1, (N _ (hs _ (.tail _ (.tail _ (.tail _ (.tail _ (.head _))))))).1, (N _ (hs _ (.tail _ (.tail _ (.tail _ (.tail _ (.tail _ (.head _)))))))).1, (N _ (hs _ (.tail _ (.tail _ (.tail _ (.tail _ (.tail _ (.tail _ (.head _))))))))).1, (N _ (hs _ (.tail _ (.tail _ (.tail _ (.tail _ (.tail _ (.tail _ (.tail _ (.head _)))))))))).1⟩
local macro_rules | `(tactic| walk_at "call builtin:sorted") => `(tactic| (k_here; refine Mine.park ?_))
theorem law3 :
 ∀ {w : World} {p : Program} {loose : List Str} {mean : ExcName → Option Value} {mg mb : Str → Option Value} {dp un : Nat} {gd : Option (List Code)} {outer : List Env} {A₀ : Around} {base h₀ h : Heap} {g : Array GenState} {d : Drawn} {tk : Nat} {os : OsState} {L : Addr} {m : Str → Option Value} {Q : Flow → Shared → Prop} {E : Value → Shared → Prop} {sc : Scope} {rest : List Stmt} {cs : List (Addr × Obj)} {Dn Dm : Addr} {us ys : List Value} {nn : Nat} {zs : List Int} {ss : List Str}
 (B : Below A₀ base outer h₀) (X : (hd.heap_1 w.params).In h₀) (T : Top p loose mean mg mb h₀) (hdp : dp + 640 < recursionLimit) (hu : un + 4000 < cLine) (esc : sc = lawScope w.params) (F : Fr h₀ L h m) (r : Nat → Nat) (Nm : ∀ q ∈ [(Str.ofString "numbers", Value.ref Dn), (Str.ofString "names", Value.ref Dm)], m q.1 = some q.2) (N : News h₀ L h ((Dm, LCg.lst ys) :: (Dn, listOf us.toArray nn) :: (nat_lit 23, tabObj #[]) :: cs)) (hS : StrsAre ys ss) (X1 : ∃ o, h₀.get? (nat_lit 1) = some o) (X4 : h₀.get? (nat_lit 4) = some { cls := .type "module", dict := some (nat_lit 0) }) (X5 : h₀.get? (nat_lit 5) = some { cls := .type "module", dict := some (nat_lit 3) }) (h23 : h₀.get? (nat_lit 23) = none) (hL23 : L ≠ nat_lit 23) (hcs : ∀ q ∈ (Dm, LCg.lst ys) :: (Dn, listOf us.toArray nn) :: cs, q.1 ≠ nat_lit 23) (hs : ∀ y ∈ ss, y.length ≤ 300 ∧ y ≠ Str.ofString "<string>") (h1 : 1 ≤ ss.length) (h64 : ss.length < 64) (hr : ∀ i j, i < ss.length → j < ss.length → (inF (ss.getD i Str.empty) (ss.getD j Str.empty) < 0 ↔ r i < r j)) (hinj : ∀ i j, i < ss.length → j < ss.length → r i = r j → i = j) (hnext : ∀ D c out os' q h' tk' m' ps, Fr h₀ L h' m' → m' (Str.ofString "numbers") = some (.ref Dn) → m' (Str.ofString "order") = some (.ref D) → News h₀ L h' ((D, listOf out.toArray c) :: (Dn, listOf us.toArray nn) :: (nat_lit 23, tabObj ps) :: cs) → (∀ p ∈ (Dn, listOf us.toArray nn) :: cs, p.1 < D) → StrsAre out os' → os' = q.toList.map (fun i => ss.getD i Str.empty) → Arr ss.length q → UpTo r q ss.length → wpAny (model PySem.Challenge.rw_of0013_01.prog w) ((aTop dp un gd outer).deeper (lawEnv sc L)) (execs rest (lawEnv sc L)) Q (fun e s' => wpAny (model PySem.Challenge.rw_of0013_01.prog w) ((aTop dp un gd outer).deeper (lawEnv sc L)) (leaving (lawEnv sc L) e) (fun _ s'' => E e s'') (fun e' s'' => E e' s'') s') ⟨h', g, d, tk', os⟩), wpAny (model PySem.Challenge.rw_of0013_01.prog w) ((aTop dp un gd outer).deeper (lawEnv sc L)) (execs (lawStmt w.params 3 :: rest) (lawEnv sc L)) Q (fun e s' => wpAny (model PySem.Challenge.rw_of0013_01.prog w) ((aTop dp un gd outer).deeper (lawEnv sc L)) (leaving (lawEnv sc L) e) (fun _ s'' => E e s'') (fun e' s'' => E e' s'') s') ⟨h, g, d, tk, os⟩ := by
  iterate 2 k_extra "pkG"
  iterate 23 k_extra "pk9"
  rename_i w p loose mean mg mb dp un gd outer A₀ base h₀ h g d tk os L m Q E sc rest cs Dn Dm us ys nn zs ss B X T hdp hu esc F r Nm N hS X1 X4 X5 h23 hL23 hcs hs h1 h64 hr hinj hnext
  refine with_eq (a := lawScope w.params) (by conv => (lhs; whnf)) fun e9 => ?_
  have e8 := esc.trans e9
  subst e8
  clear e9 esc
  refine with_eq (a := lawStmt w.params 3) (by conv => (lhs; whnf)) fun e9 => ?_
  rw [e9]
  clear e9
  have F9 := fr_ps F Nm
  clear F
  dsimp only [kstB] at F9
  revert X; k_fill; intro X
  (repeat' (first | (k_unfold; (try dsimp only)) | (k_end; wrow_close) | (k_here; (with_reducible show wpAny _ _ (call (Value.ref 28) [Value.ref 128]) _ _ _); refine Mine.park ?_) | walk1 | (dsimp only; walk1) | (leave1; try dsimp only)))
  refine ⟨?_⟩
  (with_reducible rename Fr _ _ _ _ => F8); (with_reducible rename News _ _ _ _ => N8)
  refine f_key (news' := (Dm, LCg.lst ys) :: (Dn, listOf us.toArray nn) :: cs) F8 N8 (X.keeps F8.keep) (N8 _ (.tail _ (.tail _ (.head _)))).1 ⟨mb, T.b.keeps F8.keep, T.builtins⟩ (X1.elim fun o e => ⟨o, F8.keep _ _ e⟩) (F8.keep _ _ X4) (F8.keep _ _ X5) h23 hL23 (fun q hq => ⟨?_, hcs q hq⟩) ⟨?_, ?_⟩ ?_
  · rcases List.mem_cons.mp hq with rfl | hq
    · exact .head _
    · rcases List.mem_cons.mp hq with rfl | hq
      · exact .tail _ (.head _)
      · exact .tail _ (.tail _ (.tail _ hq))
  · show dp + 1 + 600 < _; omega
  · show un + 3 + 3000 < _; omega
  intro Kc ns bt sl fi fl fg fe fle fge st md ci cl cell q1 q2 q3 q4 q5 q6 r1 r2 r3 r4 r5 t h5 tk5 ps F5 N5
  clear F8 N8
  (repeat' (first | (k_unfold; (try dsimp only)) | (k_end; wrow_close) | (k_here; (with_reducible show wpAny _ _ (call (Value.ref 28) [Value.ref 128]) _ _ _); refine Mine.park ?_) | walk1 | (dsimp only; walk1) | (leave1; try dsimp only)))
  refine ⟨?_⟩
  show wpAny _ _ (call (.builtin "sorted") [.ref Dm] [(Str.ofString "key", .ref Kc)]) _ _ _
  refine sortK (t := t) (ss := ss) r B F5 N5 rfl rfl (by show dp + 1 + 520 < _; omega) (by show un + 3 + 3000 < _; omega) (fun h F N => ⟨isK_news N (fun q hq => hq), ⟨fun a o _ e => F.keep _ _ (X a o e), X1.elim fun o e => ⟨o, F.keep _ _ e⟩⟩, X.keeps F.keep, T.keeps F.keep⟩) (.tail _ (.tail _ (.tail _ (.tail _ (.tail _ (.tail _ (.tail _ (.tail _ (.tail _ (.head _)))))))))) hS hs h1 h64 hr hinj ?_
  intro D c h6 tk6 out os' q F6 N6 l6 hS6 hos hA hU
  have N7 : News h₀ L h6 ((D, listOf out.toArray c) :: (Dn, listOf us.toArray nn) :: (nat_lit 23, tabObj ps) :: cs) := fun p hp => by
    rcases List.mem_cons.mp hp with rfl | hp
    · exact N6 _ (.head _)
    · rcases List.mem_cons.mp hp with rfl | hp
      · exact N6 _ (.tail _ (.tail _ (.tail _ (.tail _ (.tail _ (.tail _ (.tail _ (.tail _ (.tail _ (.tail _ (.tail _ (.head _))))))))))))
      · rcases List.mem_cons.mp hp with rfl | hp
        · exact N6 _ (.tail _ (.tail _ (.tail _ (.tail _ (.tail _ (.tail _ (.tail _ (.tail _ (.tail _ (.head _))))))))))
        · exact N6 _ (.tail _ (.tail _ (.tail _ (.tail _ (.tail _ (.tail _ (.tail _ (.tail _ (.tail _ (.tail _ (.tail _ (.tail _ hp))))))))))))
  have l7 : ∀ p ∈ (Dn, listOf us.toArray nn) :: cs, p.1 < D := fun p hp => by
    rcases List.mem_cons.mp hp with rfl | hp
    · exact l6 _ (.tail _ (.tail _ (.tail _ (.tail _ (.tail _ (.tail _ (.tail _ (.tail _ (.tail _ (.tail _ (.head _)))))))))))
    · exact l6 _ (.tail _ (.tail _ (.tail _ (.tail _ (.tail _ (.tail _ (.tail _ (.tail _ (.tail _ (.tail _ (.tail _ hp)))))))))))
  clear F5 N5 N6 l6 hS
  (repeat' (first | (k_unfold; (try dsimp only)) | (k_end; wrow_close) | (k_here; (with_reducible show wpAny _ _ (call (Value.ref 28) [Value.ref 128]) _ _ _); refine Mine.park ?_) | walk1 | (dsimp only; walk1) | (leave1; try dsimp only)))
  exact hnext D c out os' q _ _ _ ps (by k_asm) rfl rfl (by k_asm) l7 hS6 hos hA hU
end Mine
end
open PySem PySem.W PyProof.Rows in
example : Mine.RS := by intro M A Q E s h; w_top off; first | walk1 | skip; all_goals first | exact h | exact wpAny_pure h
section
set_option maxHeartbeats 8000000
local macro_rules | `(tactic| intro $x:ident) => `(tactic| first | (refine @Mine.pick_allM _ (by with_reducible assumption) (by k_extra "ne9") _ ?_; generalize @Mine.pick _ _ _ = $x) | intros $x)
local macro_rules | `(tactic| intro $x:term $y:term $ys:term*) => `(tactic| (intro $x:term; intro $y:term $ys:term*))
local macro_rules | `(tactic| k_fold) => `(tactic| skip)
namespace Mine
open PySem.Calls in
theorem enterLam {prog : Program} {w : World} {A : Around} {h : Heap} {g : Array GenState} {d : Drawn} {t : Nat} {os : OsState} {p : Program} {loose : List Str} {mean : ExcName → Option Value} {mg mb : Str → Option Value} {R : Result → Shared → Prop} {name qual : Str} {params : Arguments} {body : PySem.Expr} {scope : Scope} {cl : List (Str × Addr)} {pm ctv : Value} {c' f : Addr} {args : Args} {binds : List (Str × Value)}
    (T : Top p loose mean mg mb h) (ho : h.get? f = some (kla_obj name qual params body scope cl pm c' ctv)) (hcd : h.CodeRec (.ref c') qual) (hroom : A.depth < recursionLimit)
    (hbind : bindArgs (kla_fn name qual params body scope cl pm (.ref c') ctv) args = pure binds) (hloc : ∀ y ∈ binds, scope.names.lookup y.1 = some .local)
    (hh : ∀ L' h₁, Fr h L' h₁ (fun y => binds.reverse.lookup y) → News h L' h₁ [] →
      wpAny (model prog w) (A.deeper (envX qual scope L' f (.ref c') cl)) (eval body (envX qual scope L' f (.ref c') cl)) (fun v s' => R (.ok (.ret v)) s')
        (fun e s' => wpAny (model prog w) (A.deeper (envX qual scope L' f (.ref c') cl)) (leaving (envX qual scope L' f (.ref c') cl) e) (fun _ s'' => R (.error e) s'') (fun e' s'' => R (.error e') s'') s')
        ⟨h₁, g, d, t + binds.length, os⟩)
    (hco : scope.isCoroutine = false) (hgen : scope.isGenerator = false) (hk : scope.kind = .function) (hcell : ∀ x ∈ scope.names, x.2 ≠ .cell) : codeAny (model prog w) A (.call (.ref f) args) R ⟨h, g, d, t, os⟩ := by
  refine kla_callFunE hroom ho rfl hco hgen rfl hcd ?_
  rw [hbind]
  refine wpAny_pure (wpAny_newFunctionEnv hcell hloc (fun h₁ hns hsb => ⟨T.nolimit.fresh _ hsb, ?_⟩) hk)
  show codeAny _ _ (.expr body (envX qual scope h.objs.size f (.ref c') cl)) _ _
  have hk₁ : ∀ b o, h.get? b = some o → h₁.get? b = some o := fun b o e => hsb.extBut b o (Nat.ne_of_lt (Heap.lt_size e)) (Heap.get?_push_of_some _ e)
  exact kla_codeExpr (hh h.objs.size h₁ ⟨hns, hk₁, Nat.le_refl _⟩ News.nil)
theorem callWith_kw0 {M : Model} {A : Around} {E : Value → Shared → Prop} {s : Shared} {env : Env} {pos : Pos} {id : String} {first : List Value} {kws : List Keyword} {Q : Value → Shared → Prop}
    (h : wpAny M A (evalAll ((backToKw pos (keywordEach kws env)).map (·.2))) (fun kvs s₂ => wpAny M A (call (.builtin id) first (((backToKw pos (keywordEach kws env)).filterMap (·.1)).zip kvs)) Q E s₂) E s)
    (hall : (backToKw pos (keywordEach kws env)).all (·.1.isSome) = true := by rfl)
    (hkw : (backToKw pos (keywordEach kws env)).any (·.1.isNone) = false := by rfl) :
    wpAny M A (callWith pos (.builtin id) first (backTo pos (starEach [] env)) (backToKw pos (keywordEach kws env))) Q E s := by
  refine callWith_builtin_kwB (args := []) rfl hkw ?_
  unfold evalArgs
  show wpAny M A (spliced [] >>= _) _ E s
  refine wpAny_bind (Calls.spliced_nil ?_)
  refine wpAny_bind (wpAny_pure ?_)
  refine wpAny_holding ?_
  rw [if_pos hall]
  refine wpAny_bind (wpAny_mono h (fun kvs s₂ h₂ => ?_) fun _ _ x => x)
  refine wpAny_bind (wpAny_pure (wpAny_pure ?_))
  show wpAny M A (call (.builtin id) (first ++ []) _) Q E s₂
  rw [List.append_nil]; exact h₂
theorem pick4 {h₀ h : Heap} {L : Addr} {a b c e f : Addr × Obj} {cs : List (Addr × Obj)} (N : News h₀ L h (f :: a :: b :: c :: e :: cs)) : News h₀ L h (c :: f :: e :: cs) := fun q hq => by
  simp only [List.mem_cons] at hq
  rcases hq with rfl | rfl | rfl | hq
  · exact N _ (.tail _ (.tail _ (.tail _ (.head _))))
  · exact N _ (.head _)
  · exact N _ (.tail _ (.tail _ (.tail _ (.tail _ (.head _)))))
  · exact N _ (.tail _ (.tail _ (.tail _ (.tail _ (.tail _ hq)))))
theorem drop4 {h₀ h : Heap} {L : Addr} {a b c d e : Addr × Obj} {cs : List (Addr × Obj)} (N : News h₀ L h (a :: b :: c :: d :: e :: cs)) : News h₀ L h (a :: b :: c :: e :: cs) := fun q hq => by
  simp only [List.mem_cons] at hq
  rcases hq with rfl | rfl | rfl | rfl | hq
  · exact N _ (.head _)
  · exact N _ (.tail _ (.head _))
  · exact N _ (.tail _ (.tail _ (.head _)))
  · exact N _ (.tail _ (.tail _ (.tail _ (.tail _ (.head _)))))
  · exact N _ (.tail _ (.tail _ (.tail _ (.tail _ (.tail _ hq)))))
noncomputable def keyN (z : Int) : List Str := partsN z ++ [Str.ofString "~"]
local macro_rules | `(tactic| walk_at "eval Lambda") => `(tactic| (k_here; k_dflt (refine' kla_eval ?d0 ?_; (case d0 => exact rfl)); refine Mine.park ?_))
local macro_rules | `(tactic| walk_at "call builtin:list.sort") => `(tactic| (k_here; refine Mine.park ?_))
theorem law4 :
 ∀ {w : World} {p : Program} {loose : List Str} {mean : ExcName → Option Value} {mg mb : Str → Option Value} {dp un : Nat} {gd : Option (List Code)} {outer : List Env} {A₀ : Around} {base h₀ h : Heap} {g : Array GenState} {d : Drawn} {tk : Nat} {os : OsState} {L : Addr} {m : Str → Option Value} {Q : Flow → Shared → Prop} {E : Value → Shared → Prop} {sc : Scope} {rest : List Stmt} {cs : List (Addr × Obj)} {Dn Do : Addr} {us out : List Value} {nn c : Nat} {zs : List Int}
 (B : Below A₀ base outer h₀) (X : (hd.heap_1 w.params).In h₀) (T : Top p loose mean mg mb h₀) (hdp : dp + 640 < recursionLimit) (hu : un + 4000 < cLine) (esc : sc = lawScope w.params) (F : Fr h₀ L h m) (r : Nat → Nat) (Nm : ∀ q ∈ [(Str.ofString "numbers", Value.ref Dn), (Str.ofString "order", Value.ref Do)], m q.1 = some q.2) (N : News h₀ L h ((Do, listOf out.toArray c) :: (Dn, listOf us.toArray nn) :: (nat_lit 130, tabObj #[]) :: cs)) (hI : IntsAre us zs) (hb : ∀ z ∈ zs, 0 ≤ z ∧ z < 10000000000) (h1 : 1 ≤ zs.length) (hl : zs.length ≤ 7) (o1 : Do ≠ nat_lit 130) (o2 : Dn ≠ nat_lit 130) (o3 : ∀ p ∈ cs, p.1 ≠ nat_lit 130) (o4 : ∀ p ∈ cs, p.1 ≠ Dn) (o5 : Do ≠ Dn) (C : CodeHd h₀ (nat_lit 132) (nat_lit 130)) (hr : ∀ i j, i < zs.length → j < zs.length → (lexLt (keyN (zs.getD i 0)) (keyN (zs.getD j 0)) = true ↔ r i < r j)) (hinj : ∀ i j, i < zs.length → j < zs.length → r i = r j → i = j) (hnext : ∀ c' q h' tk' m' ps, Fr h₀ L h' m' → m' (Str.ofString "numbers") = some (.ref Dn) → m' (Str.ofString "order") = some (.ref Do) → News h₀ L h' ((Do, listOf out.toArray c) :: (Dn, listOf (List.toArray (q.toList.map fun i => us.getD i Value.none)) c') :: (nat_lit 130, tabObj ps) :: cs) → Arr zs.length q → UpTo r q zs.length → wpAny (model PySem.Challenge.rw_of0013_01.prog w) ((aTop dp un gd outer).deeper (lawEnv sc L)) (execs rest (lawEnv sc L)) Q (fun e s' => wpAny (model PySem.Challenge.rw_of0013_01.prog w) ((aTop dp un gd outer).deeper (lawEnv sc L)) (leaving (lawEnv sc L) e) (fun _ s'' => E e s'') (fun e' s'' => E e' s'') s') ⟨h', g, d, tk', os⟩), wpAny (model PySem.Challenge.rw_of0013_01.prog w) ((aTop dp un gd outer).deeper (lawEnv sc L)) (execs (lawStmt w.params 4 :: rest) (lawEnv sc L)) Q (fun e s' => wpAny (model PySem.Challenge.rw_of0013_01.prog w) ((aTop dp un gd outer).deeper (lawEnv sc L)) (leaving (lawEnv sc L) e) (fun _ s'' => E e s'') (fun e' s'' => E e' s'') s') ⟨h, g, d, tk, os⟩ := by
  have hpk9 := Mine.pickOn
  iterate 2 k_extra "pkG"
  iterate 23 k_extra "pk9"
  rename_i w p loose mean mg mb dp un gd outer A₀ base h₀ h g d tk os L m Q E sc rest cs Dn Do us out nn c zs B X T hdp hu esc F r Nm N hI hb h1 hl o1 o2 o3 o4 o5 C hr hinj hnext
  obtain ⟨ev, hev⟩ : ∃ ev, ev = lawEnv sc L := ⟨_, rfl⟩
  refine with_eq (a := lawScope w.params) (by conv => (lhs; whnf)) fun e9 => ?_
  have e8 := esc.trans e9
  subst e8
  clear e9 esc
  have PX : ∀ (h : Heap) (m' : Str → Option Value), Fr h₀ L h m' → Below (A₀.deeper ev) base (ev :: outer) h := fun h m' F => pushX B F (by rw [hev]; rfl) (by rw [hev]; rfl)
  subst hev
  refine with_eq (a := lawStmt w.params 4) (by conv => (lhs; whnf)) fun e9 => ?_
  rw [e9]
  clear e9
  have F9 := fr_ps F Nm
  clear F
  dsimp only [kstB] at F9
  revert X; k_fill; intro X
  (repeat' (first | (k_unfold; (try dsimp only)) | (k_end; wrow_close) | (k_here; (with_reducible show wpAny _ _ (callWith _ (Value.builtin _) [Value.ref _] _ (backToKw _ (keywordEach (_ :: _) _))) _ _ _); refine Mine.callWith_kw0 ?_) | walk1 | (dsimp only; walk1) | (leave1; try dsimp only)))
  refine ⟨?_⟩
  refine kla_nest (ps := #[]) (by k_asm) N T C rfl (UpdF.tail o1 (UpdF.tail o2 (UpdF.head o3))) (by kn_triples) (by kn_among) rfl ?_
  intro f c' oc vs t ctv h5 tk5 F5 N5 hd5 hv5 l5 l6
  clear N
  k_steps
  refine ⟨?_⟩
  show wpAny _ _ (call (.builtin "list.sort") [.ref Dn] [(Str.ofString "key", .ref f)]) _ _ _
  (with_reducible rename Fr _ _ _ _ => F6); (with_reducible rename News _ _ _ _ => N6)
  have lD : Dn < c' := l5 _ (.tail _ (.head _))
  have nD := N6 (Dn, listOf us.toArray nn) (.tail _ (.tail _ (.tail _ (.head _))))
  refine wpAny_call_entry_kw slot_list_sort ⟨_, nD.1, rfl⟩ entry_list_sort ?_ (ksk_l1 _ _)
  rw [ksk_t1]
  have N7 := drop4 N6
  refine sortL (key := keyN) (ok := fun z => 0 ≤ z ∧ z < 10000000000) r F6 N7 nD.1 nD.2.1 nD.2.2 ?hna (by show un + 3 + 1 < _; omega) hI hb h1 (by omega) ?hkey hr hinj ?hret
  case hna =>
    intro p hp
    simp only [List.mem_cons] at hp
    rcases hp with rfl | rfl | rfl | rfl | hp
    · exact Nat.ne_of_gt (Nat.lt_trans lD l6)
    · exact Nat.ne_of_gt lD
    · exact o5
    · exact fun q => o2 q.symm
    · exact o4 p hp
  case hret =>
    intro c7 h7 tk7 q7 F7 N7 a7 u7
    refine ⟨_, rfl, ?_⟩
    have N8 := pick4 N7
    clear N6 N7 F6
    k_steps
    exact hnext c7 q7 _ _ _ _ (by k_asm) rfl rfl (by k_asm) a7 u7
  case hkey =>
    intro h8 g8 d8 tk8 os8 z tz hz F8 N8
    have B8 := PX _ _ F8
    have X8 := X.keeps F8.keep
    have T8 := T.keeps F8.keep
    have ho := (N8 _ (.head _)).1
    have hcd := codeRec_news N8 (.tail _ (.head _)) hd5 hv5
    obtain ⟨hz1, hz2⟩ := hz
    clear N8 F6 N6 hr hinj hnext
    refine wpAny_call ?_
    refine enterLam T8 ho hcd (by show dp + 1 < _; omega) rfl (locs rfl) ?_ rfl rfl rfl (by decide)
    intro L9 h9 F9 N9
    dsimp only
    (repeat' (first | (k_unfold; (try dsimp only)) | (k_end; wrow_close) | (k_here; (with_reducible show wpAny _ _ (call (Value.ref 114) [Value.int _ _]) _ _ _); k_dflt (refine' f_parts ?k1 ?k2 ?k3 ?k4 ?k5 ?kf ?kK ?kd ?ku _ _ ?kn ?km ?_; (case k1 => k_asm); (case k2 => k_asm); (case k3 => k_asm); (case k4 => k_asm); (case k5 => k_asm); (case kf => exact rfl); (case kK => exact rfl); (case kd => ktr_room); (case ku => ktr_units); (case kn => omega); (case km => omega)); intro D' ys' h' tk' F' N' off' hS'; (try simp only [LCg.Off1, and_true] at off'); (have hW' := parts_w_of hS'); (try dsimp only); (try k_fold)) | walk1 | (dsimp only; walk1) | (leave1; try dsimp only)))
    (with_reducible rename Fr h8 _ _ _ => F7); (with_reducible rename News h8 _ _ _ => N7)
    (rename StrsAre _ (partsN z) => S7); (rename (_ : Nat) ≤ 100 => W7)
    have l7 := S7.length
    refine kmk_add_lit F7 N7 (N7.isList (.tail _ (.head _))) (N7.isList (.head _)) rfl ?_ (by rw [PySem.sizeLine_eq]; simp; omega)
    intro D9 h10 F10 N10 _
    have n10 := N10 _ (.head _)
    exact ⟨D9, _, 0, h10, _, rfl, rfl, F10.keep, n10.2.2, n10.1, S7.append' (.cons _ _ .nil)⟩
end Mine
end
open PySem PySem.W PyProof.Rows in
example : Mine.RS := by intro M A Q E s h; w_top off; first | walk1 | skip; all_goals first | exact h | exact wpAny_pure h
section
set_option maxHeartbeats 8000000
namespace Mine
theorem law5 :
 ∀ {w : World} {p : Program} {loose : List Str} {mean : ExcName → Option Value} {mg mb : Str → Option Value} {dp un : Nat} {gd : Option (List Code)} {outer : List Env} {A₀ : Around} {base h₀ h : Heap} {g : Array GenState} {d : Drawn} {tk : Nat} {os : OsState} {L : Addr} {m : Str → Option Value} {Q : Flow → Shared → Prop} {E : Value → Shared → Prop} {sc : Scope} {rest : List Stmt} {cs : List (Addr × Obj)} {Dn Do : Addr} {us out : List Value} {nn c : Nat} {zs : List Int} {os1 : List Str}
 (B : Below A₀ base outer h₀) (X : (hd.heap_1 w.params).In h₀) (T : Top p loose mean mg mb h₀) (hdp : dp + 640 < recursionLimit) (hu : un + 4000 < cLine) (esc : sc = lawScope w.params) (F : Fr h₀ L h m) (Nm : ∀ q ∈ [(Str.ofString "numbers", Value.ref Dn), (Str.ofString "order", Value.ref Do)], m q.1 = some q.2) (N : News h₀ L h ((Do, listOf out.toArray c) :: (Dn, listOf us.toArray nn) :: cs)) (hI : IntsAre us zs) (hb : ∀ z ∈ zs, 0 ≤ z ∧ z < 10000000000) (hl : zs.length ≤ 7) (hS : StrsAre out os1) (heq : os1 = zs.map nameN) (hok : OkS os1) (hnext : ∀ h' tk' m', Fr h₀ L h' m' → m' (Str.ofString "numbers") = some (.ref Dn) → m' (Str.ofString "order") = some (.ref Do) → News h₀ L h' ((Do, listOf out.toArray c) :: (Dn, listOf us.toArray nn) :: cs) → wpAny (model PySem.Challenge.rw_of0013_01.prog w) ((aTop dp un gd outer).deeper (lawEnv sc L)) (execs rest (lawEnv sc L)) Q (fun e s' => wpAny (model PySem.Challenge.rw_of0013_01.prog w) ((aTop dp un gd outer).deeper (lawEnv sc L)) (leaving (lawEnv sc L) e) (fun _ s'' => E e s'') (fun e' s'' => E e' s'') s') ⟨h', g, d, tk', os⟩), wpAny (model PySem.Challenge.rw_of0013_01.prog w) ((aTop dp un gd outer).deeper (lawEnv sc L)) (execs (lawStmt w.params 5 :: rest) (lawEnv sc L)) Q (fun e s' => wpAny (model PySem.Challenge.rw_of0013_01.prog w) ((aTop dp un gd outer).deeper (lawEnv sc L)) (leaving (lawEnv sc L) e) (fun _ s'' => E e s'') (fun e' s'' => E e' s'') s') ⟨h, g, d, tk, os⟩ := by
  iterate 15 refine @Mine.pad _ ?_
  iterate 3 k_extra "pkG"
  iterate 16 k_extra "pk9"
  rename_i w p loose mean mg mb dp un gd outer A₀ base h₀ h g d tk os L m Q E sc rest cs Dn Do us out nn c zs os1 B X T hdp hu esc F Nm N hI hb hl hS heq hok hnext
  refine with_eq (a := lawScope w.params) (by conv => (lhs; whnf)) fun e9 => ?_
  have e8 := esc.trans e9
  subst e8
  clear e9 esc
  refine with_eq (a := lawStmt w.params 5) (by conv => (lhs; whnf)) fun e9 => ?_
  rw [e9]
  clear e9
  have F9 := fr_ps F Nm
  clear F
  dsimp only [kstB] at F9
  revert X; k_fill; intro X
  have hl5 := hI.length
  repeat ((fail_if_success (with_reducible show LCg.CompSrc _ _ _ _ _ _ _ _ _ _ _ _ _ _)); (first | ((with_reducible show wpAny _ _ (eval (PySem.Expr.ListComp _ _ _ _) _) _ _ _); (k_here; k_dflt (refine LCg.ListComp_U (F₀ := by k_asm) (by with_unfolding_all rfl) (by decide) (by rfl) (by decide) (by rfl) ?_))) | walk1 | (dsimp only; walk1)))
  k_dflt (refine' LCg.CompSrc.ledger ?k0 ?k1 ?k2 ?k3 ?k4 ?_; (case k0 => rfl); (case k1 => k_asm); (case k2 => exact N); (case k3 => k_mem); (case k4 => (rw [PySem.sizeLine_eq, List.size_toArray]; omega)))
  intro g9
  refine cr_map (fun i y => ∃ t, y = Value.str (nameN (zs.getD i 0)) t) ?_ ?_
  · intro i2 v2 I oI C oC D2 m2 ys2 h2 tk2 E2 hi2 hv2 hC2 hx2 F2 N2 off2 ne2
    refine Classical.byContradiction fun ng9 => ?_
    obtain ⟨z2, tz2, rfl, hz2'⟩ := ints_getV hI (by simpa using hv2)
    refine ng9 ?_
    clear ng9
    have hb2 := hb z2 (List.mem_of_getElem? hz2')
    have hb3 := hb2.1
    have hb4 := hb2.2
    (repeat' (first | (k_unfold; (try dsimp only)) | (k_end; wrow_close) | (k_here; (with_reducible show wpAny _ _ (call (Value.builtin _) [Value.str _ _, Value.ref _]) _ _ _); k_dflt (refine' my_join ?k1 ?k2 ?k3 ?k4 ?k5 ?_; (case k1 => k_asm); (case k2 => k_mem); (case k3 => assumption); (case k4 => decide); (case k5 => assumption)); intro t' k' hl') | (k_here; (with_reducible show wpAny _ _ (call (Value.ref 114) [Value.int _ _]) _ _ _); k_dflt (refine' f_parts ?k1 ?k2 ?k3 ?k4 ?k5 ?kf ?kK ?kd ?ku _ _ ?kn ?km ?_; (case k1 => k_asm); (case k2 => k_asm); (case k3 => k_asm); (case k4 => k_asm); (case k5 => k_asm); (case kf => exact rfl); (case kK => exact rfl); (case kd => ktr_room); (case ku => ktr_units); (case kn => omega); (case km => omega)); intro D' ys' h' tk' F' N' off' hS'; (try simp only [LCg.Off1, and_true] at off'); (have hW' := parts_w_of hS'); (try dsimp only); (try k_fold)) | walk1 | (dsimp only; walk1) | (leave1; try dsimp only)))
    refine LCg.CompEnd.intro (by k_asm) (by k_asm) _ (fun p hp => .tail _ hp) off2 (Or.inr ⟨_, (by k_mem), rfl, _, rfl⟩) ⟨rfl, ?_⟩
    have : zs.getD i2 0 = z2 := by rw [List.getD_eq_getElem?_getD, hz2']; rfl
    rw [this]; exact ⟨_, rfl⟩
  · intro ys hyl hy
    have hS2 : StrsAre ys (zs.map nameN) := strsAre_of (by rw [hyl, List.size_toArray, hl5, List.length_map]) fun i y hi => by
      obtain ⟨t', e⟩ := hy i y hi
      refine ⟨t', ?_⟩
      have hlt : i < zs.length := by
        have := (List.getElem?_eq_some_iff.mp hi).1
        rw [hyl, List.size_toArray, hl5] at this
        exact this
      rw [e]
      simp [List.getD_eq_getElem?_getD, hlt]
    (repeat' (first | (k_unfold; (try dsimp only)) | (k_end; wrow_close) | (k_here; (with_reducible show wpAny _ _ (compareOp _ (Value.ref _) (Value.ref _)) _ _ _); refine Mine.park ?_) | walk1 | (dsimp only; walk1) | (leave1; try dsimp only)))
    refine ⟨?_⟩
    (with_reducible rename Fr _ _ _ _ => F7); (with_reducible rename News _ _ _ _ => N7)
    refine ne_ls (N7 _ (.tail _ (.head _))).1 (N7 _ (.head _)).1 hS hS2 hok (by rw [← heq]; exact hok) (by ktr_units) ?_
    rw [decide_eq_true heq]
    have N8 : News h₀ L _ ((Do, listOf out.toArray c) :: (Dn, listOf us.toArray nn) :: cs) := fun p hp => N7 p (.tail _ hp)
    clear N7 hS2
    k_steps
    exact hnext _ _ _ (by k_asm) rfl rfl (by k_asm)
end Mine
end
open PySem PySem.W PyProof.Rows in
example : Mine.RS := by intro M A Q E s h; w_top off; first | walk1 | skip; all_goals first | exact h | exact wpAny_pure h
section
set_option maxHeartbeats 8000000
namespace Mine
theorem law6 :
 ∀ {w : World} {p : Program} {loose : List Str} {mean : ExcName → Option Value} {mg mb : Str → Option Value} {dp un : Nat} {gd : Option (List Code)} {outer : List Env} {A₀ : Around} {base h₀ h : Heap} {g : Array GenState} {d : Drawn} {tk : Nat} {os : OsState} {L : Addr} {m : Str → Option Value} {Q : Flow → Shared → Prop} {E : Value → Shared → Prop} {sc : Scope} {rest : List Stmt} {cs : List (Addr × Obj)} {Dn Do : Addr} {us out : List Value} {nn c : Nat} {os1 : List Str}
 (B : Below A₀ base outer h₀) (X : (hd.heap_1 w.params).In h₀) (T : Top p loose mean mg mb h₀) (hdp : dp + 640 < recursionLimit) (hu : un + 4000 < cLine) (esc : sc = lawScope w.params) (F : Fr h₀ L h m) (Nm : ∀ q ∈ [(Str.ofString "numbers", Value.ref Dn), (Str.ofString "order", Value.ref Do)], m q.1 = some q.2) (N : News h₀ L h ((Do, listOf out.toArray c) :: (Dn, listOf us.toArray nn) :: cs)) (hS : StrsAre out os1) (hl : os1.length ≤ 7) (hlen : ∀ y ∈ os1, y.length ≤ 300 ∧ (Txt.replace y (Str.ofString ".") (Str.ofString "/")).length ≤ 300) (hnext : ∀ D ys h' tk' m', Fr h₀ L h' m' → m' (Str.ofString "numbers") = some (.ref Dn) → m' (Str.ofString "order") = some (.ref Do) → m' (Str.ofString "files") = some (.ref D) → News h₀ L h' ((D, LCg.lst ys) :: (Do, listOf out.toArray c) :: (Dn, listOf us.toArray nn) :: cs) → (∀ p ∈ (Do, listOf out.toArray c) :: (Dn, listOf us.toArray nn) :: cs, p.1 ≠ D) → StrsAre ys (os1.map fileOf) → wpAny (model PySem.Challenge.rw_of0013_01.prog w) ((aTop dp un gd outer).deeper (lawEnv sc L)) (execs rest (lawEnv sc L)) Q (fun e s' => wpAny (model PySem.Challenge.rw_of0013_01.prog w) ((aTop dp un gd outer).deeper (lawEnv sc L)) (leaving (lawEnv sc L) e) (fun _ s'' => E e s'') (fun e' s'' => E e' s'') s') ⟨h', g, d, tk', os⟩), wpAny (model PySem.Challenge.rw_of0013_01.prog w) ((aTop dp un gd outer).deeper (lawEnv sc L)) (execs (lawStmt w.params 6 :: rest) (lawEnv sc L)) Q (fun e s' => wpAny (model PySem.Challenge.rw_of0013_01.prog w) ((aTop dp un gd outer).deeper (lawEnv sc L)) (leaving (lawEnv sc L) e) (fun _ s'' => E e s'') (fun e' s'' => E e' s'') s') ⟨h, g, d, tk, os⟩ := by
  iterate 2 k_extra "pkG"
  iterate 13 k_extra "pk9"
  rename_i w p loose mean mg mb dp un gd outer A₀ base h₀ h g d tk os L m Q E sc rest cs Dn Do us out nn c os1 B X T hdp hu esc F Nm N hS hl hlen hnext
  refine with_eq (a := lawScope w.params) (by conv => (lhs; whnf)) fun e9 => ?_
  have e8 := esc.trans e9
  subst e8
  clear e9 esc
  refine with_eq (a := lawStmt w.params 6) (by conv => (lhs; whnf)) fun e9 => ?_
  rw [e9]
  clear e9
  have F9 := fr_ps F Nm
  clear F
  dsimp only [kstB] at F9
  revert X; k_fill; intro X
  have hl5 := hS.length
  repeat ((fail_if_success (with_reducible show LCg.CompSrc _ _ _ _ _ _ _ _ _ _ _ _ _ _)); (first | ((with_reducible show wpAny _ _ (exec (PySem.Stmt.Assign _ (PySem.Expr.ListComp _ _ _ _) _) _) _ _ _); (k_here; k_dflt (refine LCg.Assign_ListComp_U (F₀ := by k_asm) (by rfl) (by with_unfolding_all rfl) (by with_unfolding_all rfl) (by decide) (by rfl) (by decide) (by rfl) (by rfl) (by rfl) ?_))) | walk1 | (dsimp only; walk1)))
  k_dflt (refine' LCg.CompSrc.ledger ?k0 ?k1 ?k2 ?k3 ?k4 ?_; (case k0 => rfl); (case k1 => k_asm); (case k2 => exact N); (case k3 => k_mem); (case k4 => (rw [PySem.sizeLine_eq, List.size_toArray]; omega)))
  intro g9
  refine cr_map (fun i y => ∃ t, y = Value.str (fileOf (os1.getD i Str.empty)) t) ?_ ?_
  · intro i2 v2 I oI C oC D2 m2 ys2 h2 tk2 E2 hi2 hv2 hC2 hx2 F2 N2 off2 ne2
    refine Classical.byContradiction fun ng9 => ?_
    obtain ⟨y2, ty2, rfl, hy2⟩ := strs_getV hS (by simpa using hv2)
    refine ng9 ?_
    clear ng9
    have hb2 := (hlen y2 (List.mem_of_getElem? hy2)).1
    have hb3 := (hlen y2 (List.mem_of_getElem? hy2)).2
    k_steps
    refine LCg.CompEnd.intro (by k_asm) (by k_asm) _ (fun p hp => hp) off2 (Or.inr ⟨_, (by k_mem), rfl, _, rfl⟩) ⟨rfl, ?_⟩
    have : os1.getD i2 Str.empty = y2 := by rw [List.getD_eq_getElem?_getD, hy2]; rfl
    rw [this]; exact ⟨_, rfl⟩
  · intro ys hyl hy
    k_steps
    (rename _ ∧ _ ∧ LCg.Off1 _ _ => o1)
    refine hnext _ ys _ _ _ (by k_asm) rfl rfl rfl (by k_asm) (fun p hp => off1_mem (l := (Do, listOf out.toArray c) :: (Dn, listOf us.toArray nn) :: cs) o1 p hp) ?_
    refine strsAre_of (by rw [hyl, List.size_toArray, hl5, List.length_map]) fun i y hi => ?_
    obtain ⟨t', e⟩ := hy i y hi
    refine ⟨t', ?_⟩
    have hlt : i < os1.length := by
      have := (List.getElem?_eq_some_iff.mp hi).1
      rw [hyl, List.size_toArray, hl5] at this
      exact this
    rw [e]
    simp [List.getD_eq_getElem?_getD, hlt]
end Mine
end
open PySem PySem.W PyProof.Rows in
example : Mine.RS := by intro M A Q E s h; w_top off; first | walk1 | skip; all_goals first | exact h | exact wpAny_pure h
section
set_option maxHeartbeats 8000000
namespace Mine
local macro_rules | `(tactic| k_all) => `(tactic| assumption)
theorem law7 {w : World} {p : Program} {loose : List Str} {mean : ExcName → Option Value} {mg mb : Str → Option Value} {dp un : Nat} {gd : Option (List Code)} {outer : List Env} {A₀ : Around} {base h₀ h : Heap} {g : Array GenState} {d : Drawn} {tk : Nat} {os : OsState} {L : Addr} {m : Str → Option Value} {Q : Flow → Shared → Prop} {E : Value → Shared → Prop} {sc : Scope} {rest : List Stmt}
   (B : Below A₀ base outer h₀) (X : (hd.heap_1 w.params).In h₀) (T : Top p loose mean mg mb h₀) (hdp : dp + 640 < recursionLimit) (hu : un + 4000 < cLine) (esc : sc = lawScope w.params) (F : Fr h₀ L h m) {x1 x2 x3 x4 x5 x6 : Obj} {v1 v2 v3 v4 v5 v6 : Option Value} {Dn Do Df : Addr} {us out fs : List Value} {nn c : Nat} {own : List (Addr × Obj)} (Nm : ∀ q ∈ [(Str.ofString "numbers", Value.ref Dn), (Str.ofString "order", Value.ref Do), (Str.ofString "files", Value.ref Df)], m q.1 = some q.2) (N : News h₀ L h ((Df, LCg.lst fs) :: (Do, listOf out.toArray c) :: (Dn, listOf us.toArray nn) :: (L + 1 + 1 + 1 + 1 + 1 + 1, x6) :: (L + 1 + 1 + 1 + 1 + 1, x5) :: (L + 1 + 1 + 1 + 1, x4) :: (L + 1 + 1 + 1, x3) :: (L + 1 + 1, x2) :: (L + 1, x1) :: own))
   (d1 : x1.data = .cell v1) (d2 : x2.data = .cell v2) (d3 : x3.data = .cell v3) (d4 : x4.data = .cell v4) (d5 : x5.data = .cell v5) (d6 : x6.data = .cell v6) (c1 : @Ne Nat Dn (L + 1 + 1)) (c2 : @Ne Nat Do (L + 1 + 1)) (c3 : @Ne Nat Df (L + 1 + 1)) (w1 : ∀ p ∈ own, p.1 ≠ (L + 1 + 1))
   (hnext : ∀ Di x2' h' tk' m', x2'.data = .cell (some (.ref Di)) → Fr h₀ L h' m' → m' (Str.ofString "numbers") = some (.ref Dn) → m' (Str.ofString "order") = some (.ref Do) → m' (Str.ofString "files") = some (.ref Df) → News h₀ L h' ((Di, listOf #[] 0) :: (Df, LCg.lst fs) :: (Do, listOf out.toArray c) :: (Dn, listOf us.toArray nn) :: (L + 1 + 1 + 1 + 1 + 1 + 1, x6) :: (L + 1 + 1 + 1 + 1 + 1, x5) :: (L + 1 + 1 + 1 + 1, x4) :: (L + 1 + 1 + 1, x3) :: (L + 1 + 1, x2') :: (L + 1, x1) :: own) → (@LT.lt Nat instLTNat Df Di ∧ @LT.lt Nat instLTNat Do Di ∧ @LT.lt Nat instLTNat Dn Di) → wpAny (model PySem.Challenge.rw_of0013_01.prog w) ((aTop dp un gd outer).deeper (lawEnv sc L)) (execs rest (lawEnv sc L)) Q (fun e s' => wpAny (model PySem.Challenge.rw_of0013_01.prog w) ((aTop dp un gd outer).deeper (lawEnv sc L)) (leaving (lawEnv sc L) e) (fun _ s'' => E e s'') (fun e' s'' => E e' s'') s') ⟨h', g, d, tk', os⟩) :
   wpAny (model PySem.Challenge.rw_of0013_01.prog w) ((aTop dp un gd outer).deeper (lawEnv sc L)) (execs (lawStmt w.params 7 :: rest) (lawEnv sc L)) Q (fun e s' => wpAny (model PySem.Challenge.rw_of0013_01.prog w) ((aTop dp un gd outer).deeper (lawEnv sc L)) (leaving (lawEnv sc L) e) (fun _ s'' => E e s'') (fun e' s'' => E e' s'') s') ⟨h, g, d, tk, os⟩ := by
  refine with_eq (a := lawScope w.params) (by conv => (lhs; whnf)) fun e9 => ?_
  have e8 := esc.trans e9
  subst e8
  clear e9 esc
  refine with_eq (a := lawStmt w.params 7) (by conv => (lhs; whnf)) fun e9 => ?_
  rw [e9]
  clear e9
  have F9 := fr_ps F Nm
  clear F
  dsimp only [kstB] at F9
  revert X; k_fill; intro X
  k_steps
  (rename @LT.lt Nat instLTNat Df _ ∧ _ => l9)
  exact hnext _ _ _ _ _ (by assumption) (by k_asm) rfl rfl rfl (by k_asm) ⟨l9.1, l9.2.1, l9.2.2.1⟩
end Mine
end
open PySem PySem.W PyProof.Rows in
example : Mine.RS := by intro M A Q E s h; w_top off; first | walk1 | skip; all_goals first | exact h | exact wpAny_pure h
section
set_option maxHeartbeats 8000000
namespace Mine
local macro_rules | `(tactic| k_ne) => `(tactic| (refine neN ?_; (try dsimp only); first | assumption | (refine Ne.symm ?_; assumption) | omega))
local macro_rules | `(tactic| k_all) => `(tactic| assumption)
noncomputable def forStmt (P : Params) (i : Nat) : Stmt := match lawStmt P 8 with
  | .For _ _ body _ _ => body.getD i default
  | _ => default
theorem for0 {w : World} {p : Program} {loose : List Str} {mean : ExcName → Option Value} {mg mb : Str → Option Value} {dp un : Nat} {gd : Option (List Code)} {outer : List Env} {A₀ : Around} {base h₀ h : Heap} {g : Array GenState} {d : Drawn} {tk : Nat} {os : OsState} {L : Addr} {m : Str → Option Value} {Q : Flow → Shared → Prop} {E : Value → Shared → Prop} {sc : Scope} {rest : List Stmt}
   (B : Below A₀ base outer h₀) (X : (hd.heap_1 w.params).In h₀) (T : Top p loose mean mg mb h₀) (hdp : dp + 640 < recursionLimit) (hu : un + 4000 < cLine) (esc : sc = lawScope w.params) (F : Fr h₀ L h m) {x1 x2 x3 x4 x5 x6 : Obj} {v1 v2 v3 v4 v5 v6 : Option Value} {Dn Do Df Di : Addr} {us out fs inn : List Value} {nn c ci : Nat} {os1 : List Str} {zs : List Int} {k : Nat} {tp : Tok} {own : List (Addr × Obj)}
   (d1 : x1.data = .cell v1) (d2 : x2.data = .cell v2) (d3 : x3.data = .cell v3) (d4 : x4.data = .cell v4) (d5 : x5.data = .cell v5) (d6 : x6.data = .cell v6) (c0 : @Ne Nat Dn (L + 1)) (c1 : @Ne Nat Do (L + 1)) (c2 : @Ne Nat Df (L + 1)) (c3 : @Ne Nat Di (L + 1)) (w1 : ∀ p ∈ own, p.1 ≠ (L + 1))
   (hS : StrsAre out os1) (hl : os1.length ≤ 7) (hlen : ∀ y ∈ os1, y.length ≤ 300) (Nm : ∀ q ∈ [(Str.ofString "numbers", Value.ref Dn), (Str.ofString "order", Value.ref Do), (Str.ofString "files", Value.ref Df), (Str.ofString "place", Value.int (k : Int) tp)], m q.1 = some q.2) (N : News h₀ L h ((Di, listOf inn.toArray ci) :: (Df, LCg.lst fs) :: (Do, listOf out.toArray c) :: (Dn, listOf us.toArray nn) :: (L + 1 + 1 + 1 + 1 + 1 + 1, x6) :: (L + 1 + 1 + 1 + 1 + 1, x5) :: (L + 1 + 1 + 1 + 1, x4) :: (L + 1 + 1 + 1, x3) :: (L + 1 + 1, x2) :: (L + 1, x1) :: own)) {nm : Str} {tn : Tok} (hit : ItIs out (k : Int) (.str nm tn))
   (hnext : ∀ x1' h' tk' m', x1'.data = .cell (some (.str nm tn)) → Fr h₀ L h' m' → m' (Str.ofString "numbers") = some (.ref Dn) → m' (Str.ofString "order") = some (.ref Do) → m' (Str.ofString "files") = some (.ref Df) → m' (Str.ofString "place") = some (.int (k : Int) tp) → News h₀ L h' ((Di, listOf inn.toArray ci) :: (Df, LCg.lst fs) :: (Do, listOf out.toArray c) :: (Dn, listOf us.toArray nn) :: (L + 1 + 1 + 1 + 1 + 1 + 1, x6) :: (L + 1 + 1 + 1 + 1 + 1, x5) :: (L + 1 + 1 + 1 + 1, x4) :: (L + 1 + 1 + 1, x3) :: (L + 1 + 1, x2) :: (L + 1, x1') :: own) → wpAny (model PySem.Challenge.rw_of0013_01.prog w) ((aTop dp un gd outer).deeper (lawEnv sc L)) (execs rest (lawEnv sc L)) Q (fun e s' => wpAny (model PySem.Challenge.rw_of0013_01.prog w) ((aTop dp un gd outer).deeper (lawEnv sc L)) (leaving (lawEnv sc L) e) (fun _ s'' => E e s'') (fun e' s'' => E e' s'') s') ⟨h', g, d, tk', os⟩) :
   wpAny (model PySem.Challenge.rw_of0013_01.prog w) ((aTop dp un gd outer).deeper (lawEnv sc L)) (execs (forStmt w.params 0 :: rest) (lawEnv sc L)) Q (fun e s' => wpAny (model PySem.Challenge.rw_of0013_01.prog w) ((aTop dp un gd outer).deeper (lawEnv sc L)) (leaving (lawEnv sc L) e) (fun _ s'' => E e s'') (fun e' s'' => E e' s'') s') ⟨h, g, d, tk, os⟩ := by
  obtain ⟨ev, hev⟩ : ∃ ev, ev = lawEnv sc L := ⟨_, rfl⟩
  refine with_eq (a := lawScope w.params) (by conv => (lhs; whnf)) fun e9 => ?_
  have e8 := esc.trans e9
  subst e8
  clear e9 esc
  have PX : ∀ (h : Heap) (m' : Str → Option Value), Fr h₀ L h m' → Below (A₀.deeper ev) base (ev :: outer) h := fun h m' F => pushX B F (by rw [hev]; rfl) (by rw [hev]; rfl)
  subst hev
  refine with_eq (a := forStmt w.params 0) (by conv => (lhs; whnf)) fun e9 => ?_
  rw [e9]
  clear e9
  have F9 := fr_ps F Nm
  clear F
  dsimp only [kstB] at F9
  revert X; k_fill; intro X
  clear hS
  (repeat' (first | (k_unfold; (try dsimp only)) | (k_end; wrow_close) | (k_here; (with_reducible show wpAny _ _ (subscriptTail _ _ (Value.ref _) (Value.int _ _)) _ _ _); (with_unfolding_all refine' Mine.it_is ?k1 ?k2 ?_ ?k6; (case k2 => assumption); (case k1 => is_list); (case k6 => with_unfolding_all rfl); k_whole)) | walk1 | (dsimp only; walk1) | (leave1; try dsimp only)))
  exact hnext _ _ _ _ (by assumption) (by k_asm) rfl rfl rfl rfl (by k_asm)
end Mine
end
open PySem PySem.W PyProof.Rows in
example : Mine.RS := by intro M A Q E s h; w_top off; first | walk1 | skip; all_goals first | exact h | exact wpAny_pure h
section
set_option maxHeartbeats 8000000
local macro_rules | `(tactic| intro $x:ident) => `(tactic| first | (refine @Mine.pick_allM _ (by with_reducible assumption) (by k_extra "ne9") _ ?_; generalize @Mine.pick _ _ _ = $x) | intros $x)
local macro_rules | `(tactic| intro $x:term $y:term $ys:term*) => `(tactic| (intro $x:term; intro $y:term $ys:term*))
local macro_rules | `(tactic| k_fold) => `(tactic| skip)
namespace Mine
structure CutTo (vs : List Value) (k : Int) (zs : List Value) : Prop where
  lo : 0 ≤ k
  len : vs.length ≤ 1000
  cut : vs.take k.toNat = zs
theorem my_cutTo {prog : Program} {w : World} {A : Around} {E : Value → Shared → Prop} {s : Shared} {value slice : PySem.Expr} {h₀ : Heap} {L l : Addr} {m : Str → Option Value} {news : List (Addr × Obj)} {vs zs : List Value} {k : Int} {u : Tok} {Q : Value → Shared → Prop}
    (F : Fr h₀ L s.heap m) (N : News h₀ L s.heap news) (hl : s.heap.IsList l vs.toArray) (c : CutTo vs k zs)
    (h : ∀ D h', Fr h₀ L h' m → News h₀ L h' ((D, listOf zs.toArray 0) :: news) → (∀ p ∈ news, p.1 < D) → Q (.ref D) { s with heap := h' })
    (hs : subscripted slice false (.ref l) (.ref s.heap.objs.size) = operate [.ref s.heap.objs.size, .ref l] (getItem (.ref l) (.ref s.heap.objs.size))) (ht : ∀ r, letTemporaryGo value (.ref l) r = pure ()) :
    wpAny (model prog w) A (subscriptTail value slice (.ref l) (.ref s.heap.objs.size)) Q E { s with heap := s.heap.push { cls := .type "slice", data := .fields #[.none, .int k u, .none] } } := by
  refine kms_slice_lit F N hl (lo := none) (hi := some k) (by kmk_part) (by kmk_part) ?_ h hs ht ?_
  · have h1 : ¬ k < 0 := by have := c.lo; omega
    unfold kms_pick
    rw [← c.cut]
    simp only [kms_lo, kms_hi, if_neg h1]
    simp
  · rw [List.size_toArray, sizeLine_eq]; have := c.len; omega
structure JB (p : Str → Bool) (news0 : List (Addr × Obj)) (l : List Str) (i : Nat) (ys : List Value) (nx : List (Addr × Obj)) : Prop where
  nx : nx = news0
  ok : StrsAre ys ((l.take i).filter p)
theorem JB.zero {p : Str → Bool} {news0 : List (Addr × Obj)} {l : List Str} : JB p news0 l 0 [] news0 := ⟨rfl, by simpa using StrsAre.nil⟩
theorem JB.yes {p : Str → Bool} {news0 nx : List (Addr × Obj)} {l : List Str} {i : Nat} {ys : List Value} {y : Str} {t : Tok} (J : JB p news0 l i ys nx) (h : l[i]? = some y) (hp : p y = true) : JB p news0 l (i + 1) (ys ++ [.str y t]) nx := by
  refine ⟨J.nx, ?_⟩
  rw [List.take_add_one, h, List.filter_append]
  have : List.filter p (some y).toList = [y] := by simp [hp]
  rw [this]
  exact J.ok.append' (.cons y t .nil)
theorem JB.no {p : Str → Bool} {news0 nx : List (Addr × Obj)} {l : List Str} {i : Nat} {ys : List Value} {y : Str} (J : JB p news0 l i ys nx) (h : l[i]? = some y) (hp : p y = false) : JB p news0 l (i + 1) ys nx := by
  refine ⟨J.nx, ?_⟩
  rw [List.take_add_one, h, List.filter_append]
  have : List.filter p (some y).toList = [] := by simp [hp]
  rw [this, List.append_nil]
  exact J.ok
noncomputable def belowP (nm x : Str) : Bool := Txt.slice x none (some ((nm.length : Int) + 1)) == nm ++ Str.ofString "."
noncomputable def belowS (nm : Str) (l : List Str) : List Str := l.filter (belowP nm)
theorem for1 :
 ∀ {w : World} {p : Program} {loose : List Str} {mean : ExcName → Option Value} {mg mb : Str → Option Value} {dp un : Nat} {gd : Option (List Code)} {outer : List Env} {A₀ : Around} {base h₀ h : Heap} {g : Array GenState} {d : Drawn} {tk : Nat} {os : OsState} {L : Addr} {m : Str → Option Value} {Q : Flow → Shared → Prop} {E : Value → Shared → Prop} {sc : Scope} {rest : List Stmt} {x1 x2 x3 x4 x5 x6 : Obj} {v1 v2 v3 v4 v5 v6 : Option Value} {Dn Do Df Di : Addr} {us out fs inn : List Value} {nn c ci : Nat} {os1 : List Str} {zs : List Int} {k : Nat} {tp : Tok} {own : List (Addr × Obj)} {nm : Str} {tn : Tok}
 (B : Below A₀ base outer h₀) (X : (hd.heap_1 w.params).In h₀) (T : Top p loose mean mg mb h₀) (hdp : dp + 640 < recursionLimit) (hu : un + 4000 < cLine) (esc : sc = lawScope w.params) (F : Fr h₀ L h m) (d1 : x1.data = .cell v1) (d2 : x2.data = .cell v2) (d3 : x3.data = .cell v3) (d4 : x4.data = .cell v4) (d5 : x5.data = .cell v5) (d6 : x6.data = .cell v6) (hS : StrsAre out os1) (hl : os1.length ≤ 7) (hlen : ∀ y ∈ os1, y.length ≤ 300) (Nm : ∀ q ∈ [(Str.ofString "numbers", Value.ref Dn), (Str.ofString "order", Value.ref Do), (Str.ofString "files", Value.ref Df), (Str.ofString "place", Value.int (k : Int) tp)], m q.1 = some q.2) (N : News h₀ L h ((Di, listOf inn.toArray ci) :: (Df, LCg.lst fs) :: (Do, listOf out.toArray c) :: (Dn, listOf us.toArray nn) :: (L + 1 + 1 + 1 + 1 + 1 + 1, x6) :: (L + 1 + 1 + 1 + 1 + 1, x5) :: (L + 1 + 1 + 1 + 1, x4) :: (L + 1 + 1 + 1, x3) :: (L + 1 + 1, x2) :: (L + 1, x1) :: own)) (hv : v1 = some (.str nm tn)) (hnl : nm.length ≤ 300) (hnext : ∀ Db ys nb h' tk' m', Fr h₀ L h' m' → m' (Str.ofString "numbers") = some (.ref Dn) → m' (Str.ofString "order") = some (.ref Do) → m' (Str.ofString "files") = some (.ref Df) → m' (Str.ofString "place") = some (.int (k : Int) tp) → m' (Str.ofString "below") = some (.ref Db) → News h₀ L h' ((Db, listOf ys.toArray nb) :: (Di, listOf inn.toArray ci) :: (Df, LCg.lst fs) :: (Do, listOf out.toArray c) :: (Dn, listOf us.toArray nn) :: (L + 1 + 1 + 1 + 1 + 1 + 1, x6) :: (L + 1 + 1 + 1 + 1 + 1, x5) :: (L + 1 + 1 + 1 + 1, x4) :: (L + 1 + 1 + 1, x3) :: (L + 1 + 1, x2) :: (L + 1, x1) :: own) → @Ne Nat Di Db → StrsAre ys (belowS nm (os1.take k)) → wpAny (model PySem.Challenge.rw_of0013_01.prog w) ((aTop dp un gd outer).deeper (lawEnv sc L)) (execs rest (lawEnv sc L)) Q (fun e s' => wpAny (model PySem.Challenge.rw_of0013_01.prog w) ((aTop dp un gd outer).deeper (lawEnv sc L)) (leaving (lawEnv sc L) e) (fun _ s'' => E e s'') (fun e' s'' => E e' s'') s') ⟨h', g, d, tk', os⟩), wpAny (model PySem.Challenge.rw_of0013_01.prog w) ((aTop dp un gd outer).deeper (lawEnv sc L)) (execs (forStmt w.params 1 :: rest) (lawEnv sc L)) Q (fun e s' => wpAny (model PySem.Challenge.rw_of0013_01.prog w) ((aTop dp un gd outer).deeper (lawEnv sc L)) (leaving (lawEnv sc L) e) (fun _ s'' => E e s'') (fun e' s'' => E e' s'') s') ⟨h, g, d, tk, os⟩ := by
  have hpk9 := Mine.pickOn
  iterate 10 refine @Mine.pad _ ?_
  iterate 4 k_extra "pkG"
  iterate 21 k_extra "pk9"
  rename_i w p loose mean mg mb dp un gd outer A₀ base h₀ h g d tk os L m Q E sc rest x1 x2 x3 x4 x5 x6 v1 v2 v3 v4 v5 v6 Dn Do Df Di us out fs inn nn c ci os1 zs k tp own nm tn B X T hdp hu esc F d1 d2 d3 d4 d5 d6 hS hl hlen Nm N hv hnl hnext
  subst hv
  obtain ⟨ev, hev⟩ : ∃ ev, ev = lawEnv sc L := ⟨_, rfl⟩
  refine with_eq (a := lawScope w.params) (by conv => (lhs; whnf)) fun e9 => ?_
  have e8 := esc.trans e9
  subst e8
  clear e9 esc
  have PX : ∀ (h : Heap) (m' : Str → Option Value), Fr h₀ L h m' → Below (A₀.deeper ev) base (ev :: outer) h := fun h m' F => pushX B F (by rw [hev]; rfl) (by rw [hev]; rfl)
  subst hev
  refine with_eq (a := forStmt w.params 1) (by conv => (lhs; whnf)) fun e9 => ?_
  rw [e9]
  clear e9
  have F9 := fr_ps F Nm
  clear F
  dsimp only [kstB] at F9
  revert X; k_fill; intro X
  have hl5 := hS.length
  have cut : CutTo out (k : Int) (out.take k) := ⟨Int.natCast_nonneg _, by omega, by simp⟩
  have hS2 := hS.take' k
  have hl6 := hS2.length
  clear hS
  repeat ((fail_if_success (with_reducible show LCt.CompSrcT _ _ _ _ _ _ _ _ _ _ _ _ _ _ _)); (first | (k_here; (with_reducible show wpAny _ _ (subscriptTail _ (PySem.Expr.Slice none _ none _) (Value.ref _) (Value.ref _)) _ _ _); k_dflt (refine' Mine.my_cutTo ?F ?N ?l ?c ?_ ?s ?t; (case F => k_asm); (case N => k_asm); (case c => assumption); (case l => is_list); (case s => with_unfolding_all rfl); (case t => kmk_pure)); intro D' h' F' N' l1; (try k_lt l1); (try dsimp only); (try k_fold)) | ((with_reducible show wpAny _ _ (exec (PySem.Stmt.Assign _ (PySem.Expr.ListComp _ _ _ _) _) _) _ _ _); (k_here; k_dflt (refine LCt.Assign_ListComp_T (F₀ := by k_asm) (by rfl) (by with_unfolding_all rfl) (by with_unfolding_all rfl) (by decide) (by rfl) (by decide) (by rfl) (by rfl) (by rfl) ?_))) | walk1 | (dsimp only; walk1)))
  (with_reducible rename News _ _ _ _ => N5)
  refine LCt.CompSrcT.ledger rfl (by k_asm) N5 (.head _) (by
    rw [PySem.sizeLine_eq, List.size_toArray]
    have : (List.take k out).length ≤ out.length := (by rw [List.length_take]; exact Nat.min_le_right _ _); omega) ?_
  intro g9
  refine ct_inv (JB (belowP nm) _ (os1.take k)) ?_ ?_ JB.zero
  · intro i2 v2 ys2 nx I oI C oC D2 m2 h2 tk2 E2 hi2 hv2 hJ hC2 hx2 F2 N2 off2 ne2
    refine Classical.byContradiction fun ng9 => ?_
    obtain ⟨y2, ty2, rfl, hy2⟩ := strs_getV hS2 (by simpa using hv2)
    refine ng9 ?_
    clear ng9
    obtain rfl := hJ.nx
    have hb2 := hlen y2 (List.mem_of_mem_take (List.mem_of_getElem? hy2))
    k_steps
    all_goals first
      | exact LCg.CompEnd.intro (by k_asm) (by k_asm) _ (fun p hp => hp) off2 (Or.inr ⟨_, .head _, rfl, _, rfl⟩) (hJ.yes hy2 (by assumption))
      | exact LCg.CompEnd.intro (by k_asm) (by k_asm) _ (fun p hp => hp) off2 (Or.inr ⟨_, .head _, rfl, _, rfl⟩) (hJ.no hy2 (by assumption))
  · intro ys nx hJ
    obtain rfl := hJ.nx
    have hS7 := hJ.ok
    have hS8 : StrsAre ys (belowS nm (os1.take k)) := by
      have e : (os1.take k).take (List.take k out).toArray.size = os1.take k := List.take_of_length_le (by rw [List.size_toArray, hl6]; exact Nat.le_refl _)
      rw [e] at hS7; exact hS7
    k_steps
    (with_reducible rename Fr _ _ _ _ => F7); (with_reducible rename News _ _ _ _ => N7)
    (rename _ ∧ _ ∧ _ ∧ _ ∧ _ ∧ _ => o9)
    exact hnext _ ys _ _ _ _ F7 rfl rfl rfl rfl rfl (fun p hp => N7 p (by rcases List.mem_cons.mp hp with rfl | hp; exact .head _; exact .tail _ (.tail _ hp))) (by first | exact o9.2.1 | omega) hS8
end Mine
end
open PySem PySem.W PyProof.Rows in
example : Mine.RS := by intro M A Q E s h; w_top off; first | walk1 | skip; all_goals first | exact h | exact wpAny_pure h
section
set_option maxHeartbeats 8000000
namespace Mine
local macro_rules | `(tactic| k_ne) => `(tactic| (refine neN ?_; (try dsimp only); first | assumption | (refine Ne.symm ?_; assumption) | omega))
local macro_rules | `(tactic| k_all) => `(tactic| assumption)
theorem for2 {w : World} {p : Program} {loose : List Str} {mean : ExcName → Option Value} {mg mb : Str → Option Value} {dp un : Nat} {gd : Option (List Code)} {outer : List Env} {A₀ : Around} {base h₀ h : Heap} {g : Array GenState} {d : Drawn} {tk : Nat} {os : OsState} {L : Addr} {m : Str → Option Value} {Q : Flow → Shared → Prop} {E : Value → Shared → Prop} {sc : Scope} {rest : List Stmt}
   (B : Below A₀ base outer h₀) (X : (hd.heap_1 w.params).In h₀) (T : Top p loose mean mg mb h₀) (hdp : dp + 640 < recursionLimit) (hu : un + 4000 < cLine) (esc : sc = lawScope w.params) (F : Fr h₀ L h m) {x1 x2 x3 x4 x5 x6 : Obj} {v1 v2 v3 v4 v5 v6 : Option Value} {Dn Do Df Di Db : Addr} {us out fs inn ys : List Value} {nn c ci nb : Nat} {os1 : List Str} {zs : List Int} {k : Nat} {tp : Tok} {own : List (Addr × Obj)}
   (d1 : x1.data = .cell v1) (d2 : x2.data = .cell v2) (d3 : x3.data = .cell v3) (d4 : x4.data = .cell v4) (d5 : x5.data = .cell v5) (d6 : x6.data = .cell v6) (c0 : @Ne Nat Di Df) (c1 : @Ne Nat Di Do) (c2 : @Ne Nat Di Dn) (c3 : @Ne Nat Di (L + 1)) (c4 : @Ne Nat Di (L + 1 + 1)) (c5 : @Ne Nat Di (L + 1 + 1 + 1)) (c6 : @Ne Nat Di (L + 1 + 1 + 1 + 1)) (c7 : @Ne Nat Di (L + 1 + 1 + 1 + 1 + 1)) (c8 : @Ne Nat Di (L + 1 + 1 + 1 + 1 + 1 + 1)) (w1 : ∀ p ∈ own, p.1 ≠ Di)
   (hS : StrsAre out os1) (hl : os1.length ≤ 7) (hlen : ∀ y ∈ os1, y.length ≤ 300) (Nm : ∀ q ∈ [(Str.ofString "numbers", Value.ref Dn), (Str.ofString "order", Value.ref Do), (Str.ofString "files", Value.ref Df), (Str.ofString "place", Value.int (k : Int) tp), (Str.ofString "below", Value.ref Db)], m q.1 = some q.2) (N : News h₀ L h ((Db, listOf ys.toArray nb) :: (Di, listOf inn.toArray ci) :: (Df, LCg.lst fs) :: (Do, listOf out.toArray c) :: (Dn, listOf us.toArray nn) :: (L + 1 + 1 + 1 + 1 + 1 + 1, x6) :: (L + 1 + 1 + 1 + 1 + 1, x5) :: (L + 1 + 1 + 1 + 1, x4) :: (L + 1 + 1 + 1, x3) :: (L + 1 + 1, x2) :: (L + 1, x1) :: own)) (hv : v2 = some (.ref Di)) (ne1 : @Ne Nat Di Db) (hy1 : ys.length ≤ 1000) (hy2 : inn.length ≤ 1000)
   (hnext : ∀ ci' h' tk' m', Fr h₀ L h' m' → m' (Str.ofString "numbers") = some (.ref Dn) → m' (Str.ofString "order") = some (.ref Do) → m' (Str.ofString "files") = some (.ref Df) → m' (Str.ofString "place") = some (.int (k : Int) tp) → m' (Str.ofString "below") = some (.ref Db) → News h₀ L h' ((Db, listOf ys.toArray nb) :: (Di, listOf (inn ++ ys).toArray ci') :: (Df, LCg.lst fs) :: (Do, listOf out.toArray c) :: (Dn, listOf us.toArray nn) :: (L + 1 + 1 + 1 + 1 + 1 + 1, x6) :: (L + 1 + 1 + 1 + 1 + 1, x5) :: (L + 1 + 1 + 1 + 1, x4) :: (L + 1 + 1 + 1, x3) :: (L + 1 + 1, x2) :: (L + 1, x1) :: own) → wpAny (model PySem.Challenge.rw_of0013_01.prog w) ((aTop dp un gd outer).deeper (lawEnv sc L)) (execs rest (lawEnv sc L)) Q (fun e s' => wpAny (model PySem.Challenge.rw_of0013_01.prog w) ((aTop dp un gd outer).deeper (lawEnv sc L)) (leaving (lawEnv sc L) e) (fun _ s'' => E e s'') (fun e' s'' => E e' s'') s') ⟨h', g, d, tk', os⟩) :
   wpAny (model PySem.Challenge.rw_of0013_01.prog w) ((aTop dp un gd outer).deeper (lawEnv sc L)) (execs (forStmt w.params 2 :: rest) (lawEnv sc L)) Q (fun e s' => wpAny (model PySem.Challenge.rw_of0013_01.prog w) ((aTop dp un gd outer).deeper (lawEnv sc L)) (leaving (lawEnv sc L) e) (fun _ s'' => E e s'') (fun e' s'' => E e' s'') s') ⟨h, g, d, tk, os⟩ := by
  subst hv
  obtain ⟨ev, hev⟩ : ∃ ev, ev = lawEnv sc L := ⟨_, rfl⟩
  refine with_eq (a := lawScope w.params) (by conv => (lhs; whnf)) fun e9 => ?_
  have e8 := esc.trans e9
  subst e8
  clear e9 esc
  have PX : ∀ (h : Heap) (m' : Str → Option Value), Fr h₀ L h m' → Below (A₀.deeper ev) base (ev :: outer) h := fun h m' F => pushX B F (by rw [hev]; rfl) (by rw [hev]; rfl)
  subst hev
  refine with_eq (a := forStmt w.params 2) (by conv => (lhs; whnf)) fun e9 => ?_
  rw [e9]
  clear e9
  have F9 := fr_ps F Nm
  clear F
  dsimp only [kstB] at F9
  revert X; k_fill; intro X
  (repeat' (first | (k_unfold; (try dsimp only)) | (k_end; wrow_close) | (k_here; (with_reducible show wpAny _ _ (call (Value.builtin _) [Value.ref _, Value.ref _]) _ _ _); k_dflt (refine' Mine.my_ext (us := _) (zs := _) ?F ?N ?b ?U ?y ?z ?_; (case F => k_asm); (case N => k_asm); (case b => k_mem); (case U => k_updF); (case y => first | assumption | (simp; done)); (case z => first | assumption | (simp; done))); intro h' n' F' N'; (try dsimp only)) | walk1 | (dsimp only; walk1) | (leave1; try dsimp only)))
  exact hnext _ _ _ _ (by k_asm) rfl rfl rfl rfl rfl (by k_asm)
end Mine
end
open PySem PySem.W PyProof.Rows in
example : Mine.RS := by intro M A Q E s h; w_top off; first | walk1 | skip; all_goals first | exact h | exact wpAny_pure h
section
set_option maxHeartbeats 8000000
namespace Mine
local macro_rules | `(tactic| k_ne) => `(tactic| first | (refine neN ?_; (try dsimp only); omega) | exact Apart.ne (by assumption) (by k_mem) | exact Apart.ne' (by assumption) (by k_mem))
local macro_rules | `(tactic| k_ne) => `(tactic| (refine neN ?_; (try dsimp only); first | assumption | (refine Ne.symm ?_; assumption) | omega))
local macro_rules | `(tactic| k_all) => `(tactic| assumption)
theorem Apart.same {I : Addr} {l l' : List (Addr × Obj)} (A : Apart I l) (e : l.map (·.1) = l'.map (·.1)) : Apart I l' := by
  refine ⟨?_⟩
  have h := A.off
  clear A
  induction l generalizing l' with
  | nil => cases l' with
    | nil => trivial
    | cons _ _ => simp at e
  | cons p l ih => cases l' with
    | nil => simp at e
    | cons q l' =>
      simp only [List.map_cons, List.cons.injEq] at e
      exact ⟨e.1 ▸ h.1, ih e.2 h.2⟩
theorem for3 :
 ∀ {w : World} {p : Program} {loose : List Str} {mean : ExcName → Option Value} {mg mb : Str → Option Value} {dp un : Nat} {gd : Option (List Code)} {outer : List Env} {A₀ : Around} {base h₀ h : Heap} {g : Array GenState} {d : Drawn} {tk : Nat} {os : OsState} {L : Addr} {m : Str → Option Value} {Q : Flow → Shared → Prop} {E : Value → Shared → Prop} {sc : Scope} {rest : List Stmt} {x1 x2 x3 x4 x5 x6 : Obj} {v1 v2 v3 v4 v5 v6 : Option Value} {Dn Do Df Di Db : Addr} {us out fs inn ys : List Value} {nn c ci nb : Nat} {os1 : List Str} {zs : List Int} {k : Nat} {tp : Tok} {own : List (Addr × Obj)} {nm : Str} {tn : Tok}
 (B : Below A₀ base outer h₀) (X : (hd.heap_1 w.params).In h₀) (T : Top p loose mean mg mb h₀) (hdp : dp + 640 < recursionLimit) (hu : un + 4000 < cLine) (esc : sc = lawScope w.params) (F : Fr h₀ L h m) (d1 : x1.data = .cell v1) (d2 : x2.data = .cell v2) (d3 : x3.data = .cell v3) (d4 : x4.data = .cell v4) (d5 : x5.data = .cell v5) (d6 : x6.data = .cell v6) (c0 : @Ne Nat Dn (L + 1 + 1 + 1)) (c1 : @Ne Nat Do (L + 1 + 1 + 1)) (c2 : @Ne Nat Df (L + 1 + 1 + 1)) (c3 : @Ne Nat Di (L + 1 + 1 + 1)) (w1 : ∀ p ∈ own, p.1 ≠ (L + 1 + 1 + 1)) (hS : StrsAre out os1) (hl : os1.length ≤ 7) (hlen : ∀ y ∈ os1, y.length ≤ 300) (Nm : ∀ q ∈ [(Str.ofString "numbers", Value.ref Dn), (Str.ofString "order", Value.ref Do), (Str.ofString "files", Value.ref Df), (Str.ofString "place", Value.int (k : Int) tp), (Str.ofString "below", Value.ref Db)], m q.1 = some q.2) (N : News h₀ L h ((Db, listOf ys.toArray nb) :: (Di, listOf inn.toArray ci) :: (Df, LCg.lst fs) :: (Do, listOf out.toArray c) :: (Dn, listOf us.toArray nn) :: (L + 1 + 1 + 1 + 1 + 1 + 1, x6) :: (L + 1 + 1 + 1 + 1 + 1, x5) :: (L + 1 + 1 + 1 + 1, x4) :: (L + 1 + 1 + 1, x3) :: (L + 1 + 1, x2) :: (L + 1, x1) :: own)) (hv : v1 = some (.str nm tn)) (hnl : nm.length ≤ 300) (apb : @Ne Nat Db (L + 1 + 1 + 1)) (hnext : ∀ x dx S D I so io t1 t2 t3 nd nl ds x3' h' tk' m', x3'.data = .cell (some (.ref x)) → Fr h₀ L h' m' → m' (Str.ofString "numbers") = some (.ref Dn) → m' (Str.ofString "order") = some (.ref Do) → m' (Str.ofString "files") = some (.ref Df) → m' (Str.ofString "place") = some (.int (k : Int) tp) → m' (Str.ofString "below") = some (.ref Db) → News h₀ L h' ((I, io) :: (D, listOf ds.toArray nl) :: (S, so) :: (x, instObj 86 dx) :: (dx, dictOf (ignD w.params t1 t2 t3 S D I) nd) :: (Db, listOf ys.toArray nb) :: (Di, listOf inn.toArray ci) :: (Df, LCg.lst fs) :: (Do, listOf out.toArray c) :: (Dn, listOf us.toArray nn) :: (L + 1 + 1 + 1 + 1 + 1 + 1, x6) :: (L + 1 + 1 + 1 + 1 + 1, x5) :: (L + 1 + 1 + 1 + 1, x4) :: (L + 1 + 1 + 1, x3') :: (L + 1 + 1, x2) :: (L + 1, x1) :: own) → RdrOk w x dx S D I so ds [nm] [] → Memo w io memo0 1 → Apart I ((D, listOf ds.toArray nl) :: (S, so) :: (x, instObj 86 dx) :: (dx, dictOf (ignD w.params t1 t2 t3 S D I) nd) :: (Db, listOf ys.toArray nb) :: (Di, listOf inn.toArray ci) :: (Df, LCg.lst fs) :: (Do, listOf out.toArray c) :: (Dn, listOf us.toArray nn) :: (L + 1 + 1 + 1 + 1 + 1 + 1, x6) :: (L + 1 + 1 + 1 + 1 + 1, x5) :: (L + 1 + 1 + 1 + 1, x4) :: (L + 1 + 1 + 1, x3') :: (L + 1 + 1, x2) :: (L + 1, x1) :: own) → Apart D ((S, so) :: (x, instObj 86 dx) :: (dx, dictOf (ignD w.params t1 t2 t3 S D I) nd) :: (Db, listOf ys.toArray nb) :: (Di, listOf inn.toArray ci) :: (Df, LCg.lst fs) :: (Do, listOf out.toArray c) :: (Dn, listOf us.toArray nn) :: (L + 1 + 1 + 1 + 1 + 1 + 1, x6) :: (L + 1 + 1 + 1 + 1 + 1, x5) :: (L + 1 + 1 + 1 + 1, x4) :: (L + 1 + 1 + 1, x3') :: (L + 1 + 1, x2) :: (L + 1, x1) :: own) → Apart S ((x, instObj 86 dx) :: (dx, dictOf (ignD w.params t1 t2 t3 S D I) nd) :: (Db, listOf ys.toArray nb) :: (Di, listOf inn.toArray ci) :: (Df, LCg.lst fs) :: (Do, listOf out.toArray c) :: (Dn, listOf us.toArray nn) :: (L + 1 + 1 + 1 + 1 + 1 + 1, x6) :: (L + 1 + 1 + 1 + 1 + 1, x5) :: (L + 1 + 1 + 1 + 1, x4) :: (L + 1 + 1 + 1, x3') :: (L + 1 + 1, x2) :: (L + 1, x1) :: own) → Apart x ((dx, dictOf (ignD w.params t1 t2 t3 S D I) nd) :: (Db, listOf ys.toArray nb) :: (Di, listOf inn.toArray ci) :: (Df, LCg.lst fs) :: (Do, listOf out.toArray c) :: (Dn, listOf us.toArray nn) :: (L + 1 + 1 + 1 + 1 + 1 + 1, x6) :: (L + 1 + 1 + 1 + 1 + 1, x5) :: (L + 1 + 1 + 1 + 1, x4) :: (L + 1 + 1 + 1, x3') :: (L + 1 + 1, x2) :: (L + 1, x1) :: own) → Apart dx ((Db, listOf ys.toArray nb) :: (Di, listOf inn.toArray ci) :: (Df, LCg.lst fs) :: (Do, listOf out.toArray c) :: (Dn, listOf us.toArray nn) :: (L + 1 + 1 + 1 + 1 + 1 + 1, x6) :: (L + 1 + 1 + 1 + 1 + 1, x5) :: (L + 1 + 1 + 1 + 1, x4) :: (L + 1 + 1 + 1, x3') :: (L + 1 + 1, x2) :: (L + 1, x1) :: own) → wpAny (model PySem.Challenge.rw_of0013_01.prog w) ((aTop dp un gd outer).deeper (lawEnv sc L)) (execs rest (lawEnv sc L)) Q (fun e s' => wpAny (model PySem.Challenge.rw_of0013_01.prog w) ((aTop dp un gd outer).deeper (lawEnv sc L)) (leaving (lawEnv sc L) e) (fun _ s'' => E e s'') (fun e' s'' => E e' s'') s') ⟨h', g, d, tk', os⟩), wpAny (model PySem.Challenge.rw_of0013_01.prog w) ((aTop dp un gd outer).deeper (lawEnv sc L)) (execs (forStmt w.params 3 :: rest) (lawEnv sc L)) Q (fun e s' => wpAny (model PySem.Challenge.rw_of0013_01.prog w) ((aTop dp un gd outer).deeper (lawEnv sc L)) (leaving (lawEnv sc L) e) (fun _ s'' => E e s'') (fun e' s'' => E e' s'') s') ⟨h, g, d, tk, os⟩ := by
  iterate 7 refine @Mine.pad _ ?_
  iterate 4 k_extra "pkG"
  iterate 27 k_extra "pk9"
  rename_i w p loose mean mg mb dp un gd outer A₀ base h₀ h g d tk os L m Q E sc rest x1 x2 x3 x4 x5 x6 v1 v2 v3 v4 v5 v6 Dn Do Df Di Db us out fs inn ys nn c ci nb os1 zs k tp own nm tn B X T hdp hu esc F d1 d2 d3 d4 d5 d6 c0 c1 c2 c3 w1 hS hl hlen Nm N hv hnl apb hnext
  subst hv
  obtain ⟨ev, hev⟩ : ∃ ev, ev = lawEnv sc L := ⟨_, rfl⟩
  refine with_eq (a := lawScope w.params) (by conv => (lhs; whnf)) fun e9 => ?_
  have e8 := esc.trans e9
  subst e8
  clear e9 esc
  have PX : ∀ (h : Heap) (m' : Str → Option Value), Fr h₀ L h m' → Below (A₀.deeper ev) base (ev :: outer) h := fun h m' F => pushX B F (by rw [hev]; rfl) (by rw [hev]; rfl)
  subst hev
  refine with_eq (a := forStmt w.params 3) (by conv => (lhs; whnf)) fun e9 => ?_
  rw [e9]
  clear e9
  have F9 := fr_ps F Nm
  clear F
  dsimp only [kstB] at F9
  revert X; k_fill; intro X
  clear hS
  (repeat' (first | (k_unfold; (try dsimp only)) | (k_end; wrow_close) | (k_here; (with_reducible show wpAny _ _ (call (Value.ref 86) [Value.ref _]) _ _ _); k_dflt (refine' f_ign1 (vs := [Value.str _ _]) ?k1 ?k2 ?k3 ?k5 ?kd ?ku ?kN (.cons _ _ .nil) rfl (by simp) (by simp) (by simp) (by simp) ?kl ?_; (case k1 => k_asm); (case k2 => k_asm); (case k3 => k_asm); (case kN => k_asm); (case k5 => k_asm); (case kd => ktr_room); (case ku => ktr_units); (case kl => (intro y' hy'; rw [List.mem_singleton.mp hy']; assumption))); intro x' dx' S' D' I' so' io' t1' t2' t3' nd' nl' ds' h' tk' F' N' R' M' A1' A2' A3' A4' A5'; (try dsimp only); (try k_fold)) | walk1 | (dsimp only; walk1) | (leave1; try dsimp only)))
  (rename Apart _ (_ :: _ :: _ :: _ :: (Db, _) :: _) => A1); (rename Apart _ (_ :: _ :: _ :: (Db, _) :: _) => A2); (rename Apart _ (_ :: _ :: (Db, _) :: _) => A3); (rename Apart _ (_ :: (Db, _) :: _) => A4); (rename Apart _ ((Db, _) :: _) => A5)
  (with_reducible rename Fr _ _ _ _ => F8); (with_reducible rename News _ _ _ _ => N8)
  exact hnext _ _ _ _ _ _ _ _ _ _ _ _ _ _ _ _ _ (by assumption) F8 rfl rfl rfl rfl rfl N8 (by assumption) (by assumption) (A1.same rfl) (A2.same rfl) (A3.same rfl) (A4.same rfl) (A5.same rfl)
end Mine
end
open PySem PySem.W PyProof.Rows in
example : Mine.RS := by intro M A Q E s h; w_top off; first | walk1 | skip; all_goals first | exact h | exact wpAny_pure h
section
set_option maxHeartbeats 8000000
namespace Mine
local macro_rules | `(tactic| k_ne) => `(tactic| first | (refine neN ?_; (try dsimp only); omega) | exact Apart.ne (by assumption) (by k_mem) | exact Apart.ne' (by assumption) (by k_mem))
local macro_rules | `(tactic| k_ne) => `(tactic| (refine neN ?_; (try dsimp only); first | assumption | (refine Ne.symm ?_; assumption) | omega))
local macro_rules | `(tactic| k_all) => `(tactic| assumption)
theorem for4 :
 ∀ {w : World} {p : Program} {loose : List Str} {mean : ExcName → Option Value} {mg mb : Str → Option Value} {dp un : Nat} {gd : Option (List Code)} {outer : List Env} {A₀ : Around} {base h₀ h : Heap} {g : Array GenState} {d : Drawn} {tk : Nat} {os : OsState} {L : Addr} {m : Str → Option Value} {Q : Flow → Shared → Prop} {E : Value → Shared → Prop} {sc : Scope} {rest : List Stmt} {x1 x2 x3 x4 x5 x6 : Obj} {v1 v2 v3 v4 v5 v6 : Option Value} {Dn Do Df Di Db : Addr} {us out fs inn ys : List Value} {nn c ci nb : Nat} {aI aD aS ax adx : Addr} {oI oD oS ox odx : Obj} {os1 : List Str} {zs : List Int} {k : Nat} {tp : Tok} {own : List (Addr × Obj)} {z : Int} {tz : Tok}
 (B : Below A₀ base outer h₀) (X : (hd.heap_1 w.params).In h₀) (T : Top p loose mean mg mb h₀) (hdp : dp + 640 < recursionLimit) (hu : un + 4000 < cLine) (esc : sc = lawScope w.params) (F : Fr h₀ L h m) (d1 : x1.data = .cell v1) (d2 : x2.data = .cell v2) (d3 : x3.data = .cell v3) (d4 : x4.data = .cell v4) (d5 : x5.data = .cell v5) (d6 : x6.data = .cell v6) (c0 : @Ne Nat Dn (L + 1 + 1 + 1 + 1)) (c1 : @Ne Nat Do (L + 1 + 1 + 1 + 1)) (c2 : @Ne Nat Df (L + 1 + 1 + 1 + 1)) (c3 : @Ne Nat Di (L + 1 + 1 + 1 + 1)) (w1 : ∀ p ∈ own, p.1 ≠ (L + 1 + 1 + 1 + 1)) (hS : StrsAre out os1) (hl : os1.length ≤ 7) (hlen : ∀ y ∈ os1, y.length ≤ 300) (Nm : ∀ q ∈ [(Str.ofString "numbers", Value.ref Dn), (Str.ofString "order", Value.ref Do), (Str.ofString "files", Value.ref Df), (Str.ofString "place", Value.int (k : Int) tp), (Str.ofString "below", Value.ref Db)], m q.1 = some q.2) (N : News h₀ L h ((aI, oI) :: (aD, oD) :: (aS, oS) :: (ax, ox) :: (adx, odx) :: (Db, listOf ys.toArray nb) :: (Di, listOf inn.toArray ci) :: (Df, LCg.lst fs) :: (Do, listOf out.toArray c) :: (Dn, listOf us.toArray nn) :: (L + 1 + 1 + 1 + 1 + 1 + 1, x6) :: (L + 1 + 1 + 1 + 1 + 1, x5) :: (L + 1 + 1 + 1 + 1, x4) :: (L + 1 + 1 + 1, x3) :: (L + 1 + 1, x2) :: (L + 1, x1) :: own)) (hit : ItIs us (k : Int) (.int z tz)) (hz1 : 0 ≤ z) (hz2 : z < 10000000000) (hno : NormOk (folderN z)) (apb : @Ne Nat Db (L + 1 + 1 + 1 + 1)) (am : @Ne Nat aI (L + 1 + 1 + 1 + 1) ∧ @Ne Nat aD (L + 1 + 1 + 1 + 1) ∧ @Ne Nat aS (L + 1 + 1 + 1 + 1) ∧ @Ne Nat ax (L + 1 + 1 + 1 + 1) ∧ @Ne Nat adx (L + 1 + 1 + 1 + 1)) (hnext : ∀ x dx S D I so io t1 t2 t3 nd nl ds x4' h' tk' m', x4'.data = .cell (some (.ref x)) → Fr h₀ L h' m' → m' (Str.ofString "numbers") = some (.ref Dn) → m' (Str.ofString "order") = some (.ref Do) → m' (Str.ofString "files") = some (.ref Df) → m' (Str.ofString "place") = some (.int (k : Int) tp) → m' (Str.ofString "below") = some (.ref Db) → News h₀ L h' ((I, io) :: (D, listOf ds.toArray nl) :: (S, so) :: (x, instObj 86 dx) :: (dx, dictOf (ignD w.params t1 t2 t3 S D I) nd) :: (aI, oI) :: (aD, oD) :: (aS, oS) :: (ax, ox) :: (adx, odx) :: (Db, listOf ys.toArray nb) :: (Di, listOf inn.toArray ci) :: (Df, LCg.lst fs) :: (Do, listOf out.toArray c) :: (Dn, listOf us.toArray nn) :: (L + 1 + 1 + 1 + 1 + 1 + 1, x6) :: (L + 1 + 1 + 1 + 1 + 1, x5) :: (L + 1 + 1 + 1 + 1, x4') :: (L + 1 + 1 + 1, x3) :: (L + 1 + 1, x2) :: (L + 1, x1) :: own) → RdrOk w x dx S D I so ds [] [normN (folderN z)] → Memo w io memo0 1 → Apart I ((D, listOf ds.toArray nl) :: (S, so) :: (x, instObj 86 dx) :: (dx, dictOf (ignD w.params t1 t2 t3 S D I) nd) :: (aI, oI) :: (aD, oD) :: (aS, oS) :: (ax, ox) :: (adx, odx) :: (Db, listOf ys.toArray nb) :: (Di, listOf inn.toArray ci) :: (Df, LCg.lst fs) :: (Do, listOf out.toArray c) :: (Dn, listOf us.toArray nn) :: (L + 1 + 1 + 1 + 1 + 1 + 1, x6) :: (L + 1 + 1 + 1 + 1 + 1, x5) :: (L + 1 + 1 + 1 + 1, x4') :: (L + 1 + 1 + 1, x3) :: (L + 1 + 1, x2) :: (L + 1, x1) :: own) → Apart D ((S, so) :: (x, instObj 86 dx) :: (dx, dictOf (ignD w.params t1 t2 t3 S D I) nd) :: (aI, oI) :: (aD, oD) :: (aS, oS) :: (ax, ox) :: (adx, odx) :: (Db, listOf ys.toArray nb) :: (Di, listOf inn.toArray ci) :: (Df, LCg.lst fs) :: (Do, listOf out.toArray c) :: (Dn, listOf us.toArray nn) :: (L + 1 + 1 + 1 + 1 + 1 + 1, x6) :: (L + 1 + 1 + 1 + 1 + 1, x5) :: (L + 1 + 1 + 1 + 1, x4') :: (L + 1 + 1 + 1, x3) :: (L + 1 + 1, x2) :: (L + 1, x1) :: own) → Apart S ((x, instObj 86 dx) :: (dx, dictOf (ignD w.params t1 t2 t3 S D I) nd) :: (aI, oI) :: (aD, oD) :: (aS, oS) :: (ax, ox) :: (adx, odx) :: (Db, listOf ys.toArray nb) :: (Di, listOf inn.toArray ci) :: (Df, LCg.lst fs) :: (Do, listOf out.toArray c) :: (Dn, listOf us.toArray nn) :: (L + 1 + 1 + 1 + 1 + 1 + 1, x6) :: (L + 1 + 1 + 1 + 1 + 1, x5) :: (L + 1 + 1 + 1 + 1, x4') :: (L + 1 + 1 + 1, x3) :: (L + 1 + 1, x2) :: (L + 1, x1) :: own) → Apart x ((dx, dictOf (ignD w.params t1 t2 t3 S D I) nd) :: (aI, oI) :: (aD, oD) :: (aS, oS) :: (ax, ox) :: (adx, odx) :: (Db, listOf ys.toArray nb) :: (Di, listOf inn.toArray ci) :: (Df, LCg.lst fs) :: (Do, listOf out.toArray c) :: (Dn, listOf us.toArray nn) :: (L + 1 + 1 + 1 + 1 + 1 + 1, x6) :: (L + 1 + 1 + 1 + 1 + 1, x5) :: (L + 1 + 1 + 1 + 1, x4') :: (L + 1 + 1 + 1, x3) :: (L + 1 + 1, x2) :: (L + 1, x1) :: own) → Apart dx ((aI, oI) :: (aD, oD) :: (aS, oS) :: (ax, ox) :: (adx, odx) :: (Db, listOf ys.toArray nb) :: (Di, listOf inn.toArray ci) :: (Df, LCg.lst fs) :: (Do, listOf out.toArray c) :: (Dn, listOf us.toArray nn) :: (L + 1 + 1 + 1 + 1 + 1 + 1, x6) :: (L + 1 + 1 + 1 + 1 + 1, x5) :: (L + 1 + 1 + 1 + 1, x4') :: (L + 1 + 1 + 1, x3) :: (L + 1 + 1, x2) :: (L + 1, x1) :: own) → wpAny (model PySem.Challenge.rw_of0013_01.prog w) ((aTop dp un gd outer).deeper (lawEnv sc L)) (execs rest (lawEnv sc L)) Q (fun e s' => wpAny (model PySem.Challenge.rw_of0013_01.prog w) ((aTop dp un gd outer).deeper (lawEnv sc L)) (leaving (lawEnv sc L) e) (fun _ s'' => E e s'') (fun e' s'' => E e' s'') s') ⟨h', g, d, tk', os⟩), wpAny (model PySem.Challenge.rw_of0013_01.prog w) ((aTop dp un gd outer).deeper (lawEnv sc L)) (execs (forStmt w.params 4 :: rest) (lawEnv sc L)) Q (fun e s' => wpAny (model PySem.Challenge.rw_of0013_01.prog w) ((aTop dp un gd outer).deeper (lawEnv sc L)) (leaving (lawEnv sc L) e) (fun _ s'' => E e s'') (fun e' s'' => E e' s'') s') ⟨h, g, d, tk, os⟩ := by
  iterate 13 refine @Mine.pad _ ?_
  iterate 5 k_extra "pkG"
  iterate 30 k_extra "pk9"
  rename_i w p loose mean mg mb dp un gd outer A₀ base h₀ h g d tk os L m Q E sc rest x1 x2 x3 x4 x5 x6 v1 v2 v3 v4 v5 v6 Dn Do Df Di Db us out fs inn ys nn c ci nb aI aD aS ax adx oI oD oS ox odx os1 zs k tp own z tz B X T hdp hu esc F d1 d2 d3 d4 d5 d6 c0 c1 c2 c3 w1 hS hl hlen Nm N hit hz1 hz2 hno apb am hnext
  obtain ⟨ev, hev⟩ : ∃ ev, ev = lawEnv sc L := ⟨_, rfl⟩
  refine with_eq (a := lawScope w.params) (by conv => (lhs; whnf)) fun e9 => ?_
  have e8 := esc.trans e9
  subst e8
  clear e9 esc
  have PX : ∀ (h : Heap) (m' : Str → Option Value), Fr h₀ L h m' → Below (A₀.deeper ev) base (ev :: outer) h := fun h m' F => pushX B F (by rw [hev]; rfl) (by rw [hev]; rfl)
  subst hev
  refine with_eq (a := forStmt w.params 4) (by conv => (lhs; whnf)) fun e9 => ?_
  rw [e9]
  clear e9
  have F9 := fr_ps F Nm
  clear F
  dsimp only [kstB] at F9
  revert X; k_fill; intro X
  clear hS
  (repeat' (first | (k_unfold; (try dsimp only)) | (k_end; wrow_close) | (k_here; (with_reducible show wpAny _ _ (call (Value.ref 86) [Value.none, Value.ref _]) _ _ _); k_dflt (refine' Mine.f_ign2 (fs := [Value.str _ _]) ?k1 ?k2 ?k3 ?k5 ?kd ?ku (.cons _ _ .nil) rfl (by simp) ?kl ?kN ?_; (case k1 => k_asm); (case k2 => k_asm); (case k3 => k_asm); (case kN => k_asm); (case k5 => k_asm); (case kd => ktr_room); (case ku => ktr_units); (case kl => (intro y' hy'; rw [List.mem_singleton.mp hy']; assumption))); intro x' dx' S' D' I' so' io' t1' t2' t3' nd' nl' ds' h' tk' F' N' R' M' A1' A2' A3' A4' A5'; (try dsimp only); (try k_fold)) | (k_here; (with_reducible show wpAny _ _ (call (Value.ref 121) [Value.int _ _]) _ _ _); k_dflt (refine' Mine.f_folder ?k1 ?k2 ?k3 ?k4 ?k5 ?kf ?kK ?kd ?ku _ _ ?kn ?km ?_; (case k1 => k_asm); (case k2 => k_asm); (case k3 => k_asm); (case k4 => k_asm); (case k5 => k_asm); (case kf => exact rfl); (case kK => exact rfl); (case kd => ktr_room); (case ku => ktr_units); (case kn => assumption); (case km => assumption)); intro t' h' tk' F' N'; (try dsimp only); (try k_fold)) | (k_here; (with_reducible show wpAny _ _ (subscriptTail _ _ (Value.ref _) (Value.int _ _)) _ _ _); (with_unfolding_all refine' Mine.it_is ?k1 ?k2 ?_ ?k6; (case k2 => assumption); (case k1 => is_list); (case k6 => with_unfolding_all rfl); k_whole)) | walk1 | (dsimp only; walk1) | (leave1; try dsimp only)))
  (rename Apart _ (_ :: _ :: _ :: _ :: (aI, _) :: _) => A1); (rename Apart _ (_ :: _ :: _ :: (aI, _) :: _) => A2); (rename Apart _ (_ :: _ :: (aI, _) :: _) => A3); (rename Apart _ (_ :: (aI, _) :: _) => A4); (rename Apart _ ((aI, _) :: _) => A5)
  (with_reducible rename Fr _ _ _ _ => F8); (with_reducible rename News _ _ _ _ => N8)
  exact hnext _ _ _ _ _ _ _ _ _ _ _ _ _ _ _ _ _ (by assumption) F8 rfl rfl rfl rfl rfl N8 (by assumption) (by assumption) (A1.same rfl) (A2.same rfl) (A3.same rfl) (A4.same rfl) (A5.same rfl)
end Mine
end
open PySem PySem.W PyProof.Rows in
example : Mine.RS := by intro M A Q E s h; w_top off; first | walk1 | skip; all_goals first | exact h | exact wpAny_pure h
section
open PySem PySem.W PyProof.Rows PySem.Calls PySem.Spec
set_option maxHeartbeats 4000000
namespace Mine
open LCg
section
variable {prog : Program} {w : World} {A : Around} {E : Value → Shared → Prop} {s : Shared} {h₀ : Heap} {L : Addr} {m : Str → Option Value} {env : Env}
theorem z_Assign :
 ∀ {prog : Program} {w : World} {A : Around} {E : Value → Shared → Prop} {s : Shared} {h₀ : Heap} {L : Addr} {m : Str → Option Value} {env : Env} {elt iter c : PySem.Expr} {a b y : Str} {pa pb tp py : Pos} {kk : Nat} {scope : Scope} {cl : List (Str × Addr)} {pos spos : Pos} {Q : Flow → Shared → Prop}
 (_F₀ : Fr h₀ L s.heap m) (hLe : env.locals = L) (hsw : swapsWith (.ListComp elt [⟨.Tuple [.Name a pa, .Name b pb] kk tp, iter, [c], 0⟩] scope pos) (some (.Name y py)) spos.line env = pure true) (hclos : closureFor scope env = pure cl) (hcell : ∀ y ∈ scope.names, y.2 ≠ .cell) (hkind : scope.kind = .function) (hnames : ∀ y ∈ scope.names, y.2 = .local → scope.names.lookup y.1 = some .local) (hxa : scope.names.lookup a = some .local) (hxb : scope.names.lookup b = some .local) (hab : ¬ a = b) (hy : env.kindOf y = some .local) (hp : (env.scope.kind == .class || (env.scope.kind == .module && env.locals != env.globals)) = false) (h : wpAny (model prog w) A (eval iter env) (ZSrc prog w A h₀ L m env c elt a b scope cl (fun s₂ => FinA h₀ L m s₂ y Q)) E s) (hs : ∀ x, foldedSetIterable iter env x = pure x := by intro _; rfl), wpAny (model prog w) A (exec (.Assign [.Name y py] (.ListComp elt [⟨.Tuple [.Name a pa, .Name b pb] kk tp, iter, [c], 0⟩] scope pos) spos) env) Q E s := by
  iterate 7 refine @Mine.pad _ ?_
  iterate 2 k_extra "pkG"
  iterate 14 k_extra "pk9"
  rename_i prog w A E s h₀ L m env elt iter c a b y pa pb tp py kk scope cl pos spos Q _F₀ hLe hsw hclos hcell hkind hnames hxa hxb hab hy hp h hs
  subst hLe
  rw [exec_Assign_Name_used _ _ _ _ hsw]
  refine wpAny_bind (wpAny_standAt (wpAny_bind ?_))
  show wpAny _ A (do let _ ← comprehension (.ListComp elt [⟨.Tuple [.Name a pa, .Name b pb] kk tp, iter, [c], 0⟩] scope pos) scope env _ (newList []) false (eval iter env) (some (assign (.Name y py) env))) _ _ s
  refine wpAny_bind (wpAny_mono (wpAny_comprehension_free (use := some (assign (.Name y py) env)) (Q := fun _ s' => Q .next s') rfl hs hclos hkind hnames
    (wpAny_mono h (fun xv s₁ h₁ => ?_) fun _ _ e => e)) (fun _ s' hq => wpAny_pure (wpAny_pure hq)) fun _ _ e => e)
  refine Classical.byContradiction fun ng9 => ?_
  obtain ⟨l1, l2, lo1, lo2, xs, vs, n1, n2, z, TI, TO, i1, i2, news, rfl, hh, D5, hc1, hd1, hc2, hd2, hlen, hsz, hst, h5, hS, F, N, off, R⟩ := h₁
  refine ng9 ?_
  clear ng9
  refine wpAny_pyIter_zip hst.1 ?_
  refine z_block hh D5 hc1 hd1 hc2 hd2 hlen hsz hst h5 hS hcell hkind hxa hxb hab F N off R ?_
  intro D C h' tk m' ys news' F' N' o1 hn hC₀ hD₀ hCL hDL hCD offC fin
  show wpAny _ A (assign (.Name y py) env (.ref D)) _ _ _
  refine wpAny_assign_Name (wpAny_storeName_local hy F'.ns (fun h₂ hn₂ hs₂ => ?_) hp)
  have hL₀ : h₀.get? env.locals = none := Heap.get?_none_of_le F'.above
  have F₂ : Fr h₀ env.locals h₂ (fun z => if z = y then some (.ref D) else m z) := ⟨hn₂, fun b o e => hs₂.extBut b o (fun q => by rw [q, hL₀] at e; cases e) (F'.keep b o e), F'.above⟩
  refine ⟨m', hn.sameBut hs₂ hCL, fun h'' hs'' => fin D h'' _ (F₂.change hs'' hCL hC₀) (fun p hp => ?_) o1⟩
  have z : h₂.get? p.1 = some p.2 := hs₂.extBut _ _ (N' p hp).2.1 (N' p hp).1
  refine ⟨hs''.extBut _ _ ?_ z, (N' p hp).2⟩
  rcases List.mem_cons.mp hp with rfl | hp
  · exact Ne.symm hCD
  · exact offC p hp
end
end Mine
end
open PySem PySem.W PyProof.Rows in
example : Mine.RS := by intro M A Q E s h; w_top off; first | walk1 | skip; all_goals first | exact h | exact wpAny_pure h
section
set_option maxHeartbeats 8000000
namespace Mine
local macro_rules | `(tactic| walk_at "call type:zip") => `(tactic| (k_here; refine Mine.park ?_))
noncomputable def ansP (ms dss : List Str) (x : Str) : Bool := ansB x ms dss (some (fileOf x))
noncomputable def memP (mem : Str → Option Bool) (ms dss asked : List Str) : Str → Option Bool := fun k => if k ∈ asked then some (ansP ms dss k) else mem k
structure JM (w : World) (mem : Str → Option Bool) (n : Nat) (ms dss : List Str) (led : Obj → List (Addr × Obj)) (l : List Str) (i : Nat) (ys : List Value) (nx : List (Addr × Obj)) : Prop where
  out : ∃ io', nx = led io' ∧ Memo w io' (memP mem ms dss (l.take i)) (n + i) ∧ StrsAre ys ((l.take i).filter (ansP ms dss))
theorem Memo.congr {w : World} {io : Obj} {mem mem' : Str → Option Bool} {n : Nat} (M : Memo w io mem n) (e : mem = mem') : Memo w io mem' n := e ▸ M
theorem memP_step {mem : Str → Option Bool} {ms dss l : List Str} {i : Nat} {y : Str} (h : l[i]? = some y) (_hm : memP mem ms dss (l.take i) y = none) : (fun k => if k = y then some ((memP mem ms dss (l.take i) y).getD (ansB y ms dss (some (fileOf y)))) else memP mem ms dss (l.take i) k) = memP mem ms dss (l.take (i + 1)) := by
  rw [_hm]
  funext k
  have e : l.take (i + 1) = l.take i ++ [y] := by rw [List.take_add_one, h]; rfl
  unfold memP
  rw [e]
  by_cases q : k = y
  · subst q; simp [ansP]
  · simp [q]
theorem for5 :
 ∀ {w : World} {p : Program} {loose : List Str} {mean : ExcName → Option Value} {mg mb : Str → Option Value} {dp un : Nat} {gd : Option (List Code)} {outer : List Env} {A₀ : Around} {base h₀ h : Heap} {g : Array GenState} {d : Drawn} {tk : Nat} {os : OsState} {L : Addr} {m : Str → Option Value} {Q : Flow → Shared → Prop} {E : Value → Shared → Prop} {sc : Scope} {rest : List Stmt} {xc io so : Obj} {I D S x dx : Addr} {t1 t2 t3 : Tok} {nd nl : Nat} {ds : List Value} {Dn Do Df Db : Addr} {k : Nat} {tp : Tok} {out fs : List Value} {c n : Nat} {os1 ms dss : List Str} {mem : Str → Option Bool} {rst : List (Addr × Obj)}
 (B : Below A₀ base outer h₀) (X : (hd.heap_1 w.params).In h₀) (T : Top p loose mean mg mb h₀) (hdp : dp + 640 < recursionLimit) (hu : un + 4000 < cLine) (esc : sc = lawScope w.params) (F : Fr h₀ L h m) (Nm : ∀ q ∈ [(Str.ofString "numbers", Value.ref Dn), (Str.ofString "order", Value.ref Do), (Str.ofString "files", Value.ref Df), (Str.ofString "place", Value.int (k : Int) tp), (Str.ofString "below", Value.ref Db)], m q.1 = some q.2) (N : News h₀ L h ((I, io) :: (D, listOf ds.toArray nl) :: (S, so) :: (x, instObj 86 dx) :: (dx, dictOf (ignD w.params t1 t2 t3 S D I) nd) :: (L + 1 + 1 + 1, xc) :: (Df, LCg.lst fs) :: (Do, listOf out.toArray c) :: rst)) (hcell : xc.data = .cell (some (.ref x))) (R : RdrOk w x dx S D I so ds ms dss) (M : Memo w io mem n) (hmem : ∀ y ∈ os1, mem y = none) (hms : ∀ y ∈ os1, y ∈ ms ∨ ms.length ≤ 1) (hn : n ≤ 800) (hnd : os1.Nodup) (AI : Apart I ((D, listOf ds.toArray nl) :: (S, so) :: (x, instObj 86 dx) :: (dx, dictOf (ignD w.params t1 t2 t3 S D I) nd) :: (L + 1 + 1 + 1, xc) :: (Df, LCg.lst fs) :: (Do, listOf out.toArray c) :: rst)) (hS : StrsAre out os1) (hF : StrsAre fs (os1.map fileOf)) (hl : os1.length ≤ 7) (hlen : ∀ y ∈ os1, y.length ≤ 300 ∧ (fileOf y).length ≤ 300) (hnext : ∀ Dl ys io' h' tk' m', Fr h₀ L h' m' → m' (Str.ofString "numbers") = some (.ref Dn) → m' (Str.ofString "order") = some (.ref Do) → m' (Str.ofString "files") = some (.ref Df) → m' (Str.ofString "place") = some (.int (k : Int) tp) → m' (Str.ofString "below") = some (.ref Db) → m' (Str.ofString "left") = some (.ref Dl) → News h₀ L h' ((Dl, LCg.lst ys) :: (I, io') :: (D, listOf ds.toArray nl) :: (S, so) :: (x, instObj 86 dx) :: (dx, dictOf (ignD w.params t1 t2 t3 S D I) nd) :: (L + 1 + 1 + 1, xc) :: (Df, LCg.lst fs) :: (Do, listOf out.toArray c) :: rst) → LCg.Off1 Dl ((I, io') :: (D, listOf ds.toArray nl) :: (S, so) :: (x, instObj 86 dx) :: (dx, dictOf (ignD w.params t1 t2 t3 S D I) nd) :: (L + 1 + 1 + 1, xc) :: (Df, LCg.lst fs) :: (Do, listOf out.toArray c) :: rst) → StrsAre ys (os1.filter (ansP ms dss)) → Memo w io' (memP mem ms dss os1) (n + os1.length) → wpAny (model PySem.Challenge.rw_of0013_01.prog w) ((aTop dp un gd outer).deeper (lawEnv sc L)) (execs rest (lawEnv sc L)) Q (fun e s' => wpAny (model PySem.Challenge.rw_of0013_01.prog w) ((aTop dp un gd outer).deeper (lawEnv sc L)) (leaving (lawEnv sc L) e) (fun _ s'' => E e s'') (fun e' s'' => E e' s'') s') ⟨h', g, d, tk', os⟩), wpAny (model PySem.Challenge.rw_of0013_01.prog w) ((aTop dp un gd outer).deeper (lawEnv sc L)) (execs (forStmt w.params 5 :: rest) (lawEnv sc L)) Q (fun e s' => wpAny (model PySem.Challenge.rw_of0013_01.prog w) ((aTop dp un gd outer).deeper (lawEnv sc L)) (leaving (lawEnv sc L) e) (fun _ s'' => E e s'') (fun e' s'' => E e' s'') s') ⟨h, g, d, tk, os⟩ := by
  iterate 11 refine @Mine.pad _ ?_
  iterate 4 k_extra "pkG"
  iterate 22 k_extra "pk9"
  rename_i w p loose mean mg mb dp un gd outer A₀ base h₀ h g d tk os L m Q E sc rest xc io so I D S x dx t1 t2 t3 nd nl ds Dn Do Df Db k tp out fs c n os1 ms dss mem rst B X T hdp hu esc F Nm N hcell R M hmem hms hn hnd AI hS hF hl hlen hnext
  obtain ⟨ev, hev⟩ : ∃ ev, ev = lawEnv sc L := ⟨_, rfl⟩
  refine with_eq (a := lawScope w.params) (by conv => (lhs; whnf)) fun e9 => ?_
  have e8 := esc.trans e9
  subst e8
  clear e9 esc
  have PX : ∀ (h : Heap) (m' : Str → Option Value), Fr h₀ L h m' → Below (A₀.deeper ev) base (ev :: outer) h := fun h m' F => pushX B F (by rw [hev]; rfl) (by rw [hev]; rfl)
  subst hev
  refine with_eq (a := forStmt w.params 5) (by conv => (lhs; whnf)) fun e9 => ?_
  rw [e9]
  clear e9
  have F9 := fr_ps F Nm
  clear F
  dsimp only [kstB] at F9
  revert X; k_fill; intro X
  have hl5 := hS.length
  have hl6 := hF.length
  rw [List.length_map] at hl6
  (repeat' (first | (k_unfold; (try dsimp only)) | (k_end; wrow_close) | ((with_reducible show wpAny _ _ (exec (PySem.Stmt.Assign _ (PySem.Expr.ListComp _ _ _ _) _) _) _ _ _); (k_here; k_dflt (refine Mine.z_Assign (by k_asm) (by rfl) (by with_unfolding_all rfl) (by with_unfolding_all rfl) (by decide) (by rfl) (by decide) (by rfl) (by rfl) (by decide) (by rfl) (by rfl) ?_))) | walk1 | (dsimp only; walk1) | (leave1; try dsimp only)))
  refine ⟨?_⟩
  (with_reducible rename Fr _ _ _ _ => F8)
  refine zip_src rfl F8 N (.tail _ (.tail _ (.tail _ (.tail _ (.tail _ (.tail _ (.tail _ (.head _)))))))) rfl rfl (.tail _ (.tail _ (.tail _ (.tail _ (.tail _ (.tail _ (.head _))))))) rfl rfl (by omega) (by rw [PySem.sizeLine_eq]; omega) ?_
  intro g9
  refine zr_inv (JM w mem n ms dss (fun o => (I, o) :: (D, listOf ds.toArray nl) :: (S, so) :: (x, instObj 86 dx) :: (dx, dictOf (ignD w.params t1 t2 t3 S D I) nd) :: (L + 1 + 1 + 1, xc) :: (Df, LCg.lst fs) :: (Do, listOf out.toArray c) :: rst) os1) ?turn ?fin ⟨io, rfl, (M.congr (by funext k; simp [memP])), by simpa using StrsAre.nil⟩
  case turn =>
    intro i p ys nx own C oC D2 m₂ h2 tk2 E2 hp hJ hC ha hb F2 N2 hCD o1 o2
    refine Classical.byContradiction fun ng9 => ?_
    obtain ⟨io', rfl, M2, hY⟩ := hJ.out
    refine ng9 ?_
    clear ng9
    obtain ⟨p1, p2⟩ := p
    obtain ⟨hp1, hp2⟩ := List.getElem?_zip_eq_some.mp hp
    refine Classical.byContradiction fun ng9 => ?_
    obtain ⟨y, ty, rfl, hy⟩ := strs_getV hS hp1
    refine ng9 ?_
    clear ng9
    refine Classical.byContradiction fun ng9 => ?_
    obtain ⟨f, tf, rfl, hf⟩ := strs_getV hF hp2
    refine ng9 ?_
    clear ng9
    have hi : i < os1.length := (List.getElem?_eq_some_iff.mp hy).1
    have hf' : f = fileOf y := by rw [List.getElem?_map, hy] at hf; exact (Option.some.inj hf).symm
    subst hf'
    simp only [List.cons_append] at N2
    clear hp hp1 hp2 hf F8 N hnext hS hF
    (repeat' (first | (k_unfold; (try dsimp only)) | (k_end; wrow_close) | (k_here; (with_reducible show wpAny _ _ (call (Value.ref 83) _) _ _ _); refine Mine.park ?_) | walk1 | (dsimp only; walk1) | (leave1; try dsimp only)))
    refine ⟨?_⟩
    have oI := o1 (I, io') (.head _)
    have hrest : ∀ p ∈ ((D, listOf ds.toArray nl) :: (S, so) :: (x, instObj 86 dx) :: (dx, dictOf (ignD w.params t1 t2 t3 S D I) nd) :: (L + 1 + 1 + 1, xc) :: (Df, LCg.lst fs) :: (Do, listOf out.toArray c) :: rst) ++ own, p.1 ≠ I := fun p hp => (List.mem_append.mp hp).elim (fun hp => off_mem AI.off p hp) (fun hp => (oI.2.2 p hp).symm)
    have hnone : memP mem ms dss (os1.take i) y = none := by
      unfold memP
      have hni : y ∉ os1.take i := fun hm => by
        have e : os1 = os1.take i ++ y :: os1.drop (i + 1) := by
          conv => lhs; rw [← List.take_append_drop i os1]
          rw [List.drop_eq_getElem_cons hi]
          rw [List.getElem?_eq_getElem hi] at hy
          rw [Option.some.inj hy]
        rw [e, List.nodup_append] at hnd
        exact hnd.2.2 y hm y (.head _) rfl
      rw [if_neg hni]
      exact hmem y (List.mem_of_getElem? hy)
    have hym := List.mem_of_getElem? hy
    have stp := memP_step (ms := ms) (dss := dss) hy hnone
    refine f_names B F2 X N2 T rfl rfl (by show dp + 1 + 4 < _; omega) (by show un + 3 + 40 < _; omega) (UpdF.tail oI.1.symm (UpdF.tail oI.2.1.symm (UpdF.head hrest))) (by k_mem) (by k_mem) (by k_mem) (by k_mem) R M2 (by omega) (hlen y hym).1 (hms y hym) (.inr ⟨_, _, rfl, rfl, (hlen y hym).2⟩) ?_
    intro io2 h3 tk3 tb F3 N3 M3
    have M4 := M3.congr stp
    clear M3 M2 N2 F2
    rw [hnone]
    show wpAny _ _ (truthy (.int (b2i (ansP ms dss y)) tb)) _ _ _
    have o3 : ∀ q ∈ (I, io2) :: (D, listOf ds.toArray nl) :: (S, so) :: (x, instObj 86 dx) :: (dx, dictOf (ignD w.params t1 t2 t3 S D I) nd) :: (L + 1 + 1 + 1, xc) :: (Df, LCg.lst fs) :: (Do, listOf out.toArray c) :: rst, q.1 ≠ C ∧ q.1 ≠ D2 ∧ ∀ p ∈ own, q.1 ≠ p.1 := fun q hq => by
      rcases List.mem_cons.mp hq with rfl | hq
      · exact oI
      · exact o1 q (.tail _ hq)
    have hS9 : (Do, listOf out.toArray c) ∈ (I, io2) :: (D, listOf ds.toArray nl) :: (S, so) :: (x, instObj 86 dx) :: (dx, dictOf (ignD w.params t1 t2 t3 S D I) nd) :: (L + 1 + 1 + 1, xc) :: (Df, LCg.lst fs) :: (Do, listOf out.toArray c) :: rst ∧ (Df, LCg.lst fs) ∈ (I, io2) :: (D, listOf ds.toArray nl) :: (S, so) :: (x, instObj 86 dx) :: (dx, dictOf (ignD w.params t1 t2 t3 S D I) nd) :: (L + 1 + 1 + 1, xc) :: (Df, LCg.lst fs) :: (Do, listOf out.toArray c) :: rst := ⟨by k_mem, by k_mem⟩
    have e9 : os1.take (i + 1) = os1.take i ++ [y] := by rw [List.take_add_one, hy]; rfl
    (try dsimp only at N3)
    cases hv : ansP ms dss y with
    | true =>
      show wpAny _ _ (truthy (.int 1 tb)) _ _ _
      k_steps
      exact ⟨_, _, _, rfl, by k_asm, N3, o3, hS9, io2, rfl, M4, by rw [e9, List.filter_append, List.filter_cons_of_pos hv]; exact hY.append' (.cons _ _ .nil)⟩
    | false =>
      show wpAny _ _ (truthy (.int 0 tb)) _ _ _
      k_steps
      exact ⟨_, _, _, rfl, by k_asm, N3, o3, hS9, io2, rfl, M4, by rw [e9, List.filter_append, List.filter_cons_of_neg (by rw [hv]; simp)]; simpa using hY⟩
  case fin =>
    intro ys nx hJ
    refine Classical.byContradiction fun ng9 => ?_
    obtain ⟨io', rfl, M2, hY⟩ := hJ.out
    refine ng9 ?_
    clear ng9
    have e9 : (out.zip fs).length = os1.length := by rw [List.length_zip]; omega
    rw [e9, List.take_length] at M2 hY
    clear F8 N hS hF
    k_steps
    (with_reducible rename Fr _ _ _ _ => F7); (with_reducible rename News _ _ _ _ => N7)
    (rename _ ∧ _ ∧ _ ∧ _ ∧ _ ∧ _ => o9)
    exact hnext _ ys io' _ _ _ F7 rfl rfl rfl rfl rfl rfl N7 o9 hY M2
end Mine
end
open PySem PySem.W PyProof.Rows in
example : Mine.RS := by intro M A Q E s h; w_top off; first | walk1 | skip; all_goals first | exact h | exact wpAny_pure h
section
set_option maxHeartbeats 8000000
namespace Mine
local macro_rules | `(tactic| walk_at "call type:zip") => `(tactic| (k_here; refine Mine.park ?_))
theorem for6 :
 ∀ {w : World} {p : Program} {loose : List Str} {mean : ExcName → Option Value} {mg mb : Str → Option Value} {dp un : Nat} {gd : Option (List Code)} {outer : List Env} {A₀ : Around} {base h₀ h : Heap} {g : Array GenState} {d : Drawn} {tk : Nat} {os : OsState} {L : Addr} {m : Str → Option Value} {Q : Flow → Shared → Prop} {E : Value → Shared → Prop} {sc : Scope} {rest : List Stmt} {xc io so : Obj} {I D S x dx : Addr} {t1 t2 t3 : Tok} {nd nl : Nat} {ds : List Value} {Dn Do Df Db De : Addr} {k : Nat} {tp : Tok} {out fs : List Value} {c n : Nat} {os1 ms dss : List Str} {mem : Str → Option Bool} {rst : List (Addr × Obj)}
 (B : Below A₀ base outer h₀) (X : (hd.heap_1 w.params).In h₀) (T : Top p loose mean mg mb h₀) (hdp : dp + 640 < recursionLimit) (hu : un + 4000 < cLine) (esc : sc = lawScope w.params) (F : Fr h₀ L h m) (Nm : ∀ q ∈ [(Str.ofString "numbers", Value.ref Dn), (Str.ofString "order", Value.ref Do), (Str.ofString "files", Value.ref Df), (Str.ofString "place", Value.int (k : Int) tp), (Str.ofString "below", Value.ref Db), (Str.ofString "left", Value.ref De)], m q.1 = some q.2) (N : News h₀ L h ((I, io) :: (D, listOf ds.toArray nl) :: (S, so) :: (x, instObj 86 dx) :: (dx, dictOf (ignD w.params t1 t2 t3 S D I) nd) :: (L + 1 + 1 + 1 + 1, xc) :: (Df, LCg.lst fs) :: (Do, listOf out.toArray c) :: rst)) (hcell : xc.data = .cell (some (.ref x))) (R : RdrOk w x dx S D I so ds ms dss) (M : Memo w io mem n) (hmem : ∀ y ∈ os1, mem y = none) (hms : ∀ y ∈ os1, y ∈ ms ∨ ms.length ≤ 1) (hn : n ≤ 800) (hnd : os1.Nodup) (AI : Apart I ((D, listOf ds.toArray nl) :: (S, so) :: (x, instObj 86 dx) :: (dx, dictOf (ignD w.params t1 t2 t3 S D I) nd) :: (L + 1 + 1 + 1 + 1, xc) :: (Df, LCg.lst fs) :: (Do, listOf out.toArray c) :: rst)) (hS : StrsAre out os1) (hF : StrsAre fs (os1.map fileOf)) (hl : os1.length ≤ 7) (hlen : ∀ y ∈ os1, y.length ≤ 300 ∧ (fileOf y).length ≤ 300) (hnext : ∀ Dl ys io' h' tk' m', Fr h₀ L h' m' → m' (Str.ofString "numbers") = some (.ref Dn) → m' (Str.ofString "order") = some (.ref Do) → m' (Str.ofString "files") = some (.ref Df) → m' (Str.ofString "place") = some (.int (k : Int) tp) → m' (Str.ofString "below") = some (.ref Db) → m' (Str.ofString "left") = some (.ref De) → m' (Str.ofString "within") = some (.ref Dl) → News h₀ L h' ((Dl, LCg.lst ys) :: (I, io') :: (D, listOf ds.toArray nl) :: (S, so) :: (x, instObj 86 dx) :: (dx, dictOf (ignD w.params t1 t2 t3 S D I) nd) :: (L + 1 + 1 + 1 + 1, xc) :: (Df, LCg.lst fs) :: (Do, listOf out.toArray c) :: rst) → LCg.Off1 Dl ((I, io') :: (D, listOf ds.toArray nl) :: (S, so) :: (x, instObj 86 dx) :: (dx, dictOf (ignD w.params t1 t2 t3 S D I) nd) :: (L + 1 + 1 + 1 + 1, xc) :: (Df, LCg.lst fs) :: (Do, listOf out.toArray c) :: rst) → StrsAre ys (os1.filter (ansP ms dss)) → Memo w io' (memP mem ms dss os1) (n + os1.length) → wpAny (model PySem.Challenge.rw_of0013_01.prog w) ((aTop dp un gd outer).deeper (lawEnv sc L)) (execs rest (lawEnv sc L)) Q (fun e s' => wpAny (model PySem.Challenge.rw_of0013_01.prog w) ((aTop dp un gd outer).deeper (lawEnv sc L)) (leaving (lawEnv sc L) e) (fun _ s'' => E e s'') (fun e' s'' => E e' s'') s') ⟨h', g, d, tk', os⟩), wpAny (model PySem.Challenge.rw_of0013_01.prog w) ((aTop dp un gd outer).deeper (lawEnv sc L)) (execs (forStmt w.params 6 :: rest) (lawEnv sc L)) Q (fun e s' => wpAny (model PySem.Challenge.rw_of0013_01.prog w) ((aTop dp un gd outer).deeper (lawEnv sc L)) (leaving (lawEnv sc L) e) (fun _ s'' => E e s'') (fun e' s'' => E e' s'') s') ⟨h, g, d, tk, os⟩ := by
  iterate 10 refine @Mine.pad _ ?_
  iterate 4 k_extra "pkG"
  iterate 22 k_extra "pk9"
  rename_i w p loose mean mg mb dp un gd outer A₀ base h₀ h g d tk os L m Q E sc rest xc io so I D S x dx t1 t2 t3 nd nl ds Dn Do Df Db De k tp out fs c n os1 ms dss mem rst B X T hdp hu esc F Nm N hcell R M hmem hms hn hnd AI hS hF hl hlen hnext
  obtain ⟨ev, hev⟩ : ∃ ev, ev = lawEnv sc L := ⟨_, rfl⟩
  refine with_eq (a := lawScope w.params) (by conv => (lhs; whnf)) fun e9 => ?_
  have e8 := esc.trans e9
  subst e8
  clear e9 esc
  have PX : ∀ (h : Heap) (m' : Str → Option Value), Fr h₀ L h m' → Below (A₀.deeper ev) base (ev :: outer) h := fun h m' F => pushX B F (by rw [hev]; rfl) (by rw [hev]; rfl)
  subst hev
  refine with_eq (a := forStmt w.params 6) (by conv => (lhs; whnf)) fun e9 => ?_
  rw [e9]
  clear e9
  have F9 := fr_ps F Nm
  clear F
  dsimp only [kstB] at F9
  revert X; k_fill; intro X
  have hl5 := hS.length
  have hl6 := hF.length
  rw [List.length_map] at hl6
  (repeat' (first | (k_unfold; (try dsimp only)) | (k_end; wrow_close) | ((with_reducible show wpAny _ _ (exec (PySem.Stmt.Assign _ (PySem.Expr.ListComp _ _ _ _) _) _) _ _ _); (k_here; k_dflt (refine Mine.z_Assign (by k_asm) (by rfl) (by with_unfolding_all rfl) (by with_unfolding_all rfl) (by decide) (by rfl) (by decide) (by rfl) (by rfl) (by decide) (by rfl) (by rfl) ?_))) | walk1 | (dsimp only; walk1) | (leave1; try dsimp only)))
  refine ⟨?_⟩
  (with_reducible rename Fr _ _ _ _ => F8)
  refine zip_src rfl F8 N (.tail _ (.tail _ (.tail _ (.tail _ (.tail _ (.tail _ (.tail _ (.head _)))))))) rfl rfl (.tail _ (.tail _ (.tail _ (.tail _ (.tail _ (.tail _ (.head _))))))) rfl rfl (by omega) (by rw [PySem.sizeLine_eq]; omega) ?_
  intro g9
  refine zr_inv (JM w mem n ms dss (fun o => (I, o) :: (D, listOf ds.toArray nl) :: (S, so) :: (x, instObj 86 dx) :: (dx, dictOf (ignD w.params t1 t2 t3 S D I) nd) :: (L + 1 + 1 + 1 + 1, xc) :: (Df, LCg.lst fs) :: (Do, listOf out.toArray c) :: rst) os1) ?turn ?fin ⟨io, rfl, (M.congr (by funext k; simp [memP])), by simpa using StrsAre.nil⟩
  case turn =>
    intro i p ys nx own C oC D2 m₂ h2 tk2 E2 hp hJ hC ha hb F2 N2 hCD o1 o2
    refine Classical.byContradiction fun ng9 => ?_
    obtain ⟨io', rfl, M2, hY⟩ := hJ.out
    refine ng9 ?_
    clear ng9
    obtain ⟨p1, p2⟩ := p
    obtain ⟨hp1, hp2⟩ := List.getElem?_zip_eq_some.mp hp
    refine Classical.byContradiction fun ng9 => ?_
    obtain ⟨y, ty, rfl, hy⟩ := strs_getV hS hp1
    refine ng9 ?_
    clear ng9
    refine Classical.byContradiction fun ng9 => ?_
    obtain ⟨f, tf, rfl, hf⟩ := strs_getV hF hp2
    refine ng9 ?_
    clear ng9
    have hi : i < os1.length := (List.getElem?_eq_some_iff.mp hy).1
    have hf' : f = fileOf y := by rw [List.getElem?_map, hy] at hf; exact (Option.some.inj hf).symm
    subst hf'
    simp only [List.cons_append] at N2
    clear hp hp1 hp2 hf F8 N hnext hS hF
    (repeat' (first | (k_unfold; (try dsimp only)) | (k_end; wrow_close) | (k_here; (with_reducible show wpAny _ _ (call (Value.ref 83) _) _ _ _); refine Mine.park ?_) | walk1 | (dsimp only; walk1) | (leave1; try dsimp only)))
    refine ⟨?_⟩
    have oI := o1 (I, io') (.head _)
    have hrest : ∀ p ∈ ((D, listOf ds.toArray nl) :: (S, so) :: (x, instObj 86 dx) :: (dx, dictOf (ignD w.params t1 t2 t3 S D I) nd) :: (L + 1 + 1 + 1 + 1, xc) :: (Df, LCg.lst fs) :: (Do, listOf out.toArray c) :: rst) ++ own, p.1 ≠ I := fun p hp => (List.mem_append.mp hp).elim (fun hp => off_mem AI.off p hp) (fun hp => (oI.2.2 p hp).symm)
    have hnone : memP mem ms dss (os1.take i) y = none := by
      unfold memP
      have hni : y ∉ os1.take i := fun hm => by
        have e : os1 = os1.take i ++ y :: os1.drop (i + 1) := by
          conv => lhs; rw [← List.take_append_drop i os1]
          rw [List.drop_eq_getElem_cons hi]
          rw [List.getElem?_eq_getElem hi] at hy
          rw [Option.some.inj hy]
        rw [e, List.nodup_append] at hnd
        exact hnd.2.2 y hm y (.head _) rfl
      rw [if_neg hni]
      exact hmem y (List.mem_of_getElem? hy)
    have hym := List.mem_of_getElem? hy
    have stp := memP_step (ms := ms) (dss := dss) hy hnone
    refine f_names B F2 X N2 T rfl rfl (by show dp + 1 + 4 < _; omega) (by show un + 3 + 40 < _; omega) (UpdF.tail oI.1.symm (UpdF.tail oI.2.1.symm (UpdF.head hrest))) (by k_mem) (by k_mem) (by k_mem) (by k_mem) R M2 (by omega) (hlen y hym).1 (hms y hym) (.inr ⟨_, _, rfl, rfl, (hlen y hym).2⟩) ?_
    intro io2 h3 tk3 tb F3 N3 M3
    have M4 := M3.congr stp
    clear M3 M2 N2 F2
    rw [hnone]
    show wpAny _ _ (truthy (.int (b2i (ansP ms dss y)) tb)) _ _ _
    have o3 : ∀ q ∈ (I, io2) :: (D, listOf ds.toArray nl) :: (S, so) :: (x, instObj 86 dx) :: (dx, dictOf (ignD w.params t1 t2 t3 S D I) nd) :: (L + 1 + 1 + 1 + 1, xc) :: (Df, LCg.lst fs) :: (Do, listOf out.toArray c) :: rst, q.1 ≠ C ∧ q.1 ≠ D2 ∧ ∀ p ∈ own, q.1 ≠ p.1 := fun q hq => by
      rcases List.mem_cons.mp hq with rfl | hq
      · exact oI
      · exact o1 q (.tail _ hq)
    have hS9 : (Do, listOf out.toArray c) ∈ (I, io2) :: (D, listOf ds.toArray nl) :: (S, so) :: (x, instObj 86 dx) :: (dx, dictOf (ignD w.params t1 t2 t3 S D I) nd) :: (L + 1 + 1 + 1 + 1, xc) :: (Df, LCg.lst fs) :: (Do, listOf out.toArray c) :: rst ∧ (Df, LCg.lst fs) ∈ (I, io2) :: (D, listOf ds.toArray nl) :: (S, so) :: (x, instObj 86 dx) :: (dx, dictOf (ignD w.params t1 t2 t3 S D I) nd) :: (L + 1 + 1 + 1 + 1, xc) :: (Df, LCg.lst fs) :: (Do, listOf out.toArray c) :: rst := ⟨by k_mem, by k_mem⟩
    have e9 : os1.take (i + 1) = os1.take i ++ [y] := by rw [List.take_add_one, hy]; rfl
    (try dsimp only at N3)
    cases hv : ansP ms dss y with
    | true =>
      show wpAny _ _ (truthy (.int 1 tb)) _ _ _
      k_steps
      exact ⟨_, _, _, rfl, by k_asm, N3, o3, hS9, io2, rfl, M4, by rw [e9, List.filter_append, List.filter_cons_of_pos hv]; exact hY.append' (.cons _ _ .nil)⟩
    | false =>
      show wpAny _ _ (truthy (.int 0 tb)) _ _ _
      k_steps
      exact ⟨_, _, _, rfl, by k_asm, N3, o3, hS9, io2, rfl, M4, by rw [e9, List.filter_append, List.filter_cons_of_neg (by rw [hv]; simp)]; simpa using hY⟩
  case fin =>
    intro ys nx hJ
    refine Classical.byContradiction fun ng9 => ?_
    obtain ⟨io', rfl, M2, hY⟩ := hJ.out
    refine ng9 ?_
    clear ng9
    have e9 : (out.zip fs).length = os1.length := by rw [List.length_zip]; omega
    rw [e9, List.take_length] at M2 hY
    clear F8 N hS hF
    k_steps
    (with_reducible rename Fr _ _ _ _ => F7); (with_reducible rename News _ _ _ _ => N7)
    (rename _ ∧ _ ∧ _ ∧ _ ∧ _ ∧ _ => o9)
    exact hnext _ ys io' _ _ _ F7 rfl rfl rfl rfl rfl rfl rfl N7 o9 hY M2
end Mine
end
open PySem PySem.W PyProof.Rows in
example : Mine.RS := by intro M A Q E s h; w_top off; first | walk1 | skip; all_goals first | exact h | exact wpAny_pure h
section
set_option maxHeartbeats 8000000
namespace Mine
local macro_rules | `(tactic| walk_at "call type:zip") => `(tactic| (k_here; refine Mine.park ?_))
theorem law11 :
 ∀ {w : World} {p : Program} {loose : List Str} {mean : ExcName → Option Value} {mg mb : Str → Option Value} {dp un : Nat} {gd : Option (List Code)} {outer : List Env} {A₀ : Around} {base h₀ h : Heap} {g : Array GenState} {d : Drawn} {tk : Nat} {os : OsState} {L : Addr} {m : Str → Option Value} {Q : Flow → Shared → Prop} {E : Value → Shared → Prop} {sc : Scope} {rest : List Stmt} {xc io so : Obj} {I D S x dx : Addr} {t1 t2 t3 : Tok} {nd nl : Nat} {ds : List Value} {Dn Do Df De : Addr} {out fs : List Value} {c n : Nat} {os1 ms dss : List Str} {mem : Str → Option Bool} {rst : List (Addr × Obj)}
 (B : Below A₀ base outer h₀) (X : (hd.heap_1 w.params).In h₀) (T : Top p loose mean mg mb h₀) (hdp : dp + 640 < recursionLimit) (hu : un + 4000 < cLine) (esc : sc = lawScope w.params) (F : Fr h₀ L h m) (Nm : ∀ q ∈ [(Str.ofString "numbers", Value.ref Dn), (Str.ofString "order", Value.ref Do), (Str.ofString "files", Value.ref Df)], m q.1 = some q.2) (N : News h₀ L h ((I, io) :: (D, listOf ds.toArray nl) :: (S, so) :: (x, instObj 86 dx) :: (dx, dictOf (ignD w.params t1 t2 t3 S D I) nd) :: (L + 1 + 1 + 1 + 1 + 1, xc) :: (Df, LCg.lst fs) :: (Do, listOf out.toArray c) :: rst)) (hcell : xc.data = .cell (some (.ref x))) (R : RdrOk w x dx S D I so ds ms dss) (M : Memo w io mem n) (hmem : ∀ y ∈ os1, mem y = none) (hms : ∀ y ∈ os1, y ∈ ms ∨ ms.length ≤ 1) (hn : n ≤ 800) (hnd : os1.Nodup) (AI : Apart I ((D, listOf ds.toArray nl) :: (S, so) :: (x, instObj 86 dx) :: (dx, dictOf (ignD w.params t1 t2 t3 S D I) nd) :: (L + 1 + 1 + 1 + 1 + 1, xc) :: (Df, LCg.lst fs) :: (Do, listOf out.toArray c) :: rst)) (hS : StrsAre out os1) (hF : StrsAre fs (os1.map fileOf)) (hl : os1.length ≤ 7) (hlen : ∀ y ∈ os1, y.length ≤ 300 ∧ (fileOf y).length ≤ 300) (hnext : ∀ Dl ys io' h' tk' m', Fr h₀ L h' m' → m' (Str.ofString "numbers") = some (.ref Dn) → m' (Str.ofString "order") = some (.ref Do) → m' (Str.ofString "files") = some (.ref Df) → m' (Str.ofString "left") = some (.ref Dl) → News h₀ L h' ((Dl, LCg.lst ys) :: (I, io') :: (D, listOf ds.toArray nl) :: (S, so) :: (x, instObj 86 dx) :: (dx, dictOf (ignD w.params t1 t2 t3 S D I) nd) :: (L + 1 + 1 + 1 + 1 + 1, xc) :: (Df, LCg.lst fs) :: (Do, listOf out.toArray c) :: rst) → LCg.Off1 Dl ((I, io') :: (D, listOf ds.toArray nl) :: (S, so) :: (x, instObj 86 dx) :: (dx, dictOf (ignD w.params t1 t2 t3 S D I) nd) :: (L + 1 + 1 + 1 + 1 + 1, xc) :: (Df, LCg.lst fs) :: (Do, listOf out.toArray c) :: rst) → StrsAre ys (os1.filter (ansP ms dss)) → Memo w io' (memP mem ms dss os1) (n + os1.length) → wpAny (model PySem.Challenge.rw_of0013_01.prog w) ((aTop dp un gd outer).deeper (lawEnv sc L)) (execs rest (lawEnv sc L)) Q (fun e s' => wpAny (model PySem.Challenge.rw_of0013_01.prog w) ((aTop dp un gd outer).deeper (lawEnv sc L)) (leaving (lawEnv sc L) e) (fun _ s'' => E e s'') (fun e' s'' => E e' s'') s') ⟨h', g, d, tk', os⟩), wpAny (model PySem.Challenge.rw_of0013_01.prog w) ((aTop dp un gd outer).deeper (lawEnv sc L)) (execs (lawStmt w.params 11 :: rest) (lawEnv sc L)) Q (fun e s' => wpAny (model PySem.Challenge.rw_of0013_01.prog w) ((aTop dp un gd outer).deeper (lawEnv sc L)) (leaving (lawEnv sc L) e) (fun _ s'' => E e s'') (fun e' s'' => E e' s'') s') ⟨h, g, d, tk, os⟩ := by
  iterate 13 refine @Mine.pad _ ?_
  iterate 4 k_extra "pkG"
  iterate 22 k_extra "pk9"
  rename_i w p loose mean mg mb dp un gd outer A₀ base h₀ h g d tk os L m Q E sc rest xc io so I D S x dx t1 t2 t3 nd nl ds Dn Do Df De out fs c n os1 ms dss mem rst B X T hdp hu esc F Nm N hcell R M hmem hms hn hnd AI hS hF hl hlen hnext
  obtain ⟨ev, hev⟩ : ∃ ev, ev = lawEnv sc L := ⟨_, rfl⟩
  refine with_eq (a := lawScope w.params) (by conv => (lhs; whnf)) fun e9 => ?_
  have e8 := esc.trans e9
  subst e8
  clear e9 esc
  have PX : ∀ (h : Heap) (m' : Str → Option Value), Fr h₀ L h m' → Below (A₀.deeper ev) base (ev :: outer) h := fun h m' F => pushX B F (by rw [hev]; rfl) (by rw [hev]; rfl)
  subst hev
  refine with_eq (a := lawStmt w.params 11) (by conv => (lhs; whnf)) fun e9 => ?_
  rw [e9]
  clear e9
  have F9 := fr_ps F Nm
  clear F
  dsimp only [kstB] at F9
  revert X; k_fill; intro X
  have hl5 := hS.length
  have hl6 := hF.length
  rw [List.length_map] at hl6
  (repeat' (first | (k_unfold; (try dsimp only)) | (k_end; wrow_close) | ((with_reducible show wpAny _ _ (exec (PySem.Stmt.Assign _ (PySem.Expr.ListComp _ _ _ _) _) _) _ _ _); (k_here; k_dflt (refine Mine.z_Assign (by k_asm) (by rfl) (by with_unfolding_all rfl) (by with_unfolding_all rfl) (by decide) (by rfl) (by decide) (by rfl) (by rfl) (by decide) (by rfl) (by rfl) ?_))) | walk1 | (dsimp only; walk1) | (leave1; try dsimp only)))
  refine ⟨?_⟩
  (with_reducible rename Fr _ _ _ _ => F8)
  refine zip_src rfl F8 N (.tail _ (.tail _ (.tail _ (.tail _ (.tail _ (.tail _ (.tail _ (.head _)))))))) rfl rfl (.tail _ (.tail _ (.tail _ (.tail _ (.tail _ (.tail _ (.head _))))))) rfl rfl (by omega) (by rw [PySem.sizeLine_eq]; omega) ?_
  intro g9
  refine zr_inv (JM w mem n ms dss (fun o => (I, o) :: (D, listOf ds.toArray nl) :: (S, so) :: (x, instObj 86 dx) :: (dx, dictOf (ignD w.params t1 t2 t3 S D I) nd) :: (L + 1 + 1 + 1 + 1 + 1, xc) :: (Df, LCg.lst fs) :: (Do, listOf out.toArray c) :: rst) os1) ?turn ?fin ⟨io, rfl, (M.congr (by funext k; simp [memP])), by simpa using StrsAre.nil⟩
  case turn =>
    intro i p ys nx own C oC D2 m₂ h2 tk2 E2 hp hJ hC ha hb F2 N2 hCD o1 o2
    refine Classical.byContradiction fun ng9 => ?_
    obtain ⟨io', rfl, M2, hY⟩ := hJ.out
    refine ng9 ?_
    clear ng9
    obtain ⟨p1, p2⟩ := p
    obtain ⟨hp1, hp2⟩ := List.getElem?_zip_eq_some.mp hp
    refine Classical.byContradiction fun ng9 => ?_
    obtain ⟨y, ty, rfl, hy⟩ := strs_getV hS hp1
    refine ng9 ?_
    clear ng9
    refine Classical.byContradiction fun ng9 => ?_
    obtain ⟨f, tf, rfl, hf⟩ := strs_getV hF hp2
    refine ng9 ?_
    clear ng9
    have hi : i < os1.length := (List.getElem?_eq_some_iff.mp hy).1
    have hf' : f = fileOf y := by rw [List.getElem?_map, hy] at hf; exact (Option.some.inj hf).symm
    subst hf'
    simp only [List.cons_append] at N2
    clear hp hp1 hp2 hf F8 N hnext hS hF
    (repeat' (first | (k_unfold; (try dsimp only)) | (k_end; wrow_close) | (k_here; (with_reducible show wpAny _ _ (call (Value.ref 83) _) _ _ _); refine Mine.park ?_) | walk1 | (dsimp only; walk1) | (leave1; try dsimp only)))
    refine ⟨?_⟩
    have oI := o1 (I, io') (.head _)
    have hrest : ∀ p ∈ ((D, listOf ds.toArray nl) :: (S, so) :: (x, instObj 86 dx) :: (dx, dictOf (ignD w.params t1 t2 t3 S D I) nd) :: (L + 1 + 1 + 1 + 1 + 1, xc) :: (Df, LCg.lst fs) :: (Do, listOf out.toArray c) :: rst) ++ own, p.1 ≠ I := fun p hp => (List.mem_append.mp hp).elim (fun hp => off_mem AI.off p hp) (fun hp => (oI.2.2 p hp).symm)
    have hnone : memP mem ms dss (os1.take i) y = none := by
      unfold memP
      have hni : y ∉ os1.take i := fun hm => by
        have e : os1 = os1.take i ++ y :: os1.drop (i + 1) := by
          conv => lhs; rw [← List.take_append_drop i os1]
          rw [List.drop_eq_getElem_cons hi]
          rw [List.getElem?_eq_getElem hi] at hy
          rw [Option.some.inj hy]
        rw [e, List.nodup_append] at hnd
        exact hnd.2.2 y hm y (.head _) rfl
      rw [if_neg hni]
      exact hmem y (List.mem_of_getElem? hy)
    have hym := List.mem_of_getElem? hy
    have stp := memP_step (ms := ms) (dss := dss) hy hnone
    refine f_names B F2 X N2 T rfl rfl (by show dp + 1 + 4 < _; omega) (by show un + 3 + 40 < _; omega) (UpdF.tail oI.1.symm (UpdF.tail oI.2.1.symm (UpdF.head hrest))) (by k_mem) (by k_mem) (by k_mem) (by k_mem) R M2 (by omega) (hlen y hym).1 (hms y hym) (.inr ⟨_, _, rfl, rfl, (hlen y hym).2⟩) ?_
    intro io2 h3 tk3 tb F3 N3 M3
    have M4 := M3.congr stp
    clear M3 M2 N2 F2
    rw [hnone]
    show wpAny _ _ (truthy (.int (b2i (ansP ms dss y)) tb)) _ _ _
    have o3 : ∀ q ∈ (I, io2) :: (D, listOf ds.toArray nl) :: (S, so) :: (x, instObj 86 dx) :: (dx, dictOf (ignD w.params t1 t2 t3 S D I) nd) :: (L + 1 + 1 + 1 + 1 + 1, xc) :: (Df, LCg.lst fs) :: (Do, listOf out.toArray c) :: rst, q.1 ≠ C ∧ q.1 ≠ D2 ∧ ∀ p ∈ own, q.1 ≠ p.1 := fun q hq => by
      rcases List.mem_cons.mp hq with rfl | hq
      · exact oI
      · exact o1 q (.tail _ hq)
    have hS9 : (Do, listOf out.toArray c) ∈ (I, io2) :: (D, listOf ds.toArray nl) :: (S, so) :: (x, instObj 86 dx) :: (dx, dictOf (ignD w.params t1 t2 t3 S D I) nd) :: (L + 1 + 1 + 1 + 1 + 1, xc) :: (Df, LCg.lst fs) :: (Do, listOf out.toArray c) :: rst ∧ (Df, LCg.lst fs) ∈ (I, io2) :: (D, listOf ds.toArray nl) :: (S, so) :: (x, instObj 86 dx) :: (dx, dictOf (ignD w.params t1 t2 t3 S D I) nd) :: (L + 1 + 1 + 1 + 1 + 1, xc) :: (Df, LCg.lst fs) :: (Do, listOf out.toArray c) :: rst := ⟨by k_mem, by k_mem⟩
    have e9 : os1.take (i + 1) = os1.take i ++ [y] := by rw [List.take_add_one, hy]; rfl
    (try dsimp only at N3)
    cases hv : ansP ms dss y with
    | true =>
      show wpAny _ _ (truthy (.int 1 tb)) _ _ _
      k_steps
      exact ⟨_, _, _, rfl, by k_asm, N3, o3, hS9, io2, rfl, M4, by rw [e9, List.filter_append, List.filter_cons_of_pos hv]; exact hY.append' (.cons _ _ .nil)⟩
    | false =>
      show wpAny _ _ (truthy (.int 0 tb)) _ _ _
      k_steps
      exact ⟨_, _, _, rfl, by k_asm, N3, o3, hS9, io2, rfl, M4, by rw [e9, List.filter_append, List.filter_cons_of_neg (by rw [hv]; simp)]; simpa using hY⟩
  case fin =>
    intro ys nx hJ
    refine Classical.byContradiction fun ng9 => ?_
    obtain ⟨io', rfl, M2, hY⟩ := hJ.out
    refine ng9 ?_
    clear ng9
    have e9 : (out.zip fs).length = os1.length := by rw [List.length_zip]; omega
    rw [e9, List.take_length] at M2 hY
    clear F8 N hS hF
    k_steps
    (with_reducible rename Fr _ _ _ _ => F7); (with_reducible rename News _ _ _ _ => N7)
    (rename _ ∧ _ ∧ _ ∧ _ ∧ _ ∧ _ => o9)
    exact hnext _ ys io' _ _ _ F7 rfl rfl rfl rfl N7 o9 hY M2
end Mine
end
open PySem PySem.W PyProof.Rows in
example : Mine.RS := by intro M A Q E s h; w_top off; first | walk1 | skip; all_goals first | exact h | exact wpAny_pure h
section
set_option maxHeartbeats 8000000
namespace Mine
local macro_rules | `(tactic| walk_at "call type:zip") => `(tactic| (k_here; refine Mine.park ?_))
theorem law12 :
 ∀ {w : World} {p : Program} {loose : List Str} {mean : ExcName → Option Value} {mg mb : Str → Option Value} {dp un : Nat} {gd : Option (List Code)} {outer : List Env} {A₀ : Around} {base h₀ h : Heap} {g : Array GenState} {d : Drawn} {tk : Nat} {os : OsState} {L : Addr} {m : Str → Option Value} {Q : Flow → Shared → Prop} {E : Value → Shared → Prop} {sc : Scope} {rest : List Stmt} {xc io so : Obj} {I D S x dx : Addr} {t1 t2 t3 : Tok} {nd nl : Nat} {ds : List Value} {Dn Do Df De : Addr} {out fs : List Value} {c n : Nat} {os1 ms dss : List Str} {mem : Str → Option Bool} {rst : List (Addr × Obj)}
 (B : Below A₀ base outer h₀) (X : (hd.heap_1 w.params).In h₀) (T : Top p loose mean mg mb h₀) (hdp : dp + 640 < recursionLimit) (hu : un + 4000 < cLine) (esc : sc = lawScope w.params) (F : Fr h₀ L h m) (Nm : ∀ q ∈ [(Str.ofString "numbers", Value.ref Dn), (Str.ofString "order", Value.ref Do), (Str.ofString "files", Value.ref Df), (Str.ofString "left", Value.ref De)], m q.1 = some q.2) (N : News h₀ L h ((I, io) :: (D, listOf ds.toArray nl) :: (S, so) :: (x, instObj 86 dx) :: (dx, dictOf (ignD w.params t1 t2 t3 S D I) nd) :: (L + 1 + 1 + 1 + 1 + 1 + 1, xc) :: (Df, LCg.lst fs) :: (Do, listOf out.toArray c) :: rst)) (hcell : xc.data = .cell (some (.ref x))) (R : RdrOk w x dx S D I so ds ms dss) (M : Memo w io mem n) (hmem : ∀ y ∈ os1, mem y = none) (hms : ∀ y ∈ os1, y ∈ ms ∨ ms.length ≤ 1) (hn : n ≤ 800) (hnd : os1.Nodup) (AI : Apart I ((D, listOf ds.toArray nl) :: (S, so) :: (x, instObj 86 dx) :: (dx, dictOf (ignD w.params t1 t2 t3 S D I) nd) :: (L + 1 + 1 + 1 + 1 + 1 + 1, xc) :: (Df, LCg.lst fs) :: (Do, listOf out.toArray c) :: rst)) (hS : StrsAre out os1) (hF : StrsAre fs (os1.map fileOf)) (hl : os1.length ≤ 7) (hlen : ∀ y ∈ os1, y.length ≤ 300 ∧ (fileOf y).length ≤ 300) (hnext : ∀ Dl ys io' h' tk' m', Fr h₀ L h' m' → m' (Str.ofString "numbers") = some (.ref Dn) → m' (Str.ofString "order") = some (.ref Do) → m' (Str.ofString "files") = some (.ref Df) → m' (Str.ofString "left") = some (.ref De) → m' (Str.ofString "within") = some (.ref Dl) → News h₀ L h' ((Dl, LCg.lst ys) :: (I, io') :: (D, listOf ds.toArray nl) :: (S, so) :: (x, instObj 86 dx) :: (dx, dictOf (ignD w.params t1 t2 t3 S D I) nd) :: (L + 1 + 1 + 1 + 1 + 1 + 1, xc) :: (Df, LCg.lst fs) :: (Do, listOf out.toArray c) :: rst) → LCg.Off1 Dl ((I, io') :: (D, listOf ds.toArray nl) :: (S, so) :: (x, instObj 86 dx) :: (dx, dictOf (ignD w.params t1 t2 t3 S D I) nd) :: (L + 1 + 1 + 1 + 1 + 1 + 1, xc) :: (Df, LCg.lst fs) :: (Do, listOf out.toArray c) :: rst) → StrsAre ys (os1.filter (ansP ms dss)) → Memo w io' (memP mem ms dss os1) (n + os1.length) → wpAny (model PySem.Challenge.rw_of0013_01.prog w) ((aTop dp un gd outer).deeper (lawEnv sc L)) (execs rest (lawEnv sc L)) Q (fun e s' => wpAny (model PySem.Challenge.rw_of0013_01.prog w) ((aTop dp un gd outer).deeper (lawEnv sc L)) (leaving (lawEnv sc L) e) (fun _ s'' => E e s'') (fun e' s'' => E e' s'') s') ⟨h', g, d, tk', os⟩), wpAny (model PySem.Challenge.rw_of0013_01.prog w) ((aTop dp un gd outer).deeper (lawEnv sc L)) (execs (lawStmt w.params 12 :: rest) (lawEnv sc L)) Q (fun e s' => wpAny (model PySem.Challenge.rw_of0013_01.prog w) ((aTop dp un gd outer).deeper (lawEnv sc L)) (leaving (lawEnv sc L) e) (fun _ s'' => E e s'') (fun e' s'' => E e' s'') s') ⟨h, g, d, tk, os⟩ := by
  iterate 13 refine @Mine.pad _ ?_
  iterate 4 k_extra "pkG"
  iterate 22 k_extra "pk9"
  rename_i w p loose mean mg mb dp un gd outer A₀ base h₀ h g d tk os L m Q E sc rest xc io so I D S x dx t1 t2 t3 nd nl ds Dn Do Df De out fs c n os1 ms dss mem rst B X T hdp hu esc F Nm N hcell R M hmem hms hn hnd AI hS hF hl hlen hnext
  obtain ⟨ev, hev⟩ : ∃ ev, ev = lawEnv sc L := ⟨_, rfl⟩
  refine with_eq (a := lawScope w.params) (by conv => (lhs; whnf)) fun e9 => ?_
  have e8 := esc.trans e9
  subst e8
  clear e9 esc
  have PX : ∀ (h : Heap) (m' : Str → Option Value), Fr h₀ L h m' → Below (A₀.deeper ev) base (ev :: outer) h := fun h m' F => pushX B F (by rw [hev]; rfl) (by rw [hev]; rfl)
  subst hev
  refine with_eq (a := lawStmt w.params 12) (by conv => (lhs; whnf)) fun e9 => ?_
  rw [e9]
  clear e9
  have F9 := fr_ps F Nm
  clear F
  dsimp only [kstB] at F9
  revert X; k_fill; intro X
  have hl5 := hS.length
  have hl6 := hF.length
  rw [List.length_map] at hl6
  (repeat' (first | (k_unfold; (try dsimp only)) | (k_end; wrow_close) | ((with_reducible show wpAny _ _ (exec (PySem.Stmt.Assign _ (PySem.Expr.ListComp _ _ _ _) _) _) _ _ _); (k_here; k_dflt (refine Mine.z_Assign (by k_asm) (by rfl) (by with_unfolding_all rfl) (by with_unfolding_all rfl) (by decide) (by rfl) (by decide) (by rfl) (by rfl) (by decide) (by rfl) (by rfl) ?_))) | walk1 | (dsimp only; walk1) | (leave1; try dsimp only)))
  refine ⟨?_⟩
  (with_reducible rename Fr _ _ _ _ => F8)
  refine zip_src rfl F8 N (.tail _ (.tail _ (.tail _ (.tail _ (.tail _ (.tail _ (.tail _ (.head _)))))))) rfl rfl (.tail _ (.tail _ (.tail _ (.tail _ (.tail _ (.tail _ (.head _))))))) rfl rfl (by omega) (by rw [PySem.sizeLine_eq]; omega) ?_
  intro g9
  refine zr_inv (JM w mem n ms dss (fun o => (I, o) :: (D, listOf ds.toArray nl) :: (S, so) :: (x, instObj 86 dx) :: (dx, dictOf (ignD w.params t1 t2 t3 S D I) nd) :: (L + 1 + 1 + 1 + 1 + 1 + 1, xc) :: (Df, LCg.lst fs) :: (Do, listOf out.toArray c) :: rst) os1) ?turn ?fin ⟨io, rfl, (M.congr (by funext k; simp [memP])), by simpa using StrsAre.nil⟩
  case turn =>
    intro i p ys nx own C oC D2 m₂ h2 tk2 E2 hp hJ hC ha hb F2 N2 hCD o1 o2
    refine Classical.byContradiction fun ng9 => ?_
    obtain ⟨io', rfl, M2, hY⟩ := hJ.out
    refine ng9 ?_
    clear ng9
    obtain ⟨p1, p2⟩ := p
    obtain ⟨hp1, hp2⟩ := List.getElem?_zip_eq_some.mp hp
    refine Classical.byContradiction fun ng9 => ?_
    obtain ⟨y, ty, rfl, hy⟩ := strs_getV hS hp1
    refine ng9 ?_
    clear ng9
    refine Classical.byContradiction fun ng9 => ?_
    obtain ⟨f, tf, rfl, hf⟩ := strs_getV hF hp2
    refine ng9 ?_
    clear ng9
    have hi : i < os1.length := (List.getElem?_eq_some_iff.mp hy).1
    have hf' : f = fileOf y := by rw [List.getElem?_map, hy] at hf; exact (Option.some.inj hf).symm
    subst hf'
    simp only [List.cons_append] at N2
    clear hp hp1 hp2 hf F8 N hnext hS hF
    (repeat' (first | (k_unfold; (try dsimp only)) | (k_end; wrow_close) | (k_here; (with_reducible show wpAny _ _ (call (Value.ref 83) _) _ _ _); refine Mine.park ?_) | walk1 | (dsimp only; walk1) | (leave1; try dsimp only)))
    refine ⟨?_⟩
    have oI := o1 (I, io') (.head _)
    have hrest : ∀ p ∈ ((D, listOf ds.toArray nl) :: (S, so) :: (x, instObj 86 dx) :: (dx, dictOf (ignD w.params t1 t2 t3 S D I) nd) :: (L + 1 + 1 + 1 + 1 + 1 + 1, xc) :: (Df, LCg.lst fs) :: (Do, listOf out.toArray c) :: rst) ++ own, p.1 ≠ I := fun p hp => (List.mem_append.mp hp).elim (fun hp => off_mem AI.off p hp) (fun hp => (oI.2.2 p hp).symm)
    have hnone : memP mem ms dss (os1.take i) y = none := by
      unfold memP
      have hni : y ∉ os1.take i := fun hm => by
        have e : os1 = os1.take i ++ y :: os1.drop (i + 1) := by
          conv => lhs; rw [← List.take_append_drop i os1]
          rw [List.drop_eq_getElem_cons hi]
          rw [List.getElem?_eq_getElem hi] at hy
          rw [Option.some.inj hy]
        rw [e, List.nodup_append] at hnd
        exact hnd.2.2 y hm y (.head _) rfl
      rw [if_neg hni]
      exact hmem y (List.mem_of_getElem? hy)
    have hym := List.mem_of_getElem? hy
    have stp := memP_step (ms := ms) (dss := dss) hy hnone
    refine f_names B F2 X N2 T rfl rfl (by show dp + 1 + 4 < _; omega) (by show un + 3 + 40 < _; omega) (UpdF.tail oI.1.symm (UpdF.tail oI.2.1.symm (UpdF.head hrest))) (by k_mem) (by k_mem) (by k_mem) (by k_mem) R M2 (by omega) (hlen y hym).1 (hms y hym) (.inr ⟨_, _, rfl, rfl, (hlen y hym).2⟩) ?_
    intro io2 h3 tk3 tb F3 N3 M3
    have M4 := M3.congr stp
    clear M3 M2 N2 F2
    rw [hnone]
    show wpAny _ _ (truthy (.int (b2i (ansP ms dss y)) tb)) _ _ _
    have o3 : ∀ q ∈ (I, io2) :: (D, listOf ds.toArray nl) :: (S, so) :: (x, instObj 86 dx) :: (dx, dictOf (ignD w.params t1 t2 t3 S D I) nd) :: (L + 1 + 1 + 1 + 1 + 1 + 1, xc) :: (Df, LCg.lst fs) :: (Do, listOf out.toArray c) :: rst, q.1 ≠ C ∧ q.1 ≠ D2 ∧ ∀ p ∈ own, q.1 ≠ p.1 := fun q hq => by
      rcases List.mem_cons.mp hq with rfl | hq
      · exact oI
      · exact o1 q (.tail _ hq)
    have hS9 : (Do, listOf out.toArray c) ∈ (I, io2) :: (D, listOf ds.toArray nl) :: (S, so) :: (x, instObj 86 dx) :: (dx, dictOf (ignD w.params t1 t2 t3 S D I) nd) :: (L + 1 + 1 + 1 + 1 + 1 + 1, xc) :: (Df, LCg.lst fs) :: (Do, listOf out.toArray c) :: rst ∧ (Df, LCg.lst fs) ∈ (I, io2) :: (D, listOf ds.toArray nl) :: (S, so) :: (x, instObj 86 dx) :: (dx, dictOf (ignD w.params t1 t2 t3 S D I) nd) :: (L + 1 + 1 + 1 + 1 + 1 + 1, xc) :: (Df, LCg.lst fs) :: (Do, listOf out.toArray c) :: rst := ⟨by k_mem, by k_mem⟩
    have e9 : os1.take (i + 1) = os1.take i ++ [y] := by rw [List.take_add_one, hy]; rfl
    (try dsimp only at N3)
    cases hv : ansP ms dss y with
    | true =>
      show wpAny _ _ (truthy (.int 1 tb)) _ _ _
      k_steps
      exact ⟨_, _, _, rfl, by k_asm, N3, o3, hS9, io2, rfl, M4, by rw [e9, List.filter_append, List.filter_cons_of_pos hv]; exact hY.append' (.cons _ _ .nil)⟩
    | false =>
      show wpAny _ _ (truthy (.int 0 tb)) _ _ _
      k_steps
      exact ⟨_, _, _, rfl, by k_asm, N3, o3, hS9, io2, rfl, M4, by rw [e9, List.filter_append, List.filter_cons_of_neg (by rw [hv]; simp)]; simpa using hY⟩
  case fin =>
    intro ys nx hJ
    refine Classical.byContradiction fun ng9 => ?_
    obtain ⟨io', rfl, M2, hY⟩ := hJ.out
    refine ng9 ?_
    clear ng9
    have e9 : (out.zip fs).length = os1.length := by rw [List.length_zip]; omega
    rw [e9, List.take_length] at M2 hY
    clear F8 N hS hF
    k_steps
    (with_reducible rename Fr _ _ _ _ => F7); (with_reducible rename News _ _ _ _ => N7)
    (rename _ ∧ _ ∧ _ ∧ _ ∧ _ ∧ _ => o9)
    exact hnext _ ys io' _ _ _ F7 rfl rfl rfl rfl rfl N7 o9 hY M2
end Mine
end
open PySem PySem.W PyProof.Rows in
example : Mine.RS := by intro M A Q E s h; w_top off; first | walk1 | skip; all_goals first | exact h | exact wpAny_pure h
section
set_option maxHeartbeats 8000000
local macro_rules | `(tactic| omega) => `(tactic| omega +splitDisjunctions)
namespace Mine
local macro_rules | `(tactic| walk_at "subscriptTail Name Slice ref ref") => `(tactic| (k_here; refine Mine.park ?_))
local macro_rules | `(tactic| walk_at "binaryOp Add ref ref") => `(tactic| (k_here; refine Mine.park ?_))
structure Cut2 (vs : List Value) (a b : Int) (zs : List Value) : Prop where
  la : 0 ≤ a
  lb : 0 ≤ b
  len : vs.length ≤ 1000
  cut : (vs.take b.toNat).drop a.toNat = zs
theorem my_cut2 {prog : Program} {w : World} {A : Around} {E : Value → Shared → Prop} {s : Shared} {value slice : PySem.Expr} {h₀ : Heap} {L l : Addr} {m : Str → Option Value} {news : List (Addr × Obj)} {vs zs : List Value} {a b : Int} {u v : Tok} {Q : Value → Shared → Prop}
    (F : Fr h₀ L s.heap m) (N : News h₀ L s.heap news) (hl : s.heap.IsList l vs.toArray) (c : Cut2 vs a b zs)
    (h : ∀ D h', Fr h₀ L h' m → News h₀ L h' ((D, listOf zs.toArray 0) :: news) → (∀ p ∈ news, p.1 < D) → Q (.ref D) { s with heap := h' })
    (hs : subscripted slice false (.ref l) (.ref s.heap.objs.size) = operate [.ref s.heap.objs.size, .ref l] (getItem (.ref l) (.ref s.heap.objs.size))) (ht : ∀ r, letTemporaryGo value (.ref l) r = pure ()) :
    wpAny (model prog w) A (subscriptTail value slice (.ref l) (.ref s.heap.objs.size)) Q E { s with heap := s.heap.push { cls := .type "slice", data := .fields #[.int a u, .int b v, .none] } } := by
  refine kms_slice_lit F N hl (lo := some a) (hi := some b) (by kmk_part) (by kmk_part) ?_ h hs ht ?_
  · have h1 : ¬ a < 0 := by have := c.la; omega
    have h2 : ¬ b < 0 := by have := c.lb; omega
    unfold kms_pick
    rw [← c.cut]
    simp only [kms_lo, kms_hi, if_neg h1, if_neg h2]
    apply List.ext_getElem?
    intro i
    simp only [List.getElem?_take, List.getElem?_drop]
    by_cases q1 : a.toNat + i < b.toNat ∧ a.toNat + i < vs.length
    · have e1 : min a.toNat vs.length = a.toNat := Nat.min_eq_left (by omega)
      rw [e1, if_pos (by omega), if_pos q1.1]
    · have hl : ¬ i < min b.toNat vs.length - min a.toNat vs.length := by omega
      rw [if_neg hl]
      by_cases q2 : a.toNat + i < b.toNat
      · rw [if_pos q2, List.getElem?_eq_none (by omega)]
      · rw [if_neg q2]
  · rw [List.size_toArray, sizeLine_eq]; have := c.len; omega
theorem for7 :
 ∀ {w : World} {p : Program} {loose : List Str} {mean : ExcName → Option Value} {mg mb : Str → Option Value} {dp un : Nat} {gd : Option (List Code)} {outer : List Env} {A₀ : Around} {base h₀ h : Heap} {g : Array GenState} {d : Drawn} {tk : Nat} {os : OsState} {L : Addr} {m : Str → Option Value} {Q : Flow → Shared → Prop} {E : Value → Shared → Prop} {sc : Scope} {rest : List Stmt} {x1 : Obj} {Dn Do Df Db Dl Dw : Addr} {k : Nat} {tp tn : Tok} {out ws ls ys : List Value} {c nb : Nat} {os1 bs : List Str} {nm : Str} {rst : List (Addr × Obj)}
 (B : Below A₀ base outer h₀) (X : (hd.heap_1 w.params).In h₀) (T : Top p loose mean mg mb h₀) (hdp : dp + 640 < recursionLimit) (hu : un + 4000 < cLine) (esc : sc = lawScope w.params) (F : Fr h₀ L h m) (Nm : ∀ q ∈ [(Str.ofString "numbers", Value.ref Dn), (Str.ofString "order", Value.ref Do), (Str.ofString "files", Value.ref Df), (Str.ofString "place", Value.int (k : Int) tp), (Str.ofString "below", Value.ref Db), (Str.ofString "left", Value.ref Dl), (Str.ofString "within", Value.ref Dw)], m q.1 = some q.2) (N : News h₀ L h ((Dw, LCg.lst ws) :: (Dl, LCg.lst ls) :: (Db, listOf ys.toArray nb) :: (Do, listOf out.toArray c) :: (L + 1, x1) :: rst)) (d1 : x1.data = .cell (some (.str nm tn))) (hS : StrsAre out os1) (hl : os1.length ≤ 7) (hY : StrsAre ys bs) (hW : StrsAre ws bs) (hL : StrsAre ls (bs ++ [nm])) (hb : bs.length ≤ k) (hk : k ≤ 7) (hcut : (os1.take k).drop (k - bs.length) = bs) (ok1 : OkS bs) (ok2 : OkS (bs ++ [nm])) (hnext : ∀ h' tk' m', Fr h₀ L h' m' → m' (Str.ofString "numbers") = some (.ref Dn) → m' (Str.ofString "order") = some (.ref Do) → m' (Str.ofString "files") = some (.ref Df) → m' (Str.ofString "place") = some (.int (k : Int) tp) → m' (Str.ofString "below") = some (.ref Db) → m' (Str.ofString "left") = some (.ref Dl) → m' (Str.ofString "within") = some (.ref Dw) → News h₀ L h' ((Dw, LCg.lst ws) :: (Dl, LCg.lst ls) :: (Db, listOf ys.toArray nb) :: (Do, listOf out.toArray c) :: (L + 1, x1) :: rst) → wpAny (model PySem.Challenge.rw_of0013_01.prog w) ((aTop dp un gd outer).deeper (lawEnv sc L)) (execs rest (lawEnv sc L)) Q (fun e s' => wpAny (model PySem.Challenge.rw_of0013_01.prog w) ((aTop dp un gd outer).deeper (lawEnv sc L)) (leaving (lawEnv sc L) e) (fun _ s'' => E e s'') (fun e' s'' => E e' s'') s') ⟨h', g, d, tk', os⟩), wpAny (model PySem.Challenge.rw_of0013_01.prog w) ((aTop dp un gd outer).deeper (lawEnv sc L)) (execs (forStmt w.params 7 :: rest) (lawEnv sc L)) Q (fun e s' => wpAny (model PySem.Challenge.rw_of0013_01.prog w) ((aTop dp un gd outer).deeper (lawEnv sc L)) (leaving (lawEnv sc L) e) (fun _ s'' => E e s'') (fun e' s'' => E e' s'') s') ⟨h, g, d, tk, os⟩ := by
  iterate 4 refine @Mine.pad _ ?_
  iterate 3 k_extra "pkG"
  iterate 21 k_extra "pk9"
  rename_i w p loose mean mg mb dp un gd outer A₀ base h₀ h g d tk os L m Q E sc rest x1 Dn Do Df Db Dl Dw k tp tn out ws ls ys c nb os1 bs nm rst B X T hdp hu esc F Nm N d1 hS hl hY hW hL hb hk hcut ok1 ok2 hnext
  obtain ⟨ev, hev⟩ : ∃ ev, ev = lawEnv sc L := ⟨_, rfl⟩
  refine with_eq (a := lawScope w.params) (by conv => (lhs; whnf)) fun e9 => ?_
  have e8 := esc.trans e9
  subst e8
  clear e9 esc
  have PX : ∀ (h : Heap) (m' : Str → Option Value), Fr h₀ L h m' → Below (A₀.deeper ev) base (ev :: outer) h := fun h m' F => pushX B F (by rw [hev]; rfl) (by rw [hev]; rfl)
  subst hev
  refine with_eq (a := forStmt w.params 7) (by conv => (lhs; whnf)) fun e9 => ?_
  rw [e9]
  clear e9
  have F9 := fr_ps F Nm
  clear F
  dsimp only [kstB] at F9
  revert X; k_fill; intro X
  have hl5 := hS.length
  have hl6 := hY.length
  have cut : Cut2 out ((k : Int) - (bs.length : Int)) (k : Int) ((out.take k).drop (k - bs.length)) := ⟨by omega, by omega, by omega, by congr 1; omega⟩
  have hS3 := (hS.take' k).drop' (k - bs.length)
  rw [hcut] at hS3
  k_steps
  refine ⟨?_⟩
  (with_reducible rename Fr _ _ _ _ => F7); (with_reducible rename News _ _ _ _ => N7)
  refine kmk_add_lit F7 N7 (N7.isList (.tail _ (.tail _ (.tail _ (.head _))))) (N7.isList (.head _)) rfl ?_ (by rw [PySem.sizeLine_eq]; simp; omega)
  intro D8 h8 F8 N8 l8
  have hS4 : StrsAre (ys ++ [Value.str nm tn]) (bs ++ [nm]) := hY.append' (.cons _ _ .nil)
  clear F7 N7
  (repeat' (first | (k_unfold; (try dsimp only)) | (k_end; wrow_close) | (k_here; (with_reducible show wpAny _ _ (compareOp _ (Value.ref _) (Value.ref _)) _ _ _); refine Mine.park ?_) | walk1 | (dsimp only; walk1) | (leave1; try dsimp only)))
  refine ⟨?_⟩
  refine ne_ls (N8 _ (.tail _ (.tail _ (.tail _ (.head _))))).1 (N8 _ (.head _)).1 hL hS4 ok2 ok2 (by ktr_units) ?_
  rw [decide_eq_true rfl]
  have N9 : News h₀ L h8 ((Dw, LCg.lst ws) :: (Dl, LCg.lst ls) :: (Db, listOf ys.toArray nb) :: (Do, listOf out.toArray c) :: (L + 1, x1) :: rst) := fun p hp => N8 p (.tail _ (.tail _ hp))
  clear N8 l8
  (repeat' (first | (k_unfold; (try dsimp only)) | (k_end; wrow_close) | (k_here; (with_reducible show wpAny _ _ (compareOp _ (Value.ref _) (Value.ref _)) _ _ _); refine Mine.park ?_) | walk1 | (dsimp only; walk1) | (leave1; try dsimp only)))
  refine ⟨?_⟩
  (with_reducible rename Fr _ _ _ _ => F7)
  refine ne_ls (N9 _ (.head _)).1 (N9 _ (.tail _ (.tail _ (.head _)))).1 hW hY ok1 ok1 (by ktr_units) ?_
  rw [decide_eq_true rfl]
  k_steps
  refine ⟨?_⟩
  (with_reducible rename Fr _ _ _ _ => F6)
  refine my_cut2 F6 N9 (N9.isList (.tail _ (.tail _ (.tail _ (.head _))))) cut ?_ (by with_unfolding_all rfl) (by kmk_pure)
  intro D7 h7 F7' N7 l7
  clear F6
  (repeat' (first | (k_unfold; (try dsimp only)) | (k_end; wrow_close) | (k_here; (with_reducible show wpAny _ _ (compareOp _ (Value.ref _) (Value.ref _)) _ _ _); refine Mine.park ?_) | walk1 | (dsimp only; walk1) | (leave1; try dsimp only)))
  refine ⟨?_⟩
  refine ne_ls (N7 _ (.head _)).1 (N7 _ (.tail _ (.tail _ (.tail _ (.head _))))).1 hS3 hY ok1 ok1 (by ktr_units) ?_
  rw [decide_eq_true rfl]
  have N6 : News h₀ L h7 ((Dw, LCg.lst ws) :: (Dl, LCg.lst ls) :: (Db, listOf ys.toArray nb) :: (Do, listOf out.toArray c) :: (L + 1, x1) :: rst) := fun p hp => N7 p (.tail _ hp)
  clear N7 N9 l7
  k_steps
  exact hnext _ _ _ (by k_asm) rfl rfl rfl rfl rfl rfl rfl N6
end Mine
end
open PySem PySem.W PyProof.Rows in
example : Mine.RS := by intro M A Q E s h; w_top off; first | walk1 | skip; all_goals first | exact h | exact wpAny_pure h
section
open PySem PySem.W PyProof.Rows PySem.W.X
set_option maxHeartbeats 4000000
namespace Mine
theorem hide_get {h : Heap} {L b : Addr} {o : Obj} (e : h.get? b = some o) (hb : b ≠ L) : (hideAll h [L]).get? b = some o := by
  exact hideAll_get [L] e (by simpa using hb)
theorem f_sld {w : World} {p : Program} {loose : List Str} {mean : ExcName → Option Value} {mg mb : Str → Option Value} {dp un : Nat} {gd : Option (List Code)} {env : Env} {h₀ : Heap} {L : Addr} {m : Str → Option Value} {s : Shared} {Q E : Value → Shared → Prop} {news : List (Addr × Obj)}
   (F : Fr h₀ L s.heap m) (X : (hd.heap_1 w.params).In h₀) (N : News h₀ L s.heap news) (T : Top p loose mean mg mb h₀) (hf : env.frame = some L) (hke : env.scope.kind = .function) (hdp : dp + 8 < recursionLimit) (hu : un + 80 < cLine) (ie2 : Str.ofString "IndexError" ∉ loose) (ie3 : Str.ofString "IndexError" ∉ (recsOf p).map (·.name)) (ie4 : Str.ofString "IndexError" ∉ (litsOf p).map (·.1)) (ie5 : Str.ofString "IndexError" ∉ (clssOf p loose).map (·.name))
   {l1 l2 : Addr} {Es As : List Value} {E0 A0 : List Str} {n1 n2 : Nat} (m1 : (l1, listOf Es.toArray n1) ∈ news) (m2 : (l2, listOf As.toArray n2) ∈ news) (sE : StrsAre Es E0) (sA : StrsAre As A0) (hP : E0.Pairwise ltT) (hS : A0.Sublist E0) (hlE : E0.length ≤ 900)
   (hret : ∀ x D1 D2 us n1 n2 h' tk', Fr h₀ L h' m → News h₀ L h' ((x, tup2 (.ref D1) (.ref D2)) :: (D1, listOf us.toArray n1) :: (D2, listOf #[] n2) :: news) → StrsAre us (diffS E0 A0) → Q (.ref x) { s with heap := h', toks := tk' }) :
   wpAny (model PySem.Challenge.rw_of0013_01.prog w) (aTop dp un gd [env]) (call (.ref 97) [.ref l1, .ref l2]) Q E s := by
  refine Classical.byContradiction fun ng9 => ?_
  obtain ⟨oL, es, ep, hL, hLd, hLk⟩ := id F.ns
  refine ng9 ?_
  clear ng9
  have h0L : h₀.get? L = none := Heap.get?_none_of_le F.above
  have kH : ∀ b o, h₀.get? b = some o → (hideAll s.heap [L]).get? b = some o := fun b o e => hide_get (F.keep b o e) (fun q => by rw [q, h0L] at e; cases e)
  have nH : ∀ q ∈ news, (hideAll s.heap [L]).get? q.1 = some q.2 := fun q hq => hide_get (N q hq).1 (N q hq).2.1
  refine c_sld (X.keeps kH) (T.keeps kH) hL hLd hf hke rfl hdp hu ie2 ie3 ie4 ie5 (nH _ m1) (nH _ m2) sE sA hP hS hlE ?_
  intro x D1 D2 h' tk' us k1 k2 sl hk hLs hx h1 h2 ex e1 e2 hu'
  have fr : ∀ {b : Addr}, (hideAll s.heap [L]).get? b = none ∧ b ≠ L → h₀.get? b = none := fun {b} e => by
    cases z : h₀.get? b with
    | none => rfl
    | some o => rw [kH b o z] at e; cases e.1
  refine hret x D1 D2 us k1 k2 h' tk' ⟨⟨_, es, ep, hLs, hLd, hLk⟩, fun b o e => hk b o (kH b o e), F.above⟩ (fun q hq => ?_) hu'
  rcases List.mem_cons.mp hq with rfl | hq
  · exact ⟨hx, ex.2, fr ex⟩
  · rcases List.mem_cons.mp hq with rfl | hq
    · exact ⟨h1, e1.2, fr e1⟩
    · rcases List.mem_cons.mp hq with rfl | hq
      · exact ⟨h2, e2.2, fr e2⟩
      · exact ⟨hk _ _ (nH q hq), (N q hq).2⟩
end Mine
end
section
set_option maxHeartbeats 8000000
namespace Mine
local macro_rules | `(tactic| walk_at "call builtin:sorted") => `(tactic| (k_here; refine Mine.park ?_))
local macro_rules | `(tactic| walk_at "subscriptTail Name Slice ref ref") => `(tactic| (k_here; refine Mine.park ?_))
local macro_rules | `(tactic| walk_at "binaryOp Add ref ref") => `(tactic| (k_here; refine Mine.park ?_))
theorem sorted_sub : ∀ (E A : List Str), A.Pairwise ltT → E.Pairwise ltT → (∀ a ∈ A, a ∈ E) → A.Sublist E
  | [], A, _, _, h => by
    cases A with
    | nil => exact .slnil
    | cons a A => exact absurd (h a (.head _)) (by simp)
  | e :: E, [], _, _, _ => List.nil_sublist _
  | e :: E, a :: A, hA, hE, h => by
    have hA' := List.pairwise_cons.mp hA
    have hE' := List.pairwise_cons.mp hE
    by_cases q : a = e
    · subst q
      refine (sorted_sub E A hA'.2 hE'.2 fun x hx => ?_).cons_cons a
      rcases List.mem_cons.mp (h x (.tail _ hx)) with rfl | hm
      · exact absurd (hA'.1 _ hx) (ltT_irr _)
      · exact hm
    · have hae : ltT e a := by
        rcases List.mem_cons.mp (h a (.head _)) with r | hm
        · exact absurd r q
        · exact hE'.1 a hm
      refine (sorted_sub E (a :: A) hA hE'.2 fun x hx => ?_).cons e
      rcases List.mem_cons.mp (h x hx) with rfl | hm
      · rcases List.mem_cons.mp hx with r | hx
        · exact absurd r.symm q
        · exact absurd (ltT_trans hae (hA'.1 _ hx)) (ltT_irr _)
      · exact hm
theorem drop35 {h₀ h : Heap} {L : Addr} {a b c d e : Addr × Obj} {r : List (Addr × Obj)} (N : News h₀ L h (a :: b :: c :: d :: e :: r)) : News h₀ L h (a :: b :: c :: r) := fun p hp => by
  rcases List.mem_cons.mp hp with rfl | hp
  · exact N _ (.head _)
  · rcases List.mem_cons.mp hp with rfl | hp
    · exact N _ (.tail _ (.head _))
    · rcases List.mem_cons.mp hp with rfl | hp
      · exact N _ (.tail _ (.tail _ (.head _)))
      · exact N _ (.tail _ (.tail _ (.tail _ (.tail _ (.tail _ hp)))))
theorem diff_one {E A bs : List Str} {nm : Str} (pE : E.Perm (bs ++ [nm])) (pA : A.Perm bs) (hn : nm ∉ bs) : diffS E A = [nm] := by
  have h1 : (diffS E A).Perm ((bs ++ [nm]).filter fun x => decide (x ∉ A)) := pE.filter _
  have h2 : ((bs ++ [nm]).filter fun x => decide (x ∉ A)) = [nm] := by
    rw [List.filter_append]
    have e1 : bs.filter (fun x => decide (x ∉ A)) = [] := List.filter_eq_nil_iff.mpr fun x hx => by simp [pA.mem_iff, hx]
    have e2 : nm ∉ A := fun h => hn (pA.mem_iff.mp h)
    rw [e1]; simp [e2]
  rw [h2] at h1
  exact List.perm_singleton.mp h1
theorem for8 :
 ∀ {w : World} {p : Program} {loose : List Str} {mean : ExcName → Option Value} {mg mb : Str → Option Value} {dp un : Nat} {gd : Option (List Code)} {A₀ : Around} {base h₀ h : Heap} {g : Array GenState} {d : Drawn} {tk : Nat} {os : OsState} {L : Addr} {m : Str → Option Value} {Q : Flow → Shared → Prop} {E : Value → Shared → Prop} {sc : Scope} {rest : List Stmt} {x1 : Obj} {Dn Do Df Db Dl Dw : Addr} {k : Nat} {tp tn : Tok} {ws ls : List Value} {bs : List Str} {nm : Str} {rst : List (Addr × Obj)}
 (B : Below A₀ base [] h₀) (X : (hd.heap_1 w.params).In h₀) (T : Top p loose mean mg mb h₀) (hdp : dp + 640 < recursionLimit) (hu : un + 4000 < cLine) (esc : sc = lawScope w.params) (F : Fr h₀ L h m) (ie2 : Str.ofString "IndexError" ∉ loose) (ie3 : Str.ofString "IndexError" ∉ (recsOf p).map (·.name)) (ie4 : Str.ofString "IndexError" ∉ (litsOf p).map (·.1)) (ie5 : Str.ofString "IndexError" ∉ (clssOf p loose).map (·.name)) (Nm : ∀ q ∈ [(Str.ofString "numbers", Value.ref Dn), (Str.ofString "order", Value.ref Do), (Str.ofString "files", Value.ref Df), (Str.ofString "place", Value.int (k : Int) tp), (Str.ofString "below", Value.ref Db), (Str.ofString "left", Value.ref Dl), (Str.ofString "within", Value.ref Dw)], m q.1 = some q.2) (N : News h₀ L h ((Dw, LCg.lst ws) :: (Dl, LCg.lst ls) :: (L + 1, x1) :: rst)) (d1 : x1.data = .cell (some (.str nm tn))) (hW : StrsAre ws bs) (hL : StrsAre ls (bs ++ [nm])) (hb : bs.length ≤ 7) (hnd : (bs ++ [nm]).Nodup) (ok2 : OkS (bs ++ [nm])) (hnext : ∀ h' tk' m', Fr h₀ L h' m' → m' (Str.ofString "numbers") = some (.ref Dn) → m' (Str.ofString "order") = some (.ref Do) → m' (Str.ofString "files") = some (.ref Df) → m' (Str.ofString "place") = some (.int (k : Int) tp) → m' (Str.ofString "below") = some (.ref Db) → m' (Str.ofString "left") = some (.ref Dl) → m' (Str.ofString "within") = some (.ref Dw) → News h₀ L h' ((Dw, LCg.lst ws) :: (Dl, LCg.lst ls) :: (L + 1, x1) :: rst) → wpAny (model PySem.Challenge.rw_of0013_01.prog w) ((aTop dp un gd []).deeper (lawEnv sc L)) (execs rest (lawEnv sc L)) Q (fun e s' => wpAny (model PySem.Challenge.rw_of0013_01.prog w) ((aTop dp un gd []).deeper (lawEnv sc L)) (leaving (lawEnv sc L) e) (fun _ s'' => E e s'') (fun e' s'' => E e' s'') s') ⟨h', g, d, tk', os⟩), wpAny (model PySem.Challenge.rw_of0013_01.prog w) ((aTop dp un gd []).deeper (lawEnv sc L)) (execs (forStmt w.params 8 :: rest) (lawEnv sc L)) Q (fun e s' => wpAny (model PySem.Challenge.rw_of0013_01.prog w) ((aTop dp un gd []).deeper (lawEnv sc L)) (leaving (lawEnv sc L) e) (fun _ s'' => E e s'') (fun e' s'' => E e' s'') s') ⟨h, g, d, tk, os⟩ := by
  iterate 10 refine @Mine.pad _ ?_
  iterate 3 k_extra "pkG"
  iterate 20 k_extra "pk9"
  rename_i w p loose mean mg mb dp un gd A₀ base h₀ h g d tk os L m Q E sc rest x1 Dn Do Df Db Dl Dw k tp tn ws ls bs nm rst B X T hdp hu esc F ie2 ie3 ie4 ie5 Nm N d1 hW hL hb hnd ok2 hnext
  obtain ⟨ev, hev⟩ : ∃ ev, ev = lawEnv sc L := ⟨_, rfl⟩
  refine with_eq (a := lawScope w.params) (by conv => (lhs; whnf)) fun e9 => ?_
  have e8 := esc.trans e9
  subst e8
  clear e9 esc
  have PX : ∀ (h : Heap) (m' : Str → Option Value), Fr h₀ L h m' → Below (A₀.deeper ev) base (ev :: []) h := fun h m' F => pushX B F (by rw [hev]; rfl) (by rw [hev]; rfl)
  subst hev
  refine with_eq (a := forStmt w.params 8) (by conv => (lhs; whnf)) fun e9 => ?_
  rw [e9]
  clear e9
  have F9 := fr_ps F Nm
  clear F
  dsimp only [kstB] at F9
  revert X; k_fill; intro X
  have hnb := (List.nodup_append.mp hnd).1
  have hnn : nm ∉ bs := fun hm => (List.nodup_append.mp hnd).2.2 nm hm nm (by simp) rfl
  k_steps
  refine ⟨?_⟩
  (with_reducible rename Fr _ _ _ _ => F7)
  refine sortS F7 N (.tail _ (.head _)) hL hnd (by simp; omega) ?_
  intro D1 c1 h1 out1 os1 F1 N1 l1 S1 P1 W1
  clear F7
  k_steps
  refine ⟨?_⟩
  refine sortS F1 N1 (.tail _ (.head _)) hW hnb (by omega) ?_
  intro D2 c2 h2 out2 os2 F2 N2 l2 S2 P2 W2
  clear F1 N1
  (repeat' (first | (k_unfold; (try dsimp only)) | (k_end; wrow_close) | (k_here; (with_reducible show wpAny _ _ (call (Value.ref 97) _) _ _ _); refine Mine.park ?_) | walk1 | (dsimp only; walk1) | (leave1; try dsimp only)))
  refine ⟨?_⟩
  have ln1 : os1.length ≤ 900 := by rw [P1.length_eq]; simp; omega
  refine f_sld F2 X N2 T rfl rfl (by show dp + 1 + 8 < _; omega) (by show un + 3 + 80 < _; omega) ie2 ie3 ie4 ie5 (.tail _ (.head _)) (.head _) S1 S2 W1 (sorted_sub _ _ W2 W1 fun a ha => P1.mem_iff.mpr (List.mem_append_left _ (P2.mem_iff.mp ha))) ln1 ?_
  intro x a1 a2 us n1 n2 h3 tk3 F3 N3 S3
  rw [diff_one P1 P2 hnn] at S3
  have N4 : News h₀ L h3 ((x, tup2 (.ref a1) (.ref a2)) :: (a1, listOf us.toArray n1) :: (a2, listOf #[] n2) :: (Dw, LCg.lst ws) :: (Dl, LCg.lst ls) :: (L + 1, x1) :: rst) := drop35 N3
  clear N3 N2 F2 l1 l2 S1 S2
  (repeat' (first | (k_unfold; (try dsimp only)) | (k_end; wrow_close) | (k_here; (with_reducible show wpAny _ _ (compareOp _ (Value.ref _) (Value.ref _)) _ _ _); refine Mine.park ?_) | walk1 | (dsimp only; walk1) | (leave1; try dsimp only)))
  refine ⟨?_⟩
  (with_reducible rename News _ _ _ _ => N7)
  have okn : OkS [nm] := fun y hy => ok2 y (List.mem_append_right _ hy)
  refine ne_tup (N7 _ (.tail _ (.tail _ (.tail _ (.head _))))).1 (N7 _ (.head _)).1 (N7 _ (.tail _ (.tail _ (.tail _ (.tail _ (.head _)))))).1 (N7 _ (.tail _ (.tail _ (.tail _ (.tail _ (.tail _ (.head _))))))).1 (v2 := []) (N7 _ (.tail _ (.tail _ (.head _)))).1 (N7 _ (.tail _ (.head _))).1 (v4 := []) S3 .nil (.cons nm tn .nil) .nil okn (fun _ h => nomatch h) okn (fun _ h => nomatch h) (by ktr_units) ?_
  rw [decide_eq_true (And.intro rfl rfl)]
  have N8 : News h₀ L _ ((Dw, LCg.lst ws) :: (Dl, LCg.lst ls) :: (L + 1, x1) :: rst) := fun p hp => N7 p (.tail _ (.tail _ (.tail _ (.tail _ (.tail _ (.tail _ hp))))))
  clear N7
  k_steps
  exact hnext _ _ _ (by k_asm) rfl rfl rfl rfl rfl rfl rfl N8
end Mine
end
open PySem PySem.W PyProof.Rows in
example : Mine.RS := by intro M A Q E s h; w_top off; first | walk1 | skip; all_goals first | exact h | exact wpAny_pure h
section
set_option maxHeartbeats 8000000
namespace Mine
structure J9 (w : World) (mem : Str → Option Bool) (n : Nat) (P : Str → Bool) (led : Obj → List (Addr × Obj)) (l : List Str) (i : Nat) (ys : List Value) (nx : List (Addr × Obj)) : Prop where
  out : ∃ io', nx = led io' ∧ Memo w io' mem (n + i) ∧ StrsAre ys ((l.take i).filter P)
theorem off3_of {I C D : Addr} {l : List (Addr × Obj)} {a : Addr} {o o' : Obj} (h : LCg.Off3 I C D ((a, o) :: l)) : LCg.Off3 I C D ((a, o') :: l) := ⟨h.1, h.2⟩
theorem for9 :
 ∀ {w : World} {p : Program} {loose : List Str} {mean : ExcName → Option Value} {mg mb : Str → Option Value} {dp un : Nat} {gd : Option (List Code)} {outer : List Env} {A₀ : Around} {base h₀ h : Heap} {g : Array GenState} {d : Drawn} {tk : Nat} {os : OsState} {L : Addr} {m : Str → Option Value} {Q : Flow → Shared → Prop} {E : Value → Shared → Prop} {sc : Scope} {rest : List Stmt} {xc io so : Obj} {I D S x dx : Addr} {t1 t2 t3 : Tok} {nd nl : Nat} {ds : List Value} {Dn Do Df Db Dl Dw : Addr} {k : Nat} {tp : Tok} {out ys0 : List Value} {c nb n : Nat} {os1 bs ms dss : List Str} {mem : Str → Option Bool} {P : Str → Bool} {rst : List (Addr × Obj)}
 (B : Below A₀ base outer h₀) (X : (hd.heap_1 w.params).In h₀) (T : Top p loose mean mg mb h₀) (hdp : dp + 640 < recursionLimit) (hu : un + 4000 < cLine) (esc : sc = lawScope w.params) (F : Fr h₀ L h m) (Nm : ∀ q ∈ [(Str.ofString "numbers", Value.ref Dn), (Str.ofString "order", Value.ref Do), (Str.ofString "files", Value.ref Df), (Str.ofString "place", Value.int (k : Int) tp), (Str.ofString "below", Value.ref Db), (Str.ofString "left", Value.ref Dl), (Str.ofString "within", Value.ref Dw)], m q.1 = some q.2) (N : News h₀ L h ((I, io) :: (D, listOf ds.toArray nl) :: (S, so) :: (x, instObj 86 dx) :: (dx, dictOf (ignD w.params t1 t2 t3 S D I) nd) :: (L + 1 + 1 + 1 + 1, xc) :: (Do, listOf out.toArray c) :: (Db, listOf ys0.toArray nb) :: rst)) (hcell : xc.data = .cell (some (.ref x))) (R : RdrOk w x dx S D I so ds ms dss) (M : Memo w io mem n) (hmem : ∀ y ∈ os1, mem y = some (P y)) (hms : ∀ y ∈ os1, y ∈ ms ∨ ms.length ≤ 1) (hn : n ≤ 800) (AI : Apart I ((D, listOf ds.toArray nl) :: (S, so) :: (x, instObj 86 dx) :: (dx, dictOf (ignD w.params t1 t2 t3 S D I) nd) :: (L + 1 + 1 + 1 + 1, xc) :: (Do, listOf out.toArray c) :: (Db, listOf ys0.toArray nb) :: rst)) (hS : StrsAre out os1) (hl : os1.length ≤ 7) (hlen : ∀ y ∈ os1, y.length ≤ 300) (hB : StrsAre ys0 bs) (hbs : os1.filter P = bs) (okb : OkS bs) (hnext : ∀ io' h' tk' m', Fr h₀ L h' m' → m' (Str.ofString "numbers") = some (.ref Dn) → m' (Str.ofString "order") = some (.ref Do) → m' (Str.ofString "files") = some (.ref Df) → m' (Str.ofString "place") = some (.int (k : Int) tp) → m' (Str.ofString "below") = some (.ref Db) → m' (Str.ofString "left") = some (.ref Dl) → m' (Str.ofString "within") = some (.ref Dw) → News h₀ L h' ((I, io') :: (D, listOf ds.toArray nl) :: (S, so) :: (x, instObj 86 dx) :: (dx, dictOf (ignD w.params t1 t2 t3 S D I) nd) :: (L + 1 + 1 + 1 + 1, xc) :: (Do, listOf out.toArray c) :: (Db, listOf ys0.toArray nb) :: rst) → wpAny (model PySem.Challenge.rw_of0013_01.prog w) ((aTop dp un gd outer).deeper (lawEnv sc L)) (execs rest (lawEnv sc L)) Q (fun e s' => wpAny (model PySem.Challenge.rw_of0013_01.prog w) ((aTop dp un gd outer).deeper (lawEnv sc L)) (leaving (lawEnv sc L) e) (fun _ s'' => E e s'') (fun e' s'' => E e' s'') s') ⟨h', g, d, tk', os⟩), wpAny (model PySem.Challenge.rw_of0013_01.prog w) ((aTop dp un gd outer).deeper (lawEnv sc L)) (execs (forStmt w.params 9 :: rest) (lawEnv sc L)) Q (fun e s' => wpAny (model PySem.Challenge.rw_of0013_01.prog w) ((aTop dp un gd outer).deeper (lawEnv sc L)) (leaving (lawEnv sc L) e) (fun _ s'' => E e s'') (fun e' s'' => E e' s'') s') ⟨h, g, d, tk, os⟩ := by
  iterate 6 refine @Mine.pad _ ?_
  iterate 4 k_extra "pkG"
  iterate 23 k_extra "pk9"
  rename_i w p loose mean mg mb dp un gd outer A₀ base h₀ h g d tk os L m Q E sc rest xc io so I D S x dx t1 t2 t3 nd nl ds Dn Do Df Db Dl Dw k tp out ys0 c nb n os1 bs ms dss mem P rst B X T hdp hu esc F Nm N hcell R M hmem hms hn AI hS hl hlen hB hbs okb hnext
  obtain ⟨ev, hev⟩ : ∃ ev, ev = lawEnv sc L := ⟨_, rfl⟩
  refine with_eq (a := lawScope w.params) (by conv => (lhs; whnf)) fun e9 => ?_
  have e8 := esc.trans e9
  subst e8
  clear e9 esc
  have PX : ∀ (h : Heap) (m' : Str → Option Value), Fr h₀ L h m' → Below (A₀.deeper ev) base (ev :: outer) h := fun h m' F => pushX B F (by rw [hev]; rfl) (by rw [hev]; rfl)
  subst hev
  refine with_eq (a := forStmt w.params 9) (by conv => (lhs; whnf)) fun e9 => ?_
  rw [e9]
  clear e9
  have F9 := fr_ps F Nm
  clear F
  dsimp only [kstB] at F9
  revert X; k_fill; intro X
  have hl5 := hS.length
  repeat ((fail_if_success (with_reducible show LCt.CompSrcT _ _ _ _ _ _ _ _ _ _ _ _ _ _ _)); (first | ((with_reducible show wpAny _ _ (eval (PySem.Expr.ListComp _ _ _ _) _) _ _ _); (k_here; k_dflt (refine LCt.ListComp_T (F₀ := by k_asm) (by with_unfolding_all rfl) (by decide) (by rfl) (by decide) (by rfl) ?_))) | walk1 | (dsimp only; walk1)))
  (with_reducible rename Fr _ _ _ _ => F8)
  refine LCt.CompSrcT.ledger rfl F8 N (.tail _ (.tail _ (.tail _ (.tail _ (.tail _ (.tail _ (.head _))))))) (by rw [PySem.sizeLine_eq, List.size_toArray]; omega) ?_
  intro g9
  refine ct_inv (J9 w mem n P (fun o => (I, o) :: (D, listOf ds.toArray nl) :: (S, so) :: (x, instObj 86 dx) :: (dx, dictOf (ignD w.params t1 t2 t3 S D I) nd) :: (L + 1 + 1 + 1 + 1, xc) :: (Do, listOf out.toArray c) :: (Db, listOf ys0.toArray nb) :: rst) os1) ?turn ?fin ⟨io, rfl, M, by simpa using StrsAre.nil⟩
  case turn =>
    intro i v ys nx oI oO C oC D2 m₂ h2 tk2 E2 hi0 hv hJ hC hx2 F2 N2 off2 ne2
    refine Classical.byContradiction fun ng9 => ?_
    obtain ⟨io', rfl, M2, hY⟩ := hJ.out
    refine ng9 ?_
    clear ng9
    refine Classical.byContradiction fun ng9 => ?_
    obtain ⟨y, ty, rfl, hy⟩ := strs_getV hS (by simpa using hv)
    refine ng9 ?_
    clear ng9
    have hi : i < os1.length := (List.getElem?_eq_some_iff.mp hy).1
    clear hv F8 N hnext hS
    (repeat' (first | (k_unfold; (try dsimp only)) | (k_end; wrow_close) | (k_here; (with_reducible show wpAny _ _ (call (Value.ref 83) _) _ _ _); refine Mine.park ?_) | walk1 | (dsimp only; walk1) | (leave1; try dsimp only)))
    refine ⟨?_⟩
    have oI9 := off2.1
    have hym := List.mem_of_getElem? hy
    have hmy := hmem y hym
    refine f_names B F2 X N2 T rfl rfl (by show dp + 1 + 4 < _; omega) (by show un + 3 + 40 < _; omega) (UpdF.tail (fun q => oI9.1 q.symm) (UpdF.tail (fun q => oI9.2.1 q.symm) (UpdF.tail (fun q => oI9.2.2 q.symm) (UpdF.head fun p hp => off_mem AI.off p hp)))) (by k_mem) (by k_mem) (by k_mem) (by k_mem) R M2 (by omega) (hlen y hym) (hms y hym) (.inl ⟨rfl, rfl⟩) ?_
    intro io2 h3 tk3 tb F3 N3 M3
    have M4 : Memo w io2 mem (n + (i + 1)) := by
      refine M3.congr (funext fun k => ?_)
      by_cases q : k = y
      · subst q; rw [if_pos rfl, hmy]; rfl
      · rw [if_neg q]
    clear M3 M2 N2 F2
    rw [hmy]
    show wpAny _ _ (truthy (.int (b2i (P y)) tb)) _ _ _
    have off3 : LCg.Off3 oI C D2 ((I, io2) :: (D, listOf ds.toArray nl) :: (S, so) :: (x, instObj 86 dx) :: (dx, dictOf (ignD w.params t1 t2 t3 S D I) nd) :: (L + 1 + 1 + 1 + 1, xc) :: (Do, listOf out.toArray c) :: (Db, listOf ys0.toArray nb) :: rst) := off3_of off2
    have hS9 : LCg.SrcAt h₀ Do out.toArray ((I, io2) :: (D, listOf ds.toArray nl) :: (S, so) :: (x, instObj 86 dx) :: (dx, dictOf (ignD w.params t1 t2 t3 S D I) nd) :: (L + 1 + 1 + 1 + 1, xc) :: (Do, listOf out.toArray c) :: (Db, listOf ys0.toArray nb) :: rst) := .inr ⟨_, (by k_mem), rfl, _, rfl⟩
    have e9 : os1.take (i + 1) = os1.take i ++ [y] := by rw [List.take_add_one, hy]; rfl
    (try dsimp only at N3)
    cases hv : P y with
    | true =>
      show wpAny _ _ (truthy (.int 1 tb)) _ _ _
      k_steps
      exact LCg.CompEnd.intro (by k_asm) N3 _ (fun p hp => hp) off3 hS9 ⟨io2, rfl, M4, by rw [e9, List.filter_append, List.filter_cons_of_pos hv]; exact hY.append' (.cons _ _ .nil)⟩
    | false =>
      show wpAny _ _ (truthy (.int 0 tb)) _ _ _
      k_steps
      exact LCg.CompEnd.intro (by k_asm) N3 _ (fun p hp => hp) off3 hS9 ⟨io2, rfl, M4, by rw [e9, List.filter_append, List.filter_cons_of_neg (by rw [hv]; simp)]; simpa using hY⟩
  case fin =>
    intro ys nx hJ
    refine Classical.byContradiction fun ng9 => ?_
    obtain ⟨io', rfl, M2, hY⟩ := hJ.out
    refine ng9 ?_
    clear ng9
    rw [List.size_toArray, hl5, List.take_length, hbs] at hY
    clear F8 N hS
    (repeat' (first | (k_unfold; (try dsimp only)) | (k_end; wrow_close) | (k_here; (with_reducible show wpAny _ _ (compareOp _ (Value.ref _) (Value.ref _)) _ _ _); refine Mine.park ?_) | walk1 | (dsimp only; walk1) | (leave1; try dsimp only)))
    refine ⟨?_⟩
    (with_reducible rename News _ _ _ _ => N7)
    refine ne_ls (N7 _ (.head _)).1 (N7 _ (.tail _ (.tail _ (.tail _ (.tail _ (.tail _ (.tail _ (.tail _ (.tail _ (.head _)))))))))).1 hY hB okb okb (by ktr_units) ?_
    rw [decide_eq_true rfl]
    have N8 : News h₀ L _ ((I, io') :: (D, listOf ds.toArray nl) :: (S, so) :: (x, instObj 86 dx) :: (dx, dictOf (ignD w.params t1 t2 t3 S D I) nd) :: (L + 1 + 1 + 1 + 1, xc) :: (Do, listOf out.toArray c) :: (Db, listOf ys0.toArray nb) :: rst) := fun p hp => N7 p (.tail _ hp)
    clear N7
    k_steps
    exact hnext io' _ _ _ (by k_asm) rfl rfl rfl rfl rfl rfl rfl N8
end Mine
end
open PySem PySem.W PyProof.Rows in
example : Mine.RS := by intro M A Q E s h; w_top off; first | walk1 | skip; all_goals first | exact h | exact wpAny_pure h
section
set_option maxHeartbeats 8000000
namespace Mine
local macro_rules | `(tactic| k_ne) => `(tactic| first | (refine neN ?_; (try dsimp only); omega) | exact Apart.ne (by assumption) (by k_mem) | exact Apart.ne' (by assumption) (by k_mem))
local macro_rules | `(tactic| k_ne) => `(tactic| (refine neN ?_; (try dsimp only); first | assumption | (refine Ne.symm ?_; assumption) | omega))
local macro_rules | `(tactic| k_all) => `(tactic| assumption)
theorem law9 :
 ∀ {w : World} {p : Program} {loose : List Str} {mean : ExcName → Option Value} {mg mb : Str → Option Value} {dp un : Nat} {gd : Option (List Code)} {outer : List Env} {A₀ : Around} {base h₀ h : Heap} {g : Array GenState} {d : Drawn} {tk : Nat} {os : OsState} {L : Addr} {m : Str → Option Value} {Q : Flow → Shared → Prop} {E : Value → Shared → Prop} {sc : Scope} {rest : List Stmt} {x1 x2 x3 x4 x5 x6 : Obj} {v5 : Option Value} {Dn Do Df Di : Addr} {us out fs inn : List Value} {nn c ci : Nat} {own : List (Addr × Obj)} {os1 : List Str}
 (B : Below A₀ base outer h₀) (X : (hd.heap_1 w.params).In h₀) (T : Top p loose mean mg mb h₀) (hdp : dp + 640 < recursionLimit) (hu : un + 4000 < cLine) (esc : sc = lawScope w.params) (F : Fr h₀ L h m) (d5 : x5.data = .cell v5) (c0 : @Ne Nat Dn (L + 1 + 1 + 1 + 1 + 1)) (c1 : @Ne Nat Do (L + 1 + 1 + 1 + 1 + 1)) (c2 : @Ne Nat Df (L + 1 + 1 + 1 + 1 + 1)) (c3 : @Ne Nat Di (L + 1 + 1 + 1 + 1 + 1)) (w1 : ∀ p ∈ own, p.1 ≠ (L + 1 + 1 + 1 + 1 + 1)) (hS : StrsAre out os1) (hl : os1.length ≤ 7) (hl1 : 1 ≤ os1.length) (hnd : os1.Nodup) (hlen : ∀ y ∈ os1, y.length ≤ 300) (Nm : ∀ q ∈ [(Str.ofString "numbers", Value.ref Dn), (Str.ofString "order", Value.ref Do), (Str.ofString "files", Value.ref Df)], m q.1 = some q.2) (N : News h₀ L h ((Do, listOf out.toArray c) :: (Df, LCg.lst fs) :: (Dn, listOf us.toArray nn) :: (Di, listOf inn.toArray ci) :: (L + 1 + 1 + 1 + 1 + 1 + 1, x6) :: (L + 1 + 1 + 1 + 1 + 1, x5) :: (L + 1 + 1 + 1 + 1, x4) :: (L + 1 + 1 + 1, x3) :: (L + 1 + 1, x2) :: (L + 1, x1) :: own)) (hnext : ∀ x dx S D I so io t1 t2 t3 nd nl ds x5' h' tk' m', x5'.data = .cell (some (.ref x)) → Fr h₀ L h' m' → m' (Str.ofString "numbers") = some (.ref Dn) → m' (Str.ofString "order") = some (.ref Do) → m' (Str.ofString "files") = some (.ref Df) → News h₀ L h' ((I, io) :: (D, listOf ds.toArray nl) :: (S, so) :: (x, instObj 86 dx) :: (dx, dictOf (ignD w.params t1 t2 t3 S D I) nd) :: (Do, listOf out.toArray c) :: (Df, LCg.lst fs) :: (Dn, listOf us.toArray nn) :: (Di, listOf inn.toArray ci) :: (L + 1 + 1 + 1 + 1 + 1 + 1, x6) :: (L + 1 + 1 + 1 + 1 + 1, x5') :: (L + 1 + 1 + 1 + 1, x4) :: (L + 1 + 1 + 1, x3) :: (L + 1 + 1, x2) :: (L + 1, x1) :: own) → RdrOk w x dx S D I so ds os1 [] → Memo w io memo0 1 → Apart I ((D, listOf ds.toArray nl) :: (S, so) :: (x, instObj 86 dx) :: (dx, dictOf (ignD w.params t1 t2 t3 S D I) nd) :: (Do, listOf out.toArray c) :: (Df, LCg.lst fs) :: (Dn, listOf us.toArray nn) :: (Di, listOf inn.toArray ci) :: (L + 1 + 1 + 1 + 1 + 1 + 1, x6) :: (L + 1 + 1 + 1 + 1 + 1, x5') :: (L + 1 + 1 + 1 + 1, x4) :: (L + 1 + 1 + 1, x3) :: (L + 1 + 1, x2) :: (L + 1, x1) :: own) → Apart D ((S, so) :: (x, instObj 86 dx) :: (dx, dictOf (ignD w.params t1 t2 t3 S D I) nd) :: (Do, listOf out.toArray c) :: (Df, LCg.lst fs) :: (Dn, listOf us.toArray nn) :: (Di, listOf inn.toArray ci) :: (L + 1 + 1 + 1 + 1 + 1 + 1, x6) :: (L + 1 + 1 + 1 + 1 + 1, x5') :: (L + 1 + 1 + 1 + 1, x4) :: (L + 1 + 1 + 1, x3) :: (L + 1 + 1, x2) :: (L + 1, x1) :: own) → Apart S ((x, instObj 86 dx) :: (dx, dictOf (ignD w.params t1 t2 t3 S D I) nd) :: (Do, listOf out.toArray c) :: (Df, LCg.lst fs) :: (Dn, listOf us.toArray nn) :: (Di, listOf inn.toArray ci) :: (L + 1 + 1 + 1 + 1 + 1 + 1, x6) :: (L + 1 + 1 + 1 + 1 + 1, x5') :: (L + 1 + 1 + 1 + 1, x4) :: (L + 1 + 1 + 1, x3) :: (L + 1 + 1, x2) :: (L + 1, x1) :: own) → Apart x ((dx, dictOf (ignD w.params t1 t2 t3 S D I) nd) :: (Do, listOf out.toArray c) :: (Df, LCg.lst fs) :: (Dn, listOf us.toArray nn) :: (Di, listOf inn.toArray ci) :: (L + 1 + 1 + 1 + 1 + 1 + 1, x6) :: (L + 1 + 1 + 1 + 1 + 1, x5') :: (L + 1 + 1 + 1 + 1, x4) :: (L + 1 + 1 + 1, x3) :: (L + 1 + 1, x2) :: (L + 1, x1) :: own) → Apart dx ((Do, listOf out.toArray c) :: (Df, LCg.lst fs) :: (Dn, listOf us.toArray nn) :: (Di, listOf inn.toArray ci) :: (L + 1 + 1 + 1 + 1 + 1 + 1, x6) :: (L + 1 + 1 + 1 + 1 + 1, x5') :: (L + 1 + 1 + 1 + 1, x4) :: (L + 1 + 1 + 1, x3) :: (L + 1 + 1, x2) :: (L + 1, x1) :: own) → wpAny (model PySem.Challenge.rw_of0013_01.prog w) ((aTop dp un gd outer).deeper (lawEnv sc L)) (execs rest (lawEnv sc L)) Q (fun e s' => wpAny (model PySem.Challenge.rw_of0013_01.prog w) ((aTop dp un gd outer).deeper (lawEnv sc L)) (leaving (lawEnv sc L) e) (fun _ s'' => E e s'') (fun e' s'' => E e' s'') s') ⟨h', g, d, tk', os⟩), wpAny (model PySem.Challenge.rw_of0013_01.prog w) ((aTop dp un gd outer).deeper (lawEnv sc L)) (execs (lawStmt w.params 9 :: rest) (lawEnv sc L)) Q (fun e s' => wpAny (model PySem.Challenge.rw_of0013_01.prog w) ((aTop dp un gd outer).deeper (lawEnv sc L)) (leaving (lawEnv sc L) e) (fun _ s'' => E e s'') (fun e' s'' => E e' s'') s') ⟨h, g, d, tk, os⟩ := by
  iterate 4 refine @Mine.pad _ ?_
  iterate 3 k_extra "pkG"
  iterate 21 k_extra "pk9"
  rename_i w p loose mean mg mb dp un gd outer A₀ base h₀ h g d tk os L m Q E sc rest x1 x2 x3 x4 x5 x6 v5 Dn Do Df Di us out fs inn nn c ci own os1 B X T hdp hu esc F d5 c0 c1 c2 c3 w1 hS hl hl1 hnd hlen Nm N hnext
  obtain ⟨ev, hev⟩ : ∃ ev, ev = lawEnv sc L := ⟨_, rfl⟩
  refine with_eq (a := lawScope w.params) (by conv => (lhs; whnf)) fun e9 => ?_
  have e8 := esc.trans e9
  subst e8
  clear e9 esc
  have PX : ∀ (h : Heap) (m' : Str → Option Value), Fr h₀ L h m' → Below (A₀.deeper ev) base (ev :: outer) h := fun h m' F => pushX B F (by rw [hev]; rfl) (by rw [hev]; rfl)
  subst hev
  refine with_eq (a := lawStmt w.params 9) (by conv => (lhs; whnf)) fun e9 => ?_
  rw [e9]
  clear e9
  have F9 := fr_ps F Nm
  clear F
  dsimp only [kstB] at F9
  revert X; k_fill; intro X
  have hl5 := hS.length
  (repeat' (first | (k_unfold; (try dsimp only)) | (k_end; wrow_close) | (k_here; (with_reducible show wpAny _ _ (call (Value.ref 86) [Value.ref _]) _ _ _); refine Mine.park ?_) | walk1 | (dsimp only; walk1) | (leave1; try dsimp only)))
  refine ⟨?_⟩
  (with_reducible rename Fr _ _ _ _ => F8)
  refine f_ign1 (news := (Do, listOf out.toArray c) :: (Df, LCg.lst fs) :: (Dn, listOf us.toArray nn) :: (Di, listOf inn.toArray ci) :: (L + 1 + 1 + 1 + 1 + 1 + 1, x6) :: (L + 1 + 1 + 1 + 1 + 1, x5) :: (L + 1 + 1 + 1 + 1, x4) :: (L + 1 + 1 + 1, x3) :: (L + 1 + 1, x2) :: (L + 1, x1) :: own) B F8 X T (by show dp + 1 + 16 < _; omega) (by show un + 3 + 160 < _; omega) (fun p hp => (List.mem_cons.mp hp).elim (fun e => e ▸ N _ (.head _)) fun hp => N _ hp) hS ?hve (by omega) ?hne hnd (by omega) hlen ?_
  case hve =>
    cases out with
    | nil => rw [List.length_nil] at hl5; omega
    | cons _ _ => rfl
  case hne => intro e; rw [e] at hl1; simp at hl1
  intro x dx S D I so io t1 t2 t3 nd nl ds h7 tk7 F7 N7 R7 M7 A1 A2 A3 A4 A5
  clear F8 N hS
  (repeat' (first | (k_unfold; (try dsimp only)) | (k_end; wrow_close) | (k_here; (with_reducible show wpAny _ _ (call (Value.ref 86) [Value.ref _]) _ _ _); refine Mine.park ?_) | walk1 | (dsimp only; walk1) | (leave1; try dsimp only)))
  (with_reducible rename Fr _ _ _ _ => F6); (with_reducible rename News _ _ _ _ => N6)
  exact hnext _ _ _ _ _ _ _ _ _ _ _ _ _ _ _ _ _ (by assumption) F6 rfl rfl rfl N6 R7 M7 (A1.same rfl) (A2.same rfl) (A3.same rfl) (A4.same rfl) (A5.same rfl)
end Mine
end
open PySem PySem.W PyProof.Rows in
example : Mine.RS := by intro M A Q E s h; w_top off; first | walk1 | skip; all_goals first | exact h | exact wpAny_pure h
section
set_option maxHeartbeats 8000000
namespace Mine
local macro_rules | `(tactic| k_ne) => `(tactic| first | (refine neN ?_; (try dsimp only); omega) | exact Apart.ne (by assumption) (by k_mem) | exact Apart.ne' (by assumption) (by k_mem))
local macro_rules | `(tactic| k_ne) => `(tactic| (refine neN ?_; (try dsimp only); first | assumption | (refine Ne.symm ?_; assumption) | omega))
local macro_rules | `(tactic| k_all) => `(tactic| assumption)
theorem law10 :
 ∀ {w : World} {p : Program} {loose : List Str} {mean : ExcName → Option Value} {mg mb : Str → Option Value} {dp un : Nat} {gd : Option (List Code)} {outer : List Env} {A₀ : Around} {base h₀ h : Heap} {g : Array GenState} {d : Drawn} {tk : Nat} {os : OsState} {L : Addr} {m : Str → Option Value} {Q : Flow → Shared → Prop} {E : Value → Shared → Prop} {sc : Scope} {rest : List Stmt} {x1 x2 x3 x4 x5 x6 : Obj} {v6 : Option Value} {aI aD aS ax adx : Addr} {oI oD oS ox odx : Obj} {Dn Do Df Di : Addr} {us out fs inn : List Value} {nn c ci : Nat} {own : List (Addr × Obj)} {zs : List Int}
 (B : Below A₀ base outer h₀) (X : (hd.heap_1 w.params).In h₀) (T : Top p loose mean mg mb h₀) (hdp : dp + 640 < recursionLimit) (hu : un + 4000 < cLine) (esc : sc = lawScope w.params) (F : Fr h₀ L h m) (d6 : x6.data = .cell v6) (c0 : @Ne Nat Dn (L + 1 + 1 + 1 + 1 + 1 + 1)) (c1 : @Ne Nat Do (L + 1 + 1 + 1 + 1 + 1 + 1)) (c2 : @Ne Nat Df (L + 1 + 1 + 1 + 1 + 1 + 1)) (c3 : @Ne Nat Di (L + 1 + 1 + 1 + 1 + 1 + 1)) (w1 : ∀ p ∈ own, p.1 ≠ (L + 1 + 1 + 1 + 1 + 1 + 1)) (am : @Ne Nat aI (L + 1 + 1 + 1 + 1 + 1 + 1) ∧ @Ne Nat aD (L + 1 + 1 + 1 + 1 + 1 + 1) ∧ @Ne Nat aS (L + 1 + 1 + 1 + 1 + 1 + 1) ∧ @Ne Nat ax (L + 1 + 1 + 1 + 1 + 1 + 1) ∧ @Ne Nat adx (L + 1 + 1 + 1 + 1 + 1 + 1)) (hI : IntsAre us zs) (hb : ∀ z ∈ zs, 0 ≤ z ∧ z < 10000000000) (hl1 : 1 ≤ zs.length) (hl : zs.length ≤ 7) (hno : ∀ z ∈ zs, NormOk (folderN z)) (Nm : ∀ q ∈ [(Str.ofString "numbers", Value.ref Dn), (Str.ofString "order", Value.ref Do), (Str.ofString "files", Value.ref Df)], m q.1 = some q.2) (N : News h₀ L h ((aI, oI) :: (aD, oD) :: (aS, oS) :: (ax, ox) :: (adx, odx) :: (Do, listOf out.toArray c) :: (Df, LCg.lst fs) :: (Dn, listOf us.toArray nn) :: (Di, listOf inn.toArray ci) :: (L + 1 + 1 + 1 + 1 + 1 + 1, x6) :: (L + 1 + 1 + 1 + 1 + 1, x5) :: (L + 1 + 1 + 1 + 1, x4) :: (L + 1 + 1 + 1, x3) :: (L + 1 + 1, x2) :: (L + 1, x1) :: own)) (hnext : ∀ x dx S D I so io t1 t2 t3 nd nl ds x6' h' tk' m', x6'.data = .cell (some (.ref x)) → Fr h₀ L h' m' → m' (Str.ofString "numbers") = some (.ref Dn) → m' (Str.ofString "order") = some (.ref Do) → m' (Str.ofString "files") = some (.ref Df) → News h₀ L h' ((I, io) :: (D, listOf ds.toArray nl) :: (S, so) :: (x, instObj 86 dx) :: (dx, dictOf (ignD w.params t1 t2 t3 S D I) nd) :: (aI, oI) :: (aD, oD) :: (aS, oS) :: (ax, ox) :: (adx, odx) :: (Do, listOf out.toArray c) :: (Df, LCg.lst fs) :: (Dn, listOf us.toArray nn) :: (Di, listOf inn.toArray ci) :: (L + 1 + 1 + 1 + 1 + 1 + 1, x6') :: (L + 1 + 1 + 1 + 1 + 1, x5) :: (L + 1 + 1 + 1 + 1, x4) :: (L + 1 + 1 + 1, x3) :: (L + 1 + 1, x2) :: (L + 1, x1) :: own) → RdrOk w x dx S D I so ds [] ((zs.map folderN).map normN) → Memo w io memo0 1 → Apart I ((D, listOf ds.toArray nl) :: (S, so) :: (x, instObj 86 dx) :: (dx, dictOf (ignD w.params t1 t2 t3 S D I) nd) :: (aI, oI) :: (aD, oD) :: (aS, oS) :: (ax, ox) :: (adx, odx) :: (Do, listOf out.toArray c) :: (Df, LCg.lst fs) :: (Dn, listOf us.toArray nn) :: (Di, listOf inn.toArray ci) :: (L + 1 + 1 + 1 + 1 + 1 + 1, x6') :: (L + 1 + 1 + 1 + 1 + 1, x5) :: (L + 1 + 1 + 1 + 1, x4) :: (L + 1 + 1 + 1, x3) :: (L + 1 + 1, x2) :: (L + 1, x1) :: own) → Apart D ((S, so) :: (x, instObj 86 dx) :: (dx, dictOf (ignD w.params t1 t2 t3 S D I) nd) :: (aI, oI) :: (aD, oD) :: (aS, oS) :: (ax, ox) :: (adx, odx) :: (Do, listOf out.toArray c) :: (Df, LCg.lst fs) :: (Dn, listOf us.toArray nn) :: (Di, listOf inn.toArray ci) :: (L + 1 + 1 + 1 + 1 + 1 + 1, x6') :: (L + 1 + 1 + 1 + 1 + 1, x5) :: (L + 1 + 1 + 1 + 1, x4) :: (L + 1 + 1 + 1, x3) :: (L + 1 + 1, x2) :: (L + 1, x1) :: own) → Apart S ((x, instObj 86 dx) :: (dx, dictOf (ignD w.params t1 t2 t3 S D I) nd) :: (aI, oI) :: (aD, oD) :: (aS, oS) :: (ax, ox) :: (adx, odx) :: (Do, listOf out.toArray c) :: (Df, LCg.lst fs) :: (Dn, listOf us.toArray nn) :: (Di, listOf inn.toArray ci) :: (L + 1 + 1 + 1 + 1 + 1 + 1, x6') :: (L + 1 + 1 + 1 + 1 + 1, x5) :: (L + 1 + 1 + 1 + 1, x4) :: (L + 1 + 1 + 1, x3) :: (L + 1 + 1, x2) :: (L + 1, x1) :: own) → Apart x ((dx, dictOf (ignD w.params t1 t2 t3 S D I) nd) :: (aI, oI) :: (aD, oD) :: (aS, oS) :: (ax, ox) :: (adx, odx) :: (Do, listOf out.toArray c) :: (Df, LCg.lst fs) :: (Dn, listOf us.toArray nn) :: (Di, listOf inn.toArray ci) :: (L + 1 + 1 + 1 + 1 + 1 + 1, x6') :: (L + 1 + 1 + 1 + 1 + 1, x5) :: (L + 1 + 1 + 1 + 1, x4) :: (L + 1 + 1 + 1, x3) :: (L + 1 + 1, x2) :: (L + 1, x1) :: own) → Apart dx ((aI, oI) :: (aD, oD) :: (aS, oS) :: (ax, ox) :: (adx, odx) :: (Do, listOf out.toArray c) :: (Df, LCg.lst fs) :: (Dn, listOf us.toArray nn) :: (Di, listOf inn.toArray ci) :: (L + 1 + 1 + 1 + 1 + 1 + 1, x6') :: (L + 1 + 1 + 1 + 1 + 1, x5) :: (L + 1 + 1 + 1 + 1, x4) :: (L + 1 + 1 + 1, x3) :: (L + 1 + 1, x2) :: (L + 1, x1) :: own) → wpAny (model PySem.Challenge.rw_of0013_01.prog w) ((aTop dp un gd outer).deeper (lawEnv sc L)) (execs rest (lawEnv sc L)) Q (fun e s' => wpAny (model PySem.Challenge.rw_of0013_01.prog w) ((aTop dp un gd outer).deeper (lawEnv sc L)) (leaving (lawEnv sc L) e) (fun _ s'' => E e s'') (fun e' s'' => E e' s'') s') ⟨h', g, d, tk', os⟩), wpAny (model PySem.Challenge.rw_of0013_01.prog w) ((aTop dp un gd outer).deeper (lawEnv sc L)) (execs (lawStmt w.params 10 :: rest) (lawEnv sc L)) Q (fun e s' => wpAny (model PySem.Challenge.rw_of0013_01.prog w) ((aTop dp un gd outer).deeper (lawEnv sc L)) (leaving (lawEnv sc L) e) (fun _ s'' => E e s'') (fun e' s'' => E e' s'') s') ⟨h, g, d, tk, os⟩ := by
  iterate 10 refine @Mine.pad _ ?_
  iterate 4 k_extra "pkG"
  iterate 22 k_extra "pk9"
  rename_i w p loose mean mg mb dp un gd outer A₀ base h₀ h g d tk os L m Q E sc rest x1 x2 x3 x4 x5 x6 v6 aI aD aS ax adx oI oD oS ox odx Dn Do Df Di us out fs inn nn c ci own zs B X T hdp hu esc F d6 c0 c1 c2 c3 w1 am hI hb hl1 hl hno Nm N hnext
  obtain ⟨ev, hev⟩ : ∃ ev, ev = lawEnv sc L := ⟨_, rfl⟩
  refine with_eq (a := lawScope w.params) (by conv => (lhs; whnf)) fun e9 => ?_
  have e8 := esc.trans e9
  subst e8
  clear e9 esc
  have PX : ∀ (h : Heap) (m' : Str → Option Value), Fr h₀ L h m' → Below (A₀.deeper ev) base (ev :: outer) h := fun h m' F => pushX B F (by rw [hev]; rfl) (by rw [hev]; rfl)
  subst hev
  refine with_eq (a := lawStmt w.params 10) (by conv => (lhs; whnf)) fun e9 => ?_
  rw [e9]
  clear e9
  have F9 := fr_ps F Nm
  clear F
  dsimp only [kstB] at F9
  revert X; k_fill; intro X
  have hl5 := hI.length
  repeat ((fail_if_success (with_reducible show LCg.CompSrc _ _ _ _ _ _ _ _ _ _ _ _ _ _)); (first | ((with_reducible show wpAny _ _ (eval (PySem.Expr.ListComp _ _ _ _) _) _ _ _); (k_here; k_dflt (refine LCg.ListComp_U (F₀ := by k_asm) (by with_unfolding_all rfl) (by decide) (by rfl) (by decide) (by rfl) ?_))) | walk1 | (dsimp only; walk1)))
  (with_reducible rename News _ _ _ _ => N5)
  k_dflt (refine' LCg.CompSrc.ledger ?k0 ?k1 ?k2 ?k3 ?k4 ?_; (case k0 => rfl); (case k1 => k_asm); (case k2 => exact N5); (case k3 => k_mem); (case k4 => (rw [PySem.sizeLine_eq, List.size_toArray]; omega)))
  intro g9
  refine cr_map (fun i y => ∃ t, y = Value.str (folderN (zs.getD i 0)) t) ?_ ?_
  · intro i2 v2 I oI2 C oC D2 m2 ys2 h2 tk2 E2 hi2 hv2 hC2 hx2 F2 N2 off2 ne2
    refine Classical.byContradiction fun ng9 => ?_
    obtain ⟨z2, tz2, rfl, hz2'⟩ := ints_getV hI (by simpa using hv2)
    refine ng9 ?_
    clear ng9
    have hb2 := hb z2 (List.mem_of_getElem? hz2')
    have hb3 := hb2.1
    have hb4 := hb2.2
    (repeat' (first | (k_unfold; (try dsimp only)) | (k_end; wrow_close) | (k_here; (with_reducible show wpAny _ _ (call (Value.ref 121) [Value.int _ _]) _ _ _); k_dflt (refine' Mine.f_folder ?k1 ?k2 ?k3 ?k4 ?k5 ?kf ?kK ?kd ?ku _ _ ?kn ?km ?_; (case k1 => k_asm); (case k2 => k_asm); (case k3 => k_asm); (case k4 => k_asm); (case k5 => k_asm); (case kf => exact rfl); (case kK => exact rfl); (case kd => ktr_room); (case ku => ktr_units); (case kn => assumption); (case km => assumption)); intro t' h' tk' F' N'; (try dsimp only); (try k_fold)) | walk1 | (dsimp only; walk1) | (leave1; try dsimp only)))
    refine LCg.CompEnd.intro (by k_asm) (by k_asm) _ (fun p hp => hp) off2 (Or.inr ⟨_, (by k_mem), rfl, _, rfl⟩) ⟨rfl, ?_⟩
    have : zs.getD i2 0 = z2 := by rw [List.getD_eq_getElem?_getD, hz2']; rfl
    rw [this]; exact ⟨_, rfl⟩
  · intro ys hyl hy
    have hS9 : StrsAre ys (zs.map folderN) := strsAre_of (by rw [hyl, List.size_toArray, hl5, List.length_map]) fun i y hi => by
      obtain ⟨t', e⟩ := hy i y hi
      refine ⟨t', ?_⟩
      have hlt : i < zs.length := by
        have := (List.getElem?_eq_some_iff.mp hi).1
        rw [hyl, List.size_toArray, hl5] at this
        exact this
      rw [e]
      simp [List.getD_eq_getElem?_getD, hlt]
    (repeat' (first | (k_unfold; (try dsimp only)) | (k_end; wrow_close) | (k_here; (with_reducible show wpAny _ _ (call (Value.ref 86) [Value.ref _, Value.ref _]) _ _ _); refine Mine.park ?_) | walk1 | (dsimp only; walk1) | (leave1; try dsimp only)))
    refine ⟨?_⟩
    (with_reducible rename Fr _ _ _ _ => F8); (with_reducible rename News _ _ _ _ => N8)
    have hyl2 : ys.length = zs.length := by rw [hyl, List.size_toArray, hl5]
    refine f_ign3 (news := (aI, oI) :: (aD, oD) :: (aS, oS) :: (ax, ox) :: (adx, odx) :: (Do, listOf out.toArray c) :: (Df, LCg.lst fs) :: (Dn, listOf us.toArray nn) :: (Di, listOf inn.toArray ci) :: (L + 1 + 1 + 1 + 1 + 1 + 1, x6) :: (L + 1 + 1 + 1 + 1 + 1, x5) :: (L + 1 + 1 + 1 + 1, x4) :: (L + 1 + 1 + 1, x3) :: (L + 1 + 1, x2) :: (L + 1, x1) :: own) B F8 X T (by show dp + 1 + 16 < _; omega) (by show un + 3 + 160 < _; omega) hS9 ?hve (by omega) ?hok N8 ?_
    case hve =>
      cases ys with
      | nil => rw [List.length_nil] at hyl2; omega
      | cons _ _ => rfl
    case hok =>
      intro c hc
      refine Classical.byContradiction fun ng9 => ?_
      obtain ⟨z, hz, rfl⟩ := List.mem_map.mp hc
      refine ng9 ?_
      clear ng9
      exact hno z hz
    intro x dx S D I so io t1 t2 t3 nd nl ds h7 tk7 F7 N7 R7 M7 A1 A2 A3 A4 A5
    clear F8 N8 N5 hS9
    (try (rename _ ∧ _ ∧ _ ∧ _ ∧ _ ∧ _ => o9; clear o9))
    (try (rename _ ∧ _ ∧ _ ∧ _ ∧ _ ∧ _ => o9; clear o9))
    k_steps
    (with_reducible rename Fr _ _ _ _ => F6); (with_reducible rename News _ _ _ _ => N6)
    exact hnext _ _ _ _ _ _ _ _ _ _ _ _ _ _ _ _ _ (by assumption) F6 rfl rfl rfl N6 R7 M7 (A1.same rfl) (A2.same rfl) (A3.same rfl) (A4.same rfl) (A5.same rfl)
end Mine
end
open PySem PySem.W PyProof.Rows in
example : Mine.RS := by intro M A Q E s h; w_top off; first | walk1 | skip; all_goals first | exact h | exact wpAny_pure h
section
set_option maxHeartbeats 8000000
local macro_rules | `(tactic| intro $x:ident) => `(tactic| first | (refine @Mine.pick_allM _ (by with_reducible assumption) (by k_extra "ne9") _ ?_; generalize @Mine.pick _ _ _ = $x) | intros $x)
local macro_rules | `(tactic| intro $x:term $y:term $ys:term*) => `(tactic| (intro $x:term; intro $y:term $ys:term*))
local macro_rules | `(tactic| k_fold) => `(tactic| skip)
namespace Mine
local macro_rules | `(tactic| k_ne) => `(tactic| first | (refine neN ?_; (try dsimp only); omega) | exact Apart.ne (by assumption) (by k_mem) | exact Apart.ne' (by assumption) (by k_mem))
theorem law13 :
 ∀ {w : World} {p : Program} {loose : List Str} {mean : ExcName → Option Value} {mg mb : Str → Option Value} {dp un : Nat} {gd : Option (List Code)} {outer : List Env} {A₀ : Around} {base h₀ h : Heap} {g : Array GenState} {d : Drawn} {tk : Nat} {os : OsState} {L : Addr} {m : Str → Option Value} {Q : Flow → Shared → Prop} {E : Value → Shared → Prop} {sc : Scope} {rest : List Stmt} {Dn Do Df Dl Dw : Addr} {rst : List (Addr × Obj)}
 (B : Below A₀ base outer h₀) (X : (hd.heap_1 w.params).In h₀) (T : Top p loose mean mg mb h₀) (hdp : dp + 640 < recursionLimit) (hu : un + 4000 < cLine) (esc : sc = lawScope w.params) (F : Fr h₀ L h m) (Nm : ∀ q ∈ [(Str.ofString "numbers", Value.ref Dn), (Str.ofString "order", Value.ref Do), (Str.ofString "files", Value.ref Df), (Str.ofString "left", Value.ref Dl), (Str.ofString "within", Value.ref Dw)], m q.1 = some q.2) (N : News h₀ L h rst) (hnext : ∀ x dx S D I so io t1 t2 t3 nd nl ds h' tk' m', Fr h₀ L h' m' → m' (Str.ofString "numbers") = some (.ref Dn) → m' (Str.ofString "order") = some (.ref Do) → m' (Str.ofString "files") = some (.ref Df) → m' (Str.ofString "left") = some (.ref Dl) → m' (Str.ofString "within") = some (.ref Dw) → m' (Str.ofString "nothing") = some (.ref x) → News h₀ L h' ((I, io) :: (D, listOf ds.toArray nl) :: (S, so) :: (x, instObj 86 dx) :: (dx, dictOf (ignD w.params t1 t2 t3 S D I) nd) :: rst) → RdrOk w x dx S D I so ds [] [] → Memo w io memo0 1 → Apart I ((D, listOf ds.toArray nl) :: (S, so) :: (x, instObj 86 dx) :: (dx, dictOf (ignD w.params t1 t2 t3 S D I) nd) :: rst) → Apart D ((S, so) :: (x, instObj 86 dx) :: (dx, dictOf (ignD w.params t1 t2 t3 S D I) nd) :: rst) → Apart S ((x, instObj 86 dx) :: (dx, dictOf (ignD w.params t1 t2 t3 S D I) nd) :: rst) → Apart x ((dx, dictOf (ignD w.params t1 t2 t3 S D I) nd) :: rst) → Apart dx (rst) → wpAny (model PySem.Challenge.rw_of0013_01.prog w) ((aTop dp un gd outer).deeper (lawEnv sc L)) (execs rest (lawEnv sc L)) Q (fun e s' => wpAny (model PySem.Challenge.rw_of0013_01.prog w) ((aTop dp un gd outer).deeper (lawEnv sc L)) (leaving (lawEnv sc L) e) (fun _ s'' => E e s'') (fun e' s'' => E e' s'') s') ⟨h', g, d, tk', os⟩), wpAny (model PySem.Challenge.rw_of0013_01.prog w) ((aTop dp un gd outer).deeper (lawEnv sc L)) (execs (lawStmt w.params 13 :: rest) (lawEnv sc L)) Q (fun e s' => wpAny (model PySem.Challenge.rw_of0013_01.prog w) ((aTop dp un gd outer).deeper (lawEnv sc L)) (leaving (lawEnv sc L) e) (fun _ s'' => E e s'') (fun e' s'' => E e' s'') s') ⟨h, g, d, tk, os⟩ := by
  have hpk9 := Mine.pickOn
  iterate 2 refine @Mine.pad _ ?_
  iterate 2 k_extra "pkG"
  iterate 10 k_extra "pk9"
  rename_i w p loose mean mg mb dp un gd outer A₀ base h₀ h g d tk os L m Q E sc rest Dn Do Df Dl Dw rst B X T hdp hu esc F Nm N hnext
  obtain ⟨ev, hev⟩ : ∃ ev, ev = lawEnv sc L := ⟨_, rfl⟩
  refine with_eq (a := lawScope w.params) (by conv => (lhs; whnf)) fun e9 => ?_
  have e8 := esc.trans e9
  subst e8
  clear e9 esc
  have PX : ∀ (h : Heap) (m' : Str → Option Value), Fr h₀ L h m' → Below (A₀.deeper ev) base (ev :: outer) h := fun h m' F => pushX B F (by rw [hev]; rfl) (by rw [hev]; rfl)
  subst hev
  refine with_eq (a := lawStmt w.params 13) (by conv => (lhs; whnf)) fun e9 => ?_
  rw [e9]
  clear e9
  have F9 := fr_ps F Nm
  clear F
  dsimp only [kstB] at F9
  revert X; k_fill; intro X
  k_steps
  repeat ((with_reducible rename _ ∧ _ => hc); obtain ⟨_, _⟩ := hc)
  (rename Fr h₀ _ _ _ => F8); (rename News h₀ _ _ _ => N8); (rename Obj.IsDictOf _ _ _ => d8)
  exact hnext _ _ _ _ _ _ _ _ _ _ _ _ [] _ _ _ F8 rfl rfl rfl rfl rfl rfl N8 ⟨mods0 _ _ _, (by simp), (fun _ h => nomatch h), .nil, (fun _ h => nomatch h), (by assumption), (by omega), (by omega), (by omega), (by omega)⟩ (memo_new d8) ⟨⟨(by omega), (by omega), (by omega), (by omega), (by first | exact off_lt (by assumption) | exact off_lt (allLt_of (by assumption)) | exact off_lt (allLt_mono (allLt_of (by assumption)) (by omega)) | exact off_lt (allLt_mono (by assumption) (by omega)) | assumption)⟩⟩ ⟨⟨(by omega), (by omega), (by omega), (by first | exact off_lt (by assumption) | exact off_lt (allLt_of (by assumption)) | exact off_lt (allLt_mono (allLt_of (by assumption)) (by omega)) | exact off_lt (allLt_mono (by assumption) (by omega)) | assumption)⟩⟩ ⟨⟨(by omega), (by omega), (by first | exact off_lt (by assumption) | exact off_lt (allLt_of (by assumption)) | exact off_lt (allLt_mono (allLt_of (by assumption)) (by omega)) | exact off_lt (allLt_mono (by assumption) (by omega)) | assumption)⟩⟩ ⟨⟨(by omega), (by first | exact off_lt (by assumption) | exact off_lt (allLt_of (by assumption)) | exact off_lt (allLt_mono (allLt_of (by assumption)) (by omega)) | exact off_lt (allLt_mono (by assumption) (by omega)) | assumption)⟩⟩ ⟨(by first | exact off_lt (by assumption) | exact off_lt (allLt_of (by assumption)) | exact off_lt (allLt_mono (allLt_of (by assumption)) (by omega)) | exact off_lt (allLt_mono (by assumption) (by omega)) | assumption)⟩
end Mine
end
open PySem PySem.W PyProof.Rows in
example : Mine.RS := by intro M A Q E s h; w_top off; first | walk1 | skip; all_goals first | exact h | exact wpAny_pure h
section
set_option maxHeartbeats 8000000
namespace Mine
local macro_rules | `(tactic| k_ne) => `(tactic| first | (refine neN ?_; (try dsimp only); omega) | exact Apart.ne (by assumption) (by k_mem) | exact Apart.ne' (by assumption) (by k_mem))
theorem ne_i3 {prog : Program} {w : World} {A : Around} {E : Value → Shared → Prop} {s : Shared} {Q : Value → Shared → Prop} {a b : Addr} {t1 t2 t3 u1 u2 u3 : Tok} {n1 n2 : Nat} (h1 : s.heap.get? a = some (lsO [.int 0 t1, .int 0 t2, .int 1 t3] n1)) (h2 : s.heap.get? b = some (lsO [.int 0 u1, .int 0 u2, .int 1 u3] n2)) (hu : A.units + 64 < cLine)
    (h : Q (.bool false) s) : wpAny (model prog w) A (compareOp .NotEq (.ref a) (.ref b)) Q E s :=
  ne_dataH (da := .list [.int 0, .int 0, .int 1]) (db := .list [.int 0, .int 0, .int 1]) (.list h1 rfl rfl (.cons (.int 0 _) (.cons (.int 0 _) (.cons (.int 1 _) .nil)))) (.list h2 rfl rfl (.cons (.int 0 _) (.cons (.int 0 _) (.cons (.int 1 _) .nil)))) (by decide +kernel) (by decide +kernel) hu h
noncomputable def memoY : Str → Option Bool := fun k => if k = Str.ofString "y" then some false else memo0 k
theorem memoY_of : (fun k => if k = Str.ofString "y" then some ((memo0 (Str.ofString "y")).getD (ansB (Str.ofString "y") [] [] (some (Str.ofString "x.py")))) else memo0 k) = memoY := by
  have e : (memo0 (Str.ofString "y")).getD (ansB (Str.ofString "y") [] [] (some (Str.ofString "x.py"))) = false := by decide +kernel
  rw [e]; rfl
theorem memoY_y : (memoY (Str.ofString "y")).getD (ansB (Str.ofString "y") [] [] none) = false := by decide +kernel
theorem memoY_Y : (fun k => if k = Str.ofString "y" then some ((memoY (Str.ofString "y")).getD (ansB (Str.ofString "y") [] [] none)) else memoY k) = memoY := by
  rw [memoY_y]; funext k; unfold memoY
  by_cases q : k = Str.ofString "y" <;> simp [q]
theorem memo0_y : (memo0 (Str.ofString "y")).getD (ansB (Str.ofString "y") [] [] (some (Str.ofString "x.py"))) = false := by decide +kernel
theorem memoY_z : (memoY (Str.ofString "z")).getD (ansB (Str.ofString "z") [] [] none) = true := by decide +kernel
theorem law14 :
 ∀ {w : World} {p : Program} {loose : List Str} {mean : ExcName → Option Value} {mg mb : Str → Option Value} {dp un : Nat} {gd : Option (List Code)} {outer : List Env} {A₀ : Around} {base h₀ h : Heap} {g : Array GenState} {d : Drawn} {tk : Nat} {os : OsState} {L : Addr} {m : Str → Option Value} {Q : Flow → Shared → Prop} {E : Value → Shared → Prop} {sc : Scope} {rest : List Stmt} {io so : Obj} {I D S x dx : Addr} {t1 t2 t3 : Tok} {nd nl : Nat} {ds : List Value} {Dn Do Df Dl Dw : Addr} {rst : List (Addr × Obj)}
 (B : Below A₀ base outer h₀) (X : (hd.heap_1 w.params).In h₀) (T : Top p loose mean mg mb h₀) (hdp : dp + 640 < recursionLimit) (hu : un + 4000 < cLine) (esc : sc = lawScope w.params) (F : Fr h₀ L h m) (Nm : ∀ q ∈ [(Str.ofString "numbers", Value.ref Dn), (Str.ofString "order", Value.ref Do), (Str.ofString "files", Value.ref Df), (Str.ofString "left", Value.ref Dl), (Str.ofString "within", Value.ref Dw), (Str.ofString "nothing", Value.ref x)], m q.1 = some q.2) (N : News h₀ L h ((I, io) :: (D, listOf ds.toArray nl) :: (S, so) :: (x, instObj 86 dx) :: (dx, dictOf (ignD w.params t1 t2 t3 S D I) nd) :: rst)) (R : RdrOk w x dx S D I so ds [] []) (M : Memo w io memo0 1) (AI : Apart I ((D, listOf ds.toArray nl) :: (S, so) :: (x, instObj 86 dx) :: (dx, dictOf (ignD w.params t1 t2 t3 S D I) nd) :: rst)) (hnext : ∀ h' tk' m', Fr h₀ L h' m' → m' (Str.ofString "numbers") = some (.ref Dn) → m' (Str.ofString "order") = some (.ref Do) → m' (Str.ofString "files") = some (.ref Df) → m' (Str.ofString "left") = some (.ref Dl) → m' (Str.ofString "within") = some (.ref Dw) → News h₀ L h' rst → wpAny (model PySem.Challenge.rw_of0013_01.prog w) ((aTop dp un gd outer).deeper (lawEnv sc L)) (execs rest (lawEnv sc L)) Q (fun e s' => wpAny (model PySem.Challenge.rw_of0013_01.prog w) ((aTop dp un gd outer).deeper (lawEnv sc L)) (leaving (lawEnv sc L) e) (fun _ s'' => E e s'') (fun e' s'' => E e' s'') s') ⟨h', g, d, tk', os⟩), wpAny (model PySem.Challenge.rw_of0013_01.prog w) ((aTop dp un gd outer).deeper (lawEnv sc L)) (execs (lawStmt w.params 14 :: rest) (lawEnv sc L)) Q (fun e s' => wpAny (model PySem.Challenge.rw_of0013_01.prog w) ((aTop dp un gd outer).deeper (lawEnv sc L)) (leaving (lawEnv sc L) e) (fun _ s'' => E e s'') (fun e' s'' => E e' s'') s') ⟨h, g, d, tk, os⟩ := by
  iterate 5 refine @Mine.pad _ ?_
  iterate 3 k_extra "pkG"
  iterate 13 k_extra "pk9"
  rename_i w p loose mean mg mb dp un gd outer A₀ base h₀ h g d tk os L m Q E sc rest io so I D S x dx t1 t2 t3 nd nl ds Dn Do Df Dl Dw rst B X T hdp hu esc F Nm N R M AI hnext
  obtain ⟨ev, hev⟩ : ∃ ev, ev = lawEnv sc L := ⟨_, rfl⟩
  refine with_eq (a := lawScope w.params) (by conv => (lhs; whnf)) fun e9 => ?_
  have e8 := esc.trans e9
  subst e8
  clear e9 esc
  have PX : ∀ (h : Heap) (m' : Str → Option Value), Fr h₀ L h m' → Below (A₀.deeper ev) base (ev :: outer) h := fun h m' F => pushX B F (by rw [hev]; rfl) (by rw [hev]; rfl)
  subst hev
  refine with_eq (a := lawStmt w.params 14) (by conv => (lhs; whnf)) fun e9 => ?_
  rw [e9]
  clear e9
  have F9 := fr_ps F Nm
  clear F
  dsimp only [kstB] at F9
  revert X; k_fill; intro X
  have U : ∀ io, UpdF I io ((I, io) :: (D, listOf ds.toArray nl) :: (S, so) :: (x, instObj 86 dx) :: (dx, dictOf (ignD w.params t1 t2 t3 S D I) nd) :: rst) (fun o => (I, o) :: (D, listOf ds.toArray nl) :: (S, so) :: (x, instObj 86 dx) :: (dx, dictOf (ignD w.params t1 t2 t3 S D I) nd) :: rst) := fun io => UpdF.head fun p hp => off_mem AI.off p hp
  (repeat' (first | (k_unfold; (try dsimp only)) | (k_end; wrow_close) | (k_here; (with_reducible show wpAny _ _ (call (Value.ref 83) _) _ _ _); refine Mine.park ?_) | walk1 | (dsimp only; walk1) | (leave1; try dsimp only)))
  refine ⟨?_⟩
  (with_reducible rename Fr _ _ _ _ => F2)
  refine f_names B F2 X N T rfl rfl (by show dp + 1 + 4 < _; omega) (by show un + 3 + 40 < _; omega) (U _) (by k_mem) (by k_mem) (by k_mem) (by k_mem) R M (by omega) (by decide) (.inr (by decide)) (.inr ⟨_, _, rfl, rfl, (by decide)⟩) ?_
  intro io2 h3 tk3 tb F3 N3 M3
  have M4 := M3.congr memoY_of
  rw [memo0_y]
  clear M3 M N F2
  (try dsimp only at N3)
  (repeat' (first | (k_unfold; (try dsimp only)) | (k_end; wrow_close) | (k_here; (with_reducible show wpAny _ _ (call (Value.ref 83) _) _ _ _); refine Mine.park ?_) | walk1 | (dsimp only; walk1) | (leave1; try dsimp only)))
  refine ⟨?_⟩
  (with_reducible rename Fr _ _ _ _ => F2)
  refine f_names B F2 X N3 T rfl rfl (by show dp + 1 + 4 < _; omega) (by show un + 3 + 40 < _; omega) (U _) (by k_mem) (by k_mem) (by k_mem) (by k_mem) R M4 (by omega) (by decide) (.inr (by decide)) (.inl ⟨rfl, rfl⟩) ?_
  intro io3 h4 tk4 tb4 F4 N4 M5
  have M6 := M5.congr memoY_Y
  rw [memoY_y]
  clear M5 M4 N3 F2
  (try dsimp only at N4)
  (repeat' (first | (k_unfold; (try dsimp only)) | (k_end; wrow_close) | (k_here; (with_reducible show wpAny _ _ (call (Value.ref 83) _) _ _ _); refine Mine.park ?_) | walk1 | (dsimp only; walk1) | (leave1; try dsimp only)))
  refine ⟨?_⟩
  (with_reducible rename Fr _ _ _ _ => F2)
  refine f_names B F2 X N4 T rfl rfl (by show dp + 1 + 4 < _; omega) (by show un + 3 + 40 < _; omega) (U _) (by k_mem) (by k_mem) (by k_mem) (by k_mem) R M6 (by omega) (by decide) (.inr (by decide)) (.inl ⟨rfl, rfl⟩) ?_
  intro io5 h5 tk5 tb5 F5 N5 M7
  rw [memoY_z]
  clear M7 M6 N4 F2 U
  (try dsimp only at N5)
  show wpAny _ _ _ _ _ _
  (repeat' (first | (k_unfold; (try dsimp only)) | (k_end; wrow_close) | (k_here; (with_reducible show wpAny _ _ (compareOp _ (Value.ref _) (Value.ref _)) _ _ _); refine Mine.park ?_) | walk1 | (dsimp only; walk1) | (leave1; try dsimp only)))
  refine ⟨?_⟩
  (with_reducible rename News _ _ _ _ => N7)
  refine ne_i3 (N7 _ (.tail _ (.head _))).1 (N7 _ (.head _)).1 (by ktr_units) ?_
  have N8 : News h₀ L _ rst := fun p hp => N7 p (.tail _ (.tail _ (.tail _ (.tail _ (.tail _ (.tail _ (.tail _ hp)))))))
  clear N7
  k_steps
  exact hnext _ _ _ (by k_asm) rfl rfl rfl rfl rfl N8
end Mine
end
open PySem PySem.W PyProof.Rows in
example : Mine.RS := by intro M A Q E s h; w_top off; first | walk1 | skip; all_goals first | exact h | exact wpAny_pure h
section
set_option maxHeartbeats 8000000
namespace Mine
local macro_rules | `(tactic| k_ne) => `(tactic| first | (refine neN ?_; (try dsimp only); omega) | exact Apart.ne (by assumption) (by k_mem) | exact Apart.ne' (by assumption) (by k_mem))
local macro_rules | `(tactic| walk_at "compareOp In str ref") => `(tactic| (k_here; refine Mine.park ?_))
local macro_rules | `(tactic| walk_at "compareOp NotIn str ref") => `(tactic| (k_here; refine Mine.park ?_))
structure J10 (P : Str → Bool) (led : List (Addr × Obj)) (l : List Str) (i : Nat) (ys : List Value) (nx : List (Addr × Obj)) : Prop where
  led : nx = led
  out : StrsAre ys ((l.take i).filter P)
theorem J10.yes {P : Str → Bool} {led : List (Addr × Obj)} {l : List Str} {i : Nat} {ys : List Value} {y : Str} {ty : Tok} (hY : StrsAre ys ((l.take i).filter P)) (hy : l[i]? = some y) (hv : P y = true) : J10 P led l (i + 1) (ys ++ [.str y ty]) led :=
  ⟨rfl, by
    have e9 : l.take (i + 1) = l.take i ++ [y] := by rw [List.take_add_one, hy]; rfl
    rw [e9, List.filter_append, List.filter_cons_of_pos hv]; exact hY.append' (.cons _ _ .nil)⟩
theorem J10.no {P : Str → Bool} {led : List (Addr × Obj)} {l : List Str} {i : Nat} {ys : List Value} {y : Str} (hY : StrsAre ys ((l.take i).filter P)) (hy : l[i]? = some y) (hv : P y = false) : J10 P led l (i + 1) ys led :=
  ⟨rfl, by
    have e9 : l.take (i + 1) = l.take i ++ [y] := by rw [List.take_add_one, hy]; rfl
    rw [e9, List.filter_append, List.filter_cons_of_neg (by rw [hv]; simp)]; simpa using hY⟩
theorem any_eq (ys : List Str) (k : Str) : ys.any (· == k) = decide (k ∈ ys) := by
  induction ys with
  | nil => simp
  | cons a l ih =>
    rw [List.any_cons, ih]
    by_cases q : a = k
    · subst q; simp
    · have q' : ¬ k = a := fun e => q e.symm
      have e : (a == k) = false := by simp [q]
      rw [e]; simp [q']
theorem law15 :
 ∀ {w : World} {p : Program} {loose : List Str} {mean : ExcName → Option Value} {mg mb : Str → Option Value} {dp un : Nat} {gd : Option (List Code)} {outer : List Env} {A₀ : Around} {base h₀ h : Heap} {g : Array GenState} {d : Drawn} {tk : Nat} {os : OsState} {L : Addr} {m : Str → Option Value} {Q : Flow → Shared → Prop} {E : Value → Shared → Prop} {sc : Scope} {rest : List Stmt} {x2 : Obj} {Do Di Dl Dw : Addr} {out inn ls ws : List Value} {c ci : Nat} {os1 is1 ws1 : List Str} {rst : List (Addr × Obj)}
 (B : Below A₀ base outer h₀) (X : (hd.heap_1 w.params).In h₀) (T : Top p loose mean mg mb h₀) (hdp : dp + 640 < recursionLimit) (hu : un + 4000 < cLine) (esc : sc = lawScope w.params) (F : Fr h₀ L h m) (d2 : x2.data = .cell (some (.ref Di))) (hS : StrsAre out os1) (hI : StrsAre inn is1) (hL : StrsAre ls os1) (hW : StrsAre ws ws1) (hl : os1.length ≤ 7) (ok : OkS os1) (hw1 : os1.filter (fun x => decide (x ∈ is1)) = ws1) (Nm : ∀ q ∈ [(Str.ofString "order", Value.ref Do), (Str.ofString "left", Value.ref Dl), (Str.ofString "within", Value.ref Dw)], m q.1 = some q.2) (N : News h₀ L h ((Dw, LCg.lst ws) :: (Dl, LCg.lst ls) :: (Do, listOf out.toArray c) :: (Di, listOf inn.toArray ci) :: (L + 1 + 1, x2) :: rst)) (hnext : ∀ h' tk' m', Fr h₀ L h' m' → m' (Str.ofString "order") = some (.ref Do) → m' (Str.ofString "left") = some (.ref Dl) → m' (Str.ofString "within") = some (.ref Dw) → News h₀ L h' ((Dw, LCg.lst ws) :: (Dl, LCg.lst ls) :: (Do, listOf out.toArray c) :: (Di, listOf inn.toArray ci) :: (L + 1 + 1, x2) :: rst) → wpAny (model PySem.Challenge.rw_of0013_01.prog w) ((aTop dp un gd outer).deeper (lawEnv sc L)) (execs rest (lawEnv sc L)) Q (fun e s' => wpAny (model PySem.Challenge.rw_of0013_01.prog w) ((aTop dp un gd outer).deeper (lawEnv sc L)) (leaving (lawEnv sc L) e) (fun _ s'' => E e s'') (fun e' s'' => E e' s'') s') ⟨h', g, d, tk', os⟩), wpAny (model PySem.Challenge.rw_of0013_01.prog w) ((aTop dp un gd outer).deeper (lawEnv sc L)) (execs (lawStmt w.params 15 :: rest) (lawEnv sc L)) Q (fun e s' => wpAny (model PySem.Challenge.rw_of0013_01.prog w) ((aTop dp un gd outer).deeper (lawEnv sc L)) (leaving (lawEnv sc L) e) (fun _ s'' => E e s'') (fun e' s'' => E e' s'') s') ⟨h, g, d, tk, os⟩ := by
  iterate 9 refine @Mine.pad _ ?_
  iterate 3 k_extra "pkG"
  iterate 18 k_extra "pk9"
  rename_i w p loose mean mg mb dp un gd outer A₀ base h₀ h g d tk os L m Q E sc rest x2 Do Di Dl Dw out inn ls ws c ci os1 is1 ws1 rst B X T hdp hu esc F d2 hS hI hL hW hl ok hw1 Nm N hnext
  obtain ⟨ev, hev⟩ : ∃ ev, ev = lawEnv sc L := ⟨_, rfl⟩
  refine with_eq (a := lawScope w.params) (by conv => (lhs; whnf)) fun e9 => ?_
  have e8 := esc.trans e9
  subst e8
  clear e9 esc
  have PX : ∀ (h : Heap) (m' : Str → Option Value), Fr h₀ L h m' → Below (A₀.deeper ev) base (ev :: outer) h := fun h m' F => pushX B F (by rw [hev]; rfl) (by rw [hev]; rfl)
  subst hev
  refine with_eq (a := lawStmt w.params 15) (by conv => (lhs; whnf)) fun e9 => ?_
  rw [e9]
  clear e9
  have F9 := fr_ps F Nm
  clear F
  dsimp only [kstB] at F9
  revert X; k_fill; intro X
  have hl5 := hS.length
  have okw : OkS ws1 := fun y hy => ok y (List.mem_filter.mp (hw1 ▸ hy)).1
  (repeat' (first | (k_unfold; (try dsimp only)) | (k_end; wrow_close) | (k_here; (with_reducible show wpAny _ _ (compareOp _ (Value.ref _) (Value.ref _)) _ _ _); refine Mine.park ?_) | walk1 | (dsimp only; walk1) | (leave1; try dsimp only)))
  refine ⟨?_⟩
  refine ne_ls (N _ (.tail _ (.head _))).1 (N _ (.tail _ (.tail _ (.head _)))).1 hL hS ok ok (by ktr_units) ?_
  rw [decide_eq_true rfl]
  repeat ((fail_if_success (with_reducible show LCt.CompSrcT _ _ _ _ _ _ _ _ _ _ _ _ _ _ _)); (first | ((with_reducible show wpAny _ _ (eval (PySem.Expr.ListComp _ _ _ _) _) _ _ _); (k_here; k_dflt (refine LCt.ListComp_T (F₀ := by k_asm) (by with_unfolding_all rfl) (by decide) (by rfl) (by decide) (by rfl) ?_))) | walk1 | (dsimp only; walk1)))
  (with_reducible rename Fr _ _ _ _ => F8)
  refine LCt.CompSrcT.ledger rfl F8 N (.tail _ (.tail _ (.head _))) (by rw [PySem.sizeLine_eq, List.size_toArray]; omega) ?_
  intro g9
  refine ct_inv (J10 (fun x => decide (x ∈ is1)) ((Dw, LCg.lst ws) :: (Dl, LCg.lst ls) :: (Do, listOf out.toArray c) :: (Di, listOf inn.toArray ci) :: (L + 1 + 1, x2) :: rst) os1) ?turn ?fin ⟨rfl, by simpa using StrsAre.nil⟩
  case turn =>
    intro i v ys nx oI oO C oC D2 m₂ h2 tk2 E2 hi0 hv hJ hC hx2 F2 N2 off2 ne2
    obtain ⟨rfl, hY⟩ := hJ
    refine Classical.byContradiction fun ng9 => ?_
    obtain ⟨y, ty, rfl, hy⟩ := strs_getV hS (by simpa using hv)
    refine ng9 ?_
    clear ng9
    clear hv F8 N hnext hS
    k_steps
    refine ⟨?_⟩
    (with_reducible rename News _ _ _ _ => N7)
    refine in_list_strs (N7.isList (.tail _ (.tail _ (.tail _ (.tail _ (.tail _ (.tail _ (.head _)))))))) hI ?_
    rw [any_eq]
    have hS9 : LCg.SrcAt h₀ Do out.toArray ((Dw, LCg.lst ws) :: (Dl, LCg.lst ls) :: (Do, listOf out.toArray c) :: (Di, listOf inn.toArray ci) :: (L + 1 + 1, x2) :: rst) := .inr ⟨_, (by k_mem), rfl, _, rfl⟩
    cases hv : decide (y ∈ is1) with
    | true =>
      k_steps
      exact LCg.CompEnd.intro (by k_asm) N7 _ (fun p hp => hp) off2 hS9 (J10.yes hY hy hv)
    | false =>
      k_steps
      exact LCg.CompEnd.intro (by k_asm) N7 _ (fun p hp => hp) off2 hS9 (J10.no hY hy hv)
  case fin =>
    intro ys nx hJ
    obtain ⟨rfl, hY⟩ := hJ
    rw [List.size_toArray, hl5, List.take_length, hw1] at hY
    clear F8 N hS
    (repeat' (first | (k_unfold; (try dsimp only)) | (k_end; wrow_close) | (k_here; (with_reducible show wpAny _ _ (compareOp _ (Value.ref _) (Value.ref _)) _ _ _); refine Mine.park ?_) | walk1 | (dsimp only; walk1) | (leave1; try dsimp only)))
    refine ⟨?_⟩
    (with_reducible rename News _ _ _ _ => N7)
    refine ne_ls (N7 _ (.tail _ (.head _))).1 (N7 _ (.head _)).1 hW hY okw okw (by ktr_units) ?_
    rw [decide_eq_true rfl]
    have N8 : News h₀ L _ ((Dw, LCg.lst ws) :: (Dl, LCg.lst ls) :: (Do, listOf out.toArray c) :: (Di, listOf inn.toArray ci) :: (L + 1 + 1, x2) :: rst) := fun p hp => N7 p (.tail _ hp)
    clear N7
    k_steps
    exact hnext _ _ _ (by k_asm) rfl rfl rfl N8
end Mine
end
open PySem PySem.W PyProof.Rows in
example : Mine.RS := by intro M A Q E s h; w_top off; first | walk1 | skip; all_goals first | exact h | exact wpAny_pure h
section
set_option maxHeartbeats 8000000
local macro_rules | `(tactic| intro $x:ident) => `(tactic| first | (refine @Mine.pick_allM _ (by with_reducible assumption) (by k_extra "ne9") _ ?_; generalize @Mine.pick _ _ _ = $x) | intros $x)
local macro_rules | `(tactic| intro $x:term $y:term $ys:term*) => `(tactic| (intro $x:term; intro $y:term $ys:term*))
local macro_rules | `(tactic| k_fold) => `(tactic| skip)
namespace Mine
local macro_rules | `(tactic| k_ne) => `(tactic| first | (refine neN ?_; (try dsimp only); omega) | exact Apart.ne (by assumption) (by k_mem) | exact Apart.ne' (by assumption) (by k_mem))
local macro_rules | `(tactic| walk_at "compareOp In str ref") => `(tactic| (k_here; refine Mine.park ?_))
local macro_rules | `(tactic| walk_at "compareOp NotIn str ref") => `(tactic| (k_here; refine Mine.park ?_))
local macro_rules | `(tactic| walk_at "call builtin:sorted") => `(tactic| (k_here; refine Mine.park ?_))
theorem sorted_uniq {A B : List Str} (hA : A.Pairwise ltT) (hB : B.Pairwise ltT) (p : A.Perm B) : A = B :=
  (sorted_sub B A hA hB fun _ h => p.mem_iff.mp h).eq_of_length p.length_eq
theorem diff_filter {E A os1 ws1 is1 : List Str} (pE : E.Perm os1) (pA : A.Perm ws1) (hw : os1.filter (fun x => decide (x ∈ is1)) = ws1) : diffS E A = E.filter (fun x => !decide (x ∈ is1)) := by
  unfold diffS
  refine List.filter_congr fun x hx => ?_
  have hx' := pE.mem_iff.mp hx
  have : x ∈ A ↔ x ∈ is1 := by rw [pA.mem_iff, ← hw, List.mem_filter]; simp [hx']
  by_cases q : x ∈ is1 <;> simp [this, q]
theorem sort_facts {l l' : List Str} (p : l.Perm l') (ok : OkS l') : OkS l := fun y hy => ok y (p.mem_iff.mp hy)
theorem law16 :
 ∀ {w : World} {p : Program} {loose : List Str} {mean : ExcName → Option Value} {mg mb : Str → Option Value} {dp un : Nat} {gd : Option (List Code)} {A₀ : Around} {base h₀ h : Heap} {g : Array GenState} {d : Drawn} {tk : Nat} {os : OsState} {L : Addr} {m : Str → Option Value} {Q : Flow → Shared → Prop} {E : Value → Shared → Prop} {sc : Scope} {rest : List Stmt} {x2 : Obj} {Do Di Dl Dw : Addr} {out inn ls ws : List Value} {c ci : Nat} {os1 is1 ws1 : List Str} {rst : List (Addr × Obj)}
 (B : Below A₀ base [] h₀) (X : (hd.heap_1 w.params).In h₀) (T : Top p loose mean mg mb h₀) (hdp : dp + 640 < recursionLimit) (hu : un + 4000 < cLine) (esc : sc = lawScope w.params) (F : Fr h₀ L h m) (ie2 : Str.ofString "IndexError" ∉ loose) (ie3 : Str.ofString "IndexError" ∉ (recsOf p).map (·.name)) (ie4 : Str.ofString "IndexError" ∉ (litsOf p).map (·.1)) (ie5 : Str.ofString "IndexError" ∉ (clssOf p loose).map (·.name)) (d2 : x2.data = .cell (some (.ref Di))) (hS : StrsAre out os1) (hI : StrsAre inn is1) (hL : StrsAre ls os1) (hW : StrsAre ws ws1) (hl : os1.length ≤ 7) (hnd : os1.Nodup) (ok : OkS os1) (hw1 : os1.filter (fun x => decide (x ∈ is1)) = ws1) (Nm : ∀ q ∈ [(Str.ofString "order", Value.ref Do), (Str.ofString "left", Value.ref Dl), (Str.ofString "within", Value.ref Dw)], m q.1 = some q.2) (N : News h₀ L h ((Dw, LCg.lst ws) :: (Dl, LCg.lst ls) :: (Do, listOf out.toArray c) :: (Di, listOf inn.toArray ci) :: (L + 1 + 1, x2) :: rst)) (hret : ∀ h' tk' m', Fr h₀ L h' m' → News h₀ L h' rst → Q (.ret (.bool true)) ⟨h', g, d, tk', os⟩), wpAny (model PySem.Challenge.rw_of0013_01.prog w) ((aTop dp un gd []).deeper (lawEnv sc L)) (execs (lawStmt w.params 16 :: rest) (lawEnv sc L)) Q (fun e s' => wpAny (model PySem.Challenge.rw_of0013_01.prog w) ((aTop dp un gd []).deeper (lawEnv sc L)) (leaving (lawEnv sc L) e) (fun _ s'' => E e s'') (fun e' s'' => E e' s'') s') ⟨h, g, d, tk, os⟩ := by
  have hpk9 := Mine.pickOn
  iterate 10 refine @Mine.pad _ ?_
  iterate 3 k_extra "pkG"
  iterate 23 k_extra "pk9"
  rename_i w p loose mean mg mb dp un gd A₀ base h₀ h g d tk os L m Q E sc rest x2 Do Di Dl Dw out inn ls ws c ci os1 is1 ws1 rst B X T hdp hu esc F ie2 ie3 ie4 ie5 d2 hS hI hL hW hl hnd ok hw1 Nm N hret
  obtain ⟨ev, hev⟩ : ∃ ev, ev = lawEnv sc L := ⟨_, rfl⟩
  refine with_eq (a := lawScope w.params) (by conv => (lhs; whnf)) fun e9 => ?_
  have e8 := esc.trans e9
  subst e8
  clear e9 esc
  have PX : ∀ (h : Heap) (m' : Str → Option Value), Fr h₀ L h m' → Below (A₀.deeper ev) base (ev :: []) h := fun h m' F => pushX B F (by rw [hev]; rfl) (by rw [hev]; rfl)
  subst hev
  refine with_eq (a := lawStmt w.params 16) (by conv => (lhs; whnf)) fun e9 => ?_
  rw [e9]
  clear e9
  have F9 := fr_ps F Nm
  clear F
  dsimp only [kstB] at F9
  revert X; k_fill; intro X
  have hl5 := hS.length
  have okw : OkS ws1 := fun y hy => ok y (List.mem_filter.mp (hw1 ▸ hy)).1
  have hlw : ws1.length ≤ 7 := by rw [← hw1]; exact Nat.le_trans (List.length_filter_le _ _) hl
  have hndw : ws1.Nodup := hw1 ▸ hnd.filter _
  k_steps
  refine ⟨?_⟩
  (with_reducible rename Fr _ _ _ _ => F7)
  refine sortS F7 N (.tail _ (.head _)) hL hnd (by omega) ?_
  intro D1 c1 h1 out1 os2 F1 N1 l1 S1 P1 W1
  clear F7
  k_steps
  refine ⟨?_⟩
  refine sortS F1 N1 (.tail _ (.head _)) hW hndw (by omega) ?_
  intro D2 c2 h2 out2 ws2 F2 N2 l2 S2 P2 W2
  clear F1 N1
  (repeat' (first | (k_unfold; (try dsimp only)) | (k_end; wrow_close) | (k_here; (with_reducible show wpAny _ _ (call (Value.ref 97) _) _ _ _); refine Mine.park ?_) | walk1 | (dsimp only; walk1) | (leave1; try dsimp only)))
  refine ⟨?_⟩
  refine f_sld F2 X N2 T rfl rfl (by show dp + 1 + 8 < _; omega) (by show un + 3 + 80 < _; omega) ie2 ie3 ie4 ie5 (.tail _ (.head _)) (.head _) S1 S2 W1 (sorted_sub _ _ W2 W1 fun a ha => P1.mem_iff.mpr (List.mem_filter.mp (hw1 ▸ P2.mem_iff.mp ha)).1) (by rw [P1.length_eq]; omega) ?_
  intro x a1 a2 us n1 n2 h3 tk3 F3 N3 S3
  rw [diff_filter P1 P2 hw1] at S3
  have N4 : News h₀ L h3 ((x, tup2 (.ref a1) (.ref a2)) :: (a1, listOf us.toArray n1) :: (a2, listOf #[] n2) :: (Dw, LCg.lst ws) :: (Dl, LCg.lst ls) :: (Do, listOf out.toArray c) :: (Di, listOf inn.toArray ci) :: (L + 1 + 1, x2) :: rst) := drop35 N3
  clear N3 N2 F2 l1 l2 S1 S2
  (repeat' (first | (k_unfold; (try dsimp only)) | (k_end; wrow_close) | ((with_reducible show wpAny _ _ (eval (PySem.Expr.ListComp _ _ _ _) _) _ _ _); (k_here; k_dflt (refine LCt.ListComp_T (F₀ := by k_asm) (by with_unfolding_all rfl) (by decide) (by rfl) (by decide) (by rfl) ?_))) | walk1 | (dsimp only; walk1) | (leave1; try dsimp only)))
  refine ⟨?_⟩
  (with_reducible rename Fr _ _ _ _ => F7)
  refine sortS F7 N4 (.tail _ (.tail _ (.tail _ (.tail _ (.tail _ (.head _)))))) hS hnd (by omega) ?_
  intro D5 c5 h5 out5 os5 F5 N5 l5 S5 P5 W5
  have e5 : os5 = os2 := sorted_uniq W5 W1 (P5.trans P1.symm)
  subst e5
  clear F7 N4 l5
  refine LCt.CompSrcT.ledger rfl F5 N5 (.head _) (by rw [PySem.sizeLine_eq, List.size_toArray, S5.length, P1.length_eq]; omega) ?_
  intro g9
  refine ct_inv (J10 (fun x => !decide (x ∈ is1)) ((D5, lsO out5 c5) :: (x, tup2 (.ref a1) (.ref a2)) :: (a1, listOf us.toArray n1) :: (a2, listOf #[] n2) :: (Dw, LCg.lst ws) :: (Dl, LCg.lst ls) :: (Do, listOf out.toArray c) :: (Di, listOf inn.toArray ci) :: (L + 1 + 1, x2) :: rst) os5) ?turn ?fin ⟨rfl, by simpa using StrsAre.nil⟩
  case turn =>
    intro i v ys nx oI oO C oC D7 m₂ h7 tk7 E7 hi0 hv hJ hC hx2 F7 N7 off2 ne2
    obtain ⟨rfl, hY⟩ := hJ
    refine Classical.byContradiction fun ng9 => ?_
    obtain ⟨y, ty, rfl, hy⟩ := strs_getV S5 (by simpa using hv)
    refine ng9 ?_
    clear ng9
    clear hv F5 N5 hret hS
    k_steps
    refine ⟨?_⟩
    (with_reducible rename News _ _ _ _ => N8)
    refine notin_list_strs (N8.isList (.tail _ (.tail _ (.tail _ (.tail _ (.tail _ (.tail _ (.tail _ (.tail _ (.tail _ (.tail _ (.head _)))))))))))) hI ?_
    rw [any_eq]
    have hS9 : LCg.SrcAt h₀ D5 out5.toArray ((D5, lsO out5 c5) :: (x, tup2 (.ref a1) (.ref a2)) :: (a1, listOf us.toArray n1) :: (a2, listOf #[] n2) :: (Dw, LCg.lst ws) :: (Dl, LCg.lst ls) :: (Do, listOf out.toArray c) :: (Di, listOf inn.toArray ci) :: (L + 1 + 1, x2) :: rst) := .inr ⟨_, (by k_mem), rfl, _, rfl⟩
    cases hv : decide (y ∈ is1) with
    | false =>
      k_steps
      exact LCg.CompEnd.intro (by k_asm) N8 _ (fun p hp => hp) off2 hS9 (J10.yes hY hy (by show (!decide (y ∈ is1)) = true; rw [hv]; rfl))
    | true =>
      k_steps
      exact LCg.CompEnd.intro (by k_asm) N8 _ (fun p hp => hp) off2 hS9 (J10.no hY hy (by show (!decide (y ∈ is1)) = false; rw [hv]; rfl))
  case fin =>
    intro ys nx hJ
    obtain ⟨rfl, hY⟩ := hJ
    rw [List.size_toArray, S5.length, List.take_length] at hY
    clear F5 N5 hS
    (repeat' (first | (k_unfold; (try dsimp only)) | (k_end; wrow_close) | (k_here; (with_reducible show wpAny _ _ (compareOp _ (Value.ref _) (Value.ref _)) _ _ _); refine Mine.park ?_) | walk1 | (dsimp only; walk1) | (leave1; try dsimp only)))
    refine ⟨?_⟩
    (with_reducible rename News _ _ _ _ => N7)
    have ok5 : OkS (os5.filter fun x => !decide (x ∈ is1)) := fun y hy => sort_facts P1 ok y (List.mem_filter.mp hy).1
    refine eq_tup (N7 _ (.tail _ (.tail _ (.tail _ (.tail _ (.head _)))))).1 (N7 _ (.head _)).1 (N7 _ (.tail _ (.tail _ (.tail _ (.tail _ (.tail _ (.head _))))))).1 (v2 := []) (N7 _ (.tail _ (.tail _ (.tail _ (.tail _ (.tail _ (.tail _ (.head _)))))))).1 (N7 _ (.tail _ (.tail _ (.head _)))).1 (v4 := []) (N7 _ (.tail _ (.head _))).1 S3 .nil hY .nil ok5 (fun _ h => nomatch h) ok5 (fun _ h => nomatch h) (by ktr_units) ?_
    rw [decide_eq_true (And.intro rfl rfl)]
    (with_reducible rename Fr _ _ _ _ => F9)
    exact hret _ _ _ F9 (fun q hq => N7 q (by repeat (first | exact hq | refine List.mem_cons_of_mem _ ?_)))
end Mine
end
open PySem PySem.W PyProof.Rows in
example : Mine.RS := by intro M A Q E s h; w_top off; first | walk1 | skip; all_goals first | exact h | exact wpAny_pure h
section
set_option maxHeartbeats 8000000
local macro_rules | `(tactic| k_mem) => `(tactic| (apply Mine.mget; k_extra "q at"))
namespace Mine
local macro_rules | `(tactic| k_ne) => `(tactic| first | (refine neN ?_; (try dsimp only); omega) | exact Apart.ne (by assumption) (by k_mem) | exact Apart.ne' (by assumption) (by k_mem))
theorem cell_ne {h₀ h : Heap} {L : Addr} {news : List (Addr × Obj)} {a b : Addr} {x : Obj} {vs : Array Value} {n : Nat} {v : Option Value} (N : News h₀ L h news) (ha : (a, listOf vs n) ∈ news) (hb : (b, x) ∈ news) (d : x.data = .cell v) : @Ne Nat a b := fun e => by
  have h1 := (N _ ha).1
  have h2 := (N _ hb).1
  have e' : a = b := e
  subst e'
  rw [h1] at h2
  have h3 := congrArg Obj.data (Option.some.inj h2)
  rw [d] at h3
  cases h3
theorem nws_nil {h₀ h : Heap} {L : Addr} : News h₀ L h [] := fun _ hp => nomatch hp
theorem nws_cons {h₀ h : Heap} {L : Addr} {l l' : List (Addr × Obj)} {p : Addr × Obj} (N : News h₀ L h l) (hp : p ∈ l) (N' : News h₀ L h l') : News h₀ L h (p :: l') := fun q hq => by
  rcases List.mem_cons.mp hq with rfl | hq
  · exact N _ hp
  · exact N' _ hq
theorem nws_tail {h₀ h : Heap} {L : Addr} {l own : List (Addr × Obj)} (N : News h₀ L h l) (hp : ∀ p ∈ own, p ∈ l) : News h₀ L h own := fun q hq => N _ (hp q hq)
theorem off_all {d : Addr} : ∀ {l : List (Addr × Obj)}, (∀ p ∈ l, p.1 ≠ d) → LCg.Off1 d l
  | [], _ => trivial
  | _ :: _, h => ⟨h _ (.head _), off_all fun p hp => h p (.tail _ hp)⟩
theorem ap_all {d : Addr} {l : List (Addr × Obj)} (h : ∀ p ∈ l, p.1 ≠ d) : Apart d l := ⟨off_all h⟩
theorem ap_ne {d a : Addr} {o : Obj} {l : List (Addr × Obj)} (A : Apart d l) (h : (a, o) ∈ l) : a ≠ d := off_mem A.off (a, o) h
theorem all_cons {d a : Addr} {o : Obj} {l : List (Addr × Obj)} (h : a ≠ d) (t : ∀ p ∈ l, p.1 ≠ d) : ∀ p ∈ (a, o) :: l, p.1 ≠ d := fun p hp => by
  rcases List.mem_cons.mp hp with rfl | hp
  · exact h
  · exact t p hp
structure TurnOk (os1 : List Str) (k : Nat) (nm : Str) (z : Int) (bs : List Str) : Prop where
  hbs : belowS nm (os1.take k) = bs
  hz1 : 0 ≤ z
  hz2 : z < 10000000000
  hno : NormOk (folderN z)
  hA1 : os1.filter (ansP [nm] []) = bs ++ [nm]
  hA2 : os1.filter (ansP [] [normN (folderN z)]) = bs
  hb : bs.length ≤ k
  hcut : (os1.take k).drop (k - bs.length) = bs
  ok : OkS (bs ++ [nm])
  hnd : (bs ++ [nm]).Nodup
theorem turn8 :
 ∀ {w : World} {p : Program} {loose : List Str} {mean : ExcName → Option Value} {mg mb : Str → Option Value} {dp un : Nat} {gd : Option (List Code)} {A₀ : Around} {base h₀ h : Heap} {g : Array GenState} {d : Drawn} {tk : Nat} {os : OsState} {L : Addr} {m : Str → Option Value} {Q : Flow → Shared → Prop} {E : Value → Shared → Prop} {sc : Scope} {rest : List Stmt} {x1 x2 x3 x4 x5 x6 : Obj} {v1 v3 v4 v5 v6 : Option Value} {Dn Do Df Di : Addr} {us out fs inn : List Value} {nn c ci : Nat} {os1 : List Str} {zs : List Int} {k : Nat} {tp tn tz : Tok} {own : List (Addr × Obj)} {nm : Str} {z : Int} {bs : List Str}
 (B : Below A₀ base [] h₀) (X : (hd.heap_1 w.params).In h₀) (T : Top p loose mean mg mb h₀) (hdp : dp + 640 < recursionLimit) (hu : un + 4000 < cLine) (esc : sc = lawScope w.params) (F : Fr h₀ L h m) (ie2 : Str.ofString "IndexError" ∉ loose) (ie3 : Str.ofString "IndexError" ∉ (recsOf p).map (·.name)) (ie4 : Str.ofString "IndexError" ∉ (litsOf p).map (·.1)) (ie5 : Str.ofString "IndexError" ∉ (clssOf p loose).map (·.name)) (d1 : x1.data = .cell v1) (d2 : x2.data = .cell (some (.ref Di))) (d3 : x3.data = .cell v3) (d4 : x4.data = .cell v4) (d5 : x5.data = .cell v5) (d6 : x6.data = .cell v6) (hS : StrsAre out os1) (hF : StrsAre fs (os1.map fileOf)) (hl : os1.length ≤ 7) (hk : k < os1.length) (hnd1 : os1.Nodup) (hlen : ∀ y ∈ os1, y.length ≤ 300 ∧ (fileOf y).length ≤ 300) (hmem0 : ∀ y ∈ os1, memo0 y = none) (e1 : @Ne Nat Di Df) (e2 : @Ne Nat Di Do) (e3 : @Ne Nat Di Dn) (w1 : ∀ p ∈ own, p.1 ≠ (L + 1)) (w3 : ∀ p ∈ own, p.1 ≠ (L + 1 + 1 + 1)) (w4 : ∀ p ∈ own, p.1 ≠ (L + 1 + 1 + 1 + 1)) (wi : ∀ p ∈ own, p.1 ≠ Di) (Nm : ∀ q ∈ [(Str.ofString "numbers", Value.ref Dn), (Str.ofString "order", Value.ref Do), (Str.ofString "files", Value.ref Df), (Str.ofString "place", Value.int (k : Int) tp)], m q.1 = some q.2) (N : News h₀ L h ((Di, listOf inn.toArray ci) :: (Df, LCg.lst fs) :: (Do, listOf out.toArray c) :: (Dn, listOf us.toArray nn) :: (L + 1 + 1 + 1 + 1 + 1 + 1, x6) :: (L + 1 + 1 + 1 + 1 + 1, x5) :: (L + 1 + 1 + 1 + 1, x4) :: (L + 1 + 1 + 1, x3) :: (L + 1 + 1, x2) :: (L + 1, x1) :: own)) (hi1 : ItIs out (k : Int) (.str nm tn)) (hi2 : ItIs us (k : Int) (.int z tz)) (hin : nm ∈ os1) (O : TurnOk os1 k nm z bs) (hinn : inn.length ≤ 900) (hnext : ∀ ys ci' x1' x3' x4' h' tk' m' v1' v3' v4', x1'.data = .cell v1' → x3'.data = .cell v3' → x4'.data = .cell v4' → StrsAre ys bs → Fr h₀ L h' m' → m' (Str.ofString "numbers") = some (.ref Dn) → m' (Str.ofString "order") = some (.ref Do) → m' (Str.ofString "files") = some (.ref Df) → News h₀ L h' ((Di, listOf (inn ++ ys).toArray ci') :: (Df, LCg.lst fs) :: (Do, listOf out.toArray c) :: (Dn, listOf us.toArray nn) :: (L + 1 + 1 + 1 + 1 + 1 + 1, x6) :: (L + 1 + 1 + 1 + 1 + 1, x5) :: (L + 1 + 1 + 1 + 1, x4') :: (L + 1 + 1 + 1, x3') :: (L + 1 + 1, x2) :: (L + 1, x1') :: own) → wpAny (model PySem.Challenge.rw_of0013_01.prog w) ((aTop dp un gd []).deeper (lawEnv sc L)) (execs rest (lawEnv sc L)) Q (fun e s' => wpAny (model PySem.Challenge.rw_of0013_01.prog w) ((aTop dp un gd []).deeper (lawEnv sc L)) (leaving (lawEnv sc L) e) (fun _ s'' => E e s'') (fun e' s'' => E e' s'') s') ⟨h', g, d, tk', os⟩), wpAny (model PySem.Challenge.rw_of0013_01.prog w) ((aTop dp un gd []).deeper (lawEnv sc L)) (execs (forStmt w.params 0 :: forStmt w.params 1 :: forStmt w.params 2 :: forStmt w.params 3 :: forStmt w.params 4 :: forStmt w.params 5 :: forStmt w.params 6 :: forStmt w.params 7 :: forStmt w.params 8 :: forStmt w.params 9 :: rest) (lawEnv sc L)) Q (fun e s' => wpAny (model PySem.Challenge.rw_of0013_01.prog w) ((aTop dp un gd []).deeper (lawEnv sc L)) (leaving (lawEnv sc L) e) (fun _ s'' => E e s'') (fun e' s'' => E e' s'') s') ⟨h, g, d, tk, os⟩ := by
  iterate 9 refine @Mine.pad _ ?_
  iterate 4 k_extra "pkG"
  iterate 39 k_extra "pk9"
  rename_i w p loose mean mg mb dp un gd A₀ base h₀ h g d tk os L m Q E sc rest x1 x2 x3 x4 x5 x6 v1 v3 v4 v5 v6 Dn Do Df Di us out fs inn nn c ci os1 zs k tp tn tz own nm z bs B X T hdp hu esc F ie2 ie3 ie4 ie5 d1 d2 d3 d4 d5 d6 hS hF hl hk hnd1 hlen hmem0 e1 e2 e3 w1 w3 w4 wi Nm N hi1 hi2 hin O hinn hnext
  have hl5 := hS.length
  have hbl : bs.length ≤ 7 := by have := O.hb; omega
  have hnl := (hlen nm hin).1
  have hlen1 : ∀ y ∈ os1, y.length ≤ 300 := fun y hy => (hlen y hy).1
  have q11 := cell_ne N (a := Dn) (b := (L + 1)) (by k_mem) (by k_mem) d1
  have q12 := cell_ne N (a := Do) (b := (L + 1)) (by k_mem) (by k_mem) d1
  have q13 := cell_ne N (a := Df) (b := (L + 1)) (by k_mem) (by k_mem) d1
  have q14 := cell_ne N (a := Di) (b := (L + 1)) (by k_mem) (by k_mem) d1
  have q21 := cell_ne N (a := Di) (b := (L + 1 + 1)) (by k_mem) (by k_mem) d2
  have q31 := cell_ne N (a := Dn) (b := (L + 1 + 1 + 1)) (by k_mem) (by k_mem) d3
  have q32 := cell_ne N (a := Do) (b := (L + 1 + 1 + 1)) (by k_mem) (by k_mem) d3
  have q33 := cell_ne N (a := Df) (b := (L + 1 + 1 + 1)) (by k_mem) (by k_mem) d3
  have q34 := cell_ne N (a := Di) (b := (L + 1 + 1 + 1)) (by k_mem) (by k_mem) d3
  have q41 := cell_ne N (a := Dn) (b := (L + 1 + 1 + 1 + 1)) (by k_mem) (by k_mem) d4
  have q42 := cell_ne N (a := Do) (b := (L + 1 + 1 + 1 + 1)) (by k_mem) (by k_mem) d4
  have q43 := cell_ne N (a := Df) (b := (L + 1 + 1 + 1 + 1)) (by k_mem) (by k_mem) d4
  have q44 := cell_ne N (a := Di) (b := (L + 1 + 1 + 1 + 1)) (by k_mem) (by k_mem) d4
  have q51 := cell_ne N (a := Di) (b := (L + 1 + 1 + 1 + 1 + 1)) (by k_mem) (by k_mem) d5
  have q61 := cell_ne N (a := Di) (b := (L + 1 + 1 + 1 + 1 + 1 + 1)) (by k_mem) (by k_mem) d6
  refine for0 (zs := []) B X T hdp hu esc F d1 d2 d3 d4 d5 d6 q11 q12 q13 q14 w1 hS hl hlen1 Nm N hi1 ?_
  intro x1' h1 tk1 m1 d1' F1 a1 a2 a3 a4 N1
  clear N F Nm d1
  refine for1 (zs := []) B X T hdp hu esc F1 d1' d2 d3 d4 d5 d6 hS hl hlen1 (by (repeat (first | exact List.forall_mem_nil _ | refine List.forall_mem_cons.mpr ⟨by assumption, ?_⟩))) N1 rfl hnl ?_
  intro Db ys nb h2 tk2 m2 F2 b1 b2 b3 b4 b5 N2 nb1 hY
  clear N1 F1 a1 a2 a3 a4
  rw [O.hbs] at hY
  have hyl := hY.length
  have r3 := cell_ne N2 (a := Db) (b := (L + 1 + 1 + 1)) (by k_mem) (by k_mem) d3
  have r4 := cell_ne N2 (a := Db) (b := (L + 1 + 1 + 1 + 1)) (by k_mem) (by k_mem) d4
  refine for2 (zs := []) B X T hdp hu esc F2 d1' d2 d3 d4 d5 d6 e1 e2 e3 q14 q21 q34 q44 q51 q61 wi hS hl hlen1 (by (repeat (first | exact List.forall_mem_nil _ | refine List.forall_mem_cons.mpr ⟨by assumption, ?_⟩))) N2 rfl nb1 (by omega) (by omega) ?_
  intro ci' h3 tk3 m3 F3 a1 a2 a3 a4 a5 N3
  clear N2 F2 b1 b2 b3 b4 b5
  refine for3 (zs := []) B X T hdp hu esc F3 d1' d2 d3 d4 d5 d6 q31 q32 q33 q34 w3 hS hl hlen1 (by (repeat (first | exact List.forall_mem_nil _ | refine List.forall_mem_cons.mpr ⟨by assumption, ?_⟩))) N3 rfl hnl r3 ?_
  intro xa dxa Sa Da Ia sa ia ta1 ta2 ta3 nda nla dsa x3' h4 tk4 m4 d3' F4 b1 b2 b3 b4 b5 N4 Ra Ma Aa1 Aa2 Aa3 Aa4 Aa5
  clear N3 F3 a1 a2 a3 a4 a5
  refine for4 (zs := []) B X T hdp hu esc F4 d1' d2 d3' d4 d5 d6 q41 q42 q43 q44 w4 hS hl hlen1 (by (repeat (first | exact List.forall_mem_nil _ | refine List.forall_mem_cons.mpr ⟨by assumption, ?_⟩))) N4 hi2 O.hz1 O.hz2 O.hno r4 ⟨(ap_ne Aa1 (by k_mem)).symm, (ap_ne Aa2 (by k_mem)).symm, (ap_ne Aa3 (by k_mem)).symm, (ap_ne Aa4 (by k_mem)).symm, (ap_ne Aa5 (by k_mem)).symm⟩ ?_
  intro xb dxb Sb Dbb Ib sb ib tb1 tb2 tb3 ndb nlb dsb x4' h5 tk5 m5 d4' F5 a1 a2 a3 a4 a5 N5 Rb Mb Ab1 Ab2 Ab3 Ab4 Ab5
  clear N4 F4 b1 b2 b3 b4 b5
  have N5x : News h₀ L h5 ((Ia, ia) :: (Da, listOf dsa.toArray nla) :: (Sa, sa) :: (xa, instObj 86 dxa) :: (dxa, dictOf (ignD w.params ta1 ta2 ta3 Sa Da Ia) nda) :: ((L + 1 + 1 + 1), x3') :: (Df, LCg.lst fs) :: (Do, listOf out.toArray c) :: (Ib, ib) :: (Dbb, listOf dsb.toArray nlb) :: (Sb, sb) :: (xb, instObj 86 dxb) :: (dxb, dictOf (ignD w.params tb1 tb2 tb3 Sb Dbb Ib) ndb) :: (Db, listOf ys.toArray nb) :: (Di, listOf (inn ++ ys).toArray ci') :: (Dn, listOf us.toArray nn) :: ((L + 1), x1') :: ((L + 1 + 1), x2) :: ((L + 1 + 1 + 1 + 1), x4') :: ((L + 1 + 1 + 1 + 1 + 1), x5) :: ((L + 1 + 1 + 1 + 1 + 1 + 1), x6) :: own) := by ((repeat (first | exact nws_nil | refine nws_cons N5 (by k_mem) ?_)); (try exact nws_tail N5 (fun _ hp => by (repeat (first | exact hp | refine List.mem_cons_of_mem _ ?_)))))
  have AIa : Apart Ia ((Da, listOf dsa.toArray nla) :: (Sa, sa) :: (xa, instObj 86 dxa) :: (dxa, dictOf (ignD w.params ta1 ta2 ta3 Sa Da Ia) nda) :: ((L + 1 + 1 + 1), x3') :: (Df, LCg.lst fs) :: (Do, listOf out.toArray c) :: (Ib, ib) :: (Dbb, listOf dsb.toArray nlb) :: (Sb, sb) :: (xb, instObj 86 dxb) :: (dxb, dictOf (ignD w.params tb1 tb2 tb3 Sb Dbb Ib) ndb) :: (Db, listOf ys.toArray nb) :: (Di, listOf (inn ++ ys).toArray ci') :: (Dn, listOf us.toArray nn) :: ((L + 1), x1') :: ((L + 1 + 1), x2) :: ((L + 1 + 1 + 1 + 1), x4') :: ((L + 1 + 1 + 1 + 1 + 1), x5) :: ((L + 1 + 1 + 1 + 1 + 1 + 1), x6) :: own) := ap_all (by
    repeat first
      | exact List.forall_mem_nil _
      | refine all_cons (by first | exact ap_ne Aa1 (by k_mem) | exact (ap_ne Ab1 (by k_mem)).symm | exact (ap_ne Ab2 (by k_mem)).symm | exact (ap_ne Ab3 (by k_mem)).symm | exact (ap_ne Ab4 (by k_mem)).symm | exact (ap_ne Ab5 (by k_mem)).symm) ?_
      | exact fun p hp => off_mem Aa1.off p (by repeat (first | exact hp | refine List.mem_cons_of_mem _ ?_)))
  have AIb : ∀ Dl ls, Dl ≠ Ib → Apart Ib ((Dbb, listOf dsb.toArray nlb) :: (Sb, sb) :: (xb, instObj 86 dxb) :: (dxb, dictOf (ignD w.params tb1 tb2 tb3 Sb Dbb Ib) ndb) :: ((L + 1 + 1 + 1 + 1), x4') :: (Df, LCg.lst fs) :: (Do, listOf out.toArray c) :: (Dl, LCg.lst ls) :: (Db, listOf ys.toArray nb) :: (Di, listOf (inn ++ ys).toArray ci') :: (Dn, listOf us.toArray nn) :: ((L + 1), x1') :: ((L + 1 + 1), x2) :: ((L + 1 + 1 + 1), x3') :: ((L + 1 + 1 + 1 + 1 + 1), x5) :: ((L + 1 + 1 + 1 + 1 + 1 + 1), x6) :: own) := fun Dl ls hne => ap_all (by
    repeat first
      | exact List.forall_mem_nil _
      | refine all_cons (by first | exact ap_ne Ab1 (by k_mem) | exact hne) ?_
      | exact fun p hp => off_mem Ab1.off p (by repeat (first | exact hp | refine List.mem_cons_of_mem _ ?_)))
  have AIc : Apart Ib ((Dbb, listOf dsb.toArray nlb) :: (Sb, sb) :: (xb, instObj 86 dxb) :: (dxb, dictOf (ignD w.params tb1 tb2 tb3 Sb Dbb Ib) ndb) :: ((L + 1 + 1 + 1 + 1), x4') :: (Do, listOf out.toArray c) :: (Db, listOf ys.toArray nb) :: (Di, listOf (inn ++ ys).toArray ci') :: (Df, LCg.lst fs) :: (Dn, listOf us.toArray nn) :: ((L + 1), x1') :: ((L + 1 + 1), x2) :: ((L + 1 + 1 + 1), x3') :: ((L + 1 + 1 + 1 + 1 + 1), x5) :: ((L + 1 + 1 + 1 + 1 + 1 + 1), x6) :: own) := ap_all (by
    repeat first
      | exact List.forall_mem_nil _
      | refine all_cons (by first | exact ap_ne Ab1 (by k_mem)) ?_
      | exact fun p hp => off_mem Ab1.off p (by repeat (first | exact hp | refine List.mem_cons_of_mem _ ?_)))
  clear N5 Aa1 Aa2 Aa3 Aa4 Aa5 Ab1 Ab2 Ab3 Ab4 Ab5
  refine for5 B X T hdp hu esc F5 (by (repeat (first | exact List.forall_mem_nil _ | refine List.forall_mem_cons.mpr ⟨by assumption, ?_⟩))) N5x d3' Ra Ma hmem0 (fun _ _ => .inr (by simp)) (by omega) hnd1 AIa hS hF hl hlen ?_
  intro Dl ls ia2 h6 tk6 m6 F6 b1 b2 b3 b4 b5 b6 N6 ol hL _
  clear N5x F5 a1 a2 a3 a4 a5 AIa Ra Ma
  rw [O.hA1] at hL
  have N6x : News h₀ L h6 ((Ib, ib) :: (Dbb, listOf dsb.toArray nlb) :: (Sb, sb) :: (xb, instObj 86 dxb) :: (dxb, dictOf (ignD w.params tb1 tb2 tb3 Sb Dbb Ib) ndb) :: ((L + 1 + 1 + 1 + 1), x4') :: (Df, LCg.lst fs) :: (Do, listOf out.toArray c) :: (Dl, LCg.lst ls) :: (Db, listOf ys.toArray nb) :: (Di, listOf (inn ++ ys).toArray ci') :: (Dn, listOf us.toArray nn) :: ((L + 1), x1') :: ((L + 1 + 1), x2) :: ((L + 1 + 1 + 1), x3') :: ((L + 1 + 1 + 1 + 1 + 1), x5) :: ((L + 1 + 1 + 1 + 1 + 1 + 1), x6) :: own) := by ((repeat (first | exact nws_nil | refine nws_cons N6 (by k_mem) ?_)); (try exact nws_tail N6 (fun _ hp => by (repeat (first | exact hp | refine List.mem_cons_of_mem _ ?_)))))
  have olb : Dl ≠ Ib := (off1_mem' ol (by k_mem)).symm
  clear N6
  refine for6 B X T hdp hu esc F6 (by (repeat (first | exact List.forall_mem_nil _ | refine List.forall_mem_cons.mpr ⟨by assumption, ?_⟩))) N6x d4' Rb Mb hmem0 (fun _ _ => .inr (by simp)) (by omega) hnd1 (AIb Dl ls olb) hS hF hl hlen ?_
  intro Dw ws ib2 h7 tk7 m7 F7 a1 a2 a3 a4 a5 a6 a7 N7 _ hW Mb2
  clear N6x F6 b1 b2 b3 b4 b5 b6 AIb Mb
  rw [O.hA2] at hW
  have N7x : News h₀ L h7 ((Dw, LCg.lst ws) :: (Dl, LCg.lst ls) :: (Db, listOf ys.toArray nb) :: (Do, listOf out.toArray c) :: ((L + 1), x1') :: (Ib, ib2) :: (Dbb, listOf dsb.toArray nlb) :: (Sb, sb) :: (xb, instObj 86 dxb) :: (dxb, dictOf (ignD w.params tb1 tb2 tb3 Sb Dbb Ib) ndb) :: (Di, listOf (inn ++ ys).toArray ci') :: (Df, LCg.lst fs) :: (Dn, listOf us.toArray nn) :: ((L + 1 + 1), x2) :: ((L + 1 + 1 + 1), x3') :: ((L + 1 + 1 + 1 + 1), x4') :: ((L + 1 + 1 + 1 + 1 + 1), x5) :: ((L + 1 + 1 + 1 + 1 + 1 + 1), x6) :: own) := by ((repeat (first | exact nws_nil | refine nws_cons N7 (by k_mem) ?_)); (try exact nws_tail N7 (fun _ hp => by (repeat (first | exact hp | refine List.mem_cons_of_mem _ ?_)))))
  clear N7
  refine for7 B X T hdp hu esc F7 (by (repeat (first | exact List.forall_mem_nil _ | refine List.forall_mem_cons.mpr ⟨by assumption, ?_⟩))) N7x d1' hS hl hY hW hL O.hb (by omega) O.hcut (fun y hy => O.ok y (List.mem_append_left _ hy)) O.ok ?_
  intro h8 tk8 m8 F8 b1 b2 b3 b4 b5 b6 b7 N8
  clear N7x F7 a1 a2 a3 a4 a5 a6 a7
  have N8x : News h₀ L h8 ((Dw, LCg.lst ws) :: (Dl, LCg.lst ls) :: ((L + 1), x1') :: (Ib, ib2) :: (Dbb, listOf dsb.toArray nlb) :: (Sb, sb) :: (xb, instObj 86 dxb) :: (dxb, dictOf (ignD w.params tb1 tb2 tb3 Sb Dbb Ib) ndb) :: (Db, listOf ys.toArray nb) :: (Do, listOf out.toArray c) :: (Di, listOf (inn ++ ys).toArray ci') :: (Df, LCg.lst fs) :: (Dn, listOf us.toArray nn) :: ((L + 1 + 1), x2) :: ((L + 1 + 1 + 1), x3') :: ((L + 1 + 1 + 1 + 1), x4') :: ((L + 1 + 1 + 1 + 1 + 1), x5) :: ((L + 1 + 1 + 1 + 1 + 1 + 1), x6) :: own) := by ((repeat (first | exact nws_nil | refine nws_cons N8 (by k_mem) ?_)); (try exact nws_tail N8 (fun _ hp => by (repeat (first | exact hp | refine List.mem_cons_of_mem _ ?_)))))
  clear N8
  refine for8 B X T hdp hu esc F8 ie2 ie3 ie4 ie5 (by (repeat (first | exact List.forall_mem_nil _ | refine List.forall_mem_cons.mpr ⟨by assumption, ?_⟩))) N8x d1' hW hL (by omega) O.hnd O.ok ?_
  intro h9 tk9 m9 F9 a1 a2 a3 a4 a5 a6 a7 N9
  clear N8x F8 b1 b2 b3 b4 b5 b6 b7
  have N9x : News h₀ L h9 ((Ib, ib2) :: (Dbb, listOf dsb.toArray nlb) :: (Sb, sb) :: (xb, instObj 86 dxb) :: (dxb, dictOf (ignD w.params tb1 tb2 tb3 Sb Dbb Ib) ndb) :: ((L + 1 + 1 + 1 + 1), x4') :: (Do, listOf out.toArray c) :: (Db, listOf ys.toArray nb) :: (Di, listOf (inn ++ ys).toArray ci') :: (Df, LCg.lst fs) :: (Dn, listOf us.toArray nn) :: ((L + 1), x1') :: ((L + 1 + 1), x2) :: ((L + 1 + 1 + 1), x3') :: ((L + 1 + 1 + 1 + 1 + 1), x5) :: ((L + 1 + 1 + 1 + 1 + 1 + 1), x6) :: own) := by ((repeat (first | exact nws_nil | refine nws_cons N9 (by k_mem) ?_)); (try exact nws_tail N9 (fun _ hp => by (repeat (first | exact hp | refine List.mem_cons_of_mem _ ?_)))))
  clear N9
  refine for9 (P := ansP [] [normN (folderN z)]) B X T hdp hu esc F9 (by (repeat (first | exact List.forall_mem_nil _ | refine List.forall_mem_cons.mpr ⟨by assumption, ?_⟩))) N9x d4' Rb Mb2 (fun y hy => if_pos hy) (fun _ _ => .inr (by simp)) (by omega) AIc hS hl hlen1 hY O.hA2 (fun y hy => O.ok y (List.mem_append_left _ hy)) ?_
  intro ib3 h10 tk10 m10 F10 b1 b2 b3 b4 b5 b6 b7 N10
  refine hnext ys ci' x1' x3' x4' h10 tk10 m10 _ _ _ d1' d3' d4' hY F10 b1 b2 b3 ?_
  ((repeat (first | exact nws_nil | refine nws_cons N10 (by k_mem) ?_)); (try exact nws_tail N10 (fun _ hp => by (repeat (first | exact hp | refine List.mem_cons_of_mem _ ?_)))))
end Mine
end
open PySem PySem.W PyProof.Rows in
example : Mine.RS := by intro M A Q E s h; w_top off; first | walk1 | skip; all_goals first | exact h | exact wpAny_pure h
section
set_option maxHeartbeats 8000000
local macro_rules | `(tactic| walk_at "execs cons") => `(tactic| (refine wpAny_execs_cons ?_; (try dsimp only); (try k_fold)))
namespace Mine
local macro_rules | `(tactic| k_ne) => `(tactic| first | (refine neN ?_; (try dsimp only); omega) | exact Apart.ne (by assumption) (by k_mem) | exact Apart.ne' (by assumption) (by k_mem))
local macro_rules | `(tactic| walk_at "call type:range") => `(tactic| (k_here; refine Mine.park ?_))
local macro_rules | `(tactic| walk_at "pyIter ref") => `(tactic| (k_here; refine Mine.park ?_))
section
variable {prog : Program} {w : World} {A : Around} {E : Value → Shared → Prop} {s : Shared} {env : Env} {h₀ : Heap} {x : Str} {body : List Stmt} {Q : Flow → Shared → Prop}
theorem loop_rng {r : Addr} {n : Nat} {t₀ u₀ v₀ : Tok} {m₀ : Str → Option Value} {news : List (Addr × Obj)} (J : Nat → (Str → Option Value) → List (Addr × Obj) → Prop)
    (hh : A.handled = none) (hr : IsRange s.heap r 0 (n : Int) 1 t₀ u₀ v₀) (hsmall : Builtin.Range.small 0 (n : Int) 1 = true) (hn : Builtin.Range.rangeSize 0 (n : Int) 1 = (n : Int)) (F : Fr h₀ env.locals s.heap m₀) (N : News h₀ env.locals s.heap news) (hj : J 0 m₀ news)
    (turn : ∀ (i : Nat) t m₁ nx h tk own, i < n → nx.map (·.1) = news.map (·.1) → OwnOff own (news.map (·.1)) → J i m₁ nx → Fr h₀ env.locals h (fun y => if y = x then some (.int (i : Int) t) else m₁ y) → News h₀ env.locals h (nx ++ own) →
      wpAny (model prog w) A (execs body env) (InvPostN h₀ env.locals (J (i + 1)) own (news.map (·.1)) { s with heap := h, toks := tk } Q) E { s with heap := h, toks := tk })
    (done : ∀ m₁ nx h tk, J n m₁ nx → Fr h₀ env.locals h m₁ → News h₀ env.locals h nx → Q .next { s with heap := h, toks := tk }) :
    wpAny (model prog w) A (pyIter (.ref r)) (fun it s₂ => LoopAtV prog w A h₀ env x body Q E it s₂) E s := by
  refine wpAny_pyIter_range hr hsmall ?_
  have W : Walks prog w A s.heap.objs.size [s.heap.objs.size] [s.heap.objs.size] n (fun i v => i < n ∧ ∃ t, v = .int (0 + (i : Int) * 1) t)
      (fun i h => IsRangeIter h s.heap.objs.size (0 + (i : Nat) * 1) ((n : Int) - (i : Nat)) 1) := (Walks.range hh _ 0 1 n).bound
  refine loop_invN J W ?_ ?_ ?_ ?_ (by show IsRangeIter _ _ _ _ _; rw [hn]; simpa using Heap.get?_push_size _ rfl) (F.push _) (fun p hp => ⟨Heap.get?_push_of_some _ (N p hp).1, (N p hp).2⟩) hj ?_ ?_
  · intro hm
    exact absurd F.ns.lt ((List.mem_singleton.mp hm) ▸ Nat.lt_irrefl _)
  · intro b hb
    rw [List.mem_singleton.mp hb]
    exact next_is_new F
  · intro p hp hI
    exact absurd (Heap.lt_size (N p hp).1) ((List.mem_singleton.mp hI) ▸ Nat.lt_irrefl _)
  · intro p hp hI
    exact absurd (Heap.lt_size (N p hp).1) ((List.mem_singleton.mp hI) ▸ Nat.lt_irrefl _)
  · intro i v m₁ nx h tk own hi
    intro hz9
    refine Classical.byContradiction fun ng9 => ?_
    obtain ⟨_, t, rfl⟩ := hz9
    refine ng9 ?_
    clear ng9
    intro ha hoff hJ F₁ N₁
    have e1 : 0 + (i : Int) * 1 = (i : Int) := by omega
    rw [e1] at F₁
    exact turn i t m₁ nx h tk own hi ha hoff hJ F₁ N₁
  · exact done
end
theorem all_app {a : Addr} {l l' : List (Addr × Obj)} (h : ∀ p ∈ l, p.1 ≠ a) (h' : ∀ p ∈ l', p.1 ≠ a) : ∀ p ∈ l ++ l', p.1 ≠ a := fun p hp => (List.mem_append.mp hp).elim (h p) (h' p)
noncomputable def belowAt (os1 : List Str) (k : Nat) : List Str := belowS (os1.getD k Str.empty) (os1.take k)
noncomputable def flatB (os1 : List Str) (k : Nat) : List Str := ((List.range k).map (belowAt os1)).flatten
theorem flatB_succ (os1 : List Str) (k : Nat) : flatB os1 (k + 1) = flatB os1 k ++ belowAt os1 k := by
  unfold flatB; rw [List.range_succ, List.map_append, List.flatten_append]; simp
theorem belowAt_le (os1 : List Str) (k : Nat) : (belowAt os1 k).length ≤ os1.length := by
  unfold belowAt belowS
  exact Nat.le_trans (List.length_filter_le _ _) (by rw [List.length_take]; exact Nat.min_le_right _ _)
theorem rng7 {n : Nat} (h : n ≤ 7) : Builtin.Range.small 0 (n : Int) 1 = true ∧ Builtin.Range.rangeSize 0 (n : Int) 1 = (n : Int) := by
  exact (by decide +kernel : ∀ n : Fin 8, Builtin.Range.small 0 ((n.1 : Nat) : Int) 1 = true ∧ Builtin.Range.rangeSize 0 ((n.1 : Nat) : Int) 1 = ((n.1 : Nat) : Int)) ⟨n, Nat.lt_succ_of_le h⟩
theorem itis_get {vs : List Value} {k : Nat} {v : Value} (h : vs[k]? = some v) (hk : k ≤ 1000) : ItIs vs (k : Int) v := ⟨by omega, by omega, by simpa using h⟩
theorem strs_at {vs : List Value} {ss : List Str} (hS : StrsAre vs ss) {k : Nat} (hk : k < ss.length) : ∃ t, vs[k]? = some (.str (ss.getD k Str.empty) t) := by
  have h1 : k < vs.length := by rw [hS.length]; exact hk
  refine Classical.byContradiction fun ng9 => ?_
  obtain ⟨y, t, e, h2⟩ := strs_getV hS (List.getElem?_eq_getElem h1)
  refine ng9 ?_
  clear ng9
  refine ⟨t, ?_⟩
  rw [List.getElem?_eq_getElem h1, e, List.getD_eq_getElem?_getD, h2]; rfl
theorem ints_at {vs : List Value} {ss : List Int} (hS : IntsAre vs ss) {k : Nat} (hk : k < ss.length) : ∃ t, vs[k]? = some (.int (ss.getD k 0) t) := by
  have h1 : k < vs.length := by rw [hS.length]; exact hk
  refine Classical.byContradiction fun ng9 => ?_
  obtain ⟨y, t, e, h2⟩ := ints_getV hS (List.getElem?_eq_getElem h1)
  refine ng9 ?_
  clear ng9
  refine ⟨t, ?_⟩
  rw [List.getElem?_eq_getElem h1, e, List.getD_eq_getElem?_getD, h2]; rfl
structure J8 (L : Addr) (x2 x5 x6 : Obj) (Dn Do Df Di : Addr) (us out fs : List Value) (nn c : Nat) (os1 : List Str) (own : List (Addr × Obj)) (i : Nat) (m : Str → Option Value) (nx : List (Addr × Obj)) : Prop where
  out : ∃ inn ci x1 x3 x4 v1 v3 v4, nx = (Di, listOf inn.toArray ci) :: (Df, LCg.lst fs) :: (Do, listOf out.toArray c) :: (Dn, listOf us.toArray nn) :: (L + 1 + 1 + 1 + 1 + 1 + 1, x6) :: (L + 1 + 1 + 1 + 1 + 1, x5) :: (L + 1 + 1 + 1 + 1, x4) :: (L + 1 + 1 + 1, x3) :: (L + 1 + 1, x2) :: (L + 1, x1) :: own ∧ x1.data = .cell v1 ∧ x3.data = .cell v3 ∧ x4.data = .cell v4 ∧ StrsAre inn (flatB os1 i) ∧ inn.length ≤ 7 * i ∧ m (Str.ofString "numbers") = some (.ref Dn) ∧ m (Str.ofString "order") = some (.ref Do) ∧ m (Str.ofString "files") = some (.ref Df)
theorem law8 :
 ∀ {w : World} {p : Program} {loose : List Str} {mean : ExcName → Option Value} {mg mb : Str → Option Value} {dp un : Nat} {gd : Option (List Code)} {A₀ : Around} {base h₀ h : Heap} {g : Array GenState} {d : Drawn} {tk : Nat} {os : OsState} {L : Addr} {m : Str → Option Value} {Q : Flow → Shared → Prop} {E : Value → Shared → Prop} {sc : Scope} {rest : List Stmt} {x1 x2 x3 x4 x5 x6 : Obj} {v1 v3 v4 v5 v6 : Option Value} {Dn Do Df Di : Addr} {us out fs : List Value} {nn c : Nat} {os1 : List Str} {zs : List Int} {own : List (Addr × Obj)}
 (B : Below A₀ base [] h₀) (X : (hd.heap_1 w.params).In h₀) (T : Top p loose mean mg mb h₀) (hdp : dp + 640 < recursionLimit) (hu : un + 4000 < cLine) (esc : sc = lawScope w.params) (F : Fr h₀ L h m) (ie2 : Str.ofString "IndexError" ∉ loose) (ie3 : Str.ofString "IndexError" ∉ (recsOf p).map (·.name)) (ie4 : Str.ofString "IndexError" ∉ (litsOf p).map (·.1)) (ie5 : Str.ofString "IndexError" ∉ (clssOf p loose).map (·.name)) (d1 : x1.data = .cell v1) (d2 : x2.data = .cell (some (.ref Di))) (d3 : x3.data = .cell v3) (d4 : x4.data = .cell v4) (d5 : x5.data = .cell v5) (d6 : x6.data = .cell v6) (hS : StrsAre out os1) (hF : StrsAre fs (os1.map fileOf)) (hl : os1.length ≤ 7) (hnd1 : os1.Nodup) (hlen : ∀ y ∈ os1, y.length ≤ 300 ∧ (fileOf y).length ≤ 300) (hmem0 : ∀ y ∈ os1, memo0 y = none) (e1 : @Ne Nat Di Df) (e2 : @Ne Nat Di Do) (e3 : @Ne Nat Di Dn) (s1 : ∀ p ∈ own, p.1 ≠ (L + 1)) (s3 : ∀ p ∈ own, p.1 ≠ (L + 1 + 1 + 1)) (s4 : ∀ p ∈ own, p.1 ≠ (L + 1 + 1 + 1 + 1)) (si : ∀ p ∈ own, p.1 ≠ Di) (hI : IntsAre us zs) (hzl : zs.length = os1.length) (TO : ∀ k, k < os1.length → TurnOk os1 k (os1.getD k Str.empty) (zs.getD k 0) (belowAt os1 k)) (Nm : ∀ q ∈ [(Str.ofString "numbers", Value.ref Dn), (Str.ofString "order", Value.ref Do), (Str.ofString "files", Value.ref Df)], m q.1 = some q.2) (N : News h₀ L h ((Di, listOf [].toArray 0) :: (Df, LCg.lst fs) :: (Do, listOf out.toArray c) :: (Dn, listOf us.toArray nn) :: (L + 1 + 1 + 1 + 1 + 1 + 1, x6) :: (L + 1 + 1 + 1 + 1 + 1, x5) :: (L + 1 + 1 + 1 + 1, x4) :: (L + 1 + 1 + 1, x3) :: (L + 1 + 1, x2) :: (L + 1, x1) :: own)) (hnext : ∀ inn ci x1' x3' x4' h' tk' m' v1' v3' v4', x1'.data = .cell v1' → x3'.data = .cell v3' → x4'.data = .cell v4' → StrsAre inn (flatB os1 os1.length) → Fr h₀ L h' m' → m' (Str.ofString "numbers") = some (.ref Dn) → m' (Str.ofString "order") = some (.ref Do) → m' (Str.ofString "files") = some (.ref Df) → News h₀ L h' ((Di, listOf inn.toArray ci) :: (Df, LCg.lst fs) :: (Do, listOf out.toArray c) :: (Dn, listOf us.toArray nn) :: (L + 1 + 1 + 1 + 1 + 1 + 1, x6) :: (L + 1 + 1 + 1 + 1 + 1, x5) :: (L + 1 + 1 + 1 + 1, x4') :: (L + 1 + 1 + 1, x3') :: (L + 1 + 1, x2) :: (L + 1, x1') :: own) → wpAny (model PySem.Challenge.rw_of0013_01.prog w) ((aTop dp un gd []).deeper (lawEnv sc L)) (execs rest (lawEnv sc L)) Q (fun e s' => wpAny (model PySem.Challenge.rw_of0013_01.prog w) ((aTop dp un gd []).deeper (lawEnv sc L)) (leaving (lawEnv sc L) e) (fun _ s'' => E e s'') (fun e' s'' => E e' s'') s') ⟨h', g, d, tk', os⟩), wpAny (model PySem.Challenge.rw_of0013_01.prog w) ((aTop dp un gd []).deeper (lawEnv sc L)) (execs (lawStmt w.params 8 :: rest) (lawEnv sc L)) Q (fun e s' => wpAny (model PySem.Challenge.rw_of0013_01.prog w) ((aTop dp un gd []).deeper (lawEnv sc L)) (leaving (lawEnv sc L) e) (fun _ s'' => E e s'') (fun e' s'' => E e' s'') s') ⟨h, g, d, tk, os⟩ := by
  iterate 2 refine @Mine.pad _ ?_
  iterate 3 k_extra "pkG"
  iterate 36 k_extra "pk9"
  rename_i w p loose mean mg mb dp un gd A₀ base h₀ h g d tk os L m Q E sc rest x1 x2 x3 x4 x5 x6 v1 v3 v4 v5 v6 Dn Do Df Di us out fs nn c os1 zs own B X T hdp hu esc F ie2 ie3 ie4 ie5 d1 d2 d3 d4 d5 d6 hS hF hl hnd1 hlen hmem0 e1 e2 e3 s1 s3 s4 si hI hzl TO Nm N hnext
  obtain ⟨ev, hev⟩ : ∃ ev, ev = lawEnv sc L := ⟨_, rfl⟩
  refine with_eq (a := lawScope w.params) (by conv => (lhs; whnf)) fun e9 => ?_
  have e8 := esc.trans e9
  subst e8
  have escL := e9.symm
  clear e9 esc
  have PX : ∀ (h : Heap) (m' : Str → Option Value), Fr h₀ L h m' → Below (A₀.deeper ev) base (ev :: []) h := fun h m' F => pushX B F (by rw [hev]; rfl) (by rw [hev]; rfl)
  subst hev
  refine with_eq (a := lawStmt w.params 8) (by conv => (lhs; whnf)) fun e9 => ?_
  rw [e9]
  clear e9
  have F9 := fr_ps F Nm
  clear F
  dsimp only [kstB] at F9
  revert X; k_fill; intro X
  have hl5 := hS.length
  have hFx : True → StrsAre fs (os1.map fileOf) := fun _ => hF
  have hSx : True → StrsAre out os1 := fun _ => hS
  clear hF
  k_steps
  refine ⟨?_⟩
  (with_reducible rename Fr _ _ _ _ => F7)
  refine range1_rows F7 N ?_
  intro h5 tk5 t5 u5 v5 R5 F5 N5 _
  k_steps
  refine ⟨?_⟩
  refine loop_rng (J8 L x2 x5 x6 Dn Do Df Di us out fs nn c os1 own) rfl R5 (rng7 (by omega)).1 (rng7 (by omega)).2 F5 N5 ⟨[], 0, x1, x3, x4, v1, v3, v4, rfl, d1, d3, d4, .nil, by simp, rfl, rfl, rfl⟩ ?turn ?done
  case turn =>
    intro i t m₁ nx h6 tk6 own2 hi ha hoff hJ F6 N6
    refine Classical.byContradiction fun ng9 => ?_
    obtain ⟨inn, ci, y1, y3, y4, w1, w3, w4, rfl, p1, p3, p4, hIn, hil, g1, g2, g3⟩ := hJ.out
    refine ng9 ?_
    clear ng9
    obtain ⟨tn, ht1⟩ := strs_at (hSx trivial) hi
    obtain ⟨tz, ht2⟩ := ints_at hI (k := i) (by omega)
    simp only [List.cons_append, List.nil_append] at N6
    have TOi := TO i hi
    have hin : os1.getD i Str.empty ∈ os1 := by rw [List.getD_eq_getElem?_getD, List.getElem?_eq_getElem hi]; exact List.getElem_mem hi
    refine turn8 (zs := []) (tp := t) B X T hdp hu escL F6 ie2 ie3 ie4 ie5 p1 d2 p3 p4 d5 d6 (hSx trivial) (hFx trivial) hl hi hnd1 hlen hmem0 e1 e2 e3 (all_app s1 (hoff.ne (by simp))) (all_app s3 (hoff.ne (by simp))) (all_app s4 (hoff.ne (by simp))) (all_app si (hoff.ne (by simp))) ?hNm N6 (itis_get ht1 (by omega)) (itis_get ht2 (by omega)) hin TOi (by omega) ?hn
    case hNm =>
      refine List.forall_mem_cons.mpr ⟨g1, List.forall_mem_cons.mpr ⟨g2, List.forall_mem_cons.mpr ⟨g3, List.forall_mem_cons.mpr ⟨rfl, List.forall_mem_nil _⟩⟩⟩⟩
    case hn =>
      intro ys ci' z1 z3 z4 h8 tk8 m8 u1 u3 u4 q1 q3 q4 hY F8 a1 a2 a3 N8
      k_steps
      refine InvEndN.intro F8 N8 (nx := (Di, listOf (inn ++ ys).toArray ci') :: (Df, LCg.lst fs) :: (Do, listOf out.toArray c) :: (Dn, listOf us.toArray nn) :: (L + 1 + 1 + 1 + 1 + 1 + 1, x6) :: (L + 1 + 1 + 1 + 1 + 1, x5) :: (L + 1 + 1 + 1 + 1, z4) :: (L + 1 + 1 + 1, z3) :: (L + 1 + 1, x2) :: (L + 1, z1) :: own) ⟨(inn ++ ys), ci', z1, z3, z4, u1, u3, u4, rfl, q1, q3, q4, ?_, ?_, a1, a2, a3⟩ rfl ?_ ?_
      · rw [flatB_succ]; exact hIn.append' hY
      · have h1 := hY.length
        have h2 := belowAt_le os1 i
        rw [List.length_append]; omega
      · intro p hp
        simp only [List.mem_cons] at hp
        rcases hp with e | e | e | e | e | e | e | e | e | e | e
        all_goals first
          | (rw [e]; k_mem)
          | exact List.mem_append_left own2 e
          | (repeat (first | exact List.mem_append_left own2 e | refine List.mem_cons_of_mem _ ?_))
      · intro p hp
        repeat (first | exact List.mem_append_right own hp | refine List.mem_cons_of_mem _ ?_)
  case done =>
    intro m₁ nx h8 tk8 hJ F8 N8
    refine Classical.byContradiction fun ng9 => ?_
    obtain ⟨inn, ci, y1, y3, y4, w1, w3, w4, rfl, p1, p3, p4, hIn, hil, g1, g2, g3⟩ := hJ.out
    refine ng9 ?_
    clear ng9
    exact hnext inn ci y1 y3 y4 h8 tk8 m₁ w1 w3 w4 p1 p3 p4 hIn F8 g1 g2 g3 N8
end Mine
end
open PySem PySem.W PyProof.Rows in
example : Mine.RS := by intro M A Q E s h; w_top off; first | walk1 | skip; all_goals first | exact h | exact wpAny_pure h
section
set_option maxHeartbeats 8000000
namespace Mine
theorem all1_iff {f : Nat → Bool} (h : all1 f = true) {i : Nat} (hi : i < 39) : f i = true := all1_at h hi
noncomputable def partsD (a d1 d2 d3 : Nat) : List Str := (List.range (1 + a)).map fun i => tab3 ((([d1, d2, d3] : List Nat).getD i 0 : Nat) : Int)
theorem t_parts : ((List.range 3).all fun a => (List.range 3).all fun x => (List.range 3).all fun y => (List.range 3).all fun z => decide (partsD a x y z ∈ T39)) = true := by decide +kernel
theorem dig3 (n : Int) : (n.fmod 3).toNat < 3 := by have := fm3 n; omega
theorem digC (n : Int) : (((n.fmod 3).toNat : Nat) : Int) = n.fmod 3 := Int.toNat_of_nonneg (fm3 n).1
theorem partsN_D :
 ∀ 
 (z : Int), partsN z = partsD (z.fmod 3).toNat ((z.fdiv (3 ^ 1)).fmod 3).toNat ((z.fdiv (3 ^ 2)).fmod 3).toNat ((z.fdiv (3 ^ 3)).fmod 3).toNat := by
  iterate 1 k_extra "pk9"
  rename_i z
  unfold partsN partsD
  refine List.map_congr_left fun i hi => ?_
  have h3 := dig3 z
  have hi' : i < 3 := by have := List.mem_range.mp hi; omega
  have : i = 0 ∨ i = 1 ∨ i = 2 := by omega
  rcases this with rfl | rfl | rfl
  · show _ = tab3 ((((z.fdiv (3 ^ 1)).fmod 3).toNat : Nat) : Int); rw [digC]; rfl
  · show _ = tab3 ((((z.fdiv (3 ^ 2)).fmod 3).toNat : Nat) : Int); rw [digC]; rfl
  · show _ = tab3 ((((z.fdiv (3 ^ 3)).fmod 3).toNat : Nat) : Int); rw [digC]; rfl
theorem parts_ix :
 ∀ 
 (z : Int), ∃ i, i < 39 ∧ tP i = partsN z := by
  iterate 1 k_extra "pk9"
  rename_i z
  have h := t_parts
  have h1 := List.all_eq_true.mp h _ (List.mem_range.mpr (dig3 z))
  have h2 := List.all_eq_true.mp h1 _ (List.mem_range.mpr (dig3 (z.fdiv (3 ^ 1))))
  have h3 := List.all_eq_true.mp h2 _ (List.mem_range.mpr (dig3 (z.fdiv (3 ^ 2))))
  have h4 := List.all_eq_true.mp h3 _ (List.mem_range.mpr (dig3 (z.fdiv (3 ^ 3))))
  rw [← partsN_D] at h4
  refine Classical.byContradiction fun ng9 => ?_
  obtain ⟨i, hi, e⟩ := List.mem_iff_getElem.mp (of_decide_eq_true h4)
  refine ng9 ?_
  clear ng9
  refine ⟨i, hi, ?_⟩
  unfold tP
  rw [List.getD_eq_getElem?_getD, List.getElem?_eq_getElem hi, e]; rfl
noncomputable def ixN (z : Int) : Nat := Classical.choose (parts_ix z)
theorem ix_lt (z : Int) : ixN z < 39 := (Classical.choose_spec (parts_ix z)).1
theorem ix_tP (z : Int) : tP (ixN z) = partsN z := (Classical.choose_spec (parts_ix z)).2
theorem nameN_ix (z : Int) : nameN z = nm (ixN z) := by unfold nameN nm; rw [ix_tP]
theorem keyN_ix (z : Int) : keyN z = tP (ixN z) ++ [Str.ofString "~"] := by unfold keyN; rw [ix_tP]
theorem folderN_ix (z : Int) : folderN z = dressOf ((((z.fdiv 81).fmod 6).toNat : Nat) : Int) (tP (ixN z)) := by
  unfold folderN; rw [ix_tP, Int.toNat_of_nonneg (fm6 _).1]
theorem dig6 (n : Int) : (n.fmod 6).toNat < 6 := by have := fm6 n; omega
theorem normN_ix (z : Int) : normN (folderN z) = normS (ixN z) := by
  rw [folderN_ix]
  have h := all1_at t_norm (ix_lt z)
  exact eq_of_beq (List.all_eq_true.mp h _ (List.mem_range.mpr (dig6 (z.fdiv 81))))
noncomputable def normB (x : Str) : Bool := decide (x.length ≤ 1000) && decide (1 ≤ x.length) && decide (Txt.slice x none (some 1) = Str.ofString "/") && (Txt.slice x (some 1) (some 2) != Str.ofString "/") && decide ((Txt.split (Txt.slice x (some 1) none) (Str.ofString "/")).length ≤ 50) && decide (((npOf x).map (·.length)).sum + (npOf x).length ≤ 100) && decide ((normN x).length ≤ 300)
theorem t_nok : all1 (fun i => (List.range 6).all fun d => normB (dressOf (d : Int) (tP i))) = true := by decide +kernel
theorem normOk_of {x : Str} (h : normB x = true) : NormOk x := by
  unfold normB at h
  simp only [Bool.and_eq_true, decide_eq_true_eq] at h
  refine Classical.byContradiction fun ng9 => ?_
  obtain ⟨⟨⟨⟨⟨⟨h1, h2⟩, h3⟩, h4⟩, h5⟩, h6⟩, h7⟩ := h
  refine ng9 ?_
  clear ng9
  exact ⟨h1, h2, h3, h4, h5, h6, h7⟩
theorem folder_ok (z : Int) : NormOk (folderN z) := by
  rw [folderN_ix]
  exact normOk_of (List.all_eq_true.mp (all1_at t_nok (ix_lt z)) _ (List.mem_range.mpr (dig6 (z.fdiv 81))))
theorem t_sok : all1 (fun i => PyData.strOk (nm i)) = true := by decide +kernel
theorem nm_inj {i j : Nat} (hi : i < 39) (hj : j < 39) (e : nm i = nm j) : i = j := by
  have h := all2_at t_eq hi hj
  rw [e, beq_self_eq_true] at h
  simpa using h
theorem nm_facts {i : Nat} (hi : i < 39) : (nm i).length ≤ 300 ∧ (fileOf (nm i)).length ≤ 300 ∧ nm i ≠ Str.ofString "<string>" ∧ lo39 i ≤ i := by
  have h := all1_at t_len hi
  simp only [Bool.and_eq_true, decide_eq_true_eq, bne_iff_ne] at h
  exact ⟨h.1.1.1, h.1.1.2, h.1.2, h.2⟩
noncomputable def fL (i j : Nat) : Bool := decide (lo39 i ≤ j ∧ j < i)
theorem f_below {i j : Nat} (hi : i < 39) (hj : j < 39) : belowP (nm i) (nm j) = fL i j := by
  have h := all2_at t_cut hi hj
  exact eq_of_beq h
theorem f_desc {i j : Nat} (hi : i < 39) (hj : j < 39) : Txt.startswith (nm j) (nm i ++ Str.ofString ".") = fL i j := eq_of_beq (all2_at t_desc hi hj)
theorem f_file {i j : Nat} (hi : i < 39) (hj : j < 39) : Txt.startswith (fileOf (nm j)) (normS i ++ Str.ofString "/") = fL i j := eq_of_beq (all2_at t_file hi hj)
theorem ans_mod {i j : Nat} (hi : i < 39) (hj : j < 39) : ansP [nm i] [] (nm j) = (decide (j = i) || fL i j) := by
  unfold ansP ansB
  have e : decide (nm j ∈ [nm i]) = decide (j = i) := by
    by_cases q : j = i
    · subst q; simp
    · have : nm j ≠ nm i := fun e => q (nm_inj hj hi e)
      simp [q, this]
  simp only [List.any_cons, List.any_nil, Bool.or_false, f_desc hi hj, e]
theorem ans_dir {O : List Nat} (hO : ∀ i ∈ O, i < 39) {j : Nat} (hj : j < 39) : ansP [] (O.map normS) (nm j) = O.any fun i => fL i j := by
  unfold ansP ansB
  simp only [List.not_mem_nil, decide_false, List.any_nil, Bool.false_or, List.any_map]
  induction O with
  | nil => rfl
  | cons a l ih =>
    simp only [List.any_cons, Function.comp_apply] at ih ⊢
    rw [f_file (hO a (.head _)) hj, ih fun i hi => hO i (.tail _ hi)]
theorem ans_dir1 {i j : Nat} (hi : i < 39) (hj : j < 39) : ansP [] [normS i] (nm j) = fL i j := by
  have h := ans_dir (O := [i]) (by intro k hk; rw [List.mem_singleton.mp hk]; exact hi) hj
  rw [show [normS i] = [i].map normS from rfl, h]; simp
theorem ans_self {ms : List Str} {x : Str} (h : x ∈ ms) : ansP ms [] x = true := by
  unfold ansP ansB; simp [h]
theorem asc_cut (lo : Nat) : ∀ {l : List Nat}, l.Pairwise (· < ·) → l.drop (l.length - (l.filter fun j => decide (lo ≤ j)).length) = l.filter fun j => decide (lo ≤ j)
  | [], _ => rfl
  | a :: l, h => by
    have h' := List.pairwise_cons.mp h
    by_cases q : lo ≤ a
    · have e : (a :: l).filter (fun j => decide (lo ≤ j)) = a :: l := List.filter_eq_self.mpr fun x hx => by
        rcases List.mem_cons.mp hx with rfl | hx
        · exact decide_eq_true q
        · exact decide_eq_true (by have := h'.1 x hx; omega)
      rw [e, Nat.sub_self]; rfl
    · have e : (a :: l).filter (fun j => decide (lo ≤ j)) = l.filter fun j => decide (lo ≤ j) := by rw [List.filter_cons_of_neg (by simpa using q)]
      rw [e]
      have hl : (l.filter fun j => decide (lo ≤ j)).length ≤ l.length := List.length_filter_le _ _
      rw [show (a :: l).length - (l.filter fun j => decide (lo ≤ j)).length = (l.length - (l.filter fun j => decide (lo ≤ j)).length) + 1 by rw [List.length_cons]; omega, List.drop_succ_cons]
      exact asc_cut lo h'.2
end Mine
end
open PySem PySem.W PyProof.Rows in
example : Mine.RS := by intro M A Q E s h; w_top off; first | walk1 | skip; all_goals first | exact h | exact wpAny_pure h
section
set_option maxHeartbeats 8000000
namespace Mine
structure Asc (O : List Nat) : Prop where
  lt : ∀ i ∈ O, i < 39
  asc : O.Pairwise (· < ·)
theorem Asc.take {O : List Nat} (h : Asc O) (k : Nat) : Asc (O.take k) := ⟨fun i hi => h.lt i (List.mem_of_mem_take hi), h.asc.sublist (List.take_sublist _ _)⟩
theorem Asc.nodup {O : List Nat} (h : Asc O) : O.Nodup := h.asc.imp fun h => Nat.ne_of_lt h
theorem Asc.names {O : List Nat} (h : Asc O) : (O.map nm).Nodup := by
  have h2 := h.lt
  have h3 := h.nodup
  clear h
  induction O with
  | nil => exact List.nodup_nil
  | cons a l ih =>
    rw [List.map_cons, List.nodup_cons]
    have h4 := List.nodup_cons.mp h3
    refine ⟨fun hm => ?_, ih (fun i hi => h2 i (.tail _ hi)) h4.2⟩
    obtain ⟨j, hj, e⟩ := List.mem_map.mp hm
    exact h4.1 (nm_inj (h2 j (.tail _ hj)) (h2 a (.head _)) e ▸ hj)
theorem filter_names {O : List Nat} (hO : ∀ i ∈ O, i < 39) {p : Str → Bool} {q : Nat → Bool} (h : ∀ j, j < 39 → p (nm j) = q j) : (O.map nm).filter p = (O.filter q).map nm := by
  rw [List.filter_map]
  congr 1
  exact List.filter_congr fun j hj => h j (hO j hj)
theorem Asc.split {O : List Nat} (h : Asc O) {k : Nat} (hk : k < O.length) : O = O.take k ++ O[k] :: O.drop (k + 1) ∧ (∀ j ∈ O.take k, j < O[k]) ∧ (∀ j ∈ O.drop (k + 1), O[k] < j) := by
  have e : O = O.take k ++ O[k] :: O.drop (k + 1) := by rw [List.getElem_cons_drop]; exact (List.take_append_drop k O).symm
  refine ⟨e, ?_⟩
  have h2 := h.asc
  rw [e] at h2
  have h3 := List.pairwise_append.mp h2
  refine ⟨fun j hj => ?_, fun j hj => ?_⟩
  · have := h3.2.2 j hj O[k] List.mem_cons_self
    exact this
  · have := (List.pairwise_cons.mp h3.2.1).1 j hj
    exact this
theorem fL_iff {i j : Nat} : fL i j = true ↔ lo39 i ≤ j ∧ j < i := by unfold fL; exact decide_eq_true_iff
theorem fL_ge {i j : Nat} (h : i ≤ j) : fL i j = false := by unfold fL; exact decide_eq_false fun q => by omega
theorem getD_names {O : List Nat} {k : Nat} (hk : k < O.length) : (O.map nm).getD k Str.empty = nm O[k] := by
  rw [List.getD_eq_getElem?_getD, List.getElem?_map, List.getElem?_eq_getElem hk]; rfl
theorem below_names {O : List Nat} (h : Asc O) {k : Nat} (hk : k < O.length) : belowAt (O.map nm) k = ((O.take k).filter (fL O[k])).map nm := by
  unfold belowAt belowS
  rw [getD_names hk, ← List.map_take]
  exact filter_names (h.take k).lt fun j hj => f_below (h.lt _ (List.getElem_mem hk)) hj
theorem take_f {O : List Nat} (h : Asc O) {k : Nat} (hk : k < O.length) : (O.take k).filter (fL O[k]) = (O.take k).filter fun j => decide (lo39 O[k] ≤ j) := by
  refine List.filter_congr fun j hj => ?_
  have h2 := (h.split hk).2.1 j hj
  unfold fL
  by_cases q : lo39 O[k] ≤ j <;> simp [q, h2]
theorem whole_desc {O : List Nat} (h : Asc O) {k : Nat} (hk : k < O.length) : (O.map nm).filter (ansP [nm O[k]] []) = belowAt (O.map nm) k ++ [nm O[k]] := by
  obtain ⟨e, h1, h2⟩ := h.split hk
  rw [below_names h hk, filter_names h.lt (q := fun j => decide (j = O[k]) || fL O[k] j) fun j hj => ans_mod (h.lt _ (List.getElem_mem hk)) hj]
  have ef : ∀ p, O.filter p = (O.take k ++ O[k] :: O.drop (k + 1)).filter p := fun p => congrArg (List.filter p) e
  rw [ef, List.filter_append, List.filter_cons_of_pos (by simp)]
  have e1 : (O.take k).filter (fun j => decide (j = O[k]) || fL O[k] j) = (O.take k).filter (fL O[k]) := List.filter_congr fun j hj => by
    have := h1 j hj
    rw [decide_eq_false (by omega), Bool.false_or]
  have e2 : (O.drop (k + 1)).filter (fun j => decide (j = O[k]) || fL O[k] j) = [] := List.filter_eq_nil_iff.mpr fun j hj => by
    have := h2 j hj
    rw [decide_eq_false (by omega), Bool.false_or, fL_ge (by omega)]; decide
  rw [e1, e2, List.map_append]; rfl
theorem whole_dir {O : List Nat} (h : Asc O) {k : Nat} (hk : k < O.length) : (O.map nm).filter (ansP [] [normS O[k]]) = belowAt (O.map nm) k := by
  obtain ⟨e, h1, h2⟩ := h.split hk
  rw [below_names h hk, filter_names h.lt (q := fL O[k]) fun j hj => ans_dir1 (h.lt _ (List.getElem_mem hk)) hj]
  have ef : ∀ p, O.filter p = (O.take k ++ O[k] :: O.drop (k + 1)).filter p := fun p => congrArg (List.filter p) e
  rw [ef, List.filter_append, List.filter_cons_of_neg (by rw [fL_ge (Nat.le_refl _)]; decide)]
  have e2 : (O.drop (k + 1)).filter (fL O[k]) = [] := List.filter_eq_nil_iff.mpr fun j hj => by
    have := h2 j hj
    rw [fL_ge (by omega)]; decide
  rw [e2, List.append_nil]
theorem names_ok {O : List Nat} (h : ∀ i ∈ O, i < 39) : OkS (O.map nm) := fun y hy => by
  obtain ⟨i, hi, rfl⟩ := List.mem_map.mp hy
  exact all1_at t_sok (h i hi)
theorem turn_ok {O : List Nat} (h : Asc O) {k : Nat} (hk : k < O.length) {z : Int} (hz1 : 0 ≤ z) (hz2 : z < 10000000000) (hz : ixN z = O[k]) : TurnOk (O.map nm) k ((O.map nm).getD k Str.empty) z (belowAt (O.map nm) k) := by
  have hd := whole_desc h hk
  have hlen : (belowAt (O.map nm) k).length ≤ k := by
    rw [below_names h hk, List.length_map]
    exact Nat.le_trans (List.length_filter_le _ _) (by rw [List.length_take]; exact Nat.min_le_left _ _)
  rw [getD_names hk]
  refine ⟨?_, hz1, hz2, folder_ok z, hd, ?_, hlen, ?_, ?_, ?_⟩
  · unfold belowAt; rw [getD_names hk]
  · rw [normN_ix, hz]; exact whole_dir h hk
  · have e := below_names h hk
    rw [take_f h hk] at e
    rw [e, ← List.map_take, ← List.map_drop, List.length_map]
    have hl : (O.take k).length = k := by rw [List.length_take]; omega
    have := asc_cut (lo39 O[k]) (h.take k).asc
    rw [hl] at this
    rw [this]
  · rw [← hd]; exact fun y hy => names_ok h.lt y ((List.mem_filter.mp hy).1)
  · rw [← hd]; exact h.names.filter _
theorem Asc.before {O : List Nat} (h : Asc O) {k : Nat} (hk : k < O.length) {j : Nat} (hj : j ∈ O) (hl : j < O[k]) : j ∈ O.take k := by
  obtain ⟨e, h1, h2⟩ := h.split hk
  rw [e] at hj
  rcases List.mem_append.mp hj with hj | hj
  · exact hj
  · rcases List.mem_cons.mp hj with rfl | hj
    · exact absurd hl (Nat.lt_irrefl _)
    · exact absurd hl (Nat.lt_asymm (h2 j hj))
theorem mem_flatB {os1 : List Str} {n : Nat} {x : Str} : x ∈ flatB os1 n ↔ ∃ k, k < n ∧ x ∈ belowAt os1 k := by
  unfold flatB
  rw [List.mem_flatten]
  constructor
  · rintro ⟨l, hl, hx⟩
    obtain ⟨k, hk, rfl⟩ := List.mem_map.mp hl
    exact ⟨k, List.mem_range.mp hk, hx⟩
  · rintro ⟨k, hk, hx⟩
    exact ⟨_, List.mem_map.mpr ⟨k, List.mem_range.mpr hk, rfl⟩, hx⟩
theorem within_ok {O : List Nat} (h : Asc O) : (O.map nm).filter (ansP [] (O.map normS)) = (O.map nm).filter fun x => decide (x ∈ flatB (O.map nm) (O.map nm).length) := by
  refine List.filter_congr fun x hx => ?_
  obtain ⟨j, hj, rfl⟩ := List.mem_map.mp hx
  rw [ans_dir h.lt (h.lt j hj), Bool.eq_iff_iff, List.any_eq_true, decide_eq_true_iff, mem_flatB]
  constructor
  · rintro ⟨i, hi, hf⟩
    obtain ⟨k, hk, rfl⟩ := List.mem_iff_getElem.mp hi
    refine ⟨k, by rw [List.length_map]; exact hk, ?_⟩
    rw [below_names h hk]
    exact List.mem_map.mpr ⟨j, List.mem_filter.mpr ⟨h.before hk hj (fL_iff.mp hf).2, hf⟩, rfl⟩
  · rintro ⟨k, hk, hm⟩
    rw [List.length_map] at hk
    rw [below_names h hk] at hm
    obtain ⟨i, hi, e⟩ := List.mem_map.mp hm
    have hi2 := List.mem_filter.mp hi
    have := nm_inj (h.lt i (List.mem_of_mem_take hi2.1)) (h.lt j hj) e
    subst this
    exact ⟨_, List.getElem_mem hk, hi2.2⟩
structure PureOk (zs : List Int) (os1 : List Str) : Prop where
  heq : os1 = zs.map nameN
  hb : ∀ z ∈ zs, 0 ≤ z ∧ z < 10000000000
  h1 : 1 ≤ zs.length
  hl : zs.length ≤ 7
  ok : OkS os1
  hnd : os1.Nodup
  hlen : ∀ y ∈ os1, y.length ≤ 300 ∧ (fileOf y).length ≤ 300
  hmem0 : ∀ y ∈ os1, memo0 y = none
  hno : ∀ z ∈ zs, NormOk (folderN z)
  TO : ∀ k, k < os1.length → TurnOk os1 k (os1.getD k Str.empty) (zs.getD k 0) (belowAt os1 k)
  h11 : os1.filter (ansP os1 []) = os1
  h12 : os1.filter (ansP [] ((zs.map folderN).map normN)) = os1.filter fun x => decide (x ∈ flatB os1 os1.length)
theorem PureOk.of {zs : List Int} (h : Asc (zs.map ixN)) (hb : ∀ z ∈ zs, 0 ≤ z ∧ z < 10000000000) (h1 : 1 ≤ zs.length) (hl : zs.length ≤ 7) : PureOk zs (zs.map nameN) := by
  have e1 : zs.map nameN = (zs.map ixN).map nm := by
    rw [List.map_map]; exact List.map_congr_left fun z _ => nameN_ix z
  have e2 : (zs.map folderN).map normN = (zs.map ixN).map normS := by
    rw [List.map_map, List.map_map]; exact List.map_congr_left fun z _ => normN_ix z
  have hm : ∀ y ∈ zs.map nameN, ∃ i, i < 39 ∧ y = nm i := fun y hy => by
    obtain ⟨z, _, rfl⟩ := List.mem_map.mp hy
    exact ⟨_, ix_lt z, nameN_ix z⟩
  refine ⟨rfl, hb, h1, hl, ?_, ?_, ?_, ?_, fun z _ => folder_ok z, ?_, ?_, ?_⟩
  · rw [e1]; exact names_ok h.lt
  · rw [e1]; exact h.names
  · intro y hy
    obtain ⟨i, hi, rfl⟩ := hm y hy
    exact ⟨(nm_facts hi).1, (nm_facts hi).2.1⟩
  · intro y hy
    obtain ⟨i, hi, rfl⟩ := hm y hy
    exact if_neg (nm_facts hi).2.2.1
  · intro k hk
    rw [List.length_map] at hk
    have hk2 : k < (zs.map ixN).length := by rw [List.length_map]; exact hk
    have ez : zs.getD k 0 = zs[k] := by rw [List.getD_eq_getElem?_getD, List.getElem?_eq_getElem hk]; rfl
    have hz := hb _ (List.getElem_mem hk)
    rw [e1, ez]
    exact turn_ok h hk2 hz.1 hz.2 (by rw [List.getElem_map])
  · exact List.filter_eq_self.mpr fun y hy => ans_self hy
  · rw [e2, e1]; exact within_ok h
end Mine
end
section
set_option maxHeartbeats 8000000
namespace Mine
noncomputable def rk (zs : List Int) (i : Nat) : Nat := ixN (zs.getD i 0)
theorem rk_inF (zs : List Int) : ∀ i j, i < (zs.map nameN).length → j < (zs.map nameN).length → (inF ((zs.map nameN).getD i Str.empty) ((zs.map nameN).getD j Str.empty) < 0 ↔ rk zs i < rk zs j) := by
  intro i j hi hj
  rw [List.length_map] at hi hj
  have e : ∀ k, k < zs.length → (zs.map nameN).getD k Str.empty = nm (rk zs k) := fun k hk => by
    unfold rk
    rw [← nameN_ix, List.getD_eq_getElem?_getD, List.getElem?_map, List.getD_eq_getElem?_getD, List.getElem?_eq_getElem hk]; rfl
  rw [e i hi, e j hj]
  have h := eq_of_beq (all2_at t_inF (ix_lt (zs.getD i 0)) (ix_lt (zs.getD j 0)))
  exact ⟨fun q => of_decide_eq_true (h ▸ decide_eq_true q), fun q => of_decide_eq_true (h.symm ▸ decide_eq_true q)⟩
theorem rk_key (zs : List Int) : ∀ i j, i < zs.length → j < zs.length → (lexLt (keyN (zs.getD i 0)) (keyN (zs.getD j 0)) = true ↔ rk zs i < rk zs j) := by
  intro i j _ _
  rw [keyN_ix, keyN_ix]
  have h := eq_of_beq (all2_at t_key39 (ix_lt (zs.getD i 0)) (ix_lt (zs.getD j 0)))
  rw [h]; exact decide_eq_true_iff
theorem rk_inj {zs : List Int} (hnd : (zs.map partsN).Nodup) : ∀ i j, i < zs.length → j < zs.length → rk zs i = rk zs j → i = j := by
  intro i j hi hj e
  have e2 : partsN (zs.getD i 0) = partsN (zs.getD j 0) := by rw [← ix_tP, ← ix_tP]; exact congrArg tP e
  have hi' : i < (zs.map partsN).length := by rw [List.length_map]; exact hi
  have hj' : j < (zs.map partsN).length := by rw [List.length_map]; exact hj
  refine (List.getElem_inj (h₀ := hi') (h₁ := hj') hnd).mp ?_
  rw [List.getElem_map, List.getElem_map]
  rw [List.getD_eq_getElem?_getD, List.getD_eq_getElem?_getD, List.getElem?_eq_getElem hi, List.getElem?_eq_getElem hj] at e2
  exact e2
theorem asc_of {n : Nat} {r : Nat → Nat} {q : Array Nat} (a : Arr n q) (u : UpTo r q n) : (q.toList.map r).Pairwise (· < ·) := by
  rw [List.pairwise_iff_getElem]
  intro i j hi hj hij
  rw [List.length_map, Array.length_toList, a.size] at hi hj
  have g : ∀ k (hk : k < n), q.getD k 0 = q[k]'(by rw [a.size]; exact hk) := fun k hk => by simp [Array.getD, a.size, hk]
  have := u i j hij hj
  rw [g i hi, g j hj] at this
  simpa using this
theorem asc_unique {n : Nat} {r : Nat → Nat} {q q' : Array Nat} (a : Arr n q) (u : UpTo r q n) (a' : Arr n q') (u' : UpTo r q' n) : q.toList.map r = q'.toList.map r := by
  refine List.Perm.eq_of_pairwise (le := fun x y => x < y) (fun x y _ _ h1 h2 => absurd h2 (Nat.lt_asymm h1)) (asc_of a u) (asc_of a' u') (List.Perm.map _ ?_)
  exact (Array.perm_iff_toList_perm.mp a.perm).trans (Array.perm_iff_toList_perm.mp a'.perm).symm
theorem arr_mem {n : Nat} {q : Array Nat} (a : Arr n q) : ∀ i ∈ q.toList, i < n := fun i hi => by
  have h : q.toList.Perm (List.range n) := by simpa using Array.perm_iff_toList_perm.mp a.perm
  simpa using h.mem_iff.mp hi
theorem ints_pick {us : List Value} {zs : List Int} (hI : IntsAre us zs) : ∀ {l : List Nat}, (∀ i ∈ l, i < zs.length) → IntsAre (l.map fun i => us.getD i Value.none) (l.map fun i => zs.getD i 0)
  | [], _ => .nil
  | a :: l, h => by
    obtain ⟨t, e⟩ := ints_at hI (h a (.head _))
    rw [List.map_cons, List.map_cons, show us.getD a Value.none = .int (zs.getD a 0) t by rw [List.getD_eq_getElem?_getD, e]; rfl]
    exact .cons _ _ (ints_pick hI fun i hi => h i (.tail _ hi))
theorem in_order {zs : List Int} {q q' : Array Nat} (hb : ∀ z ∈ zs, 0 ≤ z ∧ z < 10000000000) (h1 : 1 ≤ zs.length) (hl : zs.length ≤ 7) (a : Arr zs.length q) (u : UpTo (rk zs) q zs.length) (a' : Arr zs.length q') (u' : UpTo (rk zs) q' zs.length) :
    PureOk (q'.toList.map fun i => zs.getD i 0) (q.toList.map fun i => (zs.map nameN).getD i Str.empty) := by
  have e : (q.toList.map fun i => (zs.map nameN).getD i Str.empty) = (q'.toList.map fun i => zs.getD i 0).map nameN := by
    have e1 : (q.toList.map fun i => (zs.map nameN).getD i Str.empty) = (q.toList.map (rk zs)).map nm := by
      rw [List.map_map]
      refine List.map_congr_left fun i hi => ?_
      have hk := arr_mem a i hi
      show _ = nm (rk zs i)
      unfold rk
      rw [← nameN_ix, List.getD_eq_getElem?_getD, List.getElem?_map, List.getD_eq_getElem?_getD, List.getElem?_eq_getElem hk]; rfl
    have e2 : (q'.toList.map fun i => zs.getD i 0).map nameN = (q'.toList.map (rk zs)).map nm := by
      rw [List.map_map, List.map_map]
      exact List.map_congr_left fun i _ => nameN_ix _
    rw [e1, e2, asc_unique a u a' u']
  rw [e]
  have hl' : q'.toList.length = zs.length := by rw [Array.length_toList, a'.size]
  refine PureOk.of ⟨fun i hi => ?_, ?_⟩ (fun z hz => ?_) (by rw [List.length_map, hl']; exact h1) (by rw [List.length_map, hl']; exact hl)
  · obtain ⟨z, _, rfl⟩ := List.mem_map.mp hi
    exact ix_lt z
  · have := asc_of a' u'
    rw [List.map_map]; exact this
  · obtain ⟨i, hi, rfl⟩ := List.mem_map.mp hz
    have hk := arr_mem a' i hi
    rw [List.getD_eq_getElem?_getD, List.getElem?_eq_getElem hk]
    exact hb _ (List.getElem_mem hk)
theorem names_facts (zs : List Int) : ∀ y ∈ zs.map nameN, y.length ≤ 300 ∧ y ≠ Str.ofString "<string>" := fun y hy => by
  obtain ⟨z, _, rfl⟩ := List.mem_map.mp hy
  rw [nameN_ix]
  exact ⟨(nm_facts (ix_lt z)).1, (nm_facts (ix_lt z)).2.2.1⟩
end Mine
end
section
set_option maxHeartbeats 8000000
local macro_rules | `(tactic| k_mem) => `(tactic| (apply Mine.mget; k_extra "q at"))
namespace Mine
local macro_rules | `(tactic| k_ne) => `(tactic| first | (refine neN ?_; (try dsimp only); omega) | exact Apart.ne (by assumption) (by k_mem) | exact Apart.ne' (by assumption) (by k_mem))
theorem dat_ne {h₀ h : Heap} {L : Addr} {news : List (Addr × Obj)} {a b : Addr} {x y : Obj} (N : News h₀ L h news) (ha : (a, x) ∈ news) (hb : (b, y) ∈ news) (hd : x.data = y.data → False) : @Ne Nat a b := fun e => by
  have h1 := (N _ ha).1
  have h2 := (N _ hb).1
  have e' : a = b := e
  subst e'
  rw [h1] at h2
  exact hd (congrArg Obj.data (Option.some.inj h2))
theorem all_snoc {d a : Addr} {o : Obj} {l : List (Addr × Obj)} (t : ∀ p ∈ l, p.1 ≠ d) (h : a ≠ d) : ∀ p ∈ l ++ [(a, o)], p.1 ≠ d := fun p hp => by
  rcases List.mem_append.mp hp with hp | hp
  · exact t p hp
  · rw [List.mem_singleton.mp hp]; exact h
theorem mem_cells {p a b c1 c2 c3 c4 c5 c6 : Addr × Obj} {l : List (Addr × Obj)} (h : p ∈ c6 :: c5 :: c4 :: c3 :: c2 :: c1 :: []) : p ∈ a :: b :: c6 :: c5 :: c4 :: c3 :: c2 :: c1 :: l := .tail _ (.tail _ (List.mem_append_left l h))
theorem file_len (x : Str) : (Txt.replace x (Str.ofString ".") (Str.ofString "/")).length ≤ (fileOf x).length := by
  show (Txt.replace x (Str.ofString ".") (Str.ofString "/")).cps.size ≤ (Array.append (Str.ofString "/").cps (Txt.replace x (Str.ofString ".") (Str.ofString "/")).cps).size
  have := Array.size_append (xs := (Str.ofString "/").cps) (ys := (Txt.replace x (Str.ofString ".") (Str.ofString "/")).cps)
  show _ ≤ ((Str.ofString "/").cps ++ (Txt.replace x (Str.ofString ".") (Str.ofString "/")).cps).size
  omega
theorem lawAll :
 ∀ {w : World} {p : Program} {loose : List Str} {mean : ExcName → Option Value} {mg mb : Str → Option Value} {dp un : Nat} {gd : Option (List Code)} {A₀ : Around} {base h₀ h : Heap} {g : Array GenState} {d : Drawn} {tk : Nat} {os : OsState} {L : Addr} {m : Str → Option Value} {Q : Flow → Shared → Prop} {E : Value → Shared → Prop} {sc : Scope} {x1 x2 x3 x4 x5 x6 : Obj} {v1 v2 v3 v4 v5 v6 : Option Value} {ls : Addr} {vs : List Value} {ns : List Int}
 (B : Below A₀ base [] h₀) (X : (hd.heap_1 w.params).In h₀) (T : Top p loose mean mg mb h₀) (hdp : dp + 640 < recursionLimit) (hu : un + 4000 < cLine) (esc : sc = lawScope w.params) (F : Fr h₀ L h m) (ie2 : Str.ofString "IndexError" ∉ loose) (ie3 : Str.ofString "IndexError" ∉ (recsOf p).map (·.name)) (ie4 : Str.ofString "IndexError" ∉ (litsOf p).map (·.1)) (ie5 : Str.ofString "IndexError" ∉ (clssOf p loose).map (·.name)) (d1 : x1.data = .cell v1) (d2 : x2.data = .cell v2) (d3 : x3.data = .cell v3) (d4 : x4.data = .cell v4) (d5 : x5.data = .cell v5) (d6 : x6.data = .cell v6) (Nm : ∀ q ∈ [(Str.ofString "script", Value.ref ls)], m q.1 = some q.2) (N : News h₀ L h (((L + 1 + 1 + 1 + 1 + 1 + 1), x6) :: ((L + 1 + 1 + 1 + 1 + 1), x5) :: ((L + 1 + 1 + 1 + 1), x4) :: ((L + 1 + 1 + 1), x3) :: ((L + 1 + 1), x2) :: ((L + 1), x1) :: (nat_lit 23, tabObj #[]) :: (nat_lit 130, tabObj #[]) :: [])) (hls : h₀.IsList ls vs.toArray) (hns : IntsAre vs ns) (hn63 : ns.length ≤ 63) (X1 : ∃ o, h₀.get? (nat_lit 1) = some o) (X4 : h₀.get? (nat_lit 4) = some { cls := .type "module", dict := some (nat_lit 0) }) (X5 : h₀.get? (nat_lit 5) = some { cls := .type "module", dict := some (nat_lit 3) }) (h23 : h₀.get? (nat_lit 23) = none) (hL23 : L ≠ nat_lit 23) (C : CodeHd h₀ (nat_lit 132) (nat_lit 130)) (hret : ∀ h' tk' m' p130 p23, Fr h₀ L h' m' → News h₀ L h' ((nat_lit 130, tabObj p130) :: (nat_lit 23, tabObj p23) :: []) → Q (.ret (.bool true)) ⟨h', g, d, tk', os⟩), wpAny (model PySem.Challenge.rw_of0013_01.prog w) ((aTop dp un gd []).deeper (lawEnv sc L)) (execs (lawStmt w.params 0 :: lawStmt w.params 1 :: lawStmt w.params 2 :: lawStmt w.params 3 :: lawStmt w.params 4 :: lawStmt w.params 5 :: lawStmt w.params 6 :: lawStmt w.params 7 :: lawStmt w.params 8 :: lawStmt w.params 9 :: lawStmt w.params 10 :: lawStmt w.params 11 :: lawStmt w.params 12 :: lawStmt w.params 13 :: lawStmt w.params 14 :: lawStmt w.params 15 :: lawStmt w.params 16 :: []) (lawEnv sc L)) Q (fun e s' => wpAny (model PySem.Challenge.rw_of0013_01.prog w) ((aTop dp un gd []).deeper (lawEnv sc L)) (leaving (lawEnv sc L) e) (fun _ s'' => E e s'') (fun e' s'' => E e' s'') s') ⟨h, g, d, tk, os⟩ := by
  iterate 11 refine @Mine.pad _ ?_
  iterate 3 k_extra "pkG"
  iterate 29 k_extra "pk9"
  rename_i w p loose mean mg mb dp un gd A₀ base h₀ h g d tk os L m Q E sc x1 x2 x3 x4 x5 x6 v1 v2 v3 v4 v5 v6 ls vs ns B X T hdp hu esc F ie2 ie3 ie4 ie5 d1 d2 d3 d4 d5 d6 Nm N hls hns hn63 X1 X4 X5 h23 hL23 C hret
  refine law01 B X T hdp hu esc F Nm N hls hns hn63 ?_
  clear F Nm N
  intro Dn us nn zs h1 tk1 m1 F1 a1 N1 ne1 hI hb hl1 hl7 hnd
  refine law2 B X T hdp hu esc F1 (by (repeat (first | exact List.forall_mem_nil _ | refine List.forall_mem_cons.mpr ⟨by assumption, ?_⟩))) N1 hI hb hl7 ?_
  intro Dm ys h2 tk2 m2 F2 a1 a2 N2 ne2 hY
  have N2x : News h₀ L h2 ((Dm, LCg.lst ys) :: (Dn, listOf us.toArray nn) :: (nat_lit 23, tabObj #[]) :: ((L + 1 + 1 + 1 + 1 + 1 + 1), x6) :: ((L + 1 + 1 + 1 + 1 + 1), x5) :: ((L + 1 + 1 + 1 + 1), x4) :: ((L + 1 + 1 + 1), x3) :: ((L + 1 + 1), x2) :: ((L + 1), x1) :: (nat_lit 130, tabObj #[]) :: []) := by ((repeat (first | exact nws_nil | refine nws_cons N2 (by k_mem) ?_)); (try exact nws_tail N2 (fun _ hp => by (repeat (first | exact hp | refine List.mem_cons_of_mem _ ?_)))))
  have p23' : ∀ q ∈ ((Dm, LCg.lst ys) :: (Dn, listOf us.toArray nn) :: ((L + 1 + 1 + 1 + 1 + 1 + 1), x6) :: ((L + 1 + 1 + 1 + 1 + 1), x5) :: ((L + 1 + 1 + 1 + 1), x4) :: ((L + 1 + 1 + 1), x3) :: ((L + 1 + 1), x2) :: ((L + 1), x1) :: (nat_lit 130, tabObj #[]) :: [] : List (Addr × Obj)), q.1 ≠ nat_lit 23 := by
    refine all_cons (dat_ne N2x (b := nat_lit 23) (by k_mem) (by k_mem) (fun e => by cases e)) (all_cons (dat_ne N2x (b := nat_lit 23) (by k_mem) (by k_mem) (fun e => by cases e)) ?_)
    repeat first
      | exact List.forall_mem_nil _
      | refine all_cons (dat_ne N2x (b := nat_lit 23) (by k_mem) (by k_mem) (fun e => by first | (rw [d1] at e; cases e) | (rw [d2] at e; cases e) | (rw [d3] at e; cases e) | (rw [d4] at e; cases e) | (rw [d5] at e; cases e) | (rw [d6] at e; cases e))) ?_
      | refine all_cons (by decide) ?_
  have p130' : ∀ q ∈ (((L + 1 + 1 + 1 + 1 + 1 + 1), x6) :: ((L + 1 + 1 + 1 + 1 + 1), x5) :: ((L + 1 + 1 + 1 + 1), x4) :: ((L + 1 + 1 + 1), x3) :: ((L + 1 + 1), x2) :: ((L + 1), x1) :: [] : List (Addr × Obj)), q.1 ≠ nat_lit 130 := by
    repeat first
      | exact List.forall_mem_nil _
      | refine all_cons (dat_ne N2x (b := nat_lit 130) (by k_mem) (by k_mem) (fun e => by first | (rw [d1] at e; cases e) | (rw [d2] at e; cases e) | (rw [d3] at e; cases e) | (rw [d4] at e; cases e) | (rw [d5] at e; cases e) | (rw [d6] at e; cases e))) ?_
  have n130 : @Ne Nat Dn (nat_lit 130) := dat_ne N2x (by k_mem) (by k_mem) (fun e => by cases e)
  have neD : ∀ q ∈ (((L + 1 + 1 + 1 + 1 + 1 + 1), x6) :: ((L + 1 + 1 + 1 + 1 + 1), x5) :: ((L + 1 + 1 + 1 + 1), x4) :: ((L + 1 + 1 + 1), x3) :: ((L + 1 + 1), x2) :: ((L + 1), x1) :: [] : List (Addr × Obj)), q.1 ≠ Dn := fun q hq => ne1 q (by
    simp only [List.mem_cons, List.not_mem_nil, or_false] at hq ⊢
    rcases hq with e | e | e | e | e | e <;> simp [e])
  clear N1 N2 F1 ne1 ne2
  refine law3 (zs := zs) B X T hdp hu esc F2 (rk zs) (by (repeat (first | exact List.forall_mem_nil _ | refine List.forall_mem_cons.mpr ⟨by assumption, ?_⟩))) N2x hY X1 X4 X5 h23 hL23 p23' (names_facts zs) (by rw [List.length_map]; exact hl1) (by rw [List.length_map]; omega) (rk_inF zs) (fun i j hi hj => rk_inj hnd i j (by simpa using hi) (by simpa using hj)) ?_
  intro Do c out os1 q3 h3 tk3 m3 p23 F3 a1 a2 N3 lt3 hS hos A3 U3
  rw [List.length_map] at A3 U3
  have N3x : News h₀ L h3 ((Do, listOf out.toArray c) :: (Dn, listOf us.toArray nn) :: (nat_lit 130, tabObj #[]) :: ((L + 1 + 1 + 1 + 1 + 1 + 1), x6) :: ((L + 1 + 1 + 1 + 1 + 1), x5) :: ((L + 1 + 1 + 1 + 1), x4) :: ((L + 1 + 1 + 1), x3) :: ((L + 1 + 1), x2) :: ((L + 1), x1) :: (nat_lit 23, tabObj p23) :: []) := by ((repeat (first | exact nws_nil | refine nws_cons N3 (by k_mem) ?_)); (try exact nws_tail N3 (fun _ hp => by (repeat (first | exact hp | refine List.mem_cons_of_mem _ ?_)))))
  have o130 : @Ne Nat Do (nat_lit 130) := dat_ne N3x (by k_mem) (by k_mem) (fun e => by cases e)
  have oDn : @Ne Nat Do Dn := Nat.ne_of_gt (lt3 _ (.head _))
  have x23 : @Ne Nat (nat_lit 23) Dn := dat_ne N3x (by k_mem) (by k_mem) (fun e => by cases e)
  clear N2x N3 F2 hY lt3 p23'
  refine law4 B X T hdp hu esc F3 (rk zs) (by (repeat (first | exact List.forall_mem_nil _ | refine List.forall_mem_cons.mpr ⟨by assumption, ?_⟩))) N3x hI hb hl1 hl7 o130 n130 (all_snoc p130' (by decide)) (all_snoc neD x23) oDn C (rk_key zs) (rk_inj hnd) ?_
  clear N3x F3
  intro nn4 q4 h4 tk4 m4 p130 F4 a1 a2 N4 A4 U4
  have P := in_order hb hl1 hl7 A3 U3 A4 U4
  have hI4 := ints_pick hI (arr_mem A4)
  rw [← hos] at P
  obtain ⟨zq, ez⟩ : ∃ zq, zq = q4.toList.map fun i => zs.getD i 0 := ⟨_, rfl⟩
  rw [← ez] at P hI4
  obtain ⟨uq, eu⟩ : ∃ uq, uq = q4.toList.map fun i => us.getD i Value.none := ⟨_, rfl⟩
  rw [← eu] at N4 hI4
  clear ez eu A3 A4 U3 U4 hos hnd hI hb hl1 hl7 neD p130' o130 n130
  have hl := P.hl
  have hlo : os1.length = zq.length := by rw [P.heq, List.length_map]
  have hl7 : os1.length ≤ 7 := by omega
  have hl1 : 1 ≤ os1.length := by have := P.h1; omega
  refine law5 B X T hdp hu esc F4 (by (repeat (first | exact List.forall_mem_nil _ | refine List.forall_mem_cons.mpr ⟨by assumption, ?_⟩))) N4 hI4 P.hb hl hS P.heq P.ok ?_
  clear N4 F4
  intro h5 tk5 m5 F5 a1 a2 N5
  have N5x : News h₀ L h5 ((Do, listOf out.toArray c) :: (Dn, listOf uq.toArray nn4) :: ((L + 1 + 1 + 1 + 1 + 1 + 1), x6) :: ((L + 1 + 1 + 1 + 1 + 1), x5) :: ((L + 1 + 1 + 1 + 1), x4) :: ((L + 1 + 1 + 1), x3) :: ((L + 1 + 1), x2) :: ((L + 1), x1) :: (nat_lit 130, tabObj p130) :: (nat_lit 23, tabObj p23) :: []) := by ((repeat (first | exact nws_nil | refine nws_cons N5 (by k_mem) ?_)); (try exact nws_tail N5 (fun _ hp => by (repeat (first | exact hp | refine List.mem_cons_of_mem _ ?_)))))
  clear N5
  have w : ∀ {a : Addr} {x : Obj} {v : Option Value}, (a, x) ∈ (((L + 1 + 1 + 1 + 1 + 1 + 1), x6) :: ((L + 1 + 1 + 1 + 1 + 1), x5) :: ((L + 1 + 1 + 1 + 1), x4) :: ((L + 1 + 1 + 1), x3) :: ((L + 1 + 1), x2) :: ((L + 1), x1) :: [] : List (Addr × Obj)) → x.data = .cell v → ∀ p ∈ ((nat_lit 130, tabObj p130) :: (nat_lit 23, tabObj p23) :: [] : List (Addr × Obj)), p.1 ≠ a := fun {a x v} ha hx => all_cons (dat_ne N5x (by k_mem) (mem_cells ha) (fun e => by rw [hx] at e; cases e)) (all_cons (dat_ne N5x (by k_mem) (mem_cells ha) (fun e => by rw [hx] at e; cases e)) (List.forall_mem_nil _))
  have w1 := w (by k_mem) d1
  have w2 := w (by k_mem) d2
  have w3 := w (by k_mem) d3
  have w4 := w (by k_mem) d4
  have w5 := w (by k_mem) d5
  have w6 := w (by k_mem) d6
  clear w
  refine law6 B X T hdp hu esc F5 (by (repeat (first | exact List.forall_mem_nil _ | refine List.forall_mem_cons.mpr ⟨by assumption, ?_⟩))) N5x hS hl7 (fun y hy => ⟨(P.hlen y hy).1, Nat.le_trans (file_len y) (P.hlen y hy).2⟩) ?_
  intro Df fs h6 tk6 m6 F6 a1 a2 a3 N6 ne6 hF
  clear N5x F5 ne6
  refine law7 B X T hdp hu esc F6 (by (repeat (first | exact List.forall_mem_nil _ | refine List.forall_mem_cons.mpr ⟨by assumption, ?_⟩))) N6 d1 d2 d3 d4 d5 d6 (cell_ne N6 (by k_mem) (by k_mem) d2) (cell_ne N6 (by k_mem) (by k_mem) d2) (dat_ne N6 (by k_mem) (by k_mem) (fun e => by rw [d2] at e; cases e)) w2 ?_
  clear N6 F6
  intro Di x2' h7 tk7 m7 d2' F7 a1 a2 a3 N7 lt7
  have e1 : @Ne Nat Di Df := Nat.ne_of_gt lt7.1
  have e2 : @Ne Nat Di Do := Nat.ne_of_gt lt7.2.1
  have e3 : @Ne Nat Di Dn := Nat.ne_of_gt lt7.2.2
  clear lt7
  have wi : ∀ p ∈ ((nat_lit 130, tabObj p130) :: (nat_lit 23, tabObj p23) :: [] : List (Addr × Obj)), p.1 ≠ Di := all_cons (dat_ne N7 (by k_mem) (by k_mem) (fun e => by cases e)) (all_cons (dat_ne N7 (by k_mem) (by k_mem) (fun e => by cases e)) (List.forall_mem_nil _))
  refine law8 (zs := zq) B X T hdp hu esc F7 ie2 ie3 ie4 ie5 d1 d2' d3 d4 d5 d6 hS hF hl7 P.hnd P.hlen P.hmem0 e1 e2 e3 w1 w3 w4 wi hI4 hlo.symm P.TO (by (repeat (first | exact List.forall_mem_nil _ | refine List.forall_mem_cons.mpr ⟨by assumption, ?_⟩))) N7 ?_
  clear N7 F7
  intro inn ci x1' x3' x4' h8 tk8 m8 u1 u3 u4 d1' d3' d4' hIn F8 a1 a2 a3 N8
  have N8x : News h₀ L h8 ((Do, listOf out.toArray c) :: (Df, LCg.lst fs) :: (Dn, listOf uq.toArray nn4) :: (Di, listOf inn.toArray ci) :: ((L + 1 + 1 + 1 + 1 + 1 + 1), x6) :: ((L + 1 + 1 + 1 + 1 + 1), x5) :: ((L + 1 + 1 + 1 + 1), x4') :: ((L + 1 + 1 + 1), x3') :: ((L + 1 + 1), x2') :: ((L + 1), x1') :: (nat_lit 130, tabObj p130) :: (nat_lit 23, tabObj p23) :: []) := by ((repeat (first | exact nws_nil | refine nws_cons N8 (by k_mem) ?_)); (try exact nws_tail N8 (fun _ hp => by (repeat (first | exact hp | refine List.mem_cons_of_mem _ ?_)))))
  clear N8
  refine law9 B X T hdp hu esc F8 d5 (cell_ne N8x (by k_mem) (by k_mem) d5) (cell_ne N8x (by k_mem) (by k_mem) d5) (dat_ne N8x (by k_mem) (by k_mem) (fun e => by rw [d5] at e; cases e)) (cell_ne N8x (by k_mem) (by k_mem) d5) w5 hS hl7 hl1 P.hnd (fun y hy => (P.hlen y hy).1) (by (repeat (first | exact List.forall_mem_nil _ | refine List.forall_mem_cons.mpr ⟨by assumption, ?_⟩))) N8x ?_
  clear F8
  intro xa dxa Sa Da Ia sa ia ta1 ta2 ta3 nda nla dsa x5' h9 tk9 m9 d5' F9 a1 a2 a3 N9 Ra Ma Aa1 Aa2 Aa3 Aa4 Aa5
  clear N8x
  refine law10 (zs := zq) B X T hdp hu esc F9 d6 (cell_ne N9 (by k_mem) (by k_mem) d6) (cell_ne N9 (by k_mem) (by k_mem) d6) (dat_ne N9 (by k_mem) (by k_mem) (fun e => by rw [d6] at e; cases e)) (cell_ne N9 (by k_mem) (by k_mem) d6) w6 ⟨(ap_ne Aa1 (by k_mem)).symm, (ap_ne Aa2 (by k_mem)).symm, (ap_ne Aa3 (by k_mem)).symm, (ap_ne Aa4 (by k_mem)).symm, (ap_ne Aa5 (by k_mem)).symm⟩ hI4 P.hb P.h1 hl P.hno (by (repeat (first | exact List.forall_mem_nil _ | refine List.forall_mem_cons.mpr ⟨by assumption, ?_⟩))) N9 ?_
  clear N9 F9
  intro xb dxb Sb Dbb Ib sb ib tb1 tb2 tb3 ndb nlb dsb x6' h10 tk10 m10 d6' F10 a1 a2 a3 N10 Rb Mb Ab1 Ab2 Ab3 Ab4 Ab5
  have N10x : News h₀ L h10 ((Ia, ia) :: (Da, listOf dsa.toArray nla) :: (Sa, sa) :: (xa, instObj 86 dxa) :: (dxa, dictOf (ignD w.params ta1 ta2 ta3 Sa Da Ia) nda) :: ((L + 1 + 1 + 1 + 1 + 1), x5') :: (Df, LCg.lst fs) :: (Do, listOf out.toArray c) :: (Ib, ib) :: (Dbb, listOf dsb.toArray nlb) :: (Sb, sb) :: (xb, instObj 86 dxb) :: (dxb, dictOf (ignD w.params tb1 tb2 tb3 Sb Dbb Ib) ndb) :: (Dn, listOf uq.toArray nn4) :: (Di, listOf inn.toArray ci) :: ((L + 1), x1') :: ((L + 1 + 1), x2') :: ((L + 1 + 1 + 1), x3') :: ((L + 1 + 1 + 1 + 1), x4') :: ((L + 1 + 1 + 1 + 1 + 1 + 1), x6') :: (nat_lit 130, tabObj p130) :: (nat_lit 23, tabObj p23) :: []) := by ((repeat (first | exact nws_nil | refine nws_cons N10 (by k_mem) ?_)); (try exact nws_tail N10 (fun _ hp => by (repeat (first | exact hp | refine List.mem_cons_of_mem _ ?_)))))
  have AIa : Apart Ia ((Da, listOf dsa.toArray nla) :: (Sa, sa) :: (xa, instObj 86 dxa) :: (dxa, dictOf (ignD w.params ta1 ta2 ta3 Sa Da Ia) nda) :: ((L + 1 + 1 + 1 + 1 + 1), x5') :: (Df, LCg.lst fs) :: (Do, listOf out.toArray c) :: (Ib, ib) :: (Dbb, listOf dsb.toArray nlb) :: (Sb, sb) :: (xb, instObj 86 dxb) :: (dxb, dictOf (ignD w.params tb1 tb2 tb3 Sb Dbb Ib) ndb) :: (Dn, listOf uq.toArray nn4) :: (Di, listOf inn.toArray ci) :: ((L + 1), x1') :: ((L + 1 + 1), x2') :: ((L + 1 + 1 + 1), x3') :: ((L + 1 + 1 + 1 + 1), x4') :: ((L + 1 + 1 + 1 + 1 + 1 + 1), x6') :: (nat_lit 130, tabObj p130) :: (nat_lit 23, tabObj p23) :: []) := ap_all (by
    repeat first
      | exact List.forall_mem_nil _
      | refine all_cons (by first | exact ap_ne Aa1 (by k_mem) | exact (ap_ne Ab1 (by k_mem)).symm | exact (ap_ne Ab2 (by k_mem)).symm | exact (ap_ne Ab3 (by k_mem)).symm | exact (ap_ne Ab4 (by k_mem)).symm | exact (ap_ne Ab5 (by k_mem)).symm) ?_)
  have AIb : ∀ Dl ls1, Dl ≠ Ib → Apart Ib ((Dbb, listOf dsb.toArray nlb) :: (Sb, sb) :: (xb, instObj 86 dxb) :: (dxb, dictOf (ignD w.params tb1 tb2 tb3 Sb Dbb Ib) ndb) :: ((L + 1 + 1 + 1 + 1 + 1 + 1), x6') :: (Df, LCg.lst fs) :: (Do, listOf out.toArray c) :: (Dl, LCg.lst ls1) :: (Dn, listOf uq.toArray nn4) :: (Di, listOf inn.toArray ci) :: ((L + 1), x1') :: ((L + 1 + 1), x2') :: ((L + 1 + 1 + 1), x3') :: ((L + 1 + 1 + 1 + 1), x4') :: ((L + 1 + 1 + 1 + 1 + 1), x5') :: (nat_lit 130, tabObj p130) :: (nat_lit 23, tabObj p23) :: []) := fun Dl ls1 hne => ap_all (by
    repeat first
      | exact List.forall_mem_nil _
      | refine all_cons (by first | exact ap_ne Ab1 (by k_mem) | exact hne) ?_)
  clear N10 Aa1 Aa2 Aa3 Aa4 Aa5 Ab1 Ab2 Ab3 Ab4 Ab5
  refine law11 (De := Dn) B X T hdp hu esc F10 (by (repeat (first | exact List.forall_mem_nil _ | refine List.forall_mem_cons.mpr ⟨by assumption, ?_⟩))) N10x d5' Ra Ma P.hmem0 (fun _ hy => .inl hy) (by omega) P.hnd AIa hS hF hl7 P.hlen ?_
  clear N10x F10 AIa
  intro Dl ls1 ia2 h11 tk11 m11 F11 a1 a2 a3 a4 N11 ol hL _
  rw [P.h11] at hL
  have N11x : News h₀ L h11 ((Ib, ib) :: (Dbb, listOf dsb.toArray nlb) :: (Sb, sb) :: (xb, instObj 86 dxb) :: (dxb, dictOf (ignD w.params tb1 tb2 tb3 Sb Dbb Ib) ndb) :: ((L + 1 + 1 + 1 + 1 + 1 + 1), x6') :: (Df, LCg.lst fs) :: (Do, listOf out.toArray c) :: (Dl, LCg.lst ls1) :: (Dn, listOf uq.toArray nn4) :: (Di, listOf inn.toArray ci) :: ((L + 1), x1') :: ((L + 1 + 1), x2') :: ((L + 1 + 1 + 1), x3') :: ((L + 1 + 1 + 1 + 1), x4') :: ((L + 1 + 1 + 1 + 1 + 1), x5') :: (nat_lit 130, tabObj p130) :: (nat_lit 23, tabObj p23) :: []) := by ((repeat (first | exact nws_nil | refine nws_cons N11 (by k_mem) ?_)); (try exact nws_tail N11 (fun _ hp => by (repeat (first | exact hp | refine List.mem_cons_of_mem _ ?_)))))
  have olb : Dl ≠ Ib := (off1_mem' ol (by k_mem)).symm
  clear N11 ol Ra Ma
  refine law12 B X T hdp hu esc F11 (by (repeat (first | exact List.forall_mem_nil _ | refine List.forall_mem_cons.mpr ⟨by assumption, ?_⟩))) N11x d6' Rb Mb P.hmem0 (fun _ _ => .inr (by simp)) (by omega) P.hnd (AIb Dl ls1 olb) hS hF hl7 P.hlen ?_
  clear F11 AIb
  intro Dw ws1 ib2 h12 tk12 m12 F12 a1 a2 a3 a4 a5 N12 _ hW _
  rw [P.h12] at hW
  have N12x : News h₀ L h12 ((Dw, LCg.lst ws1) :: (Dl, LCg.lst ls1) :: (Do, listOf out.toArray c) :: (Di, listOf inn.toArray ci) :: ((L + 1 + 1), x2') :: (nat_lit 130, tabObj p130) :: (nat_lit 23, tabObj p23) :: []) := by ((repeat (first | exact nws_nil | refine nws_cons N12 (by k_mem) ?_)); (try exact nws_tail N12 (fun _ hp => by (repeat (first | exact hp | refine List.mem_cons_of_mem _ ?_)))))
  clear N11x N12 Rb Mb
  refine law13 B X T hdp hu esc F12 (by (repeat (first | exact List.forall_mem_nil _ | refine List.forall_mem_cons.mpr ⟨by assumption, ?_⟩))) N12x ?_
  clear F12
  intro xc dxc Sc Dc Ic sc' ic tc1 tc2 tc3 ndc nlc dsc h13 tk13 m13 F13 a1 a2 a3 a4 a5 a6 N13 Rc Mc Ac1 Ac2 Ac3 Ac4 Ac5
  refine law14 B X T hdp hu esc F13 (by (repeat (first | exact List.forall_mem_nil _ | refine List.forall_mem_cons.mpr ⟨by assumption, ?_⟩))) N13 Rc Mc Ac1 ?_
  clear F13 N13 N12x Ac1 Ac2 Ac3 Ac4 Ac5
  intro h14 tk14 m14 F14 a1 a2 a3 a4 a5 N14
  refine law15 B X T hdp hu esc F14 d2' hS hIn hL hW hl7 P.ok rfl (by (repeat (first | exact List.forall_mem_nil _ | refine List.forall_mem_cons.mpr ⟨by assumption, ?_⟩))) N14 ?_
  clear F14 N14
  intro h15 tk15 m15 F15 a1 a2 a3 N15
  exact law16 B X T hdp hu esc F15 ie2 ie3 ie4 ie5 d2' hS hIn hL hW hl7 P.hnd P.ok rfl (by (repeat (first | exact List.forall_mem_nil _ | refine List.forall_mem_cons.mpr ⟨by assumption, ?_⟩))) N15 (fun h' tk' m' F N => hret h' tk' m' p130 p23 F N)
end Mine
end
open PySem PySem.W PyProof.Rows in
example : Mine.RS := by intro M A Q E s h; w_top off; first | walk1 | skip; all_goals first | exact h | exact wpAny_pure h
section
open PySem PySem.W PyProof.Rows PySem.W.X
set_option maxHeartbeats 8000000
namespace Mine
theorem wp_body {M : Model} {A : Around} {b b' : List Stmt} {env : Env} {Q : Flow → Shared → Prop} {E : Value → Shared → Prop} {s : Shared} (e : b' = b) (h : wpAny M A (execs b env) Q E s) : wpAny M A (execs b' env) Q E s := e ▸ h
end Mine
theorem PySem.Challenge.cw_of0013_01_holds : PySem.Challenge.rw_of0013_01.Holds := by
  refine hd ?_
  k_fill
  intro w s₀ s₁ mg mb G Y fa o pm cd doc dV kV ho hdd hcd hD hmg hg args vals as hpre hlay hrd hwl hlo
  obtain ⟨Y, Y1, Y4, Y5⟩ := Y
  have KX := km_in_of Y
  km_tabs Y
  have X := (Ground.X G).1
  have V := (Ground.X G).2
  refine Ground.open G ?_
  intro T B D TE TW
  try (refine guard_noD D (by decide +kernel) ?_; clear D)
  x_fa T KX hmg
  km_lay T hmg ho hdd cd
  clear hmg
  wrow_args hpre hlay hrd hwl hlo
  all_goals (
    first | refine callC_kw (enter_call ?_) | refine enter_call ?_
    w_top on
    kn_posts
    w_call any ho hdd hcd hD T F
    clear hdd
    kn_ghosts F T
    k_drop
    skip)
  have X1 : ∃ o, (ghostOf s₁.heap [(27, 23), (132, 130)]).get? (nat_lit 1) = some o := Y1.elim fun o e => ⟨o, ghost_ne e (by simp)⟩
  have X4 : (ghostOf s₁.heap [(27, 23), (132, 130)]).get? (nat_lit 4) = some _ := ghost_ne Y4 (by simp)
  have X5 : (ghostOf s₁.heap [(27, 23), (132, 130)]).get? (nat_lit 5) = some _ := ghost_ne Y5 (by simp)
  have h23 : (ghostOf s₁.heap [(27, 23), (132, 130)]).get? (nat_lit 23) = none := hideAll_none _ (by simp)
  refine Mine.wp_body (b := Mine.lawStmt w.params 0 :: Mine.lawStmt w.params 1 :: Mine.lawStmt w.params 2 :: Mine.lawStmt w.params 3 :: Mine.lawStmt w.params 4 :: Mine.lawStmt w.params 5 :: Mine.lawStmt w.params 6 :: Mine.lawStmt w.params 7 :: Mine.lawStmt w.params 8 :: Mine.lawStmt w.params 9 :: Mine.lawStmt w.params 10 :: Mine.lawStmt w.params 11 :: Mine.lawStmt w.params 12 :: Mine.lawStmt w.params 13 :: Mine.lawStmt w.params 14 :: Mine.lawStmt w.params 15 :: Mine.lawStmt w.params 16 :: []) (by kernel_rfl) ?_
  (with_reducible rename News _ _ _ _ => N9); (with_reducible rename Fr _ _ _ _ => F9); (rename Below _ _ _ _ => B9); (rename Frag.In (hd.heap_1 _) _ => X9); (rename Top topProg _ _ _ _ _ => T9); (rename IntsAre _ _ => I9); (rename _ ∧ _ => l9)
  have hL23 : s₁.heap.objs.size ≠ nat_lit 23 := Nat.ne_of_gt l9.1
  refine Mine.lawAll (dp := 1 + claimMargin) (un := 4) (gd := some []) (ls := _) B9 X9 T9 (by decide +kernel) (by decide +kernel) (by kernel_rfl) F9 (by decide +kernel) (by decide +kernel) (by decide +kernel) (by decide +kernel) (by assumption) (by assumption) (by assumption) (by assumption) (by assumption) (by assumption) (List.forall_mem_cons.mpr ⟨rfl, List.forall_mem_nil _⟩) N9 lifted I9 (by omega) X1 X4 X5 h23 hL23 codeHd ?_
  clear N9 F9
  intro h' tk' m' p130 p23 F N
  k_steps
  all_goals w_report
end
