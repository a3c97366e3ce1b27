import PyProof.Rows.All
import Wide.All
import OpenK.AllK
import Wide.FinOn
import PySem.Challenge.RW_ik0001_01
set_option compiler.extract_closed false
open PySem PySem.W PySem.W.X PyProof.Rows
set_option Elab.async false
set_option linter.all false
namespace Mine
section
local macro_rules | `(tactic| o_head $_) => `(tactic| assumption)
set_option maxRecDepth 100000 in
set_option maxHeartbeats 0 in
theorem mkx (h : PySem.Challenge.rw_ik0001_01.row.Holds) : PySem.Challenge.rw_ik0001_01.row.Holds := by
  x_head
set_option maxRecDepth 100000 in
set_option maxHeartbeats 0 in
theorem mkk (h : PySem.Challenge.rw_ik0001_01.row.Holds) : PySem.Challenge.rw_ik0001_01.row.Holds := by
  km_head
end
/-- all that the top leaves and the call does not turn -/
noncomputable def KY (P : Params) : Frag := (mkx.heap_1 P).filter fun p => !(Nat.beq p.1 107 || Nat.beq p.1 246)
noncomputable def asK : List Addr := [2, 3, 33, 35, 36, 38, 39, 40, 42, 43, 45, 46, 54, 56, 57, 59, 60, 61, 62, 64, 65, 67, 68, 69, 71, 72, 74, 75, 76, 78, 79, 81, 82, 83, 84, 85, 86, 87, 90, 93, 98, 99, 101, 102, 104, 105, 106, 108, 109, 111, 112, 113, 114, 115, 116, 117, 120, 123, 128, 129, 130, 131, 133, 134, 136, 137, 138, 140, 141, 143, 144, 145, 146, 147, 148, 149, 151, 152, 154, 155, 156, 158, 159, 161, 162, 163, 165, 166, 168, 169, 170, 172, 173, 175, 176, 177, 178, 179, 181, 182, 184, 186, 187, 188, 191, 198, 200, 201, 203, 204, 205, 206, 207, 208, 209, 210, 211, 214, 216, 217, 219, 220, 221, 223, 224, 226, 227, 228, 230, 231, 233, 234, 235, 238, 239, 240, 243, 244, 245, 247, 248, 250, 251, 252, 255, 256, 257, 260, 261, 262, 265, 266, 267, 270, 271]
noncomputable def asY : List Addr := [0, 1, 2, 3, 4, 5, 6, 7, 8, 9, 10, 11, 12, 13, 14, 15, 33, 34, 35, 36, 37, 38, 39, 40, 41, 42, 43, 44, 45, 46, 54, 55, 56, 57, 58, 59, 60, 61, 62, 63, 64, 65, 66, 67, 68, 69, 70, 71, 72, 73, 74, 75, 76, 77, 78, 79, 80, 81, 82, 83, 84, 85, 86, 87, 90, 93, 98, 99, 100, 101, 102, 103, 104, 105, 106, 108, 109, 110, 111, 112, 113, 114, 115, 116, 117, 120, 123, 128, 129, 130, 131, 132, 133, 134, 135, 136, 137, 138, 139, 140, 141, 142, 143, 144, 145, 146, 147, 148, 149, 150, 151, 152, 153, 154, 155, 156, 157, 158, 159, 160, 161, 162, 163, 164, 165, 166, 167, 168, 169, 170, 171, 172, 173, 174, 175, 176, 177, 178, 179, 181, 182, 184, 186, 187, 188, 191, 198, 199, 200, 201, 202, 203, 204, 205, 206, 207, 208, 209, 210, 211, 214, 215, 216, 217, 218, 219, 220, 221, 222, 223, 224, 225, 226, 227, 228, 229, 230, 231, 232, 233, 234, 235, 236, 237, 238, 239, 240, 241, 242, 243, 244, 245, 247, 248, 249, 250, 251, 252, 253, 254, 255, 256, 257, 258, 259, 260, 261, 262, 263, 264, 265, 266, 267, 268, 269, 270, 271]
set_option maxRecDepth 100000 in
theorem eK : ∀ P, asK = (mkk.heap_1 P).map (·.1) := fun _ => by kernel_rfl
set_option maxRecDepth 100000 in
theorem eY : ∀ P, asY = (KY P).map (·.1) := fun _ => by kernel_rfl
noncomputable def myHook : Hook where
  α := (kmHook mkk.heap_1 asK eK [107, 246]).α × List (Option Obj)
  obs := fun s => ((kmHook mkk.heap_1 asK eK [107, 246]).obs s, asY.map s.heap.get?)
  val := fun w => ((kmHook mkk.heap_1 asK eK [107, 246]).val w, (KY w.params).map fun p => some p.2)
  says := fun w h => (kmHook mkk.heap_1 asK eK [107, 246]).says w h ∧ InK KY w h
  of := fun w s x => ⟨(kmHook mkk.heap_1 asK eK [107, 246]).of w s (Prod.mk.inj x).1, InK.of eY w s (Prod.mk.inj x).2⟩
  keeps := fun w h h' x k => ⟨(kmHook mkk.heap_1 asK eK [107, 246]).keeps w h h' x.1 k, InK.keeps w h h' x.2 k⟩
noncomputable abbrev rw0 : OpenRow := OpenLaw.row PySem.Challenge.rw_ik0001_01
/-- the program without the statements whose names are read loosely -/
noncomputable def vw : Program := { rw0.prog with main := { rw0.prog.main with body := rw0.prog.main.body.take 5 ++ ((rw0.prog.main.body.drop 6).take 1 ++ rw0.prog.main.body.drop 9) } }
noncomputable def loose0 : List PySem.Str := [PySem.Str.ofString "_tuplegetter", PySem.Str.ofString "Pair"]
set_option maxRecDepth 100000 in
set_option maxHeartbeats 0 in
theorem left_t : LeftO rw0.prog vw loose0 (fun s => xlAt vw [] s && recOk (RowW.records (OpenRow.toRowW rw0)) s) (Hook.obs myHook) (Hook.val myHook) 2400 := fun w => by
  show ((fencedOpening treeTable rw0.prog w 2400).bind (topFrom treeTable rw0.prog w 2400)).map (fun s => (openSeen vw loose0 (importedModules rw0.prog.main.body) (fun s => xlAt vw [] s && recOk (RowW.records (OpenRow.toRowW rw0)) s) true s, Hook.obs myHook s)) = _
  unfold fencedOpening topFrom
  rw [PySem.W.Fast.te10274390034422433532, PySem.W.Fast.te14289696077712309145, PySem.W.Fast.te14082659384304107361, PySem.W.Fast.te4187177175401517315, PySem.W.Fast.te1435165496053646825, PySem.W.Fast.te14364793385576792824]
  kernel_rfl
open PySem.Calls PySem.Spec
section
noncomputable abbrev PR : Program := PySem.Challenge.rw_ik0001_01.row.prog
noncomputable abbrev AX : Around := { handled := none, depth := 800, frames := none, guards := none, units := 6000 }

theorem in_AX {Γ : PySem.Ctx} {A : Around} (h : Γ.In A) (hh : A.handled = none) (hd : A.depth ≤ 800) (hu : A.units ≤ 6000) : Γ.In AX :=
  ⟨by rw [h.1, hh], Nat.le_trans h.2.1 hd, (fun l hl => by cases hl), (fun g hg => by cases hg), Nat.le_trans h.2.2.2.2 hu⟩
theorem by_AX {α : Type} {M : Model} {A : Around} {t : Sem α} {Q : α → Shared → Prop} {E : Value → Shared → Prop} {s : Shared}
    (hh : A.handled = none) (hd : A.depth ≤ 800) (hu : A.units ≤ 6000) (h : wpAny M AX t Q E s) : wpAny M A t Q E s :=
  fun Γ p hΓ => h Γ p (in_AX hΓ hh hd hu)

/-- what a run keeps: all objects, and all but the heap and the tokens -/
noncomputable def Kept (s s' : Shared) : Prop := (∀ b o, s.heap.get? b = some o → s'.heap.get? b = some o) ∧ ∃ h tk, s' = { s with heap := h, toks := tk }
theorem Kept.of_mem {h h' : Heap} {g : Array GenState} {d : Drawn} {t t' : Nat} {os : OsState} {news : List (Addr × Obj)} (D : Mem h h' [] news) : Kept ⟨h, g, d, t, os⟩ ⟨h', g, d, t', os⟩ :=
  ⟨fun b o e => D.keep b o e (by simp [away]), _, _, rfl⟩

theorem Kept.start {h : Heap} {g : Array GenState} {d : Drawn} {t t' : Nat} {os : OsState} : Kept ⟨h, g, d, t, os⟩ ⟨h, g, d, t', os⟩ := ⟨fun _ _ e => e, _, _, rfl⟩

noncomputable abbrev pairO (dx : Addr) (n v : Str) (tn tv : Tok) : Obj := ⟨.ref 210, some dx, .seq #[.str n tn, .str v tv] 0, #[]⟩
noncomputable abbrev lst (xs : List Value) (n : Nat) : Obj := W.listOf xs.toArray n

/-- a read-only call: its answer, all kept -/
noncomputable abbrev Gives (w : World) (t : Sem Value) (v : Value) (s : Shared) : Prop := wpAny (model PR w) AX t (fun r s' => r = v ∧ Kept s s') (fun _ _ => False) s
theorem Gives.use {w : World} {A : Around} {t : Sem Value} {v : Value} {s : Shared} {Q E : Value → Shared → Prop} {h₀ : Heap} {L : Addr} {m : Str → Option Value} {news : List (Addr × Obj)} (G : Gives w t v s)
    (F : Fr h₀ L s.heap m) (N : News h₀ L s.heap news) (hh : A.handled = none) (hd : A.depth ≤ 800) (hu : A.units ≤ 6000)
    (k : ∀ h' tk', Fr h₀ L h' m → News h₀ L h' news → Q v { s with heap := h', toks := tk' }) : wpAny (model PR w) A t Q E s := by
  refine by_AX hh hd hu (wpAny_mono G (fun r s' ⟨e, kp, h', tk', es⟩ => ?_) fun _ _ x => x.elim)
  subst e es
  exact k h' tk' (F.keeps kp) (News.grown N kp)
theorem of_allLt {d : Addr} {l : List (Addr × Obj)} (h : AllLt d l) : ∀ p ∈ l, p.1 < d := by
  induction l with
  | nil => intro p hp; cases hp
  | cons q r ih =>
    intro p hp
    rcases List.mem_cons.mp hp with rfl | hp
    · exact h.1
    · exact ih h.2 p hp
theorem yin {w : World} {h₀ h base : Heap} {L : Addr} {m : Str → Option Value} {A₀ : Around} {outer : List Env} (F : Fr h₀ L h m) (B : Below A₀ base outer h₀) (YB : (KY w.params).In base) : (KY w.params).In h :=
  (YB.keeps B.stays).keeps F.keep

/-- the contract of a call: the ledger, the room, the answer with the new ledger -/
noncomputable def Calls (w : World) (f : Addr) (vs : List Value) (led : List (Addr × Obj)) (dd uu : Nat) (Post : Value → List (Addr × Obj) → Prop) : Prop :=
  ∀ (dp un : Nat) (gd : Option (List Code)) (cn : Str) (cs : Scope) (a : Addr) (ccd : Value) (cl : List (Str × Addr)) (outer : List Env) (A₀ : Around) (base h₀ : Heap) (L : Addr) (m : Str → Option Value) (s : Shared) (Q E : Value → Shared → Prop) (loose : List Str) (mean : ExcName → Option Value) (mg mb : Str → Option Value),
    Below A₀ base outer h₀ → (KY w.params).In base → Fr h₀ L s.heap m → (mkk.heap_1 w.params).In h₀ → News h₀ L s.heap led → Top topProg loose mean mg mb h₀ → cs.kind = .function → dp + dd ≤ 800 → un + uu ≤ 6000 →
    (∀ r led' h' tk', Post r led' → Fr h₀ L h' m → News h₀ L h' led' → Q r { s with heap := h', toks := tk' }) →
    wpAny (model PySem.Challenge.rw_ik0001_01.row.prog w) (ktrTop dp un gd cn cs L a ccd cl outer) (call (.ref f) vs) Q E s

theorem Calls.use {w : World} {f : Addr} {vs : List Value} {led : List (Addr × Obj)} {dd uu : Nat} {Post : Value → List (Addr × Obj) → Prop} (C : Calls w f vs led dd uu Post)
    {dp un : Nat} {gd : Option (List Code)} {cn : Str} {cs : Scope} {a : Addr} {ccd : Value} {cl : List (Str × Addr)} {outer : List Env} {A₀ : Around} {base h₀ : Heap} {L : Addr} {m : Str → Option Value} {s : Shared} {Q E : Value → Shared → Prop} {loose : List Str} {mean : ExcName → Option Value} {mg mb : Str → Option Value}
    (F : Fr h₀ L s.heap m) (B : Below A₀ base outer h₀) (YB : (KY w.params).In base) (X : (mkk.heap_1 w.params).In h₀) (N : News h₀ L s.heap led) (T : Top topProg loose mean mg mb h₀) (hk : cs.kind = .function) (hd : dp + dd ≤ 800) (hu : un + uu ≤ 6000)
    (k : ∀ r led' h' tk', Post r led' → Fr h₀ L h' m → News h₀ L h' led' → Q r { s with heap := h', toks := tk' }) :
    wpAny (model PySem.Challenge.rw_ik0001_01.row.prog w) (ktrTop dp un gd cn cs L a ccd cl outer) (call (.ref f) vs) Q E s :=
  C _ _ _ _ _ _ _ _ _ _ _ _ _ _ _ _ _ _ _ _ _ B YB F X N T hk hd hu k
theorem wi_neg {α : Type} {M : Model} {A : Around} {E : Value → Shared → Prop} {s : Shared} {c : Prop} [Decidable c] {a b : Sem α} {Q : α → Shared → Prop} (hc : ¬ c) (h : wpAny M A b Q E s) : wpAny M A (if c then a else b) Q E s :=
  wpAny_ite_false (decide_eq_false hc) h
theorem wi_pos {α : Type} {M : Model} {A : Around} {E : Value → Shared → Prop} {s : Shared} {c : Prop} [Decidable c] {a b : Sem α} {Q : α → Shared → Prop} (hc : c) (h : wpAny M A a Q E s) : wpAny M A (if c then a else b) Q E s :=
  wpAny_ite_true (decide_eq_true hc) h
/-! small steps of arithmetic, for side goals -/
theorem q0 {x a c d : Nat} (h : x + a ≤ c) (e : Nat.ble c (a + d) = true := by decide) : x ≤ d := by have := Nat.le_of_ble_eq_true e; omega
theorem q1 {x a b c d : Nat} (h : x + a ≤ c) (e : Nat.ble (b + c) (a + d) = true := by decide) : x + b ≤ d := by have := Nat.le_of_ble_eq_true e; omega
theorem q2 {x a b b' c d : Nat} (h : x + a ≤ c) (e : Nat.ble (b + b' + c) (a + d) = true := by decide) : x + b + b' ≤ d := by have := Nat.le_of_ble_eq_true e; omega
theorem r0 {x a c d : Nat} (h : x + a ≤ c) (e : Nat.ble (c + 1) (a + d) = true := by decide) : x < d := by have := Nat.le_of_ble_eq_true e; omega
theorem r1 {x a b c d : Nat} (h : x + a ≤ c) (e : Nat.ble (b + c + 1) (a + d) = true := by decide) : x + b < d := by have := Nat.le_of_ble_eq_true e; omega
theorem r2 {x a b b' c d : Nat} (h : x + a ≤ c) (e : Nat.ble (b + b' + c + 1) (a + d) = true := by decide) : x + b + b' < d := by have := Nat.le_of_ble_eq_true e; omega
theorem p0 {x c d : Nat} (h : x ≤ c) (e : Nat.ble c d = true := by decide) : x ≤ d := Nat.le_trans h (Nat.le_of_ble_eq_true e)
theorem p1 {x b c d : Nat} (h : x ≤ c) (e : Nat.ble (c + b) d = true := by decide) : x + b ≤ d := by have := Nat.le_of_ble_eq_true e; omega
theorem p2 {x b b' c d : Nat} (h : x ≤ c) (e : Nat.ble (c + b + b') d = true := by decide) : x + b + b' ≤ d := by have := Nat.le_of_ble_eq_true e; omega
theorem s0 {x c d : Nat} (h : x ≤ c) (e : Nat.ble (c + 1) d = true := by decide) : x < d := Nat.le_trans (Nat.succ_le_succ h) (Nat.le_of_ble_eq_true e)
theorem s1 {x b c d : Nat} (h : x ≤ c) (e : Nat.ble (c + b + 1) d = true := by decide) : x + b < d := by have := Nat.le_of_ble_eq_true e; omega
theorem t0 {x y c d : Nat} (h : x ≤ y) (k : y ≤ c) (e : Nat.ble c d = true := by decide) : x ≤ d := Nat.le_trans h (p0 k e)
theorem t1 {x y c d : Nat} (h : x = y) (k : y ≤ c) (e : Nat.ble c d = true := by decide) : x ≤ d := h ▸ p0 k e
theorem v1 {x y c d : Nat} (h : x < y) (k : y ≤ c) (e : Nat.ble c (d + 1) = true := by decide) : x ≤ d := by have := Nat.le_of_ble_eq_true e; omega
theorem i0 {x c : Nat} (h : x ≤ c) (e : Nat.ble c 9223372036854775807 = true := by decide) : (x : Int) < 2 ^ 63 := by have := Nat.le_of_ble_eq_true e; omega
theorem i1 {x c : Nat} (h : x < c) (e : Nat.ble c 9223372036854775808 = true := by decide) : (x : Int) < 2 ^ 63 := by have := Nat.le_of_ble_eq_true e; omega
theorem i2 {x y c : Nat} (h : x < y) (k : y ≤ c) (e : Nat.ble c 9223372036854775808 = true := by decide) : (x : Int) < 2 ^ 63 := by have := Nat.le_of_ble_eq_true e; omega
theorem z0 {a b : Nat} (e : Nat.ble a b = true := by decide) : a ≤ b := Nat.le_of_ble_eq_true e
theorem cl0 {x a c : Nat} (h : x + a ≤ c) (e : Nat.ble (c + 1) (a + 9900) = true := by decide) : x < cLine := r0 (d := 9900) h e
theorem cl1 {x a b c : Nat} (h : x + a ≤ c) (e : Nat.ble (b + c + 1) (a + 9900) = true := by decide) : x + b < cLine := r1 (d := 9900) h e
theorem cl2 {x a b b' c : Nat} (h : x + a ≤ c) (e : Nat.ble (b + b' + c + 1) (a + 9900) = true := by decide) : x + b + b' < cLine := r2 (d := 9900) h e
theorem cl3 {x b c : Nat} (h : x ≤ c) (e : Nat.ble (c + b + 1) 9900 = true := by decide) : x + b < cLine := s1 (d := 9900) h e
theorem m50 (n : Int) : 0 ≤ n % 5 := Int.emod_nonneg _ (by decide)
theorem m51 (n : Int) : n % 5 < 5 := Int.emod_lt_of_pos _ (by decide)
theorem m52 (n : Int) : n % 5 < 2 ^ 63 := Int.lt_of_lt_of_le (m51 n) (by decide)
/-! short lists and tuples -/
theorem fits0 : ([] : List Value).length ≤ sizeLine := by rw [sizeLine_eq]; exact Nat.zero_le _
theorem fits1 {a : Value} : [a].length ≤ sizeLine := by rw [sizeLine_eq]; exact Nat.le_of_ble_eq_true rfl
theorem fits2 {a b : Value} : [a, b].length ≤ sizeLine := by rw [sizeLine_eq]; exact Nat.le_of_ble_eq_true rfl
theorem fits3 {a b c : Value} : [a, b, c].length ≤ sizeLine := by rw [sizeLine_eq]; exact Nat.le_of_ble_eq_true rfl
theorem fits4 {a b c d : Value} : [a, b, c, d].length ≤ sizeLine := by rw [sizeLine_eq]; exact Nat.le_of_ble_eq_true rfl
theorem fits5 {a b c d e : Value} : [a, b, c, d, e].length ≤ sizeLine := by rw [sizeLine_eq]; exact Nat.le_of_ble_eq_true rfl
end
open Builtin Builtin.Tuple
theorem fillK2 (w : World) (h : Heap) : (mkk.heap_1 w.params).In h → PySem.Challenge.rw_ik0001_01.row.prog = PySem.Challenge.rw_ik0001_01.row.prog := by
  k_fill
  intro _; rfl
section
/-- addresses of a ledger that are all apart -/
noncomputable def ND (l : List (Addr × Obj)) : Prop := (l.map (·.1)).Nodup
theorem nd_nil : ND [] := List.nodup_nil
theorem nd_cons {p : Addr × Obj} {l : List (Addr × Obj)} : ND (p :: l) ↔ (∀ q ∈ l, @Ne Nat q.1 p.1) ∧ ND l := by
  unfold ND
  rw [List.map_cons, List.nodup_cons]
  constructor
  · rintro ⟨a, b⟩
    exact ⟨fun q hq e => a (e ▸ List.mem_map_of_mem hq), b⟩
  · rintro ⟨a, b⟩
    refine ⟨fun h => ?_, b⟩
    obtain ⟨q, hq, e⟩ := List.mem_map.mp h
    exact a q hq e
theorem nd_append {l r : List (Addr × Obj)} : ND (l ++ r) ↔ ND l ∧ ND r ∧ ∀ p ∈ l, ∀ q ∈ r, @Ne Nat q.1 p.1 := by
  induction l with
  | nil => simp [nd_nil]
  | cons a l ih =>
    rw [List.cons_append, nd_cons, nd_cons, ih]
    constructor
    · rintro ⟨h1, h2, h3, h4⟩
      refine ⟨⟨fun q hq => h1 q (List.mem_append_left _ hq), h2⟩, h3, fun p hp q hq => ?_⟩
      rcases List.mem_cons.mp hp with rfl | hp
      · exact h1 q (List.mem_append_right _ hq)
      · exact h4 p hp q hq
    · rintro ⟨⟨h1, h2⟩, h3, h4⟩
      refine ⟨fun q hq => ?_, h2, h3, fun p hp q hq => h4 p (.tail _ hp) q hq⟩
      rcases List.mem_append.mp hq with hq | hq
      · exact h1 q hq
      · exact h4 a (.head _) q hq
theorem ND.perm {l r : List (Addr × Obj)} (h : ND l) (p : l.Perm r) : ND r := (List.Perm.nodup_iff (p.map _)).mp h
theorem lt_ne {d : Addr} {l : List (Addr × Obj)} (h : AllLt d l) : ∀ q ∈ l, q.1 ≠ d := fun q hq => Nat.ne_of_lt (of_allLt h q hq)
theorem all_lt_ne {d : Addr} {l : List (Addr × Obj)} (h : ∀ q ∈ l, q.1 < d) : ∀ q ∈ l, q.1 ≠ d := fun q hq => Nat.ne_of_lt (h q hq)
theorem News.perm {h₀ h : Heap} {L : Addr} {l r : List (Addr × Obj)} (N : News h₀ L h l) (p : l.Perm r) : News h₀ L h r := fun q hq => N q (p.mem_iff.mpr hq)
theorem lt_ne_of {c d : Nat} {l : List (Addr × Obj)} (h : AllLt c l) (hc : c ≤ d) : ∀ q ∈ l, q.1 ≠ d := fun q hq => Nat.ne_of_lt (Nat.lt_of_lt_of_le (of_allLt h q hq) hc)
theorem News.add {h₀ h : Heap} {L : Addr} {l : List (Addr × Obj)} {p : Addr × Obj} (N : News h₀ L h l) (hp : p ∈ l) : News h₀ L h (p :: l) := fun q hq => by
  rcases List.mem_cons.mp hq with rfl | hq
  · exact N _ hp
  · exact N _ hq
theorem ND.of {l r : List (Addr × Obj)} (h : ND l) (e : ∀ a : Nat, List.count (α := Nat) a (r.map (·.1)) ≤ List.count (α := Nat) a (l.map (·.1))) : ND r := by
  have h' := (List.nodup_iff_count (α := Nat)).mp h
  exact (List.nodup_iff_count (α := Nat)).mpr fun a => Nat.le_trans (e a) (h' a)
theorem sub_nil {α : Type} {B : List α} : ∀ p ∈ ([] : List α), p ∈ B := fun _ h => nomatch h
theorem sub_cons {α : Type} {x : α} {A B : List α} (n : Nat) (h : B[n]? = some x) (hs : ∀ p ∈ A, p ∈ B) : ∀ p ∈ x :: A, p ∈ B := fun p hp => by
  rcases List.mem_cons.mp hp with rfl | hp
  · exact List.mem_of_getElem? h
  · exact hs p hp
theorem sub_drop {α : Type} {A B : List α} (n : Nat) (h : B.drop n = A) : ∀ p ∈ A, p ∈ B := fun _ hp => List.mem_of_mem_drop (h ▸ hp)
theorem sub_of {α : Type} {A B : List α} {p : α} (h : ∀ p ∈ A, p ∈ B) (hp : p ∈ A) : p ∈ B := h p hp
/-! ledgers by segments: a list of segments, and the indices in their order -/
noncomputable def seg {α : Type} : List (List α) → Nat → List α
  | [], _ => []
  | x :: _, 0 => x
  | _ :: r, n + 1 => seg r n
noncomputable def cat {α : Type} (e : List (List α)) : List Nat → List α
  | [] => []
  | [i] => seg e i
  | i :: j :: r => seg e i ++ cat e (j :: r)
theorem mem_cat {α : Type} {e : List (List α)} {p : α} : ∀ {A : List Nat}, p ∈ cat e A ↔ ∃ i ∈ A, p ∈ seg e i
  | [] => by simp [cat]
  | [i] => by simp [cat]
  | i :: j :: r => by
    unfold cat
    rw [List.mem_append, mem_cat (A := j :: r)]
    constructor
    · rintro (h | ⟨k, hk, h⟩)
      · exact ⟨i, .head _, h⟩
      · exact ⟨k, .tail _ hk, h⟩
    · rintro ⟨k, hk, h⟩
      rcases List.mem_cons.mp hk with rfl | hk
      · exact .inl h
      · exact .inr ⟨k, hk, h⟩
theorem sub_cat {α : Type} (e : List (List α)) (A B : List Nat) (h : ∀ i ∈ A, i ∈ B := by decide) : ∀ p ∈ cat e A, p ∈ cat e B := fun p hp => by
  obtain ⟨i, hi, hp⟩ := mem_cat.mp hp
  exact mem_cat.mpr ⟨i, h i hi, hp⟩
theorem map_seg {α β : Type} (f : α → β) : ∀ (e : List (List α)) (i : Nat), seg (e.map (List.map f)) i = (seg e i).map f
  | [], i => by cases i <;> rfl
  | x :: _, 0 => rfl
  | _ :: r, n + 1 => map_seg f r n
theorem map_cat {α β : Type} (f : α → β) (e : List (List α)) : ∀ A : List Nat, (cat e A).map f = cat (e.map (List.map f)) A
  | [] => rfl
  | [i] => (map_seg f e i).symm
  | i :: j :: r => by
    unfold cat
    rw [List.map_append, map_cat f e (j :: r), map_seg]
theorem cat_nodup {α : Type} {e : List (List α)} : ∀ {A : List Nat}, (cat e A).Nodup → (∀ i ∈ A, (seg e i).Nodup) ∧ (∀ i ∈ A, ∀ j ∈ A, i ≠ j → ∀ x ∈ seg e i, x ∉ seg e j)
  | [], _ => ⟨fun _ h => (nomatch h), fun _ h => (nomatch h)⟩
  | [i], h => ⟨fun k hk => (List.mem_singleton.mp hk ▸ h : (seg e k).Nodup), fun k hk j hj hkj => absurd ((List.mem_singleton.mp hk).trans (List.mem_singleton.mp hj).symm) hkj⟩
  | i :: j :: r, h => by
    unfold cat at h
    obtain ⟨h1, h2, h3⟩ := List.nodup_append.mp h
    obtain ⟨a, b⟩ := cat_nodup h2
    have h4 : ∀ k ∈ j :: r, ∀ x ∈ seg e i, x ∉ seg e k := fun k hk x hx hx' => h3 x hx x (mem_cat.mpr ⟨k, hk, hx'⟩) rfl
    refine ⟨fun k hk => ?_, fun k hk l hl hkl => ?_⟩
    · rcases List.mem_cons.mp hk with rfl | hk
      · exact h1
      · exact a k hk
    · rcases List.mem_cons.mp hk with ek | hk1 <;> rcases List.mem_cons.mp hl with el | hl1
      · exact absurd (ek.trans el.symm) hkl
      · rw [ek]; exact h4 l hl1
      · rw [el]; exact fun x hx hx' => h4 k hk1 x hx' hx
      · exact b k hk1 l hl1 hkl
theorem nodup_cat {α : Type} {e : List (List α)} : ∀ {B : List Nat}, B.Nodup → (∀ i ∈ B, (seg e i).Nodup) → (∀ i ∈ B, ∀ j ∈ B, i ≠ j → ∀ x ∈ seg e i, x ∉ seg e j) → (cat e B).Nodup
  | [], _, _, _ => List.nodup_nil
  | [i], _, h, _ => h i (.head _)
  | i :: j :: r, hn, h1, h2 => by
    unfold cat
    obtain ⟨a, b⟩ := List.nodup_cons.mp hn
    refine List.nodup_append.mpr ⟨h1 i (.head _), nodup_cat b (fun k hk => h1 k (.tail _ hk)) (fun k hk l hl => h2 k (.tail _ hk) l (.tail _ hl)), fun x hx y hy hxy => ?_⟩
    obtain ⟨k, hk, hy⟩ := mem_cat.mp hy
    exact h2 i (.head _) k (.tail _ hk) (fun he => a (he ▸ hk)) x hx (hxy ▸ hy)
/-- addresses apart: segments dropped, in another order, with other objects at the same addresses -/
theorem nd_cat (e e' : List (List (Addr × Obj))) (A B : List Nat) (h : ND (cat e A)) (he : e'.map (List.map (·.1)) = e.map (List.map (·.1)) := by rfl) (hB : B.Nodup ∧ ∀ i ∈ B, i ∈ A := by decide) : ND (cat e' B) := by
  unfold ND at h ⊢
  rw [map_cat] at h ⊢
  rw [he]
  obtain ⟨a, b⟩ := cat_nodup h
  exact nodup_cat hB.1 (fun i hi => a i (hB.2 i hi)) fun i hi j hj => b i (hB.2 i hi) j (hB.2 j hj)
theorem nd_cat1 (e : List (List (Addr × Obj))) (A B : List Nat) (h : ND (cat e A)) (hB : B.Nodup ∧ ∀ i ∈ B, i ∈ A := by decide) : ND (cat e B) := nd_cat e e A B h rfl hB
theorem put_nd {pl nt b bx I p1 p2 q : Addr} {plo ont ob obx oI o1 o2 oq : Obj} {mid fix : List (Addr × Obj)} (nd : ND ((pl, plo) :: (nt, ont) :: (b, ob) :: (bx, obx) :: (mid ++ fix)))
    (hI : ∀ p ∈ (nt, ont) :: (b, ob) :: (bx, obx) :: (mid ++ fix), p.1 ≠ I) (hpl : pl ≠ I) (hl : AllLt q ((p1, o1) :: (p2, o2) :: (I, oI) :: (pl, plo) :: (nt, ont) :: (b, ob) :: (bx, obx) :: (mid ++ fix))) :
    ND ((nt, ont) :: (b, ob) :: (bx, obx) :: (mid ++ ((q, oq) :: (I, oI) :: (pl, plo) :: fix))) :=
  nd_cat1 [[_], [_], [_], [_], [_], [_], mid, fix] [0, 1, 2, 3, 4, 5, 6, 7] [3, 4, 5, 6, 0, 1, 2, 7]
    (nd_cons.mpr ⟨fun p hp => Nat.ne_of_lt (of_allLt hl p (.tail _ (.tail _ hp))), nd_cons.mpr ⟨List.forall_mem_cons.mpr ⟨hpl, hI⟩, nd⟩⟩)
theorem mid_in {α β : Type} {f : α → β} {a b : List α} {t : α} {r : List β} : (a ++ t :: b).map f ++ r = a.map f ++ f t :: (b.map f ++ r) := by simp
theorem mid_out {α β : Type} {f : α → β} {a b : List α} {r : List β} : (a ++ b).map f ++ r = a.map f ++ (b.map f ++ r) := by simp
theorem mem_skip {α : Type} (n : Nat) {l : List α} {p : α} (h : p ∈ l.drop n) : p ∈ l := List.mem_of_mem_drop h
/-! to take a fact apart with the goal as a letter -/
theorem ex2 {τ0 τ1 : Type} {p : τ0 → τ1 → Prop} {P : Prop} (h : ∃ a b, p a b) (k : ∀ a b, p a b → P) : P := by
  obtain ⟨a, b, h⟩ := h
  exact k a b h
theorem ex3 {τ0 τ1 τ2 : Type} {p : τ0 → τ1 → τ2 → Prop} {P : Prop} (h : ∃ a b c, p a b c) (k : ∀ a b c, p a b c → P) : P := by
  obtain ⟨a, b, c, h⟩ := h
  exact k a b c h
theorem ex4 {τ0 τ1 τ2 τ3 : Type} {p : τ0 → τ1 → τ2 → τ3 → Prop} {P : Prop} (h : ∃ a b c d, p a b c d) (k : ∀ a b c d, p a b c d → P) : P := by
  obtain ⟨a, b, c, d, h⟩ := h
  exact k a b c d h
theorem ex6 {τ0 τ1 τ2 τ3 τ4 τ5 : Type} {p : τ0 → τ1 → τ2 → τ3 → τ4 → τ5 → Prop} {P : Prop} (h : ∃ a b c d e f, p a b c d e f) (k : ∀ a b c d e f, p a b c d e f → P) : P := by
  obtain ⟨a, b, c, d, e, f, h⟩ := h
  exact k a b c d e f h
theorem ex8 {τ0 τ1 τ2 τ3 τ4 τ5 τ6 τ7 : Type} {p : τ0 → τ1 → τ2 → τ3 → τ4 → τ5 → τ6 → τ7 → Prop} {P : Prop} (h : ∃ a b c d f g i j, p a b c d f g i j) (k : ∀ a b c d f g i j, p a b c d f g i j → P) : P := by
  obtain ⟨a, b, c, d, f, g, i, j, h⟩ := h
  exact k a b c d f g i j h
theorem and2 {p0 p1 P : Prop} (h : p0 ∧ p1) (k : p0 → p1 → P) : P := k h.1 h.2
theorem and3 {p0 p1 p2 P : Prop} (h : p0 ∧ p1 ∧ p2) (k : p0 → p1 → p2 → P) : P := k h.1 h.2.1 h.2.2
theorem and4 {p0 p1 p2 p3 P : Prop} (h : p0 ∧ p1 ∧ p2 ∧ p3) (k : p0 → p1 → p2 → p3 → P) : P := k h.1 h.2.1 h.2.2.1 h.2.2.2
theorem and7 {p0 p1 p2 p3 p4 p5 p6 P : Prop} (h : p0 ∧ p1 ∧ p2 ∧ p3 ∧ p4 ∧ p5 ∧ p6) (k : p0 → p1 → p2 → p3 → p4 → p5 → p6 → P) : P := k h.1 h.2.1 h.2.2.1 h.2.2.2.1 h.2.2.2.2.1 h.2.2.2.2.2.1 h.2.2.2.2.2.2
theorem and10 {p0 p1 p2 p3 p4 p5 p6 p7 p8 p9 P : Prop} (h : p0 ∧ p1 ∧ p2 ∧ p3 ∧ p4 ∧ p5 ∧ p6 ∧ p7 ∧ p8 ∧ p9) (k : p0 → p1 → p2 → p3 → p4 → p5 → p6 → p7 → p8 → p9 → P) : P := k h.1 h.2.1 h.2.2.1 h.2.2.2.1 h.2.2.2.2.1 h.2.2.2.2.2.1 h.2.2.2.2.2.2.1 h.2.2.2.2.2.2.2.1 h.2.2.2.2.2.2.2.2.1 h.2.2.2.2.2.2.2.2.2
theorem and11 {p0 p1 p2 p3 p4 p5 p6 p7 p8 p9 p10 P : Prop} (h : p0 ∧ p1 ∧ p2 ∧ p3 ∧ p4 ∧ p5 ∧ p6 ∧ p7 ∧ p8 ∧ p9 ∧ p10) (k : p0 → p1 → p2 → p3 → p4 → p5 → p6 → p7 → p8 → p9 → p10 → P) : P := k h.1 h.2.1 h.2.2.1 h.2.2.2.1 h.2.2.2.2.1 h.2.2.2.2.2.1 h.2.2.2.2.2.2.1 h.2.2.2.2.2.2.2.1 h.2.2.2.2.2.2.2.2.1 h.2.2.2.2.2.2.2.2.2.1 h.2.2.2.2.2.2.2.2.2.2
end
section
local macro_rules | `(tactic| size_fits) => `(tactic| first | exact fits0 | exact fits1 | exact fits2 | exact fits3 | exact fits4 | exact fits5)
local macro_rules | `(tactic| walk_at "lia") => do
  let f := fun (s : String) => ((s.splitOn " ").map fun x => Lean.mkIdent (.str `Mine x)).toArray
  let a := f "q1 q2 q0 p0 p1 p2 r0 r1 r2 s0 s1 i0 i1 cl1 cl2 cl0 cl3"
  let b := f "p0 i0 i1"
  let c := f "t0 t1 v1 i2"
  let d := f "m50 m51 m52"
  `(tactic| first | (with_reducible (first | assumption $[| exact $a ‹_›]* | exact z0 | exact Nat.le_of_lt ‹_› | exact Int.natCast_nonneg _ $[| exact $b (And.left ‹_›)]* $[| exact $b (And.right ‹_›)]* $[| exact $c ‹_› ‹_›]* $[| exact $d _]*)) | lia | omega)
local macro_rules | `(tactic| walk_at "room") => `(tactic| ((try simp +zetaDelta only [depth_under_make, depth_under_kw, depth_in1, depth_deeper, depth_caller]); (try dsimp only [ktrTop]); (show @LT.lt Nat _ _ 1000); walk_at "lia"))
local macro_rules | `(tactic| walk_at "binds") => `(tactic| first | exact BindsTo.of_eq rfl | exact binds_K (by k_in) rfl (by k_is) rfl rfl rfl | fail "k_enter: no rule for these arguments")
local macro_rules | `(tactic| walk_at "enter") => `(tactic| first
  | (refine' code_def ?k1 ?k2 ?k3 ?k4 ?k5 ?kA ?kF ?kK ?k6 ?k7 ?k8 ?k9 ?kB ?_ ?c2 ?c3 ?c4 ?c5; (case kA | kF => exact rfl); (case kK => assumption); (case k1 | k2 | k3 | k4 | k5 => k_asm); (case k6 | k7 => k_is); (case k8 => walk_at "room"); (case k9 => walk_at "binds"); (case c5 => decide); (case kB => exact locs rfl); (case c2 | c3 | c4 => exact rfl); k_whole; intro g' L' h' FG' F' N' B' X' T'; (try dsimp only); (try k_fold))
  | (refine' code_defC ?k1 ?k2 ?k3 ?k4 ?k5 ?kA ?kF ?kK ?k6 ?k7 ?k8 ?k9 ?kB ?kD ?_ ?c2 ?c3 ?c4; (case kA | kF => exact rfl); (case kK => assumption); (case k1 | k2 | k3 | k4 | k5 => k_asm); (case k6 | k7 => k_is); (case k8 => walk_at "room"); (case k9 => walk_at "binds"); (case kB => exact rfl); (case kD => decide +kernel); (case c2 | c3 | c4 => exact rfl); k_whole; intro g' L' h' tk' cells' FG' F' N' Y' B' X' T' l1; (try k_lt l1); k_cells Y'; (try simp only [List.cons_append, List.nil_append] at N'); (try dsimp only); (try k_fold)))
local macro_rules | `(tactic| walk_at "side") => `(tactic| first | rfl | ((try simp +zetaDelta only [depth_under_make, depth_under_kw, depth_in1, depth_deeper, depth_caller, units_in1, units_deeper, Around.mark_units, units_caller] at *); (try dsimp only [ktrTop] at *); walk_at "lia"))
local macro_rules | `(tactic| walk_at "call builtin:len") => `(tactic| (k_here; (with_reducible show wpAny _ _ (call (Value.builtin "len") [Value.ref _]) _ _ _); refine PyProof.Rows.len_list (News.isList (by k_asm) (by k_dflt k_mem)) (by (try simp only [List.size_toArray, List.length_map]); walk_at "lia") ?_))
local macro_rules | `(tactic| walk_at "fresh") => `(tactic| first | assumption | exact of_allLt (by assumption) | exact of_allLt (And.right (by assumption)) | exact of_allLt (And.right (And.right (by assumption))) | (intro p hp; simp only [AllLt, List.mem_cons, and_true] at *; rcases hp with rfl | hp <;> first | omega | (exact of_allLt (by assumption) _ hp) | (exact of_allLt (And.right (by assumption)) _ hp)))
local macro_rules | `(tactic| k_all) => `(tactic| first | assumption | exact List.forall_mem_nil _ | (refine List.forall_mem_cons.mpr ⟨by first | omega | (dsimp only; show @Ne Nat _ _; omega), ?_⟩; k_all))
local macro_rules | `(tactic| walk_at "dig") => do
  let b ← `(by assumption)
  let a ← (Array.range 10).mapM fun k => k.foldM (fun _ _ t => `(And.right $t)) b
  `(tactic| first | assumption $[| exact lt_ne $a]* | exact all_lt_ne (by assumption) $[| exact lt_ne_of $a (by omega)]*)
local macro_rules | `(tactic| walk_at "nd") => `(tactic| ((try simp only [nd_cons, List.cons_append, List.nil_append, List.forall_mem_cons]); (repeat' apply And.intro); (all_goals first | exact nd_nil | exact List.forall_mem_nil _ | (show @Ne Nat _ _; omega) | walk_at "dig")))
local macro_rules | `(tactic| walk_at "sub") => do
  let n := (Array.range 20).map Lean.quote
  `(tactic| repeat' first | exact sub_nil $[| refine sub_cons $n rfl ?_]* $[| exact sub_drop $n rfl]*)
local macro_rules | `(tactic| walk_at "mem") => do
  let n := (Array.range 20).map Lean.quote
  `(tactic| first $[| exact mem_skip $n (.head _)]* | simp)
section
theorem kind_tgi : builtinKind "tuple.__getitem__" = some .slot := by decide +kernel
theorem split_tgi : splitId "tuple.__getitem__" = some ("tuple", "__getitem__") := by decide +kernel
theorem quiet_tgi (a : Args) : (Code.builtin "tuple.__getitem__" a).quiet = true := Code.quiet_builtin _ (by decide +kernel)
theorem under_tgi (A : Around) (a : Args) : A.under (.builtin "tuple.__getitem__" a) = A.in1 := Around.under_plainId (by decide +kernel) a
set_option maxRecDepth 100000 in
set_option maxHeartbeats 400000 in
theorem pair_item {prog : Program} {w : World} {A : Around} {s : Shared} {p dx : Addr} {a b v : Value} {i : Int} {t : Tok} {Q E : Value → Shared → Prop}
   (X : (mkk.heap_1 w.params).In s.heap) (hp : s.heap.get? p = some ⟨.ref 210, some dx, .seq #[a, b] 0, #[]⟩) (hi : (i = 0 ∧ v = a) ∨ (i = 1 ∧ v = b)) (h : Q v s) :
   wpAny (model prog w) A (call (.builtin "tuple.__getitem__") [.ref p, .int i t]) Q E s := by
  obtain ⟨hh, g, d, tk, os⟩ := s
  dsimp only at X hp
  have L0 : Looks (model prog w) hh (typeOf (.ref p)) (.ref 210) := (Looks.ld hp).andThen .now
  have L1 : Looks (model prog w) hh (isInstance (.ref p) (.type "tuple")) true := L0.andThen (looks_mroIn X (by k_is))
  refine wpAny_call (codeAny_call_builtin_at (quiet_tgi _) entry_tuple_getitem (@check_slot (model prog w) _ _ ⟨hh, g, d, tk, os⟩ "tuple.__getitem__" "tuple" "__getitem__" (.ref p) [.int i t] [] _ kind_tgi split_tgi L1 (args_tuple_getitem _ _) ?_))
  rw [under_tgi]
  have f1 := AutoSeq1.idx_int
  have hk : ∃ k : Nat, seqIndex? i (#[a, b] : Array Value).size = some k ∧ (#[a, b] : Array Value)[k]? = some v := by
    rcases hi with ⟨rfl, rfl⟩ | ⟨rfl, rfl⟩
    · exact ⟨0, rfl, rfl⟩
    · exact ⟨1, rfl, rfl⟩
  obtain ⟨k, hk, hy⟩ := hk
  have hlo : -2 ^ 63 ≤ i := by rcases hi with ⟨rfl, _⟩ | ⟨rfl, _⟩ <;> decide
  have hhi : i < 2 ^ 63 := by rcases hi with ⟨rfl, _⟩ | ⟨rfl, _⟩ <;> decide
  have hf : ¬ (decide (i < -2 ^ 63) || decide (i ≥ 2 ^ 63)) = true := by simp; omega
  wp_walk using wpAny_loadPart' hp
  simp only [hk, hy, Option.bind_some]
  refine wpAny_ite_false (by simp; omega) ?_
  wp_walk
  exact h
set_option maxHeartbeats 400000 in
theorem tga_kind : builtinKind "tuple.__getattribute__" = some .slot := by decide +kernel
theorem tga_split : splitId "tuple.__getattribute__" = some ("tuple", "__getattribute__") := by decide +kernel
theorem tga_quiet (a : Args) : (Code.builtin "tuple.__getattribute__" a).quiet = true := Code.quiet_builtin _ (by decide +kernel)
theorem tga_under (A : Around) (a : Args) : A.under (.builtin "tuple.__getattribute__" a) = A.in1 := Around.under_plainId (by decide +kernel) a
theorem tga_entry : entryFor table "tuple.__getattribute__" = some Builtin.«object.__getattribute__» :=
  entryFor_alias (id' := "object.__getattribute__") (by kernel_rfl) (by decide +kernel) (by decide +kernel) (by kernel_rfl)
theorem tga_args (a b : Value) : argsOk "tuple.__getattribute__" ⟨[a, b], []⟩ := by unfold argsOk; kernel_rfl
theorem tga_bind (self : Value) : bindSpecial (.builtin "tuple.__getattribute__") self = pure (.builtin "tuple.__getattribute__", [self]) :=
  (Slot.of (T := "tuple") (name := "__getattribute__") (owner := "tuple") (n := "__getattribute__") (by rw [typeLookup_type, builtinLookup_eq_fast]; kernel_rfl) (by decide +kernel) (by decide +kernel) (by decide +kernel)
    (by first | exact .inl (by decide +kernel) | exact .inr (by decide +kernel)) (by rw [isSubtype_type]; kernel_rfl)).bind self

set_option maxHeartbeats 1000000 in
theorem tup_get_bind {K : Frag} {prog : Program} {w : World} {A : Around} {E : Value → Shared → Prop} {s : Shared} {Q : Value → Shared → Prop} {x C : Addr} {ox : Obj} {od : Option Obj} {name : Str} {expr : Bool} {g a : Value} (X : K.In s.heap) (I : InstAt s.heap x ox C od)
    (hga : findIn K (.ref C) "__getattribute__" = some (some (.builtin "tuple.__getattribute__"))) (hk : findIn K (.ref C) "__getattr__" = some none) (hm : mroIn K C (.type "tuple") = some true)
    (hf : findObj K C od name = some (.bind g a))
    (h : wpAny (model prog w) A.in1 (call g [a, .ref x, .ref C]) (fun v s' => wpAny (model prog w) A (handedOut v) Q E s') (fun _ _ => False) { s with toks := s.toks + 1 }) :
    wpAny (model prog w) A (getAttr (.ref x) name expr) Q E s := by
  obtain ⟨hh, gg, d, t, os⟩ := s
  have L0 := I.type (M := model prog w)
  have L1 := looks_findIn (M := model prog w) X hga
  have L2 := looks_findIn (M := model prog w) X hk
  have L3 := looks_find (M := model prog w) X I hf
  have L4 : Looks (model prog w) hh (isInstance (.ref x) (.type "tuple")) true := L0.andThen (looks_mroIn X hm)
  unfold getAttr getAttrBy
  refine wpAny_bind (wpAny_mkText (wpAny_holding (wpAny_bind (L0.at (wpAny_bind (L1.at ?_))))))
  show wpAny _ _ (getAttrByItsOwn (.ref x) (.str name t) (.ref C) (.builtin "tuple.__getattribute__") true expr) _ _ _
  unfold getAttrByItsOwn
  refine wpAny_bind (L2.at ?_)
  refine wpAny_bind (wpAny_attempt (wpAny_holding ?_))
  have e : callGetattribute (.ref x) (.str name t) (.builtin "tuple.__getattribute__") expr = boundAndCalled (.builtin "tuple.__getattribute__") (.ref x) (.str name t) := by
    unfold callGetattribute onTheHeap; rw [Bool.and_false]; rfl
  rw [e]
  unfold boundAndCalled
  rw [tga_bind]
  refine wpAny_bind (wpAny_pure ?_)
  refine wpAny_call (codeAny_call_builtin_at (tga_quiet _) tga_entry (@check_slot (model prog w) _ _ ⟨hh, gg, d, t + 1, os⟩ "tuple.__getattribute__" "tuple" "__getattribute__" (.ref x) [.str name t] [] _ tga_kind tga_split L4 (tga_args _ _) ?_))
  rw [tga_under]
  unfold Builtin.«object.__getattribute__»
  refine wpAny_bind (wpAny_pure ?_)
  refine wpAny_bind (wpAny_pure (wpAny_bind (L0.at (wpAny_bind (L3.at ?_)))))
  show wpAny _ _ (holding [a] (call g [a, .ref x, .ref C]) >>= ret) _ _ _
  exact wpAny_bind (wpAny_holding (wpAny_mono h (fun v s' z => wpAny_pure z) fun _ _ z => z.elim))
section
local macro_rules | `(tactic| x_close) => `(tactic| exact And.intro (by first | rfl | kernel_rfl) (by first | exact Kept.of_mem (by assumption) | exact Kept.start))
set_option maxRecDepth 100000 in
set_option maxHeartbeats 0 in
theorem x_type {w : World} {s : Shared} {p dx : Addr} {n v : Str} {tn tv : Tok} :
   (KY w.params).In s.heap → s.heap.get? p = some ⟨.ref 210, some dx, .seq #[.str n tn, .str v tv] 0, #[]⟩ → 
   Gives w (call (.type "type") [.ref p]) (.ref 210) s := by
  intro KX hp
  unfold Gives
  x_run
theorem is_entry : entryFor table "issubclass" = some Builtin.«issubclass» := entryFor_of_tree (by kernel_rfl)
set_option maxRecDepth 100000 in
theorem is_check {w : World} {h : Heap} (Y : (KY w.params).In h) : Looks (model PR w) h (checkBuiltinCall "issubclass" ⟨[.ref 210, .type "tuple"], []⟩) () := Looks.of_peek Y (by kernel_rfl)
theorem is_run {w : World} {h : Heap} (Y : (KY w.params).In h) : Looks (model PR w) h (Builtin.«issubclass» ⟨[.ref 210, .type "tuple"], []⟩) (.again (.builtin "issubclass.nested" ⟨[.ref 210, .type "tuple", rawInt 0], []⟩)) := Looks.of_peek Y (by kernel_rfl)
theorem is_entry2 : entryFor table "issubclass.nested" = some Builtin.«issubclass.nested» := entryFor_of_tree (by kernel_rfl)
set_option maxRecDepth 100000 in
theorem is_run2 {w : World} {h : Heap} (Y : (KY w.params).In h) : Looks (model PR w) h (Builtin.«issubclass.nested» ⟨[.ref 210, .type "tuple", rawInt 0], []⟩) (.done (.ret (.bool true))) := Looks.of_peek Y (by kernel_rfl)
theorem x_issub {w : World} {s : Shared} : (KY w.params).In s.heap → Gives w (call (.builtin "issubclass") [.ref 210, .type "tuple"]) (.bool true) s := by
  intro KX
  unfold Gives
  refine wpAny_call (codeAny_call_builtin_at (Code.quiet_builtin _ (by decide +kernel)) is_entry ((is_check KX).at ?_))
  refine (is_run KX).at ⟨Code.quiet_builtin _ (by decide +kernel), codeAny_builtin is_entry2 ?_⟩
  exact (is_run2 KX).at ⟨rfl, Kept.start⟩
end
section
local macro_rules | `(tactic| walk_at "call type:type") => `(tactic| (k_here; refine Gives.use (x_type (yin (by k_asm) (by k_asm) (by k_asm)) (News.get (by k_asm) (by k_mem))) (by k_asm) (by k_asm) (by rfl) (by walk_at "side") (by walk_at "side") ?_; intro h' tk' F' N'; (try k_sweep)))
local macro_rules | `(tactic| walk_at "call builtin:issubclass") => `(tactic| (k_here; refine Gives.use (x_issub (yin (by k_asm) (by k_asm) (by k_asm))) (by k_asm) (by k_asm) (by rfl) (by walk_at "side") (by walk_at "side") ?_; intro h' tk' F' N'; (try k_sweep)))
local macro_rules | `(tactic| walk_at "getMethod type:tuple") => `(tactic| (k_here; refine' method_type ?F ?X ?m (by decide +kernel) ?e ?h ?_; (case F => k_asm); (case X => k_asm); (case m => first | rfl | kernel_rfl); (case e => k_dflt k_is); (case h => k_handed)))
local macro_rules | `(tactic| walk_at "call builtin:tuple.__getitem__") => `(tactic| (k_here; refine pair_item (by k_in) (News.get (by k_asm) (by k_mem)) (by first | exact .inl ⟨rfl, rfl⟩ | exact .inr ⟨rfl, rfl⟩) ?_))
set_option maxRecDepth 100000 in
set_option maxHeartbeats 1000000 in
theorem get_name_t {w : World} {l1 l2 : Addr} {n1 n2 : Str} {t1 t2 : Tok} {news : List (Addr × Obj)} : Calls w 68 [.ref 179, .ref l1, .ref 210] ((l1, pairO l2 n1 n2 t1 t2) :: (l2, dictOf [] 0) :: news) 10 80 (fun r led => r = .str n1 t1 ∧ led = ((l1, pairO l2 n1 n2 t1 t2) :: (l2, dictOf [] 0) :: news)) := by
  unfold Calls
  intro dp un gd cn cs a ccd cl outer A₀ base h₀ L m s Q E loose mean mg mb B YB F X N T hk hdp hu hret
  refine wpAny_call ?_
  k_dflt (walk_at "enter")
  k_steps
  all_goals exact hret _ _ _ _ ⟨rfl, rfl⟩ (by k_asm) (by k_asm)
set_option maxRecDepth 100000 in
set_option maxHeartbeats 1000000 in
theorem get_value_t {w : World} {l1 l2 : Addr} {n1 n2 : Str} {t1 t2 : Tok} {news : List (Addr × Obj)} : Calls w 68 [.ref 182, .ref l1, .ref 210] ((l1, pairO l2 n1 n2 t1 t2) :: (l2, dictOf [] 0) :: news) 10 80 (fun r led => r = .str n2 t2 ∧ led = ((l1, pairO l2 n1 n2 t1 t2) :: (l2, dictOf [] 0) :: news)) := by
  unfold Calls
  intro dp un gd cn cs a ccd cl outer A₀ base h₀ L m s Q E loose mean mg mb B YB F X N T hk hdp hu hret
  refine wpAny_call ?_
  k_dflt (walk_at "enter")
  k_steps
  all_goals exact hret _ _ _ _ ⟨rfl, rfl⟩ (by k_asm) (by k_asm)
theorem pair_name {w : World} {dp un : Nat} {gd : Option (List Code)} {cn : Str} {cs : Scope} {a : Addr} {ccd : Value} {cl : List (Str × Addr)} {outer : List Env} {A₀ : Around} {base h₀ : Heap} {L : Addr} {m : Str → Option Value} {s : Shared} {Q E : Value → Shared → Prop} {loose : List Str} {mean : ExcName → Option Value} {mg mb : Str → Option Value} {news : List (Addr × Obj)} {p dx : Addr} {n v : Str} {tn tv : Tok} {ex : Bool}
    (F : Fr h₀ L s.heap m) (B : Below A₀ base outer h₀) (YB : (KY w.params).In base) (X : (mkk.heap_1 w.params).In h₀) (N : News h₀ L s.heap news) (T : Top topProg loose mean mg mb h₀) (hk : cs.kind = .function) (hd : dp + 10 ≤ 800) (hu : un + 81 ≤ 6000)
    (h1 : (p, pairO dx n v tn tv) ∈ news) (h2 : (dx, dictOf [] 0) ∈ news)
    (k : ∀ h' tk', Fr h₀ L h' m → News h₀ L h' news → Q (.str n tn) { s with heap := h', toks := tk' }) :
    wpAny (model PySem.Challenge.rw_ik0001_01.row.prog w) (ktrTop dp un gd cn cs L a ccd cl outer) (getAttr (.ref p) "name" ex) Q E s := by
  have I : InstAt s.heap p (pairO dx n v tn tv) 210 (some (dictOf [] 0)) := ⟨(N _ h1).1, rfl, rfl, (N _ h2).1⟩
  refine tup_get_bind (X.keeps F.keep) I (by k_is) (by k_is) (by k_is) (g := .ref 68) (a := .ref 179) (by kernel_rfl) ?_
  refine Calls.use get_name_t (un := un + 1) (led := (p, pairO dx n v tn tv) :: (dx, dictOf [] 0) :: news) (s := { s with toks := s.toks + 1 }) F B YB X (fun q hq => ?_) T hk hd (by omega) ?_
  · rcases List.mem_cons.mp hq with rfl | hq
    · exact N _ h1
    · rcases List.mem_cons.mp hq with rfl | hq
      · exact N _ h2
      · exact N _ hq
  · rintro r led' h' tk' ⟨rfl, rfl⟩ F' N'
    exact wpAny_pure (k h' tk' F' fun q hq => N' q (List.mem_cons_of_mem _ (List.mem_cons_of_mem _ hq)))
theorem pair_value {w : World} {dp un : Nat} {gd : Option (List Code)} {cn : Str} {cs : Scope} {a : Addr} {ccd : Value} {cl : List (Str × Addr)} {outer : List Env} {A₀ : Around} {base h₀ : Heap} {L : Addr} {m : Str → Option Value} {s : Shared} {Q E : Value → Shared → Prop} {loose : List Str} {mean : ExcName → Option Value} {mg mb : Str → Option Value} {news : List (Addr × Obj)} {p dx : Addr} {n v : Str} {tn tv : Tok} {ex : Bool}
    (F : Fr h₀ L s.heap m) (B : Below A₀ base outer h₀) (YB : (KY w.params).In base) (X : (mkk.heap_1 w.params).In h₀) (N : News h₀ L s.heap news) (T : Top topProg loose mean mg mb h₀) (hk : cs.kind = .function) (hd : dp + 10 ≤ 800) (hu : un + 81 ≤ 6000)
    (h1 : (p, pairO dx n v tn tv) ∈ news) (h2 : (dx, dictOf [] 0) ∈ news)
    (k : ∀ h' tk', Fr h₀ L h' m → News h₀ L h' news → Q (.str v tv) { s with heap := h', toks := tk' }) :
    wpAny (model PySem.Challenge.rw_ik0001_01.row.prog w) (ktrTop dp un gd cn cs L a ccd cl outer) (getAttr (.ref p) "value" ex) Q E s := by
  have I : InstAt s.heap p (pairO dx n v tn tv) 210 (some (dictOf [] 0)) := ⟨(N _ h1).1, rfl, rfl, (N _ h2).1⟩
  refine tup_get_bind (X.keeps F.keep) I (by k_is) (by k_is) (by k_is) (g := .ref 68) (a := .ref 182) (by kernel_rfl) ?_
  refine Calls.use get_value_t (un := un + 1) (led := (p, pairO dx n v tn tv) :: (dx, dictOf [] 0) :: news) (s := { s with toks := s.toks + 1 }) F B YB X (fun q hq => ?_) T hk hd (by omega) ?_
  · rcases List.mem_cons.mp hq with rfl | hq
    · exact N _ h1
    · rcases List.mem_cons.mp hq with rfl | hq
      · exact N _ h2
      · exact N _ hq
  · rintro r led' h' tk' ⟨rfl, rfl⟩ F' N'
    exact wpAny_pure (k h' tk' F' fun q hq => N' q (List.mem_cons_of_mem _ (List.mem_cons_of_mem _ hq)))
end
end
section
section
set_option maxRecDepth 100000
theorem tn_sub {w : World} {h : Heap} (Y : (KY w.params).In h) : Looks (model PR w) h (isSubtype (.ref 210) (.type "tuple")) true := Looks.of_peek Y (by kernel_rfl)
theorem tn_type {w : World} {h : Heap} (Y : (KY w.params).In h) : Looks (model PR w) h (isType (.ref 210)) true := Looks.of_peek Y (by kernel_rfl)
theorem tn_base {w : World} {h : Heap} (Y : (KY w.params).In h) : Looks (model PR w) h (Bind.staticBase (.ref 210)) (.type "tuple") := Looks.of_peek Y (by kernel_rfl)
theorem tn_made {w : World} {h : Heap} (Y : (KY w.params).In h) : Looks (model PR w) h (Bind.madeBy (.type "tuple")) (some "tuple.__new__") := Looks.of_peek Y (by kernel_rfl)
theorem tn_here {w : World} {h : Heap} (Y : (KY w.params).In h) : Looks (model PR w) h (Bind.madeHere "tuple.__new__" (.ref 210)) () := Looks.of_peek Y (by kernel_rfl)
theorem tn_check {w : World} {h : Heap} {t : Addr} (Y : (KY w.params).In h) : Looks (model PR w) h (checkBuiltinCall "tuple.__new__" ⟨[.ref 210, .ref t], []⟩) () := Looks.of_peek Y (by kernel_rfl)
theorem no_up {h h' : Heap} {n : Nat} (k : ∀ b o, h.get? b = some o → h'.get? b = some o) (hn : h'.objs.size ≤ n) : h.get? n = none := by
  cases e : h.get? n with
  | none => rfl
  | some o => exact absurd (Heap.lt_size (k _ _ e)) (Nat.not_lt.mpr hn)
/-- a dict and an object over it, new on the heap -/
theorem made2 {s : Shared} {h' : Heap} {tk : Tok} {o1 : Obj} {o : Addr → Obj} (k : ∀ b o, s.heap.get? b = some o → h'.get? b = some o) (e : o1 = o h'.objs.size) (he : ∀ x, Obj.isFreed (o x) = false) :
    ∃ q q2, Value.ref (h'.objs.size + 1) = .ref q ∧ (∀ b o, s.heap.get? b = some o → ((h'.push emptyDict).push o1).get? b = some o) ∧ (∃ h t, { s with heap := (h'.push emptyDict).push o1, toks := tk } = { s with heap := h, toks := t }) ∧ ((h'.push emptyDict).push o1).get? q = some (o q2) ∧ ((h'.push emptyDict).push o1).get? q2 = some emptyDict ∧ s.heap.get? q = none ∧ s.heap.get? q2 = none ∧ q2 ≠ q := by
  subst e
  refine ⟨h'.objs.size + 1, h'.objs.size, rfl, fun b o e => Heap.get?_push_of_some _ (Heap.get?_push_of_some _ (k b o e)), ⟨_, _, rfl⟩, ?_, ?_, no_up k (Nat.le_succ _), no_up k (Nat.le_refl _), Nat.ne_of_lt (Nat.lt_succ_self _)⟩
  · have := Heap.get?_push_size (h'.push emptyDict) (he h'.objs.size)
    rwa [Heap.size_push] at this
  · exact Heap.get?_push_of_some _ (Heap.get?_push_size _ rfl)
theorem hasDel_210 {w : World} {h : Heap} (Y : (KY w.params).In h) : Looks (model PR w) h (classHasDel 210) false := Looks.of_peek Y (by kernel_rfl)
theorem tn_init {w : World} {h : Heap} (Y : (KY w.params).In h) : Looks (model PR w) h (typeLookup (.ref 210) "__init__") (some (.builtin "object.__init__")) := Looks.of_peek Y (by kernel_rfl)
section
variable {w : World} {h : Heap}
theorem mb_call (Y : (KY w.params).In h) : Looks (model PR w) h (specialOf (.ref 115) "__call__") (some (.builtin "type.__call__")) := looks_specialIn Y (by kernel_rfl)
theorem mb_typ (Y : (KY w.params).In h) : Looks (model PR w) h (isInstance (.ref 115) (.type "type")) true := looks_instIn Y (by kernel_rfl)
theorem mb_made (Y : (KY w.params).In h) : Looks (model PR w) h (Bind.madeBy (.ref 115)) (some "dict.__new__") := Looks.of_peek Y (by kernel_rfl)
theorem mb_mro (Y : (KY w.params).In h) : Looks (model PR w) h (mroOf (.ref 115) >>= fun l => pure l.isEmpty) false := Looks.of_peek Y (by kernel_rfl)
theorem mb_check {x : Addr} (Y : (KY w.params).In h) : Looks (model PR w) h (checkBuiltinCall "dict.__new__" ⟨[.ref 115, .ref x], []⟩) () := Looks.of_peek Y (by kernel_rfl)
theorem mb_type (Y : (KY w.params).In h) : Looks (model PR w) h (isType (.ref 115)) true := Looks.of_peek Y (by kernel_rfl)
theorem mb_sub (Y : (KY w.params).In h) : Looks (model PR w) h (isSubtype (.ref 115) (.type "dict")) true := Looks.of_peek Y (by kernel_rfl)
theorem mb_self (Y : (KY w.params).In h) : Looks (model PR w) h (isSubtype (.ref 115) (.ref 115)) true := Looks.of_peek Y (by kernel_rfl)
theorem mb_dd (Y : (KY w.params).In h) : Looks (model PR w) h (isSubtype (.ref 115) (.type "collections.defaultdict")) true := Looks.of_peek Y (by kernel_rfl)
theorem mb_del (Y : (KY w.params).In h) : Looks (model PR w) h (classHasDel 115) false := Looks.of_peek Y (by kernel_rfl)
theorem mb_init (Y : (KY w.params).In h) : Looks (model PR w) h (typeLookup (.ref 115) "__init__") (some (.builtin "collections.defaultdict.__init__")) := Looks.of_peek Y (by kernel_rfl)
theorem mb_mro1 (Y : (KY w.params).In h) : Looks (model PR w) h (mroOf (.ref 115)) [.ref 115, .type "collections.defaultdict", .type "dict", .type "object"] := Looks.of_peek Y (by kernel_rfl)
theorem fn_call (Y : (KY w.params).In h) : Looks (model PR w) h (typeLookup (.type "function") "__call__") (some (.builtin "function.__call__")) := Looks.of_peek Y (by kernel_rfl)
noncomputable def clsHere (K : Frag) (C : Addr) : Bool := match K.lookup C with
  | some ⟨_, _, .cls _, _⟩ => true
  | _ => false
theorem clsHere_of {K : Frag} {C : Addr} (e : clsHere K C = true) : ∃ oc od cd sl, K.lookup C = some ⟨oc, od, .cls cd, sl⟩ := by
  unfold clsHere at e
  split at e
  · rename_i oc od cd sl ho; exact ⟨oc, od, cd, sl, ho⟩
  · cases e
theorem ddi_kind : builtinKind "collections.defaultdict.__init__" = some .slot := by decide +kernel
theorem ddi_split : splitId "collections.defaultdict.__init__" = some ("collections.defaultdict", "__init__") := by decide +kernel
theorem ddi_args (a b : Value) : argsOk "collections.defaultdict.__init__" ⟨[a, b], []⟩ := by unfold argsOk; kernel_rfl
theorem ddi_entry : entryFor table "collections.defaultdict.__init__" = some Builtin.«collections.defaultdict.__init__» := entryFor_of_tree (by kernel_rfl)
theorem ddi_bind (self : Value) : bindSpecial (.builtin "collections.defaultdict.__init__") self = pure (.builtin "collections.defaultdict.__init__", [self]) :=
  (Slot.of (T := "collections.defaultdict") (name := "__init__") (owner := "collections.defaultdict") (n := "__init__") (by rw [typeLookup_type, builtinLookup_eq_fast]; kernel_rfl) (by decide +kernel) (by decide +kernel) (by decide +kernel)
    (by first | exact .inl (by decide +kernel) | exact .inr (by decide +kernel)) (by rw [isSubtype_type]; kernel_rfl)).bind self
theorem di_entry : entryFor table "dict.__init__" = some Builtin.«dict.__init__» := entryFor_of_tree (by kernel_rfl)
end
/-- a call of a class whose maker is a built-in -/
theorem class_q {w : World} {A : Around} {s : Shared} {Q E : Value → Shared → Prop} {C : Addr} {args : List Value} {id : String} {l : List Value} {oc : Value} {od : Option Addr} {cd : ClassData} {sl : Array (Option Value)} (hC : s.heap.get? C = some ⟨oc, od, .cls cd, sl⟩)
    (l1 : Looks (model PR w) s.heap (specialOf (.ref C) "__call__") (some (.builtin "type.__call__"))) (l2 : Looks (model PR w) s.heap (isInstance (.ref C) (.type "type")) true) (l3 : Looks (model PR w) s.heap (mroOf (.ref C)) l) (hl : l.isEmpty = false) (l4 : Looks (model PR w) s.heap (Bind.madeBy (.ref C)) (some id))
    (h : wpAny (model PR w) (A.under (.builtin "type.__call__" ⟨.ref C :: args, []⟩)) (call (.builtin id) (.ref C :: args)) (fun o s1 => wpAny (model PR w) (A.under (.builtin "type.__call__" ⟨.ref C :: args, []⟩)) (isInstance o (.ref C)) (fun r s2 => r = true ∧ wpAny (model PR w) (A.under (.builtin "type.__call__" ⟨.ref C :: args, []⟩)) (callSpecial? o "__init__" args) (fun r s3 => r = some .none ∧ Q o s3) E s2) E s1) E s) :
    wpAny (model PR w) A (call (.ref C) args) Q E s := by
  refine wpAny_call ?_
  refine codeAny_of_tree ?_
  refine (?_ : wpAny _ _ (callAny (.ref C) _) _ _ _)
  refine nd_load hC ?_
  refine (?_ : wpAny _ _ (callAny.viaDunder (.ref C) _) _ _ _)
  unfold callAny.viaDunder
  refine wpAny_bind (l1.at ?_)
  dsimp only
  rw [tc_bind]
  refine wpAny_bind (wpAny_pure (wpAny_bind (wpAny_pure ?_)))
  refine wpAny_pure (a := Fin.again (.call (.builtin "type.__call__") ⟨.ref C :: args, []⟩)) (And.intro rfl ?_)
  refine codeAny_call_builtin_at (Code.quiet_builtin _ (by decide +kernel)) entry_typeCall (check_slot tc_kind tc_split l2 (tc_args _ _ _) ?_)
  unfold Builtin.«type.__call__»
  dsimp only
  first | refine wi_neg (by intro e; cases (beq_iff_eq.mp e)) ?_ | rw [if_neg (by intro e; cases (beq_iff_eq.mp e))]
  refine wpAny_bind (l3.at ?_)
  first | refine wi_neg (by rw [hl]; decide) ?_ | rw [if_neg (by rw [hl]; decide)]
  refine wpAny_bind (l4.at (wpAny_bind (wpAny_pure (wpAny_bind (wpAny_holding (wpAny_mono h (fun o s1 h1 => ?_) fun _ _ e => e))))))
  refine wpAny_bind (wpAny_mono h1 (fun r s2 h2 => ?_) fun _ _ e => e)
  obtain ⟨rfl, h3⟩ := h2
  first | refine wpAny_ite_false rfl ?_ | rw [if_neg (by decide)]
  refine wpAny_bind (wpAny_holding (wpAny_mono h3 (fun r s3 h4 => ?_) fun _ _ e => e))
  obtain ⟨rfl, q⟩ := h4
  dsimp only
  first | refine wpAny_ite_false rfl ?_ | rw [if_neg (by decide)]
  exact wpAny_pure q
theorem dnew_q {w : World} {A : Around} {s : Shared} {Q E : Value → Shared → Prop} {lam : Addr} (KX : (KY w.params).In s.heap)
    (q : Q (.ref (s.heap.objs.size + 1)) { s with heap := (s.heap.push emptyDict).push ⟨.ref 115, some s.heap.objs.size, .dict #[] 0, #[]⟩ }) :
    wpAny (model PR w) A (call (.builtin "dict.__new__") [.ref 115, .ref lam]) Q E s := by
  refine wpAny_call (codeAny_call_builtin_at (Code.quiet_builtin _ (by decide +kernel)) F.kt_entry_dict_new ((mb_check KX).at ?_))
  unfold Builtin.«dict.__new__»
  dsimp only
  refine wpAny_bind ((mb_type KX).at (wpAny_bind ((mb_sub KX).at (wpAny_bind ((mb_mro1 KX).at ?_)))))
  first | refine wpAny_ite_false rfl ?_ | rw [if_neg (by decide)]
  refine wpAny_bind (wpAny_alloc (wpAny_bind ?_))
  refine (?_ : wpAny _ _ (newObjAsIs _ _ _) _ _ _)
  unfold newObjAsIs
  refine wpAny_bind (wpAny_alloc (wpAny_bind ((mb_del KX) _ _ _ _ (fun b o e => Heap.get?_push_of_some _ (Heap.get?_push_of_some _ e)) ?_)))
  first | refine wpAny_ite_false rfl ?_ | rw [if_neg (by decide)]
  refine wpAny_pure (wpAny_pure ?_)
  rw [Heap.size_push]
  exact q
end
end
section
section
set_option maxRecDepth 100000
variable {w : World} {s : Shared} {b bx lam : Addr} {es : Array DictEntry} {n : Nat}
theorem sm_check {h : Heap} (Y : (KY w.params).In h) : Looks (model PR w) h (checkBuiltinCall "staticmethod.__get__" ⟨[.ref 188, .none, .ref 210], []⟩) () := Looks.of_peek Y (by kernel_rfl)
theorem sm_run {h : Heap} (Y : (KY w.params).In h) : Looks (model PR w) h (Builtin.«staticmethod.__get__» ⟨[.ref 188, .none, .ref 210], []⟩) (.done (.ret (.ref 137))) := Looks.of_peek Y (by kernel_rfl)
theorem sm_entry : entryFor table "staticmethod.__get__" = some Builtin.«staticmethod.__get__» := entryFor_of_tree (by kernel_rfl)
theorem x_smget : (KY w.params).In s.heap → Gives w (call (.builtin "staticmethod.__get__") [.ref 188, .none, .ref 210]) (.ref 137) s := by
  intro KX
  unfold Gives
  refine wpAny_call (codeAny_call_builtin_at (Code.quiet_builtin _ (by decide +kernel)) sm_entry ((sm_check KX).at ?_))
  exact (sm_run KX).at ⟨rfl, Kept.start⟩
theorem fa_check {h : Heap} (Y : (KY w.params).In h) : Looks (model PR w) h (checkBuiltinCall "member_descriptor.__get__" ⟨[.builtin "collections.defaultdict.default_factory", .ref b, .ref 115], []⟩) () := Looks.of_peek Y (by kernel_rfl)
theorem fa_entry : entryFor table "member_descriptor.__get__" = some Builtin.«member_descriptor.__get__» := entryFor_of_tree (by kernel_rfl)
theorem fa_entry2 : entryFor table "collections.defaultdict.default_factory" = some Builtin.«collections.defaultdict.default_factory» := entryFor_of_tree (by kernel_rfl)
theorem x_factory :
   (KY w.params).In s.heap → s.heap.get? b = some ⟨.ref 115, some bx, .dict es n, #[some (.ref lam)]⟩ →
   Gives w (call (.builtin "member_descriptor.__get__") [.builtin "collections.defaultdict.default_factory", .ref b, .ref 115]) (.ref lam) s := by
  intro KX h1
  unfold Gives
  have t1 : Looks (model PR w) s.heap (typeOf (.ref b)) (.ref 115) := (Looks.ld h1).andThen .now
  have i1 : Looks (model PR w) s.heap (isInstance (.ref b) (.type "collections.defaultdict")) true := t1.andThen (mb_dd KX)
  refine wpAny_call (codeAny_call_builtin_at (Code.quiet_builtin _ (by decide +kernel)) fa_entry ((fa_check KX).at ?_))
  unfold Builtin.«member_descriptor.__get__» Builtin.Getset_descriptor.descrGet
  refine wpAny_bind (wpAny_of_eq (a := ((.builtin "collections.defaultdict.default_factory", some (.ref b), some (.ref 115)) : Value × Option Value × Option Value)) (by first | rfl | kernel_rfl) ?_)
  dsimp only
  unfold Builtin.Getset_descriptor.descrGetter Builtin.Getset_descriptor.descrCheckInstance
  dsimp only
  refine wpAny_bind (wpAny_bind (wpAny_of_eq (a := ((Str.ofString "default_factory", Value.type "collections.defaultdict") : Str × Value)) (by first | rfl | kernel_rfl) ?_))
  dsimp only
  refine wpAny_bind (i1.at ?_)
  first | refine wpAny_ite_false rfl ?_ | rw [if_neg (by decide)]
  refine wpAny_pure ?_
  refine wpAny_pure ⟨Code.quiet_builtin _ (by decide +kernel), codeAny_builtin fa_entry2 ?_⟩
  unfold Builtin.«collections.defaultdict.default_factory»
  refine wpAny_bind (wpAny_bind (wpAny_bind (wpAny_loadPart h1 (wpAny_pure (wpAny_pure ?_)))))
  exact wpAny_pure ⟨rfl, Kept.start⟩
end
end
section
inductive FivePost (news : List (Addr × Obj)) : Value → List (Addr × Obj) → Prop
  | mk : ∀ q t1 t2 t3 t4 t5, (∀ p ∈ news, p.1 < q) → FivePost news (.ref q) ((q, lst [.str "B" t1, .str "a" t2, .str "a b" t3, .str "c" t4, .str "d" t5] 0) :: news)
set_option maxRecDepth 100000 in
set_option maxHeartbeats 1000000 in
theorem words_t {w : World} {news : List (Addr × Obj)} : Calls w 227 [] news 10 80 (FivePost news) := by
  unfold Calls
  intro dp un gd cn cs a ccd cl outer A₀ base h₀ L m s Q E loose mean mg mb B YB F X N T hk hdp hu hret
  refine wpAny_call ?_
  k_dflt (walk_at "enter")
  k_steps
  all_goals exact hret _ _ _ _ (.mk _ _ _ _ _ _ (by walk_at "fresh")) (by k_asm) (by k_asm)
/-- what _law_noted leaves -/
inductive Noted (nt : Addr) (vs : List Value) (news : List (Addr × Obj)) : Value → List (Addr × Obj) → Prop
  | mk : ∀ q tk e', q ≠ nt → (∀ p ∈ news, p.1 < q) → Noted nt vs news (.ref q) ((q, lst [] 0) :: (nt, lst (vs ++ [.int vs.length tk]) e') :: news)
set_option maxRecDepth 100000 in
set_option maxHeartbeats 1000000 in
theorem noted_t {w : World} {nt : Addr} {vs : List Value} {e : Nat} {news : List (Addr × Obj)} (hn : ∀ p ∈ news, p.1 ≠ nt) (hl : vs.length ≤ 100000) : Calls w 220 [.ref nt] ((nt, lst vs e) :: news) 10 80
   (Noted nt vs news) := by
  unfold Calls
  intro dp un gd cn cs a ccd cl outer A₀ base h₀ L m s Q E loose mean mg mb B YB F X N T hk hdp hu hret
  refine wpAny_call ?_
  k_dflt (walk_at "enter")
  k_steps
  all_goals (
    (with_reducible rename News h₀ L _ _ => kN')
    simp only [List.push_toArray, List.size_toArray] at kN'
    refine hret _ _ _ _ (.mk _ _ _ ?_ (by walk_at "fresh")) (by k_asm) kN'
    intro hh; subst hh; simp only [AllLt] at *; omega)
end
section
theorem dga_kind : builtinKind "collections.defaultdict.__getattribute__" = some .slot := by decide +kernel
theorem dga_split : splitId "collections.defaultdict.__getattribute__" = some ("collections.defaultdict", "__getattribute__") := by decide +kernel
theorem dga_quiet (a : Args) : (Code.builtin "collections.defaultdict.__getattribute__" a).quiet = true := Code.quiet_builtin _ (by decide +kernel)
theorem dga_under (A : Around) (a : Args) : A.under (.builtin "collections.defaultdict.__getattribute__" a) = A.in1 := Around.under_plainId (by decide +kernel) a
theorem dga_entry : entryFor table "collections.defaultdict.__getattribute__" = some Builtin.«object.__getattribute__» :=
  entryFor_alias (id' := "object.__getattribute__") (by kernel_rfl) (by decide +kernel) (by decide +kernel) (by kernel_rfl)
theorem dga_args (a b : Value) : argsOk "collections.defaultdict.__getattribute__" ⟨[a, b], []⟩ := by unfold argsOk; kernel_rfl
theorem dga_bind (self : Value) : bindSpecial (.builtin "collections.defaultdict.__getattribute__") self = pure (.builtin "collections.defaultdict.__getattribute__", [self]) :=
  (Slot.of (T := "collections.defaultdict") (name := "__getattribute__") (owner := "collections.defaultdict") (n := "__getattribute__") (by rw [typeLookup_type, builtinLookup_eq_fast]; kernel_rfl) (by decide +kernel) (by decide +kernel) (by decide +kernel)
    (by first | exact .inl (by decide +kernel) | exact .inr (by decide +kernel)) (by rw [isSubtype_type]; kernel_rfl)).bind self
theorem args_getattr_3 (a b c : Value) : argsOk "getattr" ⟨[a, b, c], []⟩ := by unfold argsOk; kernel_rfl
theorem dict_getBy_value {K : Frag} {prog : Program} {w : World} {A : Around} {E : Value → Shared → Prop} {s : Shared} {Q : Value → Shared → Prop} {x C : Addr} {ox : Obj} {od : Option Obj} {name : Str} {t : Tok} {expr fill : Bool} {v : Value} (X : K.In s.heap) (I : InstAt s.heap x ox C od)
    (hga : findIn K (.ref C) "__getattribute__" = some (some (.builtin "collections.defaultdict.__getattribute__"))) (hk : findIn K (.ref C) "__getattr__" = some none) (hm : mroIn K C (.type "collections.defaultdict") = some true)
    (hf : findObj K C od name = some (.value v)) (hh : handedIn v = true) (h : Q v s) :
    wpAny (model prog w) A (getAttrBy (.ref x) (.str name t) fill expr) Q E s := by
  have L0 := I.type (M := model prog w)
  have L1 := looks_findIn (M := model prog w) X hga
  have L2 := looks_findIn (M := model prog w) X hk
  have L3 := looks_find (M := model prog w) X I hf
  have L4 : Looks (model prog w) s.heap (isInstance (.ref x) (.type "collections.defaultdict")) true := L0.andThen (looks_mroIn X hm)
  unfold getAttrBy
  refine wpAny_holding (wpAny_bind (L0.at (wpAny_bind (L1.at ?_))))
  show wpAny _ _ (getAttrByItsOwn (.ref x) (.str name t) (.ref C) (.builtin "collections.defaultdict.__getattribute__") fill expr) _ _ _
  unfold getAttrByItsOwn
  refine wpAny_bind (L2.at ?_)
  refine wpAny_bind (wpAny_attempt (wpAny_holding ?_))
  have e : callGetattribute (.ref x) (.str name t) (.builtin "collections.defaultdict.__getattribute__") expr = boundAndCalled (.builtin "collections.defaultdict.__getattribute__") (.ref x) (.str name t) := by
    unfold callGetattribute onTheHeap; rw [Bool.and_false]; rfl
  rw [e]
  unfold boundAndCalled
  rw [dga_bind]
  refine wpAny_bind (wpAny_pure ?_)
  refine wpAny_call (codeAny_call_builtin_at (dga_quiet _) dga_entry (@check_slot (model prog w) _ _ s "collections.defaultdict.__getattribute__" "collections.defaultdict" "__getattribute__" (.ref x) [.str name t] [] _ dga_kind dga_split L4 (dga_args _ _) ?_))
  rw [dga_under]
  unfold Builtin.«object.__getattribute__»
  refine wpAny_bind (wpAny_pure ?_)
  refine wpAny_bind (wpAny_pure (wpAny_bind (L0.at (wpAny_bind (L3.at ?_)))))
  refine wpAny_pure ?_
  show wpAny _ _ (handedOut v) _ _ _
  rw [handedOut_of hh]
  exact wpAny_pure h
section
set_option maxRecDepth 100000
theorem nm_115 {w : World} {h : Heap} (Y : (KY w.params).In h) : Looks (model PR w) h (typeNameCut 100 (.ref 115)) "FreezableDefaultDict" := Looks.of_peek Y (by kernel_rfl)
theorem book_missing {w : World} {A : Around} {Q E : Value → Shared → Prop} {s : Shared} {x : Addr} {ox : Obj} {od : Option Obj} {name : Str} {t : Tok} (X : (KY w.params).In s.heap) (I : InstAt s.heap x ox 115 od)
    (hf : findObj (KY w.params) 115 od name = some .missing) (hn : name.length + 100 ≤ sizeLine) (hh : A.handled = none) (h : ∀ h' tk e, Heap.NewAttrErr s.heap h' e (.ref x) name → E (.ref e) { s with heap := h', toks := tk }) :
    wpAny (model PR w) A (getAttrBy (.ref x) (.str name t) false false) Q E s := by
  have L0 := I.type (M := model PR w)
  have L1 : Looks (model PR w) s.heap (typeLookup (.ref 115) "__getattribute__") (some (.builtin "collections.defaultdict.__getattribute__")) := looks_findIn X (by kernel_rfl)
  have L2 : Looks (model PR w) s.heap (typeLookup (.ref 115) "__getattr__") none := looks_findIn X (by kernel_rfl)
  have L3 := looks_find (M := model PR w) X I hf
  have L4 : Looks (model PR w) s.heap (isInstance (.ref x) (.type "collections.defaultdict")) true := L0.andThen (mb_dd X)
  unfold getAttrBy
  refine wpAny_holding (wpAny_bind (L0.at (wpAny_bind (L1.at ?_))))
  refine (?_ : wpAny _ _ (getAttrByItsOwn (.ref x) (.str name t) (.ref 115) (.builtin "collections.defaultdict.__getattribute__") false false) _ _ _)
  unfold getAttrByItsOwn
  refine wpAny_bind (L2.at ?_)
  refine wpAny_bind (wpAny_attempt (wpAny_holding ?_))
  have e : callGetattribute (.ref x) (.str name t) (.builtin "collections.defaultdict.__getattribute__") false = boundAndCalled (.builtin "collections.defaultdict.__getattribute__") (.ref x) (.str name t) := by
    unfold callGetattribute onTheHeap; rw [Bool.and_false]; rfl
  rw [e]
  unfold boundAndCalled
  rw [dga_bind]
  refine wpAny_bind (wpAny_pure ?_)
  refine wpAny_call (codeAny_call_builtin_at (dga_quiet _) dga_entry (@check_slot (model PR w) _ _ s "collections.defaultdict.__getattribute__" "collections.defaultdict" "__getattribute__" (.ref x) [.str name t] [] _ dga_kind dga_split L4 (dga_args _ _) ?_))
  rw [dga_under]
  unfold Builtin.«object.__getattribute__»
  refine wpAny_bind (wpAny_pure ?_)
  refine wpAny_bind (wpAny_pure (wpAny_bind (L0.at (wpAny_bind (L3.at ?_)))))
  dsimp only
  refine wpAny_ite_false rfl ?_
  refine wpAny_ite_false rfl ?_
  refine (?_ : wpAny _ _ (typeNameOfCut 100 (.ref x) >>= fun n => raiseAttrError (.ref x) name ((s!"'{n}' object has no attribute '" : Str) ++ name ++ "'")) _ _ _)
  refine wpAny_bind ?_
  unfold typeNameOfCut shownTypeOf
  refine wpAny_bind (wpAny_bind (L0.at ?_))
  first | refine wpAny_ite_false rfl ?_ | rw [if_neg (by decide)]
  refine wpAny_pure ?_
  refine (nm_115 X).at ?_
  refine wpAny_raiseAttrError hh (fun h' tk e hx => ?_) (attrMsg_fits (by decide +kernel) hn)
  obtain ⟨t', u', he⟩ := hx.there
  have ta : Looks (model PR w) h' (typeOf (.ref e)) (.type "AttributeError") := (Looks.ld he).andThen .now
  have ia : Looks (model PR w) h' (isInstance (.ref e) (.type "AttributeError")) true := ta.andThen (Looks.of_pure sub_AttributeError)
  unfold getattributeRaised
  refine wpAny_bind (ia.at ?_)
  first | refine wpAny_ite_true rfl ?_ | rw [if_pos rfl]
  refine wpAny_bind (wpAny_of_eq (a := none) rfl ?_)
  unfold hookOrError
  dsimp only
  unfold attributeErrorLeaves
  first | refine wpAny_ite_true rfl ?_ | rw [if_pos (by decide)]
  exact wpAny_throw (h _ _ _ hx)
theorem x_frozen_no {w : World} {s : Shared} {b bx lam q : Addr} {es : Array DictEntry} {n k : Nat} {t : Tok} :
   (KY w.params).In s.heap → s.heap.get? b = some ⟨.ref 115, some bx, .dict es n, #[some (.ref lam)]⟩ → s.heap.get? bx = some ⟨.type "dict", none, .dict #[] k, #[]⟩ →
   Gives w (call (.builtin "getattr") [.ref b, .str "_frozen" t, .ref q]) (.ref q) s := by
  intro KX h1 h2
  unfold Gives
  have I : InstAt s.heap b ⟨.ref 115, some bx, .dict es n, #[some (.ref lam)]⟩ 115 (some ⟨.type "dict", none, .dict #[] k, #[]⟩) := ⟨h1, rfl, rfl, h2⟩
  have L0 := I.type (M := model PR w)
  have Lm : Looks (model PR w) s.heap (isInstance (.ref b) (.type "module")) false := L0.andThen (looks_mroIn KX (by kernel_rfl))
  refine Calls.call_function_entry KB.kind_getattr KB.plain_getattr KB.entry_getattr (args_getattr_3 _ _ _) ?_
  unfold Builtin.«getattr»
  refine wpAny_bind (wpAny_of_eq (a := [.ref b, .str "_frozen" t, .ref q]) (by first | rfl | kernel_rfl) ?_)
  dsimp only
  refine wpAny_bind (wpAny_of_eq (a := ()) (by first | rfl | kernel_rfl) ?_)
  refine wpAny_bind (wpAny_of_eq (a := none) (by first | rfl | kernel_rfl) ?_)
  dsimp only
  refine wpAny_bind ?_
  refine wpAny_bind (wpAny_pure ?_)
  dsimp only
  refine wpAny_bind (Lm.at ?_)
  first | refine wpAny_ite_true rfl ?_ | rw [if_pos (by decide)]
  refine wpAny_pure ?_
  first | refine wpAny_ite_false rfl ?_ | rw [if_neg (by decide)]
  unfold getAttrBy?
  refine wpAny_bind (wpAny_bind (wpAny_attempt (book_missing KX I (by kernel_rfl) (by decide +kernel) rfl fun h' tk e hx => ?_)))
  obtain ⟨t', u', he⟩ := hx.there
  have ta : Looks (model PR w) h' (typeOf (.ref e)) (.type "AttributeError") := (Looks.ld he).andThen .now
  have ia : Looks (model PR w) h' (isInstance (.ref e) (.type "AttributeError")) true := ta.andThen (Looks.of_pure sub_AttributeError)
  refine wpAny_bind (ia.at ?_)
  first | refine wpAny_ite_true rfl ?_ | rw [if_pos rfl]
  refine wpAny_pure ?_
  dsimp only
  first | refine wpAny_ite_false rfl ?_ | rw [if_neg (by decide)]
  exact wpAny_pure ⟨_, rfl, rfl, hx.keeps, _, _, rfl⟩
end
theorem x_frozen_yes {w : World} {s : Shared} {b bx lam q g : Addr} {es : Array DictEntry} {n k : Nat} {hs : Int} {t t' : Tok} :
   (KY w.params).In s.heap → s.heap.get? b = some ⟨.ref 115, some bx, .dict es n, #[some (.ref lam)]⟩ → s.heap.get? bx = some ⟨.type "dict", none, .dict #[⟨hs, .str "_frozen" t', .ref g⟩] k, #[]⟩ →
   Gives w (call (.builtin "getattr") [.ref b, .str "_frozen" t, .ref q]) (.ref g) s := by
  intro KX h1 h2
  unfold Gives
  have I : InstAt s.heap b ⟨.ref 115, some bx, .dict es n, #[some (.ref lam)]⟩ 115 (some ⟨.type "dict", none, .dict #[⟨hs, .str "_frozen" t', .ref g⟩] k, #[]⟩) := ⟨h1, rfl, rfl, h2⟩
  have L0 := I.type (M := model PR w)
  have Lm : Looks (model PR w) s.heap (isInstance (.ref b) (.type "module")) false := L0.andThen (looks_mroIn KX (by kernel_rfl))
  refine Calls.call_function_entry KB.kind_getattr KB.plain_getattr KB.entry_getattr (args_getattr_3 _ _ _) ?_
  unfold Builtin.«getattr»
  refine wpAny_bind (wpAny_of_eq (a := [.ref b, .str "_frozen" t, .ref q]) (by first | rfl | kernel_rfl) ?_)
  dsimp only
  refine wpAny_bind (wpAny_of_eq (a := ()) (by first | rfl | kernel_rfl) ?_)
  refine wpAny_bind (wpAny_of_eq (a := none) (by first | rfl | kernel_rfl) ?_)
  dsimp only
  refine wpAny_bind ?_
  refine wpAny_bind (wpAny_pure ?_)
  dsimp only
  refine wpAny_bind (Lm.at ?_)
  first | refine wpAny_ite_true rfl ?_ | rw [if_pos (by decide)]
  refine wpAny_pure ?_
  first | refine wpAny_ite_false rfl ?_ | rw [if_neg (by decide)]
  unfold getAttrBy?
  refine wpAny_bind (wpAny_bind (wpAny_attempt (dict_getBy_value KX I (by kernel_rfl) (by kernel_rfl) (by kernel_rfl) (v := .ref g) (by kernel_rfl) rfl ?_)))
  refine wpAny_pure ?_
  dsimp only
  refine wpAny_pure ?_
  exact ⟨_, rfl, rfl, Kept.start⟩
end
section
section
noncomputable abbrev missO (b : Addr) : Obj := { cls := .type "builtin_function_or_method", data := .fields #[.builtin "collections.defaultdict.__missing__", .ref b] }
/-- a call that makes one object -/
noncomputable abbrev Makes (w : World) (t : Sem Value) (o : Obj) (s : Shared) : Prop := wpAny (model PR w) AX t (fun r s' => ∃ q, r = .ref q ∧ (∀ b o, s.heap.get? b = some o → s'.heap.get? b = some o) ∧ (∃ h tk, s' = { s with heap := h, toks := tk }) ∧ s'.heap.get? q = some o ∧ s.heap.get? q = none) (fun _ _ => False) s
theorem md_check {h : Heap} {w : World} {b : Addr} (Y : (KY w.params).In h) : Looks (model PR w) h (checkBuiltinCall "method_descriptor.__get__" ⟨[.builtin "collections.defaultdict.__missing__", .ref b, .ref 115], []⟩) () := Looks.of_peek Y (by kernel_rfl)
theorem md_entry : entryFor table "method_descriptor.__get__" = some Builtin.«method_descriptor.__get__» := entryFor_of_tree (by kernel_rfl)
set_option maxRecDepth 100000 in
theorem x_mdget {w : World} {s : Shared} {b bx lam : Addr} {es : Array DictEntry} {n : Nat} :
   (KY w.params).In s.heap → s.heap.get? b = some ⟨.ref 115, some bx, .dict es n, #[some (.ref lam)]⟩ → 
   Makes w (call (.builtin "method_descriptor.__get__") [.builtin "collections.defaultdict.__missing__", .ref b, .ref 115]) (missO b) s := by
  intro KX h1
  unfold Makes
  have t1 : Looks (model PR w) s.heap (typeOf (.ref b)) (.ref 115) := (Looks.ld h1).andThen .now
  have i1 : Looks (model PR w) s.heap (isInstance (.ref b) (.type "collections.defaultdict")) true := t1.andThen (mb_dd KX)
  refine wpAny_call (codeAny_call_builtin_at (Code.quiet_builtin _ (by decide +kernel)) md_entry ((md_check KX).at ?_))
  unfold Builtin.«method_descriptor.__get__»
  refine wpAny_bind (wpAny_of_eq (a := ((.builtin "collections.defaultdict.__missing__", some (.ref b), some (.ref 115)) : Value × Option Value × Option Value)) (by first | rfl | kernel_rfl) ?_)
  dsimp only
  refine wi_neg (by decide +kernel) ?_
  refine (?_ : wpAny _ _ (((pure (Str.ofString "__missing__", Value.type "collections.defaultdict") : Sem (Str × Value)) >>= fun p => isInstance (.ref b) p.2 >>= _) >>= fun _ => newFields "builtin_function_or_method" [.builtin "collections.defaultdict.__missing__", .ref b] >>= fun v => ret v) _ _ _)
  refine wpAny_bind (wpAny_bind (wpAny_pure (wpAny_bind (i1.at ?_))))
  first | refine wpAny_ite_false rfl ?_ | rw [if_neg (by decide)]
  refine wpAny_pure (wpAny_bind ?_)
  unfold newFields
  refine wpAny_newObj_type ?_
  exact wpAny_pure ⟨_, rfl, fun b o e => Heap.get?_push_of_some _ e, ⟨_, _, rfl⟩, Heap.get?_push_size _ rfl, no_up (fun _ _ e => e) (Nat.le_refl _)⟩
end
theorem Makes.use {w : World} {A : Around} {t : Sem Value} {o : Obj} {s : Shared} {Q E : Value → Shared → Prop} {h₀ : Heap} {L : Addr} {m : Str → Option Value} {news : List (Addr × Obj)} (G : Makes w t o s)
    (F : Fr h₀ L s.heap m) (N : News h₀ L s.heap news) (hh : A.handled = none) (hd : A.depth ≤ 800) (hu : A.units ≤ 6000)
    (k : ∀ q h' tk', Fr h₀ L h' m → News h₀ L h' ((q, o) :: news) → (∀ p ∈ news, p.1 ≠ q) → Q (.ref q) { s with heap := h', toks := tk' }) : wpAny (model PR w) A t Q E s := by
  refine by_AX hh hd hu (wpAny_mono G (fun r s' ⟨q, e, kp, ⟨h', tk', es⟩, ho, hn⟩ => ?_) fun _ _ x => x.elim)
  subst e es
  refine k q h' tk' (F.keeps kp) (fun p hp => ?_) fun p hp e => ?_
  · rcases List.mem_cons.mp hp with rfl | hp
    · refine ⟨ho, fun e => ?_, ?_⟩
      · obtain ⟨oL, _, _, hL, _⟩ := F.ns
        have e' : q = L := e
        subst e'; rw [hn] at hL; cases hL
      · cases z : h₀.get? q with
        | none => rfl
        | some o' => have := F.keep _ _ z; rw [hn] at this; cases this
    · exact News.grown N kp p hp
  · have := (N p hp).1
    rw [e, hn] at this; cases this
noncomputable abbrev bookO (bx lam : Addr) (es : List DictEntry) (n : Nat) : Obj := ⟨.ref 115, some bx, .dict es.toArray n, #[some (.ref lam)]⟩
theorem call_ite {M : Model} {A : Around} {Q E : Value → Shared → Prop} {s : Shared} {g x y a z : Value} {c : Prop} [Decidable c] (hc : ¬ c) (h : wpAny M A (call g [x, z, y]) Q E s) : wpAny M A (call g [x, if c then a else z, y]) Q E s := by
  rw [if_neg hc]; exact h
theorem md_type : typeOf (.builtin "collections.defaultdict.__missing__") = pure (.type "method_descriptor") := by show builtinType _ = _; rw [builtinType_eq_fast]; kernel_rfl
theorem md_get : typeLookup (.type "method_descriptor") "__get__" = pure (some (.builtin "method_descriptor.__get__")) := by rw [typeLookup_type, builtinLookup_eq_fast]; kernel_rfl
set_option maxRecDepth 100000 in
set_option maxHeartbeats 2000000 in
theorem super_attr {w : World} {A : Around} {s : Shared} {Q E : Value → Shared → Prop} {h₀ : Heap} {L : Addr} {m : Str → Option Value} {news : List (Addr × Obj)} {so b bx lam : Addr} {es : List DictEntry} {n : Nat} {ex : Bool}
    (F : Fr h₀ L s.heap m) (X : (mkk.heap_1 w.params).In h₀) (Y : (KY w.params).In s.heap) (N : News h₀ L s.heap news) (hh : A.handled = none) (hd : A.depth ≤ 799) (hu : A.units ≤ 5900)
    (hso : (so, ks_superObj 115 b 115) ∈ news) (hb : (b, bookO bx lam es n) ∈ news)
    (k : ∀ q h' tk', Fr h₀ L h' m → News h₀ L h' ((q, missO b) :: news) → (∀ p ∈ news, p.1 ≠ q) → Q (.ref q) { s with heap := h', toks := tk' }) :
    wpAny (model PR w) A (getAttr (.ref so) "__missing__" ex) Q E s := by
  have Xs := X.keeps F.keep
  have h1 := (N _ hso).1
  have h2 := (N _ hb).1
  have hxC : b ≠ 115 := by
    rintro rfl
    have e := Xs 115 _ (by k_is)
    rw [e] at h2; cases h2
  obtain ⟨hp, g, d, t, os⟩ := s
  dsimp only at F N Xs h1 h2 Y
  have hT : ∀ t', (⟨hp, g, d, t', os⟩ : Shared).TypeIs (.ref so) "super" := fun _ => ⟨_, h1, rfl⟩
  have hlk := PySem.F.ks_slot_super_ga.lookup
  have hno : Looks (model PR w) hp (opaqueClassAbove (.ref 115)) none := looks_opaque Xs (by k_is)
  have hne : (Value.ref b == Value.ref 115) = false := by simp [hxC]
  have hdt : (ks_superObj 115 b 115).data = .fields #[.ref 115, .ref b, .ref 115] := rfl
  have f0 : (#[.ref 115, .ref b, .ref 115] : Array Value)[0]? = some (.ref 115) := rfl
  have f1 : (#[.ref 115, .ref b, .ref 115] : Array Value)[1]? = some (.ref b) := rfl
  have f2 : (#[.ref 115, .ref b, .ref 115] : Array Value)[2]? = some (.ref 115) := rfl
  have hl : (([.ref 115, .type "collections.defaultdict", .type "dict", .type "object"] : List Value).dropWhile (· != .ref 115)).drop 1 = [.type "collections.defaultdict", .type "dict", .type "object"] := by decide +kernel
  have hC : Looks (model PR w) hp (mroOf (.ref 115)) [.ref 115, .type "collections.defaultdict", .type "dict", .type "object"] := fun A Q E s k q => wpAny_bind ((looks_clsIn Xs (by k_is)) A _ E s k (wpAny_pure q))
  have hown : classOwn (.type "collections.defaultdict") "__missing__" = pure (some (.builtin "collections.defaultdict.__missing__")) := by kernel_rfl
  have hf : alongIn (mkk.heap_1 w.params) "__missing__" [.type "collections.defaultdict", .type "dict", .type "object"] = some (some (.builtin "collections.defaultdict.__missing__")) := by kernel_rfl
  unfold getAttr getAttrBy
  refine wpAny_bind (wpAny_mkText (wpAny_holding (wpAny_bind (wpAny_typeOf (hT _) (wpAny_bind (wpAny_of_eq hlk ?_))))))
  show wpAny _ _ (getAttrByItsOwn (.ref so) (.str "__missing__" t) (.type "super") (.builtin "super.__getattribute__") true ex) _ _ _
  unfold getAttrByItsOwn hookBefore
  refine wpAny_bind (wpAny_of_eq (show (if onTheHeap (.type "super") then typeLookup (.type "super") "__getattr__" else pure none) = pure none from rfl) ?_)
  refine wpAny_bind (wpAny_attempt (wpAny_holding ?_))
  have e : callGetattribute (.ref so) (.str "__missing__" t) (.builtin "super.__getattribute__") ex = boundAndCalled (.builtin "super.__getattribute__") (.ref so) (.str "__missing__" t) := by
    unfold callGetattribute onTheHeap; rw [Bool.and_false]; rfl
  rw [e]
  unfold boundAndCalled
  refine wpAny_bind (wpAny_of_eq (PySem.F.ks_slot_super_ga.bind _) ?_)
  refine wpAny_mono (Q := fun v s' => ∃ q h' tk', v = .ref q ∧ s' = ⟨h', g, d, tk', os⟩ ∧ Fr h₀ L h' m ∧ News h₀ L h' ((q, missO b) :: news) ∧ (∀ p ∈ news, p.1 ≠ q)) (E := fun _ _ => False)
    (wpAny_call_entry PySem.F.ks_slot_super_ga (hT _) PySem.F.ks_entry_super_ga ?_ (PySem.F.ks_gaArgs_super _ _)) (fun v s' hv => ?_) fun _ _ z => z.elim
  · unfold Builtin.«super.__getattribute__»
    repeat (first
      | (with_reducible refine wpAny_field h1 hdt f0 ?_) | (with_reducible refine wpAny_field h1 hdt f1 ?_) | (with_reducible refine wpAny_field h1 hdt f2 ?_)
      | (with_reducible refine ks_wpAny_notOpaque hno ?_)
      | (with_reducible refine Looks.at hC ?_; rw [hl])
      | (rw [List.forIn_cons]; refine wpAny_bind (wpAny_bind (wpAny_bind (wpAny_of_eq hown ?_))))
      | (with_reducible refine wpAny_of_eq md_type ?_)
      | (with_reducible refine wpAny_of_eq md_get ?_)
      | (with_reducible refine wpAny_ite_false rfl ?_)
      | (with_reducible refine call_ite (by rw [hne]; decide) ?_)
      | (with_reducible show wpAny _ _ (holding _ (call _ [_, ite _ _ _, _])) _ _ _; refine wpAny_holding ?_)
      | (refine Makes.use (x_mdget Y h2) F N (by exact hh) (by simp only [depth_in1]; omega) (by simp only [units_in1]; omega) ?_; intro q h' tk' F' N' hq)
      | wp_step
      | dsimp only)
    all_goals exact ⟨_, rfl, q, h', tk', rfl, rfl, F', N', hq⟩
  · obtain ⟨q, h', tk', rfl, rfl, F', N', hq⟩ := hv
    exact wpAny_pure (k q h' tk' F' N' hq)
end
section
section
variable {α β : Type} {M : Model} {A : Around} {c : Code} {E : Value → Shared → Prop} {s : Shared} {env : Env}
theorem at_spliced_nil {Q : List Value → Shared → Prop} (h : Q [] s) : _root_.PySem.wpAt M A c (spliced []) Q E s := wpAt_of_wpAny (wpAny_pure h)
theorem at_spliced_cons {x : Sem Value} {rest : List (Bool × Sem Value)} {Q : List Value → Shared → Prop}
    (h : _root_.PySem.wpAt M A c x (fun v s₁ => _root_.PySem.wpAt M A c (spliced rest) (fun vs s₂ => Q (v :: vs) s₂) E s₁) E s) : _root_.PySem.wpAt M A c (spliced ((false, x) :: rest)) Q E s := by
  rw [spliced]
  refine _root_.PySem.wpAt_bind (_root_.PySem.wpAt_mono h (fun v s₁ h₁ => ?_) fun _ _ x => x)
  simp only [Bool.false_eq_true, if_false]
  exact _root_.PySem.wpAt_bind (wpAt_of_wpAny (wpAny_pure (_root_.PySem.wpAt_bind (ks_wpAt_holding (_root_.PySem.wpAt_mono h₁ (fun vs s₂ h₂ => wpAt_of_wpAny (wpAny_pure h₂)) fun _ _ x => x)))))
theorem at_evalArgs {f : Value} {x : Sem Value} {rest : List (Bool × Sem Value)} {Q : Args → Shared → Prop}
    (h : _root_.PySem.wpAt M A c (spliced ((false, x) :: rest)) (fun vs s' => Q ⟨vs, []⟩ s') E s) : _root_.PySem.wpAt M A c (evalArgs f true ((false, x) :: rest) []) Q E s := by
  unfold evalArgs
  show _root_.PySem.wpAt M A c (spliced ((false, x) :: rest) >>= _) Q E s
  refine _root_.PySem.wpAt_bind (_root_.PySem.wpAt_mono h (fun vs s' h' => wpAt_of_wpAny ?_) fun _ _ x => x)
  refine wpAny_holding ?_
  exact wpAny_bind (wpAny_pure (wpAny_bind (wpAny_pure (wpAny_pure h'))))
theorem at_callWith_builtin {pos : Pos} {id : String} {args : List (Bool × Sem Value)} {Q : Value → Shared → Prop} (hplain : args.any (·.1) = false)
    (h : _root_.PySem.wpAt M A c (evalArgs (.builtin id) true args []) (fun a s₁ => wpAny M A (call (.builtin id) a.pos a.kw) Q E s₁) E s) :
    _root_.PySem.wpAt M A c (callWith pos (.builtin id) [] args []) Q E s := by
  unfold callWith
  refine _root_.PySem.wpAt_bind (ks_wpAt_holding (_root_.PySem.wpAt_mono h (fun a s₁ h₁ => wpAt_of_wpAny (wpAny_bind (wpAny_standAt ?_))) fun _ _ x => x))
  simp only [hplain, List.any_nil, Bool.or_false]
  refine wpAny_bind (wpAny_pure ?_)
  exact wpAny_bind (wpAny_mono h₁ (fun r s₂ hr => wpAny_bind (wpAny_holding (wpAny_point (wpAny_pure hr)))) fun _ _ x => x)
theorem callWith_bound {pos : Pos} {q : Addr} {o : Obj} {vs : Array Value} {args : List (Bool × Sem Value)} {Q : Value → Shared → Prop} (hplain : args.any (·.1) = false)
    (h : wpAny M A (evalArgs (.ref q) true args []) (fun a s₁ => (s₁.heap.get? q = some o ∧ o.cls = .type "builtin_function_or_method" ∧ o.data = .fields vs) ∧ wpAny M A (call (.ref q) a.pos a.kw) Q E s₁) E s) :
    wpAny M A (callWith pos (.ref q) [] args []) Q E s := by
  unfold callWith
  refine wpAny_bind (wpAny_holding (wpAny_mono h (fun a s₁ h₁ => wpAny_bind (wpAny_standAt ?_)) fun _ _ x => x))
  simp only [hplain, List.any_nil, Bool.or_false]
  refine wpAny_bind (m := keeperOf (.ref q)) ?_
  unfold keeperOf
  refine wpAny_bind (wpAny_load h₁.1.1 ?_)
  rw [h₁.1.2.2, h₁.1.2.1]
  refine wpAny_pure ?_
  exact wpAny_bind (wpAny_mono h₁.2 (fun r s₂ hr => wpAny_bind (wpAny_holding (wpAny_point (wpAny_pure hr)))) fun _ _ x => x)
end
theorem at_missing {prog : Program} {w : World} {A : Around} {c : Code} {E : Value → Shared → Prop} {s : Shared} {env : Env} {g sf y : Str} {k : Const} {n : Nat} {p0 p1 p2 p3 p4 p5 p6 : Pos} {sup : Expr} {attr : Str} {id : String} {Q : Value → Shared → Prop}
    (h : wpAny (model prog w) A (eval (.Name g p0) env) (fun f s₁ => f = .builtin id ∧ wpAny (model prog w) A (eval (.Name sf p1) env) (fun v1 s₂ => wpAny (model prog w) A (eval (.Constant k n p2) env) (fun v2 s₃ =>
      _root_.PySem.wpAt (model prog w) A c (attributeBase sup attr env (eval sup env)) (fun ov s₄ => wpAny (model prog w) A (getAttr ov attr true) (fun v3 s₅ => wpAny (model prog w) A (call (.builtin id) [v1, v2, v3]) (fun r s₆ =>
        wpAny (model prog w) A (callWith p6 r [] (backTo p6 (starEach [.Name y p5] env)) []) Q E s₆) E s₅) E s₄) E s₃) E s₂) E s₁) E s) :
    _root_.PySem.wpAt (model prog w) A c (eval (.Call (.Call (.Name g p0) [.Name sf p1, .Constant k n p2, .Attribute sup attr p3] [] p4) [.Name y p5] [] p6) env) Q E s := by
  show _root_.PySem.wpAt (model prog w) A c (do callWith p6 (← (do callWith p4 (← eval (.Name g p0) env) [] (backTo p4 (starEach [.Name sf p1, .Constant k n p2, .Attribute sup attr p3] env)) (backToKw p4 (keywordEach [] env)))) [] (backTo p6 (starEach [.Name y p5] env)) (backToKw p6 (keywordEach [] env))) Q E s
  refine _root_.PySem.wpAt_bind (_root_.PySem.wpAt_bind (wpAt_of_wpAny (wpAny_mono h (fun f s₁ hf => ?_) fun _ _ x => x)))
  obtain ⟨rfl, h₁⟩ := hf
  refine at_callWith_builtin rfl (at_evalArgs (at_spliced_cons (wpAt_of_wpAny (wpAny_mono h₁ (fun v1 s₂ h₂ => ?_) fun _ _ x => x))))
  refine at_spliced_cons (wpAt_of_wpAny (wpAny_mono h₂ (fun v2 s₃ h₃ => ?_) fun _ _ x => x))
  refine at_spliced_cons ?_
  show _root_.PySem.wpAt _ _ _ (eval (.Attribute sup attr p3) env) _ _ _
  rw [arm_eval_Attribute]
  refine _root_.PySem.wpAt_bind (_root_.PySem.wpAt_mono h₃ (fun ov s₄ h₄ => wpAt_of_wpAny (wpAny_bind (wpAny_standAt (wpAny_bind (wpAny_holding (wpAny_mono h₄ (fun v3 s₅ h₅ => ?_) fun _ _ x => x)))))) fun _ _ x => x)
  refine wpAny_bind (wpAny_letTemporaryGo (wpAny_pure (at_spliced_nil ?_)))
  exact wpAny_mono h₅ (fun r s₆ h₆ => wpAt_of_wpAny h₆) fun _ _ x => x
end
section
theorem borrowed_eq (f : Value) (pos : List Value) : callBorrowed f pos = (call f pos).keep [borrowed] := by
  unfold callBorrowed call runValue run
  show Sem.call _ _ _ _ _ = Sem.call _ _ _ _ _
  congr 1
  funext x
  match x with
  | .ok (.ret v) => rfl
  | .ok .next => rfl
  | .error e => rfl
  | .ok .brk => rfl
  | .ok .cont => rfl
theorem ddm_entry : entryFor table "collections.defaultdict.__missing__" = some Builtin.«collections.defaultdict.__missing__» := entryFor_of_tree (by kernel_rfl)
theorem ddm_quiet (a : Args) : (Code.builtin "collections.defaultdict.__missing__" a).quiet = true := Code.quiet_builtin _ (by decide +kernel)
theorem ddm_under (A : Around) (a : Args) : A.under (.builtin "collections.defaultdict.__missing__" a) = A.in1 := Around.under_plainId (by decide +kernel) a
theorem isType_inst {M : Model} {h : Heap} {x : Addr} {ox : Obj} (e : h.get? x = some ox) (hn : ∀ c, ox.data ≠ .cls c) : Looks M h (isType (.ref x)) false :=
  fun _ _ _ _ k q => ks_wpAny_isType_inst (k _ _ e) hn q
theorem ddm_sig (b : Addr) (key : Value) : (match Manifest.signature? "collections.defaultdict.__missing__" with | some sg => Bind.checkArgs "collections.defaultdict.__missing__" { sg with full := toString (Str.ofString "FreezableDefaultDict").toString ++ toString "." ++ toString (Bind.lastOf "collections.defaultdict.__missing__") } ⟨[.ref b, key], []⟩ | none => pure ()) = pure () := by kernel_rfl
theorem ddm_kind : builtinKind "collections.defaultdict.__missing__" = some .method := by decide +kernel
set_option maxHeartbeats 400000 in
theorem check_ddm {w : World} {A : Around} {s : Shared} {E : Value → Shared → Prop} {Q : Unit → Shared → Prop} {b bx lam : Addr} {es : List DictEntry} {n : Nat} {key : Value}
    (Y : (KY w.params).In s.heap) (hb : s.heap.get? b = some (bookO bx lam es n)) (h : Q () s) :
    wpAny (model PR w) A (checkBoundCall "collections.defaultdict.__missing__" ⟨[.ref b, key], []⟩) Q E s := by
  have L0 : Looks (model PR w) s.heap (typeOf (.ref b)) (.ref 115) := (Looks.ld hb).andThen .now
  have L1 : Looks (model PR w) s.heap (isInstance (.ref b) (.type "module")) false := L0.andThen (looks_mroIn Y (by kernel_rfl))
  have L2 : Looks (model PR w) s.heap (typeOf (.ref 115)) (.type "type") := looks_typeIn Y (by kernel_rfl)
  have L3 : Looks (model PR w) s.heap (isType (.ref b)) false := isType_inst hb (fun c e => nomatch e)
  obtain ⟨cd, hc⟩ := Option.isSome_iff_exists.mp (show (clsIn (KY w.params) 115).isSome = true by kernel_rfl)
  have hqn : (clsIn (KY w.params) 115).map (·.qualname) = some (Str.ofString "FreezableDefaultDict") := by kernel_rfl
  rw [hc] at hqn
  have hqn : cd.qualname = Str.ofString "FreezableDefaultDict" := Option.some.inj hqn
  have L4 := looks_clsIn (M := model PR w) Y hc
  obtain ⟨sg, hs⟩ := Option.isSome_iff_exists.mp (show (Manifest.signature? "collections.defaultdict.__missing__").isSome = true by decide +kernel)
  have hk := ddm_sig b key
  rw [hs] at hk
  dsimp only at hk
  have hv : Manifest.varargsMethods.contains "collections.defaultdict.__missing__" = false := by decide +kernel
  unfold checkBoundCall
  rw [hs, ddm_kind]
  dsimp only
  first | refine wpAny_ite_false rfl ?_ | rw [if_neg (by decide)]
  refine wpAny_bind (L1.here ?_)
  rw [hv, if_neg (by decide)]
  refine wpAny_bind (L3.here ?_)
  first | refine wpAny_ite_false rfl ?_ | rw [if_neg (by decide)]
  refine wpAny_bind (L0.here ?_)
  dsimp only
  refine wpAny_bind (L4.here ?_)
  refine wpAny_bind (L2.here ?_)
  rw [if_pos (by decide), hqn, hk]
  exact wpAny_pure h
theorem codeAny_missO {w : World} {A : Around} {s : Shared} {R : Result → Shared → Prop} {q b bx lam : Addr} {es : List DictEntry} {n : Nat} {key : Value}
    (Y : (KY w.params).In s.heap) (hb : s.heap.get? b = some (bookO bx lam es n)) (hq : s.heap.get? q = some (missO b))
    (h : wpAny (model PR w) A.in1 (Builtin.«collections.defaultdict.__missing__» ⟨[.ref b, key], []⟩) (fun fin s' => match fin with | .done f => R (.ok f) s' | .again c' => c'.quiet = true ∧ codeAny (model PR w) A c' R s') (fun e s' => R (.error e) s') s) :
    codeAny (model PR w) A (.call (.ref q) ⟨[key], []⟩) R s := by
  refine codeAny_of_tree ?_
  show wpAny _ A.in1 (callAny (.ref q) ⟨[key], []⟩) _ _ s
  simp only [callAny]
  refine wpAny_bind (wpAny_load hq ?_)
  simp only [show (Value.type "builtin_function_or_method" == Value.type "method" || Value.type "builtin_function_or_method" == Value.type "builtin_function_or_method" || Value.type "builtin_function_or_method" == Value.type "method-wrapper") = true by decide, if_true]
  refine wpAny_bind (check_ddm Y hb ?_)
  refine wpAny_bind (wpAny_pure (wpAny_pure ?_))
  exact ⟨ddm_quiet _, codeAny_builtin ddm_entry (by rw [ddm_under]; exact h)⟩
end
section
noncomputable abbrev Ent := Int × Str × Tok × Addr
noncomputable def ent (e : Ent) : DictEntry := ⟨e.1, .str e.2.1 e.2.2.1, .ref e.2.2.2⟩
theorem ents_all (es : List Ent) : ((es.map ent).toArray.all fun e => isExactStrKey e.key) = true := by
  rw [Array.all_eq_true']
  intro e he
  simp only [List.mem_toArray, List.mem_map] at he
  obtain ⟨p, _, rfl⟩ := he
  rfl
theorem ents_none {es : List Ent} {x : Str} (h : ∀ e ∈ es, e.2.1 ≠ x) : ((es.map ent).toArray.findIdx? fun e => e.key.isStr x) = none := by
  rw [Array.findIdx?_eq_none_iff]
  intro e he
  simp only [List.mem_toArray, List.mem_map] at he
  obtain ⟨p, hp, rfl⟩ := he
  have := h p hp
  simp [ent, Value.isStr, this]
set_option maxHeartbeats 400000 in
theorem ddm_body {w : World} {A : Around} {s : Shared} {R : Result → Shared → Prop} {b bx lam : Addr} {es : List Ent} {n : Nat} {x : Str} {t : Tok} {lo : Obj} {fd : FuncData}
    (hb : s.heap.get? b = some (bookO bx lam (es.map ent) n)) (hbs : (b == sysModules) = false) (hl : s.heap.get? lam = some lo) (hlf : lo.data = .func fd) (habs : ∀ e ∈ es, e.2.1 ≠ x) (hsz : es.length ≤ 1000) 
    (h : wpAny (model PR w) A.in1 (call (.ref lam) []) (fun v s₁ => s₁.heap.get? b = some (bookO bx lam (es.map ent) n) ∧ (KY w.params).In s₁.heap ∧ ∀ hs h', Heap.SameBut b s₁.heap h' →
      h'.get? b = some (bookO bx lam (es.map ent ++ [⟨hs, .str x t, v⟩]) (n + 1)) → R (.ok (.ret v)) { s₁ with heap := h', toks := s₁.toks + 1 }) (fun e s' => R (.error e) s') s) :
    wpAny (model PR w) A.in1 (Builtin.«collections.defaultdict.__missing__» ⟨[.ref b, .str x t], []⟩) (fun fin s' => match fin with | .done f => R (.ok f) s' | .again c' => c'.quiet = true ∧ codeAny (model PR w) A c' R s') (fun e s' => R (.error e) s') s := by
  unfold Builtin.«collections.defaultdict.__missing__»
  refine wpAny_bind (wpAny_pure ?_)
  dsimp only
  refine wpAny_bind ?_
  unfold Builtin.Collections_defaultdict.factory? slotAt
  refine wpAny_bind (wpAny_bind (wpAny_loadPart' hb (wpAny_pure ?_)))
  refine wpAny_pure ?_
  show wpAny _ _ (do let value ← callOutOfASlot (.ref lam); again (.builtin "dict.setdefault" ⟨[.ref b, .str x t, value], []⟩)) _ _ _
  refine wpAny_bind ?_
  unfold callOutOfASlot
  refine wpAny_bind ?_
  unfold borrowsExactly
  refine wpAny_bind (wpAny_load hl ?_)
  rw [hlf]
  refine wpAny_pure ?_
  show wpAny _ _ (callBorrowed (.ref lam) []) _ _ _
  rw [borrowed_eq]
  refine wpAny_keep (wpAny_mono h (fun v s₁ hv => ?_) fun _ _ z => z)
  obtain ⟨hb1, Y1, hv⟩ := hv
  refine wpAny_pure ⟨Code.quiet_builtin _ (by decide +kernel), codeAny_builtin PySem.F.entry_dict_setdefault ?_⟩
  unfold Builtin.«dict.setdefault»
  have L0 : Looks (model PR w) s₁.heap (typeOf (.ref b)) (.ref 115) := (Looks.ld hb1).andThen .now
  have L1 : Looks (model PR w) s₁.heap (isInstance (.ref b) (.type "collections.OrderedDict")) false := L0.andThen (looks_mroIn Y1 (by kernel_rfl))
  refine wpAny_bind ?_
  unfold Builtin.Dict.keyAndDefault
  refine wpAny_bind ?_
  unfold Builtin.Dict.notOrdered
  first | refine wpAny_ite_true rfl ?_ | rw [if_pos (by decide)]
  refine wpAny_bind (L0.here ?_)
  first | refine wpAny_ite_true rfl ?_ | rw [if_pos (by decide)]
  refine wpAny_bind (L1.here ?_)
  first | refine wpAny_ite_false rfl ?_ | rw [if_neg (by decide)]
  refine wpAny_pure ?_
  show wpAny _ _ (pure (b, Value.str x t, some v)) _ _ _
  refine wpAny_pure ?_
  show wpAny _ _ (if (b == sysModules) = true then _ else (dictSetDefault b (.str x t) v >>= _)) _ _ _
  first | refine wi_neg (by rw [hbs]; decide) ?_ | rw [if_neg (by rw [hbs]; decide)]
  refine wpAny_bind ?_
  unfold dictSetDefault
  refine wpAny_holding (wpAny_bind ((PySem.strKind PR w).pyHash (strKind_is _ _ _ _) ?_))
  refine wpAny_bind (PyProof.Rows.KTD.kt_dictFind_strs hb1 rfl (ents_all es) ?_)
  rw [ents_none habs]
  refine wpAny_bind (wpAny_rule (wpAny_bind (wpAny_updateDictKeys hb1 rfl (wpAny_pure (wpAny_pure ?_)) (by simp [sizeLine]; omega))))
  refine hv ((PySem.strKind PR w).hash x) _ (Heap.SameBut.update ..) ?_
  rw [Heap.get?_update_self _ hb1 rfl]
  simp [Obj.mapDictKeys, List.push_toArray]
/-- a factory of books: each call tells the notes and gives a new empty list -/
noncomputable def Fac (w : World) (d : Nat) (lam nt : Addr) (vs : List Value) (sup : List (Addr × Obj)) : Prop :=
  (∃ lo fd, (lam, lo) ∈ sup ∧ lo.data = .func fd) ∧ ∀ (news : List (Addr × Obj)) (ns : List Value) (e : Nat), (∀ p ∈ sup, p ∈ news) → (∀ p ∈ news, p.1 ≠ nt) → ns.length ≤ 100000 →
    Calls w lam vs ((nt, lst ns e) :: news) d (10 * d) (Noted nt ns news)
theorem Calls.post {w : World} {f : Addr} {vs : List Value} {led : List (Addr × Obj)} {dd uu : Nat} {P P' : Value → List (Addr × Obj) → Prop} (C : Calls w f vs led dd uu P) (h : ∀ r l, P r l → P' r l) : Calls w f vs led dd uu P' :=
  fun _ _ _ _ _ _ _ _ _ _ _ _ _ _ _ _ _ _ _ _ _ B Y F X N T hk hd hu k => C _ _ _ _ _ _ _ _ _ _ _ _ _ _ _ _ _ _ _ _ _ B Y F X N T hk hd hu fun r l h' tk p => k r l h' tk (h r l p)
theorem call_miss {w : World} {A : Around} {s : Shared} {Q E : Value → Shared → Prop} {q b bx lam : Addr} {es : List Ent} {n : Nat} {x : Str} {t : Tok} {lo : Obj} {fd : FuncData}
    (Y : (KY w.params).In s.heap) (hb : s.heap.get? b = some (bookO bx lam (es.map ent) n)) (hq : s.heap.get? q = some (missO b)) (hbs : (b == sysModules) = false) (hl : s.heap.get? lam = some lo) (hlf : lo.data = .func fd) (habs : ∀ e ∈ es, e.2.1 ≠ x) (hsz : es.length ≤ 1000) 
    (h : wpAny (model PR w) A.in1 (call (.ref lam) []) (fun v s₁ => s₁.heap.get? b = some (bookO bx lam (es.map ent) n) ∧ (KY w.params).In s₁.heap ∧ ∀ hs h', Heap.SameBut b s₁.heap h' →
      h'.get? b = some (bookO bx lam (es.map ent ++ [⟨hs, .str x t, v⟩]) (n + 1)) → Q v { s₁ with heap := h', toks := s₁.toks + 1 }) E s) :
    wpAny (model PR w) A (call (.ref q) [.str x t]) Q E s :=
  wpAny_call (codeAny_missO Y hb hq (ddm_body (R := fun r s' => match r with | .ok (.ret v) => Q v s' | .ok _ => False | .error e => E e s') hb hbs hl hlf habs hsz h))
end
section
/-- what FreezableDefaultDict.__missing__ leaves in a book that is not frozen -/
inductive Missed (nt b bx lam : Addr) (ns : List Value) (es : List Ent) (n : Nat) (x : Str) (t : Tok) (news : List (Addr × Obj)) : Value → List (Addr × Obj) → Prop
  | mk : ∀ q tk e' hs, q ≠ nt → b < q → bx < q → (∀ p ∈ news, p.1 < q) → Missed nt b bx lam ns es n x t news (.ref q) ((q, lst [] 0) :: (nt, lst (ns ++ [.int ns.length tk]) e') :: (b, bookO bx lam ((es ++ [(hs, x, t, q)]).map ent) (n + 1)) :: (bx, dictOf [] 0) :: news)
section
local macro_rules | `(tactic| k_room) => `(tactic| walk_at "room")
set_option maxRecDepth 100000 in
set_option maxHeartbeats 400000 in
theorem missing_t {w : World} {b bx lam nt : Addr} {es : List Ent} {n : Nat} {x : Str} {t : Tok} {ns : List Value} {e : Nat} {sup news : List (Addr × Obj)} (fac : Fac w 15 lam nt [] sup) (hsup : ∀ p ∈ sup, p ∈ news)
   (hnt : ∀ p ∈ news, p.1 ≠ nt) (hnb : ∀ p ∈ news, p.1 ≠ b) (hbx : bx ≠ nt ∧ b ≠ nt ∧ bx ≠ b ∧ (b == sysModules) = false) (hl : ns.length ≤ 100000) (habs : ∀ e ∈ es, e.2.1 ≠ x) (hsz : es.length ≤ 1000) : 
   Calls w 105 [.ref b, .str x t] ((nt, lst ns e) :: (b, bookO bx lam (es.map ent) n) :: (bx, dictOf [] 0) :: news) 50 500 
     (Missed nt b bx lam ns es n x t news) := by
  unfold Calls
  intro dp un gd cn cs a ccd cl outer A₀ base h₀ L m s Q E loose mean mg mb B YB F X N T hk hdp hu hret
  refine wpAny_call ?_
  k_dflt (refine' ks_code_super ?k1 ?k2 ?k3 ?k4 ?k5 ?kA ?kF ?kK ?k6 ?k7 ?k8 ?k9 ?kB ?_ ?c1 ?c2 ?c3 ?c4; (case kA => exact rfl); (case kF => exact rfl); (case kK => assumption); (case k1 => k_asm); (case k2 => k_asm); (case k3 => k_asm); (case k4 => k_asm); (case k5 => k_asm); (case k6 => k_is); (case k7 => k_is); (case k8 => walk_at "room"); (case k9 => exact BindsTo.of_eq rfl); (case kB => exact locs rfl); (case c1 => decide); (case c2 => exact rfl); (case c3 => exact rfl); (case c4 => exact rfl); intro g' L' h' FG' F' N' B' X' T' l1; (try k_lt l1); (try dsimp only); (try k_lift B'))
  refine ks_wpAt_execs_cons (ks_wpAt_Return_some (at_missing (id := "getattr") ?_))
  k_steps
  have Ib : ∀ {s' : Shared}, News g' L' s'.heap ((nt, lst ns e) :: (b, bookO bx lam (es.map ent) n) :: (bx, dictOf [] 0) :: news) → InstAt s'.heap b (bookO bx lam (es.map ent) n) 115 (some (dictOf [] 0)) := fun N => ⟨(N (b, bookO bx lam (es.map ent) n) (by k_mem)).1, rfl, rfl, (N (bx, dictOf [] 0) (by k_mem)).1⟩
  k_dflt (refine ks_node (by k_asm) (by k_asm) (by k_asm) (by k_asm) (by k_is) (by rfl) (by rfl) (Ib (by k_asm)) (by k_is) (by rfl) (by first | rfl | decide +kernel) (by k_is) (by k_is) (by k_is) (by k_is) (by decide) (by rfl) (by rfl) (by rfl) (by rfl) (by decide +kernel) (by first | boot_by_name | rfl | kernel_rfl) ?_; intro so' h' F' N' l1; (try k_lt l1))
  refine super_attr (by k_asm) (by k_asm) (yin (by k_asm) (by k_asm) (by k_asm)) (by k_asm) (by rfl) (by walk_at "side") (by walk_at "side") (by k_mem) (by k_mem) ?_
  intro q' h' tk' F' N' hq'
  refine Gives.use (x_frozen_no (yin (by k_asm) (by k_asm) (by k_asm)) (News.get (by k_asm) (by k_mem)) (News.get (by k_asm) (by k_mem))) (by k_asm) (by k_asm) (by rfl) (by walk_at "side") (by walk_at "side") ?_
  intro h' tk' F' N'
  refine callWith_bound (o := missO b) (vs := #[.builtin "collections.defaultdict.__missing__", .ref b]) rfl (evalArgs_plain (spliced_cons ?_))
  show wpAny _ _ (eval (.Name _ _) _) _ _ _
  k_steps
  · exact News.get (by k_asm) (by k_mem)
  · trivial
  · trivial
  rename_i kh kN
  have Nx : News g' L' h' ((nt, lst ns e) :: (so', ks_superObj 115 b 115) :: (q', missO b) :: (b, bookO bx lam (es.map ent) n) :: (bx, dictOf [] 0) :: news) := fun p hp => N' p (by refine sub_of ?_ hp; walk_at "sub")
  obtain ⟨⟨lo, fd, hlo, hlf⟩, fac⟩ := fac
  have hb1 := (N' (b, bookO bx lam (es.map ent) n) (by k_mem)).1
  refine call_miss (yin (by k_asm) (by k_asm) (by k_asm)) hb1 (News.get N' (by k_mem)) hbx.2.2.2 (N' (lam, lo) (mem_skip 5 (hsup _ hlo))).1 hlf habs hsz ?_
  refine Calls.use (fac ((so', ks_superObj 115 b 115) :: (q', missO b) :: (b, bookO bx lam (es.map ent) n) :: (bx, dictOf [] 0) :: news) ns e ?_ ?_ hl) (un := un + 4) (by k_asm) (by k_asm) (by k_asm) (by k_asm) Nx (by k_asm) (by rfl) (by walk_at "side") (by walk_at "side") ?_
  · exact fun p hp => mem_skip 4 (hsup _ hp)
  · exact List.forall_mem_cons.mpr ⟨Nat.ne_of_gt l1.1, List.forall_mem_cons.mpr ⟨(hq' (nt, lst ns e) (mem_skip 1 (.head _))).symm, List.forall_mem_cons.mpr ⟨hbx.2.1, List.forall_mem_cons.mpr ⟨hbx.1, hnt⟩⟩⟩⟩
  · rintro r led h' tk' ⟨q, tk, e', hqn, hqf⟩ F2 N2
    refine ⟨(N2 (b, bookO bx lam (es.map ent) n) (mem_skip 4 (.head _))).1, yin F2 (by k_asm) (by k_asm), fun hs h2 hsame hget => ?_⟩
    have hbq : b < q := hqf (b, bookO bx lam (es.map ent) n) (mem_skip 2 (.head _))
    have hbxq : bx < q := hqf (bx, dictOf [] 0) (mem_skip 3 (.head _))
    have hb2 := N2 (b, bookO bx lam (es.map ent) n) (mem_skip 4 (.head _))
    have F3 := F2.change hsame hb2.2.1 hb2.2.2
    have N3 : News g' L' h2 ((q, lst [] 0) :: (nt, lst (ns ++ [.int ns.length tk]) e') :: (b, bookO bx lam ((es ++ [(hs, x, t, q)]).map ent) (n + 1)) :: (bx, dictOf [] 0) :: news) := by
      refine News.setIn (own := [(q, lst [] 0), (nt, lst (ns ++ [.int ns.length tk]) e')]) (rest := (bx, dictOf [] 0) :: news) (o := bookO bx lam (es.map ent) n) (fun p hp => N2 p ?_) ?_ ?_ hsame ?_
      · exact sub_of (by walk_at "sub") hp
      · exact List.forall_mem_cons.mpr ⟨(Nat.ne_of_lt hbq).symm, List.forall_mem_cons.mpr ⟨hbx.2.1.symm, List.forall_mem_nil _⟩⟩
      · exact List.forall_mem_cons.mpr ⟨hbx.2.2.1, hnb⟩
      · rw [hget, List.map_append]; rfl
    k_steps
    exact hret _ _ _ _ (.mk q tk e' hs hqn hbq hbxq fun p hp => hqf p (mem_skip 4 hp)) (by k_asm) (by k_asm)
end
end
section
theorem check_method {M : Model} {A : Around} {E : Value → Shared → Prop} {s : Shared} {i owner n : String} {self : Value} {rest : List Value} {kw : List (Str × Value)} {Q : Unit → Shared → Prop}
    (hk : builtinKind i = some .method) (hs : splitId i = some (owner, n)) (hi : Looks M s.heap (isInstance self (.type owner)) true) (ha : argsOk i ⟨self :: rest, kw⟩) (q : Q () s) :
    wpAny M A (checkBuiltinCall i ⟨self :: rest, kw⟩) Q E s := by
  simp only [checkBuiltinCall, hk, hs]
  refine wpAny_bind (hi.here ?_)
  simp only [Bool.not_true, Bool.false_eq_true, if_false]
  cases hsig : Manifest.signature? i with
  | none => exact wpAny_pure q
  | some sig =>
    simp only [argsOk, hsig] at ha
    have h2 : Bind.checkArgs i sig ⟨self :: rest, kw⟩ = pure () := ha
    show wpAny M A (Bind.checkArgs i sig ⟨self :: rest, kw⟩) Q E s
    rw [h2]; exact wpAny_pure q
theorem dgi_quiet (a : Args) : (Code.builtin "dict.__getitem__" a).quiet = true := Code.quiet_builtin _ (by decide +kernel)
theorem dgi_under (A : Around) (a : Args) : A.under (.builtin "dict.__getitem__" a) = A.in1 := Around.under_plainId (by decide +kernel) a
theorem seq_key {prog : Program} {w : World} {A : Around} {s : Shared} {Q E : Value → Shared → Prop} {b bx lam : Addr} {es : List DictEntry} {n : Nat} {key : Value} {name : Str}
    (Y : (KY w.params).In s.heap) (hb : s.heap.get? b = some (bookO bx lam es n)) (h : Q key s) : wpAny (model prog w) A (sequenceKey (.ref b) key name) Q E s := by
  have L0 : Looks (model prog w) s.heap (typeOf (.ref b)) (.ref 115) := (Looks.ld hb).andThen .now
  have L1 : Looks (model prog w) s.heap (isSubtype (.ref 115) (.type "collections.deque")) false := looks_mroIn Y (by kernel_rfl)
  unfold sequenceKey
  refine wpAny_bind (L0.here ?_)
  dsimp only
  refine wpAny_bind ?_
  unfold seqItemTypes
  simp only [List.anyM]
  refine wpAny_bind (L1.here ?_)
  refine wpAny_pure ?_
  first | refine wpAny_ite_true rfl ?_ | rw [if_pos (by decide)]
  exact wpAny_pure h
/-- book[key]: to the builtin -/
theorem book_item {w : World} {A : Around} {s : Shared} {Q E : Value → Shared → Prop} {b bx lam : Addr} {es : List DictEntry} {n : Nat} {key : Value}
    (Y : (KY w.params).In s.heap) (hb : s.heap.get? b = some (bookO bx lam es n))
    (h : wpAny (model PR w) A.in1 (Builtin.«dict.__getitem__» ⟨[.ref b, key], []⟩) (fun fin s' => ∃ v, fin = .done (.ret v) ∧ Q v s') E s) : wpAny (model PR w) A (getItem (.ref b) key) Q E s := by
  have L0 : Looks (model PR w) s.heap (typeOf (.ref b)) (.ref 115) := (Looks.ld hb).andThen .now
  have L1 : Looks (model PR w) s.heap (isInstance (.ref b) (.type "dict")) true := L0.andThen (looks_mroIn Y (by kernel_rfl))
  have L2 : Looks (model PR w) s.heap (typeLookup (.ref 115) "__getitem__") (some (.builtin "dict.__getitem__")) := looks_findIn Y (by kernel_rfl)
  unfold getItem
  refine wpAny_holding (wpAny_bind (seq_key Y hb ?_))
  refine wpAny_bind ?_
  unfold callSpecial? specialOf
  refine wpAny_bind (wpAny_bind (L0.here (L2.here ?_)))
  refine wpAny_holding ?_
  rw [PySem.slot_dict_getitem.bind]
  refine wpAny_bind (wpAny_pure ?_)
  refine wpAny_bind (wpAny_call (codeAny_call_builtin_at (dgi_quiet _) PySem.entry_dict_getitem (@check_method (model PR w) _ _ s "dict.__getitem__" "dict" "__getitem__" (.ref b) [key] [] _ (by decide +kernel) (by decide +kernel) L1 (PySem.args_dict_getitem _ _) ?_)))
  rw [dgi_under]
  refine wpAny_mono h (fun fin s' hv => ?_) fun _ _ z => z
  obtain ⟨v, rfl, hv⟩ := hv
  exact wpAny_pure (wpAny_pure hv)
theorem ents_find (x : Str) : ∀ es : List Ent, ((es.map ent).findIdx? fun e => e.key.isStr x).bind (fun i => ((es.map ent)[i]?).map (·.val)) = (es.find? fun e => e.2.1 == x).map fun e => .ref e.2.2.2
  | [] => rfl
  | e :: es => by
    have ih := ents_find x es
    rw [List.map_cons, List.findIdx?_cons, List.find?_cons]
    have he : (ent e).key.isStr x = (e.2.1 == x) := rfl
    rw [he]
    cases h : (e.2.1 == x) with
    | true => rfl
    | false =>
      simp only [Bool.false_eq_true, if_false]
      rw [← ih]
      cases (List.map ent es).findIdx? fun e => e.key.isStr x <;> rfl
theorem ents_get {w : World} {A : Around} {s : Shared} {E : Value → Shared → Prop} {Q : Option Value → Shared → Prop} {b bx lam : Addr} {es : List Ent} {n : Nat} {x : Str} {t : Tok}
    (hb : s.heap.get? b = some (bookO bx lam (es.map ent) n)) (h : Q ((es.find? fun e => e.2.1 == x).map fun e => .ref e.2.2.2) { s with toks := s.toks + 1 }) :
    wpAny (model PR w) A (dictGet b (.str x t)) Q E s := by
  unfold dictGet
  refine wpAny_holding (wpAny_bind ((PySem.strKind PR w).pyHash (strKind_is _ _ _ _) ?_))
  refine wpAny_bind (PyProof.Rows.KTD.kt_dictFind_strs hb rfl (ents_all es) ?_)
  rw [List.findIdx?_toArray]
  rw [← ents_find] at h
  cases hi : (es.map ent).findIdx? fun e => e.key.isStr x with
  | none => rw [hi] at h; exact wpAny_pure h
  | some i =>
    rw [hi] at h
    refine wpAny_bind (wpAny_dictEntries hb rfl (wpAny_pure ?_))
    rw [List.getElem?_toArray]
    exact h
theorem book_hit {w : World} {A : Around} {s : Shared} {Q E : Value → Shared → Prop} {b bx lam : Addr} {es : List Ent} {n : Nat} {x : Str} {t : Tok} {e : Ent}
    (Y : (KY w.params).In s.heap) (hb : s.heap.get? b = some (bookO bx lam (es.map ent) n)) (hf : (es.find? fun e => e.2.1 == x) = some e) (h : Q (.ref e.2.2.2) { s with toks := s.toks + 1 }) :
    wpAny (model PR w) A (getItem (.ref b) (.str x t)) Q E s := by
  refine book_item Y hb ?_
  unfold Builtin.«dict.__getitem__»
  show wpAny _ _ (dictGet b (.str x t) >>= _) _ _ _
  refine wpAny_bind (ents_get hb ?_)
  rw [hf]
  exact wpAny_pure ⟨_, rfl, h⟩
theorem book_miss {w : World} {A : Around} {s : Shared} {Q E : Value → Shared → Prop} {b bx lam : Addr} {es : List Ent} {n : Nat} {x : Str} {t : Tok}
    (Y : (KY w.params).In s.heap) (hb : s.heap.get? b = some (bookO bx lam (es.map ent) n)) (hbs : (b == sysModules) = false) (hf : (es.find? fun e => e.2.1 == x) = none) (h : wpAny (model PR w) A.in1 (call (.ref 105) [.ref b, .str x t]) Q E { s with toks := s.toks + 1 }) :
    wpAny (model PR w) A (getItem (.ref b) (.str x t)) Q E s := by
  refine book_item Y hb ?_
  unfold Builtin.«dict.__getitem__»
  show wpAny _ _ (dictGet b (.str x t) >>= _) _ _ _
  refine wpAny_bind (ents_get hb ?_)
  rw [hf]
  show wpAny _ _ (Builtin.Dict.missed b (.str x t) >>= _) _ _ _
  refine wpAny_bind ?_
  unfold Builtin.Dict.missed
  first | refine wi_neg (by rw [hbs]; decide) ?_ | rw [if_neg (by rw [hbs]; decide)]
  refine wpAny_pure ?_
  have Y1 : (KY w.params).In ({ s with toks := s.toks + 1 } : Shared).heap := Y
  have L0 : Looks (model PR w) s.heap (typeOf (.ref b)) (.ref 115) := (Looks.ld hb).andThen .now
  have L2 : Looks (model PR w) s.heap (typeLookup (.ref 115) "__missing__") (some (.ref 105)) := looks_findIn Y (by kernel_rfl)
  refine wpAny_bind (L0.at ?_)
  first | refine wpAny_ite_true rfl ?_ | rw [if_pos (by decide)]
  refine wpAny_bind ?_
  unfold callSpecial? specialOf
  refine wpAny_bind (wpAny_bind (L0.at (L2.at ?_)))
  refine wpAny_holding (wpAny_bind ((bind_fn Y (.ref b) (by kernel_rfl)).at ?_))
  refine wpAny_bind (wpAny_mono h (fun v s' hv => ?_) fun _ _ z => z)
  refine wpAny_pure ?_
  exact wpAny_bind (wpAny_rule (wpAny_pure ⟨_, rfl, hv⟩))
end
section
noncomputable abbrev frzO (g : Addr) (hs : Int) (t' : Tok) (k : Nat) : Obj := ⟨.type "dict", none, .dict #[⟨hs, .str "_frozen" t', .ref g⟩] k, #[]⟩
section
local macro_rules | `(tactic| k_room) => `(tactic| walk_at "room")
set_option maxRecDepth 100000 in
set_option maxHeartbeats 400000 in
theorem missing_f {w : World} {b bx lam nt g : Addr} {fh : Int} {ft : Tok} {k : Nat} {es : List Ent} {n : Nat} {x : Str} {t : Tok} {ns : List Value} {e : Nat} {sup news : List (Addr × Obj)} (fac : Fac w 25 g nt [.str x t] sup) (hsup : ∀ p ∈ sup, p ∈ (b, bookO bx lam (es.map ent) n) :: (bx, frzO g fh ft k) :: news)
   (hnt : ∀ p ∈ news, p.1 ≠ nt) (hbx : bx ≠ nt ∧ b ≠ nt) (hl : ns.length ≤ 100000) : 
   Calls w 105 [.ref b, .str x t] ((nt, lst ns e) :: (b, bookO bx lam (es.map ent) n) :: (bx, frzO g fh ft k) :: news) 50 500 
     (Noted nt ns ((b, bookO bx lam (es.map ent) n) :: (bx, frzO g fh ft k) :: news)) := by
  unfold Calls
  intro dp un gd cn cs a ccd cl outer A₀ base h₀ L m s Q E loose mean mg mb B YB F X N T hk hdp hu hret
  refine wpAny_call ?_
  k_dflt (refine' ks_code_super ?k1 ?k2 ?k3 ?k4 ?k5 ?kA ?kF ?kK ?k6 ?k7 ?k8 ?k9 ?kB ?_ ?c1 ?c2 ?c3 ?c4; (case kA => exact rfl); (case kF => exact rfl); (case kK => assumption); (case k1 => k_asm); (case k2 => k_asm); (case k3 => k_asm); (case k4 => k_asm); (case k5 => k_asm); (case k6 => k_is); (case k7 => k_is); (case k8 => walk_at "room"); (case k9 => exact BindsTo.of_eq rfl); (case kB => exact locs rfl); (case c1 => decide); (case c2 => exact rfl); (case c3 => exact rfl); (case c4 => exact rfl); intro g' L' h' FG' F' N' B' X' T' l1; (try k_lt l1); (try dsimp only); (try k_lift B'))
  refine ks_wpAt_execs_cons (ks_wpAt_Return_some (at_missing (id := "getattr") ?_))
  k_steps
  have Ib : ∀ {s' : Shared}, News g' L' s'.heap ((nt, lst ns e) :: (b, bookO bx lam (es.map ent) n) :: (bx, frzO g fh ft k) :: news) → InstAt s'.heap b (bookO bx lam (es.map ent) n) 115 (some (frzO g fh ft k)) := fun N => ⟨(N (b, bookO bx lam (es.map ent) n) (by k_mem)).1, rfl, rfl, (N (bx, frzO g fh ft k) (by k_mem)).1⟩
  k_dflt (refine ks_node (by k_asm) (by k_asm) (by k_asm) (by k_asm) (by k_is) (by rfl) (by rfl) (Ib (by k_asm)) (by k_is) (by rfl) (by first | rfl | decide +kernel) (by k_is) (by k_is) (by k_is) (by k_is) (by decide) (by rfl) (by rfl) (by rfl) (by rfl) (by decide +kernel) (by first | boot_by_name | rfl | kernel_rfl) ?_; intro so' h' F' N' l1; (try k_lt l1))
  refine super_attr (by k_asm) (by k_asm) (yin (by k_asm) (by k_asm) (by k_asm)) (by k_asm) (by rfl) (by walk_at "side") (by walk_at "side") (by k_mem) (by k_mem) ?_
  intro q' h' tk' F' N' hq'
  refine Gives.use (x_frozen_yes (yin (by k_asm) (by k_asm) (by k_asm)) (News.get (by k_asm) (by k_mem)) (News.get (by k_asm) (by k_mem))) (by k_asm) (by k_asm) (by rfl) (by walk_at "side") (by walk_at "side") ?_
  intro h' tk' F' N'
  have Nx : News g' L' h' ((nt, lst ns e) :: (b, bookO bx lam (es.map ent) n) :: (bx, frzO g fh ft k) :: news) := fun p hp => N' p (List.mem_cons_of_mem _ (List.mem_cons_of_mem _ hp))
  obtain ⟨⟨lo, fd, hlo, hlf⟩, fac⟩ := fac
  have hg := (Nx (g, lo) (List.mem_cons_of_mem _ (hsup _ hlo))).1
  refine callWith_function (o := lo) (fd := fd) (evalArgs_plain (spliced_cons ?_))
  show wpAny _ _ (eval (.Name _ _) _) _ _ _
  k_steps
  refine Calls.use (fac ((b, bookO bx lam (es.map ent) n) :: (bx, frzO g fh ft k) :: news) ns e hsup ?_ hl) (un := un + 3) (by k_asm) (by k_asm) (by k_asm) (by k_asm) Nx (by k_asm) (by rfl) (by walk_at "side") (by walk_at "side") ?_
  · exact List.forall_mem_cons.mpr ⟨hbx.2, List.forall_mem_cons.mpr ⟨hbx.1, hnt⟩⟩
  · rintro r led h' tk' ⟨q, tk, e', hqn, hqf⟩ F2 N2
    k_steps
    exact hret _ _ _ _ (.mk q tk e' hqn hqf) (by k_asm) (by k_asm)
end
end
section
section
noncomputable abbrev Makes2 (w : World) (t : Sem Value) (o : Addr → Obj) (o2 : Obj) (s : Shared) : Prop := wpAny (model PR w) AX t (fun r s' => ∃ q q2, r = .ref q ∧ (∀ b o, s.heap.get? b = some o → s'.heap.get? b = some o) ∧ (∃ h tk, s' = { s with heap := h, toks := tk }) ∧ s'.heap.get? q = some (o q2) ∧ s'.heap.get? q2 = some o2 ∧ s.heap.get? q = none ∧ s.heap.get? q2 = none ∧ q2 ≠ q) (fun _ _ => False) s
set_option maxRecDepth 100000
noncomputable abbrev setSlot0 (v : Value) (o : Obj) : Obj := { o with slots := (o.slots ++ Array.replicate (0 + 1 - o.slots.size) none).setIfInBounds 0 (some v) }
set_option maxHeartbeats 400000 in
theorem ddinit_q {w : World} {A : Around} {s : Shared} {Q E : Value → Shared → Prop} {x bx lam : Addr} {fd : FuncData} (KX : (KY w.params).In s.heap) (hx : s.heap.get? x = some ⟨.ref 115, some bx, .dict #[] 0, #[]⟩) (h1 : s.heap.get? lam = some ⟨.type "function", none, .func fd, #[]⟩)
    (KX' : (KY w.params).In (s.heap.update x (setSlot0 (.ref lam)))) (q : Q .none { s with heap := s.heap.update x (setSlot0 (.ref lam)) }) :
    wpAny (model PR w) A (call (.builtin "collections.defaultdict.__init__") [.ref x, .ref lam]) Q E s := by
  have t1 : Looks (model PR w) s.heap (typeOf (.ref x)) (.ref 115) := (Looks.ld hx).andThen .now
  have i1 : Looks (model PR w) s.heap (isInstance (.ref x) (.type "collections.defaultdict")) true := t1.andThen (mb_dd KX)
  have t2 : Looks (model PR w) s.heap (typeOf (.ref lam)) (.type "function") := (Looks.ld h1).andThen .now
  have f1 : Looks (model PR w) s.heap (specialOf (.ref lam) "__call__") (some (.builtin "function.__call__")) := t2.andThen (fn_call KX)
  refine wpAny_call (codeAny_call_builtin_at (Code.quiet_builtin _ (by decide +kernel)) ddi_entry (@check_slot (model PR w) _ _ s "collections.defaultdict.__init__" "collections.defaultdict" "__init__" (.ref x) [.ref lam] [] _ ddi_kind ddi_split i1 (ddi_args _ _) ?_))
  unfold Builtin.«collections.defaultdict.__init__»
  dsimp only [List.head?]
  refine (?_ : wpAny _ _ (specialOf (.ref lam) "__call__" >>= _) _ _ _)
  refine wpAny_bind (f1.at ?_)
  first | refine wpAny_ite_false rfl ?_ | rw [if_neg (by decide)]
  refine wpAny_bind (wpAny_bind (wpAny_loadPart hx (wpAny_pure ?_)))
  refine wpAny_bind ?_
  unfold Builtin.Collections_defaultdict.setFactory
  dsimp only
  refine wpAny_bind (wpAny_bind (wpAny_loadPart hx (wpAny_pure ?_)))
  first | refine wi_pos (by rfl) ?_ | rw [if_pos (by rfl)]
  refine wpAny_bind (wpAny_of_eq (a := ()) (by rfl) ?_)
  unfold setSlotAt
  first | refine wpAny_ite_false rfl ?_ | rw [if_neg (by decide)]
  refine wpAny_updatePart hx ?_
  refine wpAny_bind (wpAny_holding (wpAny_runValue (codeAny_builtin di_entry ?_)))
  unfold Builtin.«dict.__init__»
  have hx' := Heap.get?_update_self (setSlot0 (.ref lam)) hx rfl
  have t3 : Looks (model PR w) (s.heap.update x (setSlot0 (.ref lam))) (typeOf (.ref x)) (.ref 115) := (Looks.ld hx').andThen .now
  have i3 : Looks (model PR w) (s.heap.update x (setSlot0 (.ref lam))) (isInstance (.ref x) (.type "collections.OrderedDict")) false := t3.andThen (Looks.of_peek KX' (by kernel_rfl))
  unfold Builtin.Dict.selfAndRest Builtin.Dict.notOrdered
  refine wpAny_bind (wpAny_bind ?_)
  refine wi_pos (by decide +kernel) ?_
  refine wpAny_bind (t3.at ?_)
  refine wi_pos (by decide +kernel) ?_
  refine wpAny_bind (i3.at ?_)
  first | refine wpAny_ite_false rfl ?_ | rw [if_neg (by decide)]
  refine wpAny_pure ?_
  refine wpAny_bind (wpAny_of_eq (a := x) (by rfl) (wpAny_pure ?_))
  refine (?_ : wpAny _ _ (Builtin.Dict.addKeywords x [] >>= fun _ => ret .none) _ _ _)
  refine wpAny_bind (wpAny_of_eq (a := ()) (by rfl) ?_)
  refine wpAny_pure ?_
  exact wpAny_pure q
theorem x_mkbook {w : World} {s : Shared} {lam : Addr} {fd : FuncData} :
   (KY w.params).In s.heap → s.heap.get? lam = some ⟨.type "function", none, .func fd, #[]⟩ → 
   Makes2 w (call (.ref 115) [.ref lam]) (fun bx => bookO bx lam [] 0) (dictOf [] 0) s := by
  intro KX h1
  unfold Makes2
  obtain ⟨oc, od, cd, sl, hl⟩ := clsHere_of (K := KY w.params) (C := 115) (by kernel_rfl)
  refine class_q (KX 115 _ hl) (mb_call KX) (mb_typ KX) (mb_mro1 KX) rfl (mb_made KX) (dnew_q KX ?_)
  have k : ∀ b o, s.heap.get? b = some o → ((s.heap.push emptyDict).push ⟨.ref 115, some s.heap.objs.size, .dict #[] 0, #[]⟩).get? b = some o := fun b o e => Heap.get?_push_of_some _ (Heap.get?_push_of_some _ e)
  have hx : ((s.heap.push emptyDict).push ⟨.ref 115, some s.heap.objs.size, .dict #[] 0, #[]⟩).get? (s.heap.objs.size + 1) = some ⟨.ref 115, some s.heap.objs.size, .dict #[] 0, #[]⟩ := by rw [← Heap.size_push s.heap emptyDict]; exact Heap.get?_push_size _ rfl
  have k' : ∀ b o, s.heap.get? b = some o → (((s.heap.push emptyDict).push ⟨.ref 115, some s.heap.objs.size, .dict #[] 0, #[]⟩).update (s.heap.objs.size + 1) (setSlot0 (.ref lam))).get? b = some o := fun b o e => (Heap.get?_update_other _ _ (Nat.ne_of_gt (Nat.lt_succ_of_lt (Heap.lt_size e)))).trans (k b o e)
  have t1 : Looks (model PR w) ((s.heap.push emptyDict).push ⟨.ref 115, some s.heap.objs.size, .dict #[] 0, #[]⟩) (typeOf (.ref (s.heap.objs.size + 1))) (.ref 115) := (Looks.ld hx).andThen .now
  have i1 : Looks (model PR w) ((s.heap.push emptyDict).push ⟨.ref 115, some s.heap.objs.size, .dict #[] 0, #[]⟩) (isInstance (.ref (s.heap.objs.size + 1)) (.ref 115)) true := t1.andThen ((mb_self KX).keeps k)
  refine i1.at ?_
  refine ⟨rfl, ?_⟩
  unfold callSpecial? specialOf
  refine wpAny_bind (wpAny_bind (t1.at (((mb_init KX).keeps k).at ?_)))
  refine wpAny_holding (wpAny_bind ?_)
  rw [ddi_bind]
  refine wpAny_pure (wpAny_bind ?_)
  refine ddinit_q (KX.keeps k) hx (k _ _ h1) (KX.keeps k') (wpAny_pure ⟨rfl, ?_⟩)
  refine ⟨s.heap.objs.size + 1, s.heap.objs.size, rfl, k', ⟨_, _, rfl⟩, Heap.get?_update_self _ hx rfl, ?_, no_up (fun _ _ e => e) (Nat.le_succ _), no_up (fun _ _ e => e) (Nat.le_refl _), Nat.ne_of_lt (Nat.lt_succ_self _)⟩
  exact (Heap.get?_update_other _ _ (Nat.ne_of_gt (Nat.lt_succ_self _))).trans (Heap.get?_push_of_some _ (Heap.get?_push_size _ rfl))
end
theorem Makes2.use {w : World} {A : Around} {t : Sem Value} {o : Addr → Obj} {o2 : Obj} {s : Shared} {Q E : Value → Shared → Prop} {h₀ : Heap} {L : Addr} {m : Str → Option Value} {news : List (Addr × Obj)} (G : Makes2 w t o o2 s)
    (F : Fr h₀ L s.heap m) (N : News h₀ L s.heap news) (hh : A.handled = none) (hd : A.depth ≤ 800) (hu : A.units ≤ 6000)
    (k : ∀ q q2 h' tk', Fr h₀ L h' m → News h₀ L h' ((q, o q2) :: (q2, o2) :: news) → (∀ p ∈ news, p.1 ≠ q) → (∀ p ∈ news, p.1 ≠ q2) → q2 ≠ q → Q (.ref q) { s with heap := h', toks := tk' }) : wpAny (model PR w) A t Q E s := by
  refine by_AX hh hd hu (wpAny_mono G (fun r s' ⟨q, q2, e, kp, ⟨h', tk', es⟩, ho, ho2, hn, hn2, hq⟩ => ?_) fun _ _ x => x.elim)
  subst e es
  have hL : ∀ q, s.heap.get? q = none → q ≠ L := fun q hn e => by
    obtain ⟨oL, _, _, hL, _⟩ := F.ns
    have e' : q = L := e
    subst e'; rw [hn] at hL; cases hL
  have hz : ∀ q, s.heap.get? q = none → h₀.get? q = none := fun q hn => by
    cases z : h₀.get? q with
    | none => rfl
    | some o' => have := F.keep _ _ z; rw [hn] at this; cases this
  have hne : ∀ q, s.heap.get? q = none → ∀ p ∈ news, p.1 ≠ q := fun q hn p hp e => by
    have := (N p hp).1
    rw [e, hn] at this; cases this
  refine k q q2 h' tk' (F.keeps kp) (fun p hp => ?_) (hne q hn) (hne q2 hn2) hq
  rcases List.mem_cons.mp hp with rfl | hp
  · exact ⟨ho, hL _ hn, hz _ hn⟩
  · rcases List.mem_cons.mp hp with rfl | hp
    · exact ⟨ho2, hL _ hn2, hz _ hn2⟩
    · exact News.grown N kp p hp
end
section
theorem refuse_book (self : Value) : refuseLoop self "__setattr__" [.ref 115, .type "collections.defaultdict", .type "dict", .type "object"] = pure () := by
  rw [refuseLoop_ref]
  kernel_rfl
theorem book_set {w : World} {A : Around} {s : Shared} {Q : Unit → Shared → Prop} {E : Value → Shared → Prop} {h₀ : Heap} {L : Addr} {m : Str → Option Value} {pre post : List (Addr × Obj)} {b bx lam : Addr} {es : List DictEntry} {n : Nat} {v : Value}
    (F : Fr h₀ L s.heap m) (Y : (KY w.params).In s.heap) (N : News h₀ L s.heap (pre ++ (bx, dictOf [] 0) :: post)) (hb : s.heap.get? b = some (bookO bx lam es n)) (h1 : ∀ p ∈ pre, p.1 ≠ bx) (h2 : ∀ p ∈ post, p.1 ≠ bx)
    (h : ∀ h' hs t k, Fr h₀ L h' m → News h₀ L h' (pre ++ (bx, ⟨.type "dict", none, .dict #[⟨hs, .str "_frozen" t, v⟩] k, #[]⟩) :: post) → Q () { s with heap := h', toks := s.toks + 2 }) :
    wpAny (model PR w) A (setAttr (.ref b) "_frozen" v) Q E s := by
  have hbx := (N (bx, dictOf [] 0) (by simp)).1
  have I : InstAt s.heap b (bookO bx lam es n) 115 (some (dictOf [] 0)) := ⟨hb, rfl, rfl, hbx⟩
  refine set_plain (s := s) Y I (by kernel_rfl) ?_
  obtain ⟨cd, hc⟩ := Option.isSome_iff_exists.mp (show (clsIn (KY w.params) 115).isSome = true by kernel_rfl)
  have hmro : (clsIn (KY w.params) 115).map (·.mro) = some [.ref 115, .type "collections.defaultdict", .type "dict", .type "object"] := by kernel_rfl
  rw [hc] at hmro
  have hmro : cd.mro = _ := Option.some.inj hmro
  have hdd : (clsIn (KY w.params) 115).map (·.hasDict) = some true := by kernel_rfl
  rw [hc] at hdd
  have hdd : cd.hasDict = true := Option.some.inj hdd
  have SF := PySem.F.store_object
  have s' : Shared := { s with toks := s.toks + 1 }
  have Y' : (KY w.params).In ({ s with toks := s.toks + 1 } : Shared).heap := Y
  have L0 : Looks (model PR w) s.heap (typeOf (.ref b)) (.ref 115) := I.type
  have sub : Looks (model PR w) ({ s with toks := s.toks + 1 } : Shared).heap (isInstance (.ref b) (.type "object")) true := I.type.andThen (looks_mroIn Y (by kernel_rfl))
  refine codeAny_call_builtin SF.slot.plain SF.entry (@check_slot (model PR w) _ _ { s with toks := s.toks + 1 } "object.__setattr__" "object" "__setattr__" (.ref b) [.str "_frozen" s.toks, v] [] _ SF.kind SF.split sub (SF.args (.ref b) (.str "_frozen" s.toks) v) ?_)
  have hm : Looks (model PR w) s.heap (mroOf (.ref 115)) cd.mro := (looks_clsIn Y hc).andThen .now
  have ha : findIn (KY w.params) (.ref 115) "_frozen" = some none := by kernel_rfl
  rw [osa_eq, refuse_eq]
  refine wpAny_bind (wpAny_bind (L0.at (wpAny_bind (hm.at ?_))))
  rw [hmro, refuse_book]
  refine wpAny_pure (wpAny_bind (L0.at (wpAny_bind ((looks_findIn Y ha).at (wpAny_bind (wpAny_pure ?_))))))
  obtain ⟨U1, U2⟩ := news_upd (f := Obj.putName "_frozen" (PyData.keyHash w.params "_frozen") (.str "_frozen" (s.toks + 1)) v) F N h1 h2 rfl rfl
  have D' := (U2 _ (List.mem_append_right _ (.head _))).1
  refine wpAny_bind (wpAny_pure (wpAny_bind (wpAny_bind (wpAny_loadPart (s := { s with toks := s.toks + 1 }) hb (wpAny_bind ((looks_clsIn Y hc).at ?_))))))
  rw [hdd]
  refine wpAny_pure (a := some bx) (wpAny_bind (wpAny_pure (wpAny_bind ?_)))
  unfold nsSet
  refine wpAny_bind (wpAny_bind (wpAny_askSetting (wpAny_pure (wpAny_bind (wpAny_mkText (wpAny_bind (wpAny_loadPart (s := { s with toks := s.toks + 2 }) hbx ?_)))))))
  dsimp only [dictOf]
  first | refine wpAny_ite_false rfl ?_ | rw [if_neg (by decide)]
  refine wpAny_updatePart hbx ?_
  refine wpAny_bind (wpAny_lookBehind (o := Obj.putName "_frozen" (PyData.keyHash w.params "_frozen") (.str "_frozen" (s.toks + 1)) v (dictOf [] 0)) D' (pastItsLine_dict (by rw [sizeLine_eq]; show 1 ≤ _; omega)) ?_)
  exact wpAny_pure (h _ (PyData.keyHash w.params "_frozen") (s.toks + 1) _ U1 U2)
end
section
section
end
set_option maxHeartbeats 1000000 in
theorem dict_get_bind {K : Frag} {prog : Program} {w : World} {A : Around} {E : Value → Shared → Prop} {s : Shared} {Q : Value → Shared → Prop} {x C : Addr} {ox : Obj} {od : Option Obj} {name : Str} {expr : Bool} {g a : Value} (X : K.In s.heap) (I : InstAt s.heap x ox C od)
    (hga : findIn K (.ref C) "__getattribute__" = some (some (.builtin "collections.defaultdict.__getattribute__"))) (hk : findIn K (.ref C) "__getattr__" = some none) (hm : mroIn K C (.type "collections.defaultdict") = some true)
    (hf : findObj K C od name = some (.bind g a))
    (h : wpAny (model prog w) A.in1 (call g [a, .ref x, .ref C]) (fun v s' => wpAny (model prog w) A (handedOut v) Q E s') (fun _ _ => False) { s with toks := s.toks + 1 }) :
    wpAny (model prog w) A (getAttr (.ref x) name expr) Q E s := by
  obtain ⟨hh, gg, d, t, os⟩ := s
  have L0 := I.type (M := model prog w)
  have L1 := looks_findIn (M := model prog w) X hga
  have L2 := looks_findIn (M := model prog w) X hk
  have L3 := looks_find (M := model prog w) X I hf
  have L4 : Looks (model prog w) hh (isInstance (.ref x) (.type "collections.defaultdict")) true := L0.andThen (looks_mroIn X hm)
  unfold getAttr getAttrBy
  refine wpAny_bind (wpAny_mkText (wpAny_holding (wpAny_bind (L0.at (wpAny_bind (L1.at ?_))))))
  show wpAny _ _ (getAttrByItsOwn (.ref x) (.str name t) (.ref C) (.builtin "collections.defaultdict.__getattribute__") true expr) _ _ _
  unfold getAttrByItsOwn
  refine wpAny_bind (L2.at ?_)
  refine wpAny_bind (wpAny_attempt (wpAny_holding ?_))
  have e : callGetattribute (.ref x) (.str name t) (.builtin "collections.defaultdict.__getattribute__") expr = boundAndCalled (.builtin "collections.defaultdict.__getattribute__") (.ref x) (.str name t) := by
    unfold callGetattribute onTheHeap; rw [Bool.and_false]; rfl
  rw [e]
  unfold boundAndCalled
  rw [dga_bind]
  refine wpAny_bind (wpAny_pure ?_)
  refine wpAny_call (codeAny_call_builtin_at (dga_quiet _) dga_entry (@check_slot (model prog w) _ _ ⟨hh, gg, d, t + 1, os⟩ "collections.defaultdict.__getattribute__" "collections.defaultdict" "__getattribute__" (.ref x) [.str name t] [] _ dga_kind dga_split L4 (dga_args _ _) ?_))
  rw [dga_under]
  unfold Builtin.«object.__getattribute__»
  refine wpAny_bind (wpAny_pure ?_)
  refine wpAny_bind (wpAny_pure (wpAny_bind (L0.at (wpAny_bind (L3.at ?_)))))
  show wpAny _ _ (holding [a] (call g [a, .ref x, .ref C]) >>= ret) _ _ _
  exact wpAny_bind (wpAny_holding (wpAny_mono h (fun v s' z => wpAny_pure z) fun _ _ z => z.elim))
theorem book_method {w : World} {A : Around} {s : Shared} {Q : Value × List Value → Shared → Prop} {E : Value → Shared → Prop} {b bx lam : Addr} {es : List DictEntry} {n : Nat} {pl : Sem Bool}
    (Y : (KY w.params).In s.heap) (hb : s.heap.get? b = some (bookO bx lam es n)) (hbx : s.heap.get? bx = some (dictOf [] 0)) (h : Q (.ref 112, [.ref b]) s) :
    wpAny (model PR w) A (getMethod (.ref b) "freeze" pl) Q E s := by
  have L0 : Looks (model PR w) s.heap (typeOf (.ref b)) (.ref 115) := (Looks.ld hb).andThen .now
  have L1 : Looks (model PR w) s.heap (typeLookup (.ref 115) "__getattribute__") (some (.builtin "collections.defaultdict.__getattribute__")) := looks_findIn Y (by kernel_rfl)
  have L2 : Looks (model PR w) s.heap (typeLookup (.ref 115) "__getattr__") none := looks_findIn Y (by kernel_rfl)
  have L3 : Looks (model PR w) s.heap (typeLookup (.ref 115) "freeze") (some (.ref 112)) := looks_findIn Y (by kernel_rfl)
  have L4 : Looks (model PR w) s.heap (typeOf (.ref 112)) (.type "function") := looks_typeIn Y (by kernel_rfl)
  unfold getMethod specialOf
  refine wpAny_bind (wpAny_bind (L0.here (L1.here ?_)))
  dsimp only
  rw [if_neg (by decide +kernel)]
  refine wpAny_bind (wpAny_bind (L0.here (L2.here ?_)))
  first | refine wpAny_ite_false rfl ?_ | rw [if_neg (by decide)]
  refine wpAny_bind (wpAny_bind (L0.here (L3.here ?_)))
  dsimp only
  refine wpAny_bind (L4.here ?_)
  first | refine wpAny_ite_false rfl ?_ | rw [if_neg (by decide)]
  refine wpAny_bind (wpAny_loadPart hb ?_)
  dsimp only
  refine wpAny_bind ?_
  unfold nsGet
  refine wpAny_bind (wpAny_loadPart hbx ?_)
  show wpAny _ _ (pure none) _ _ _
  refine wpAny_pure ?_
  first | refine wpAny_ite_false rfl ?_ | rw [if_neg (by decide)]
  exact wpAny_bind (wpAny_rule (wpAny_pure h))
theorem book_factory {w : World} {A : Around} {s : Shared} {Q : Value × List Value → Shared → Prop} {E : Value → Shared → Prop} {h₀ : Heap} {L : Addr} {m : Str → Option Value} {news : List (Addr × Obj)} {b bx lam : Addr} {es : List DictEntry} {n : Nat} {pl : Sem Bool} {ob : Obj}
    (F : Fr h₀ L s.heap m) (N : News h₀ L s.heap news) (Y : (KY w.params).In s.heap) (hb : s.heap.get? b = some (bookO bx lam es n)) (hbx : s.heap.get? bx = some ob) (hl : findObj (KY w.params) 115 (some ob) "default_factory" = some (.bind (.builtin "member_descriptor.__get__") (.builtin "collections.defaultdict.default_factory")))
    (hh : A.handled = none) (hd : A.depth ≤ 800) (hu : A.units ≤ 5990)
    (k : ∀ h' tk', Fr h₀ L h' m → News h₀ L h' news → Q (.ref lam, []) { s with heap := h', toks := tk' }) :
    wpAny (model PR w) A (getMethod (.ref b) "default_factory" pl) Q E s := by
  have I : InstAt s.heap b (bookO bx lam es n) 115 (some ob) := ⟨hb, rfl, rfl, hbx⟩
  have L0 : Looks (model PR w) s.heap (typeOf (.ref b)) (.ref 115) := (Looks.ld hb).andThen .now
  have L1 : Looks (model PR w) s.heap (typeLookup (.ref 115) "__getattribute__") (some (.builtin "collections.defaultdict.__getattribute__")) := looks_findIn Y (by kernel_rfl)
  have L2 : Looks (model PR w) s.heap (typeLookup (.ref 115) "__getattr__") none := looks_findIn Y (by kernel_rfl)
  have L3 : Looks (model PR w) s.heap (typeLookup (.ref 115) "default_factory") (some (.builtin "collections.defaultdict.default_factory")) := looks_findIn Y (by kernel_rfl)
  have L4 : typeOf (.builtin "collections.defaultdict.default_factory") = pure (.type "member_descriptor") := by show builtinType _ = _; rw [builtinType_eq_fast]; kernel_rfl
  unfold getMethod specialOf
  refine wpAny_bind (wpAny_bind (L0.here (L1.here ?_)))
  dsimp only
  rw [if_neg (by decide +kernel)]
  refine wpAny_bind (wpAny_bind (L0.here (L2.here ?_)))
  first | refine wpAny_ite_false rfl ?_ | rw [if_neg (by decide)]
  refine wpAny_bind (wpAny_bind (L0.here (L3.here ?_)))
  dsimp only
  refine wpAny_bind (wpAny_of_eq L4 ?_)
  first | refine wpAny_ite_true rfl ?_ | rw [if_pos (by decide)]
  refine wpAny_bind (dict_get_bind Y I (by kernel_rfl) (by kernel_rfl) (by kernel_rfl) hl ?_)
  refine Gives.use (s := { s with toks := s.toks + 1 }) (x_factory Y hb) F N (by exact hh) (by simpa using hd) (by show A.units + 1 ≤ 6000; omega) ?_
  intro h' tk' F' N'
  exact wpAny_pure (wpAny_pure (k h' tk' F' N'))
end
section
section
variable {prog : Program} {w : World} {A : Around} {E : Value → Shared → Prop} {s : Shared} {env : Env} {h₀ : Heap} {x : Str} {body : List Stmt} {Q : Flow → Shared → Prop}
/-- what a turn over a list leaves -/
inductive TurnEnd (h₀ : Heap) (L : Addr) (fix : List (Addr × Obj)) (I : Addr) (J : (Str → Option Value) → List (Addr × Obj) → Prop) (s₁ s₂ : Shared) : Prop where
  | mk : ∀ h' tk' m₂ news₂, (s₂ = { s₁ with heap := h', toks := tk' }) → (Fr h₀ L h' m₂) → (News h₀ L h' (fix ++ news₂)) → ((∀ p ∈ news₂, p.1 ≠ I)) → (J m₂ news₂) → TurnEnd h₀ L fix I J s₁ s₂
noncomputable def TurnPost (h₀ : Heap) (L : Addr) (fix : List (Addr × Obj)) (I : Addr) (J : (Str → Option Value) → List (Addr × Obj) → Prop) (s₁ : Shared) (Q : Flow → Shared → Prop) (f : Flow) (s₂ : Shared) : Prop :=
  match f with
  | .ret r => Q (.ret r) s₂
  | .brk => Q .next s₂
  | _ => TurnEnd h₀ L fix I J s₁ s₂
theorem for_list {l : Addr} {vs : List Value} {e : Nat} {m₀ : Str → Option Value} {news : List (Addr × Obj)} (J : Nat → (Str → Option Value) → List (Addr × Obj) → Prop)
    (hh : A.handled = none) (F : Fr h₀ env.locals s.heap m₀) (N : News h₀ env.locals s.heap ((l, lst vs e) :: news)) (hj : J 0 m₀ news)
    (turn : ∀ i v m₁ news₁ h tk I oI, vs[i]? = some v → J i m₁ news₁ → (∀ p ∈ news₁, p.1 ≠ I) → l ≠ I → Fr h₀ env.locals h (fun y => if y = x then some v else m₁ y) → News h₀ env.locals h ((I, oI) :: (l, lst vs e) :: news₁) →
      wpAny (model prog w) A (execs body env) (TurnPost h₀ env.locals [(I, oI), (l, lst vs e)] I (J (i + 1)) { s with heap := h, toks := tk } Q) E { s with heap := h, toks := tk })
    (done : ∀ m₁ news₁ h tk, J vs.length m₁ news₁ → Fr h₀ env.locals h m₁ → News h₀ env.locals h ((l, lst vs e) :: news₁) → Q .next { s with heap := h, toks := tk }) :
    wpAny (model prog w) A (pyIter (.ref l)) (fun it s₂ => LoopAtV prog w A h₀ env x body Q E it s₂) E s := by
  have hl := N (l, lst vs e) (.head _)
  have hls : s.heap.IsList l vs.toArray := ⟨_, hl.1, rfl, _, rfl⟩
  have hne : l ≠ s.heap.objs.size := Nat.ne_of_lt (Heap.lt_size hl.1)
  refine wpAny_pyIter_list hls ?_
  have W := Walks.list (prog := prog) (w := w) hh s.heap.objs.size l hne vs.toArray
  rw [show vs.toArray.size = vs.length by simp] at W
  let J' : Nat → (Str → Option Value) → List (Addr × Obj) → Prop := fun i m₁ n₁ => ∃ n', n₁ = (l, lst vs e) :: n' ∧ J i m₁ n'
  refine ⟨_, _, _, vs.length, _, _, m₀, (l, lst vs e) :: news, J', rfl, W, ?_, ?_, ?_, ⟨⟨_, Heap.get?_push_size _ rfl, rfl, rfl⟩, hls.at fun o e => Heap.get?_push_of_some _ e⟩, F.push _, (fun p hp => ⟨Heap.get?_push_of_some _ (N p hp).1, (N p hp).2⟩), ⟨_, rfl, hj⟩, ?_, ?_⟩
  · intro hm
    rcases List.mem_cons.mp hm with e | hm
    · exact absurd F.ns.lt (e ▸ Nat.lt_irrefl _)
    · exact hl.2.1 ((List.mem_singleton.mp hm).symm)
  · intro b hb
    rw [List.mem_singleton.mp hb]
    exact next_is_new F
  · intro p hp hI
    exact absurd (Heap.lt_size (N p hp).1) ((List.mem_singleton.mp hI) ▸ Nat.lt_irrefl _)
  · rintro i v m₁ n₁ s₁ own ⟨hh', tk', rfl⟩ hin hP ⟨n', rfl, hJ⟩ hoff hown hget hall hst F₁ N₁
    obtain ⟨oI, hoI, _⟩ := id hst.1
    have hI0 : h₀.get? s.heap.objs.size = none := next_is_new F
    have hIo : (s.heap.objs.size, oI) ∈ own := hall _ (.head _) hI0 oI hoI
    have hsub : ∀ p ∈ own, p = (s.heap.objs.size, oI) ∨ p = (l, lst vs e) := by
      intro p hp
      have h1 := hget p hp
      rcases List.mem_cons.mp (hown p hp) with h2 | h2
      · left; rw [h2, hoI] at h1; obtain ⟨a, b⟩ := p; cases h1; cases h2; rfl
      · right
        have h3 := List.mem_singleton.mp h2
        rw [h3, (N₁ (l, lst vs e) (List.mem_append_right _ (.head _))).1] at h1
        obtain ⟨a, b⟩ := p; cases h1; cases h3; rfl
    have N₂ : News h₀ env.locals hh' ((s.heap.objs.size, oI) :: (l, lst vs e) :: n') := fun p hp => by
      rcases List.mem_cons.mp hp with rfl | hp
      · exact N₁ _ (List.mem_append_left _ hIo)
      · exact N₁ _ (List.mem_append_right _ hp)
    have hP' : vs[i]? = some v := by simpa using hP
    refine wpAny_mono (turn i v m₁ n' hh' tk' s.heap.objs.size oI hP' hJ (fun p hp he => hoff p (.tail _ hp) (List.mem_singleton.mpr he)) hne F₁ N₂) (fun f s₂ p => ?_) fun _ _ e => e
    have fin : TurnEnd h₀ env.locals [(s.heap.objs.size, oI), (l, lst vs e)] s.heap.objs.size (J (i + 1)) { s with heap := hh', toks := tk' } s₂ → LoopStepU h₀ env.locals [s.heap.objs.size] own (J' (i + 1)) { s with heap := hh', toks := tk' } .next s₂ := by
      rintro ⟨h', tk, m', nx, e, F', N', ho, hJ'⟩
      refine ⟨rfl, h', tk, m', (l, lst vs _) :: nx, e, F', fun p hp => ?_, fun p hp hq => ?_, _, rfl, hJ'⟩
      · rcases List.mem_append.mp hp with h1 | h1
        · rcases hsub p h1 with rfl | rfl
          · exact N' _ (.head _)
          · exact N' _ (.tail _ (.head _))
        · exact N' _ (.tail _ h1)
      · rcases List.mem_cons.mp hp with rfl | hp
        · exact hne (List.mem_singleton.mp hq)
        · exact ho p hp (List.mem_singleton.mp hq)
    cases f with
    | ret v => exact .ret p
    | brk => exact .brk p
    | next => exact .next (fin p)
    | cont => exact .cont (fin p)
  · rintro h' tk m' n₁ F' N' _ ⟨n', rfl, hJ⟩
    exact done m' n' h' tk hJ F' N'
end
end
section
section
set_option maxRecDepth 100000
theorem x_tnew {w : World} {s : Shared} {a b : Str} {ta tb : Tok} {t : Addr} :
   (KY w.params).In s.heap → s.heap.get? t = some { cls := .type "tuple", data := .seq #[.str a ta, .str b tb] } →
   Makes2 w (call (.builtin "tuple.__new__") [.ref 210, .ref t]) (fun dx => pairO dx a b ta tb) (dictOf [] 0) s := by
  intro KX h1
  unfold Makes2
  refine wpAny_call (codeAny_call_builtin_at (Code.quiet_builtin _ (by decide +kernel)) F.entry_tuple_new ((tn_check KX).at ?_) )
  rw [Around.under_plainId F.plain_tuple_new]
  have l1 := tn_type KX
  have l2 := tn_sub KX
  have l3 := tn_here KX
  have l4 := tn_init KX
  unfold Builtin.«tuple.__new__»
  dsimp only
  refine wpAny_bind (l1.at (wpAny_bind (l2.at (wpAny_bind (l3.at (wpAny_bind (l4.at ?_)))))))
  first | refine wpAny_ite_true rfl ?_ | rw [if_pos (by decide)]
  refine wpAny_bind (wpAny_of_eq (a := ()) rfl (wpAny_bind (wpAny_of_eq (a := ()) (by kernel_rfl) ?_)))
  first | refine wpAny_ite_false rfl ?_ | rw [if_neg (by decide)]
  refine wpAny_bind (wpAny_collect_seq t (.inr rfl) h1 rfl rfl (fun h' hk => ?_))
  refine wpAny_bind (wpAny_pure (wpAny_bind (wpAny_alloc (wpAny_bind ?_))))
  refine (?_ : wpAny _ _ (newObjAsIs _ _ _) _ _ _)
  unfold newObjAsIs
  refine wpAny_bind (wpAny_alloc (wpAny_bind ((hasDel_210 KX) _ _ _ _ (fun b o e => Heap.get?_push_of_some _ (Heap.get?_push_of_some _ (hk _ _ e))) ?_)))
  first | refine wpAny_ite_false rfl ?_ | rw [if_neg (by decide)]
  refine wpAny_pure (wpAny_pure ?_)
  rw [Heap.size_push]
  exact made2 (o := fun dx => pairO dx a b ta tb) hk rfl fun _ => rfl
end
section
local macro_rules | `(tactic| walk_at "getMethod type:tuple") => `(tactic| (k_here; refine' method_type ?F ?X ?m (by decide +kernel) ?e ?h ?_; (case F => k_asm); (case X => k_asm); (case m => first | rfl | kernel_rfl); (case e => k_dflt k_is); (case h => k_handed)))
local macro_rules | `(tactic| walk_at "call builtin:tuple.__new__") => `(tactic| (k_here; refine Makes2.use (x_tnew (yin (by k_asm) (by k_asm) (by k_asm)) (News.get (by k_asm) (by k_mem))) (by k_asm) (by k_asm) (by rfl) (by walk_at "side") (by walk_at "side") ?_; intro p dx h' tk' F' N' n1 n2 n3; (try k_sweep)))
set_option maxRecDepth 100000 in
set_option maxHeartbeats 1000000 in
theorem new_t {w : World} {a b : Str} {ta tb : Tok} {news : List (Addr × Obj)} : Calls w 137 [.ref 210, .str a ta, .str b tb] news 10 80 (fun r led => ∃ p dx, r = .ref p ∧ (∀ q ∈ news, q.1 ≠ p) ∧ (∀ q ∈ news, q.1 ≠ dx) ∧ dx ≠ p ∧ led = (p, pairO dx a b ta tb) :: (dx, dictOf [] 0) :: news) := by
  unfold Calls
  intro dp un gd cn cs c ccd cl outer A₀ base h₀ L m s Q E loose mean mg mb B YB F X N T hk hdp hu hret
  refine wpAny_call ?_
  k_dflt (walk_at "enter")
  k_steps
  (with_reducible rename News h₀ _ _ _ => kN')
  rename_i p dx h1 tk1 F1 N1 n1 n2 n3 kF _ _
  exact hret _ _ _ _ ⟨p, dx, rfl, fun q hq => n1 q (.tail _ hq), fun q hq => n2 q (.tail _ hq), n3, rfl⟩ kF fun q hq => kN' q (by
    rcases List.mem_cons.mp hq with rfl | hq
    · exact .head _
    rcases List.mem_cons.mp hq with rfl | hq
    · exact .tail _ (.head _)
    · exact .tail _ (.tail _ (.tail _ hq)))
end
noncomputable def clsAt (K : Frag) (C : Addr) : Bool := match K.lookup C with
  | some ⟨_, _, .cls cd, sl⟩ => !cd.mro.isEmpty && (match (sl.toList[4]?).join with | some (Value.builtin _) => false | _ => true)
  | _ => false
theorem clsAt_of {K : Frag} {C : Addr} (e : clsAt K C = true) : ∃ oc od cd sl, K.lookup C = some ⟨oc, od, .cls cd, sl⟩ ∧ cd.mro.isEmpty = false ∧ (∀ id, (sl.toList[4]?).join ≠ some (Value.builtin id)) := by
  unfold clsAt at e
  split at e
  · rename_i oc od cd sl ho
    simp only [Bool.and_eq_true, Bool.not_eq_true'] at e
    refine ⟨oc, od, cd, sl, ho, e.1, fun id h => ?_⟩
    rw [h] at e; cases e.2
  · cases e
theorem made_210 {w : World} {h : Heap} (Y : (KY w.params).In h) : Looks (model PR w) h (Bind.madeBy (.ref 210)) none := Looks.of_peek Y (by kernel_rfl)
theorem oi_kind : builtinKind "object.__init__" = some .slot := by decide +kernel
theorem oi_split : splitId "object.__init__" = some ("object", "__init__") := by decide +kernel

theorem oi_quiet (a : Args) : (Code.builtin "object.__init__" a).quiet = true := Code.quiet_builtin _ (by decide +kernel)
theorem oi_under (A : Around) (a : Args) : A.under (.builtin "object.__init__" a) = A.in1 := Around.under_plainId (by decide +kernel) a
theorem oi_args (a b c : Value) : argsOk "object.__init__" ⟨[a, b, c], []⟩ := by unfold argsOk; kernel_rfl
set_option maxRecDepth 100000 in
set_option maxHeartbeats 4000000 in
theorem x_oinit {w : World} {s : Shared} {p dx : Addr} {a b : Str} {ta tb : Tok} : (KY w.params).In s.heap → s.heap.get? p = some ⟨.ref 210, some dx, .seq #[.str a ta, .str b tb] 0, #[]⟩ → Gives w (call (.builtin "object.__init__") [.ref p, .str a ta, .str b tb]) .none s := by
  intro KX h1
  unfold Gives
  have L0 : Looks (model PR w) s.heap (typeOf (.ref p)) (.ref 210) := (Looks.ld h1).andThen .now
  have L1 : Looks (model PR w) s.heap (isInstance (.ref p) (.type "object")) true := L0.andThen (looks_mroIn KX (by kernel_rfl))
  have L2 : Looks (model PR w) s.heap (typeLookup (.ref 210) "__init__") (some (.builtin "object.__init__")) := looks_findIn KX (by kernel_rfl)
  refine wpAny_call (codeAny_call_builtin_at (oi_quiet _) PySem.F.entry_object_init (@check_slot (model PR w) _ _ s "object.__init__" "object" "__init__" (.ref p) [.str a ta, .str b tb] [] _ oi_kind oi_split L1 (oi_args _ _ _) ?_))
  rw [oi_under]
  unfold Builtin.«object.__init__»
  dsimp only
  refine (?_ : wpAny _ _ (typeOf (.ref p) >>= _) _ _ _)
  refine wpAny_bind (L0.at (wpAny_bind (L2.at (wpAny_bind ((made_210 KX).at ?_)))))
  refine wpAny_ite_false rfl ?_
  refine wpAny_ite_false rfl ?_
  refine wpAny_pure ?_
  exact ⟨rfl, Kept.start⟩
section
variable {w : World} {A : Around} {s : Shared} {Q E : Value → Shared → Prop} {a b : Str} {ta tb : Tok}
theorem pair_call0 (Y : (KY w.params).In s.heap) (hh : A.handled = none) (hd : A.depth + 1 ≤ 800) (hu : A.units + 10 ≤ 6000)
    (h : ∀ h1 tk1, (∀ b o, s.heap.get? b = some o → h1.get? b = some o) → wpAny (model PR w) (A.under (.builtin "type.__call__" ⟨[.ref 210, .str a ta, .str b tb], []⟩)) (call (.ref 137) [.ref 210, .str a ta, .str b tb]) (fun r s' => ∃ p dx, r = .ref p ∧ (KY w.params).In s'.heap ∧ s'.heap.get? p = some (pairO dx a b ta tb) ∧ ∀ h2 tk2, (∀ b o, s'.heap.get? b = some o → h2.get? b = some o) → Q r { s' with heap := h2, toks := tk2 }) (fun _ _ => False) { s with heap := h1, toks := tk1 }) :
    wpAny (model PR w) A (call (.ref 210) [.str a ta, .str b tb]) Q E s := by
  obtain ⟨oc, od, cd, sl, hl, hm0, hs4⟩ := clsAt_of (K := KY w.params) (C := 210) (by kernel_rfl)
  have hC := Y 210 _ hl
  have call : Looks (model PR w) s.heap (specialOf (.ref 210) "__call__") (some (.builtin "type.__call__")) := looks_specialIn Y (by kernel_rfl)
  have typ : Looks (model PR w) s.heap (isInstance (.ref 210) (.type "type")) true := looks_instIn Y (by kernel_rfl)
  have hm : Looks (model PR w) s.heap (mroOf (.ref 210)) cd.mro := ((Looks.ld (part := none) hC).andThen .now).andThen .now
  refine wpAny_call ?_
  refine codeAny_of_tree ?_
  show wpAny _ _ (callAny (.ref 210) _) _ _ _
  refine nd_load hC ?_
  show wpAny _ _ (callAny.viaDunder (.ref 210) _) _ _ _
  unfold callAny.viaDunder
  refine wpAny_bind (call.at ?_)
  dsimp only
  rw [tc_bind]
  refine wpAny_bind (wpAny_pure (wpAny_bind (wpAny_pure ?_)))
  refine wpAny_pure (a := Fin.again (.call (.builtin "type.__call__") ⟨.ref 210 :: [.str a ta, .str b tb], []⟩)) (And.intro rfl ?_)
  refine codeAny_call_builtin_at (Code.quiet_builtin _ (by decide +kernel)) entry_typeCall (check_slot tc_kind tc_split typ (tc_args _ _ _) ?_)
  unfold Builtin.«type.__call__»
  have made : Looks (model PR w) s.heap (Bind.madeBy (.ref 210)) none := made_210 Y
  repeat ((fail_if_success (with_reducible show wpAny _ _ (getAttr _ _ _) _ _ _)); first | simp only [hm0, Bool.false_eq_true, if_false] | lk)
  refine cls_bind (mc := .type "type") Y (by kernel_rfl) (g := .builtin "staticmethod.__get__") (a := .ref 188) (obj := .none) (tp := .ref 210) (by kernel_rfl) ?_
  refine by_AX hh (by show A.depth + 1 ≤ 800; omega) (by show A.units + 1 + 1 ≤ 6000; omega) (wpAny_mono (x_smget (s := { s with toks := s.toks + 1 }) Y) (fun r s' hr => ?_) fun _ _ x => x.elim)
  obtain ⟨e, kp, h1, tk1, es⟩ := hr
  subst e es
  refine handed_on (by kernel_rfl) ?_
  refine wpAny_bind (wpAny_holding (wpAny_mono (h h1 tk1 kp) (fun r s2 hr => ?_) fun _ _ x => x.elim))
  obtain ⟨p, dx, rfl, Y2, hp, k⟩ := hr
  have M0 : Looks (model PR w) s2.heap (typeOf (.ref p)) (.ref 210) := (Looks.ld hp).andThen .now
  have M1 : Looks (model PR w) s2.heap (isInstance (.ref p) (.ref 210)) true := M0.andThen (looks_mroIn Y2 (by kernel_rfl))
  have M2 : Looks (model PR w) s2.heap (typeLookup (.ref 210) "__init__") (some (.builtin "object.__init__")) := looks_findIn Y2 (by kernel_rfl)
  refine wpAny_bind (M1.at ?_)
  rw [Bool.not_true, if_neg Bool.false_ne_true]
  refine wpAny_bind (wpAny_holding ?_)
  unfold callSpecial? specialOf
  refine wpAny_bind (wpAny_bind (M0.at (M2.at ?_)))
  refine wpAny_holding (wpAny_bind ?_)
  rw [oi_bind]
  refine wpAny_pure (wpAny_bind ?_)
  refine by_AX hh (by show A.depth + 1 ≤ 800; omega) (by show A.units + 1 ≤ 6000; omega) (wpAny_mono (x_oinit (s := s2) Y2 hp) (fun r s3 hr => ?_) fun _ _ x => x.elim)
  obtain ⟨e, kp2, h2, tk2, es⟩ := hr
  subst e es
  refine wpAny_pure ?_
  dsimp only
  first | refine wpAny_ite_false rfl ?_ | rw [if_neg (by decide)]
  exact wpAny_pure (k h2 tk2 kp2)
end
theorem pair_call {w : World} {dp un : Nat} {gd : Option (List Code)} {cn : Str} {cs : Scope} {c : Addr} {ccd : Value} {cl : List (Str × Addr)} {outer : List Env} {A₀ : Around} {base h₀ : Heap} {L : Addr} {m : Str → Option Value} {s : Shared} {Q E : Value → Shared → Prop} {loose : List Str} {mean : ExcName → Option Value} {mg mb : Str → Option Value} {news : List (Addr × Obj)} {a b : Str} {ta tb : Tok}
    (F : Fr h₀ L s.heap m) (B : Below A₀ base outer h₀) (YB : (KY w.params).In base) (X : (mkk.heap_1 w.params).In h₀) (N : News h₀ L s.heap news) (T : Top topProg loose mean mg mb h₀) (hk : cs.kind = .function) (hd : dp + 20 ≤ 800) (hu : un + 100 ≤ 6000)
    (k : ∀ p dx h' tk', Fr h₀ L h' m → News h₀ L h' ((p, pairO dx a b ta tb) :: (dx, dictOf [] 0) :: news) → (∀ q ∈ news, q.1 ≠ p) → (∀ q ∈ news, q.1 ≠ dx) → dx ≠ p → Q (.ref p) { s with heap := h', toks := tk' }) :
    wpAny (model PR w) (ktrTop dp un gd cn cs L c ccd cl outer) (call (.ref 210) [.str a ta, .str b tb]) Q E s := by
  have Y := yin F B YB
  refine pair_call0 Y rfl (by show dp + 1 ≤ 800; omega) (by show un + 10 ≤ 6000; omega) fun h1 tk1 kp => ?_
  refine Calls.use (new_t (news := news)) (dp := dp + 1) (un := un + 1) (s := { s with heap := h1, toks := tk1 }) (F.keeps kp) B YB X (News.grown N kp) T hk (by walk_at "lia") (by walk_at "lia") ?_
  rintro r led h2 tk2 ⟨p, dx, rfl, n1, n2, n3, rfl⟩ F2 N2
  refine ⟨p, dx, rfl, yin F2 B YB, (N2 _ (.head _)).1, fun h3 tk3 kp3 => ?_⟩
  exact k p dx h3 tk3 (F2.keeps kp3) (News.grown N2 kp3) n1 n2 n3
end
section
section
set_option maxRecDepth 100000
theorem mp_mro : mroOf (.type "map") = pure [.type "map", .type "object"] := by rw [mroOf_type]; kernel_rfl
theorem mp_new : typeLookup (.type "map") "__new__" = pure (some (.builtin "map.__new__")) := by rw [typeLookup_type, builtinLookup_eq_fast]; kernel_rfl
theorem mp_called : TypeCalled "map" "map.__new__" "object.__init__" :=
  ⟨by decide +kernel, by decide +kernel, ⟨_, _, mp_mro⟩, madeBy_type mp_mro mp_new (by decide +kernel), by decide +kernel, by rw [isSubtype_type]; kernel_rfl,
   Slot.of (T := "map") (name := "__init__") (owner := "object") (n := "__init__") (by rw [typeLookup_type, builtinLookup_eq_fast]; kernel_rfl) (by decide +kernel) (by decide +kernel) (by decide +kernel)
    (by first | exact .inl (by decide +kernel) | exact .inr (by decide +kernel)) (by rw [isSubtype_type]; kernel_rfl)⟩
theorem mp_typeCall (a b : Value) : checkTypeCall "map" ⟨[a, b], []⟩ = pure () := by kernel_rfl
theorem mp_newCall (a b : Value) : checkBuiltinCall "map.__new__" ⟨[.type "map", a, b], []⟩ = pure () := by kernel_rfl
theorem mp_entry : entryFor table "map.__new__" = some Builtin.«map.__new__» := entryFor_of_tree (by kernel_rfl)
theorem mp_plain : plainId "map.__new__" = true := by decide +kernel
theorem mp_args (a b c : Value) : argsOk "object.__init__" ⟨[a, b, c], []⟩ := by unfold argsOk; kernel_rfl
theorem code_map {w : World} {A : Around} {E : Value → Shared → Prop} {s : Shared} {Q₁ : Value → Shared → Prop} {f : Value} {l : Addr} {items : Array Value} (hl : s.heap.IsList l items)
    (h : Q₁ (.ref (s.heap.objs.size + 2)) { s with heap := ((s.heap.push { cls := .type "list_iterator", data := .fields #[.ref l, .int 0 0] }).push { cls := .type "tuple", data := .seq #[.ref s.heap.objs.size] }).push { cls := .type "map", data := .fields #[.ref (s.heap.objs.size + 1), f] } }) :
    codeAny (model PR w) A (.call (.builtin "map.__new__") ⟨[.type "map", f, .ref l], []⟩) (wants Q₁ E) s := by
  refine codeAny_of_tree ?_
  refine (?_ : wpAny _ A.in1 (do checkBuiltinCall "map.__new__" ⟨[.type "map", f, .ref l], []⟩; again (.builtin "map.__new__" ⟨[.type "map", f, .ref l], []⟩)) _ _ s)
  refine wpAny_bind (wpAny_of_eq (mp_newCall _ _) (wpAny_pure ⟨plainId_quiet mp_plain _, codeAny_builtin mp_entry ?_⟩))
  rw [Around.under_plainId mp_plain _]
  unfold Builtin.«map.__new__»
  refine wpAny_bind (wpAny_of_eq (a := ((Value.type "map", [f, .ref l]) : Value × List Value)) (by first | rfl | kernel_rfl) ?_)
  dsimp only
  refine wpAny_bind (wpAny_of_eq (a := ()) (by first | rfl | kernel_rfl) ?_)
  first | refine wi_neg (by simp) ?_ | rw [if_neg (by simp)]
  unfold Builtin.SmallTypes.iterAll
  refine (?_ : wpAny _ _ ((forIn [Value.ref l] #[] _ >>= _) >>= _) _ _ _)
  rw [List.forIn_cons]
  refine wpAny_bind (wpAny_bind (wpAny_bind (wpAny_bind (wpAny_holding (wpAny_pyIter_list hl ?_)))))
  refine wpAny_pure ?_
  dsimp only
  rw [List.forIn_nil]
  refine wpAny_pure (wpAny_pure ?_)
  unfold newTuple
  refine wpAny_bind (wpAny_newObj_type ?_ (by size_fits))
  unfold Builtin.SmallTypes.newRecord
  refine wpAny_bind (wpAny_newObj_type ?_ (by size_fits))
  refine wpAny_pure ?_
  rw [Heap.size_push, Heap.size_push]
  exact h
theorem map_q {w : World} {A : Around} {E : Value → Shared → Prop} {s : Shared} {Q : Value → Shared → Prop} {f : Value} {l : Addr} {items : Array Value} (hl : s.heap.IsList l items)
    (h : Q (.ref (s.heap.objs.size + 2)) { s with heap := ((s.heap.push { cls := .type "list_iterator", data := .fields #[.ref l, .int 0 0] }).push { cls := .type "tuple", data := .seq #[.ref s.heap.objs.size] }).push { cls := .type "map", data := .fields #[.ref (s.heap.objs.size + 1), f] } }) :
    wpAny (model PR w) A (call (.type "map") [f, .ref l]) Q E s := by
  refine callType_codes (Q₁ := fun obj s₁ => s₁.TypeIs obj "map" ∧ Q obj s₁) mp_called (mp_typeCall _ _) F.entry_object_init (code_map hl ⟨⟨{ cls := .type "map", data := .fields #[.ref (s.heap.objs.size + 1), f] }, by heap_get, rfl⟩, h⟩) fun obj s₁ h₁ => ?_
  exact ⟨h₁.1, mp_args obj _ _, object_init_meets mp_called.init.lookup mp_called.made (by decide) PR w A.in1 _ s₁ ⟨h₁.1, rfl, h₁.2⟩⟩
theorem x_map {w : World} {s : Shared} {l : Addr} {a b : Str} {ta tb : Tok} {n : Nat} :
   (KY w.params).In s.heap → s.heap.get? l = some ⟨.type "list", none, .seq #[.str a ta, .str b tb] n, #[]⟩ →
   wpAny (model PR w) AX (call (.type "map") [.builtin "str.strip", .ref l]) (fun r s' => ∃ mp tp it, r = .ref mp ∧ (∀ b o, s.heap.get? b = some o → s'.heap.get? b = some o) ∧ (∃ h tk, s' = { s with heap := h, toks := tk }) ∧
     s'.heap.get? mp = some ⟨.type "map", none, .fields #[.ref tp, .builtin "str.strip"], #[]⟩ ∧ s'.heap.get? tp = some ⟨.type "tuple", none, .seq #[.ref it] 0, #[]⟩ ∧ s'.heap.get? it = some ⟨.type "list_iterator", none, .fields #[.ref l, .int 0 0], #[]⟩ ∧
     s.heap.get? mp = none ∧ s.heap.get? tp = none ∧ s.heap.get? it = none) (fun _ _ => False) s := by
  intro KX h1
  refine map_q (items := #[.str a ta, .str b tb]) ⟨_, h1, rfl, n, rfl⟩ ⟨_, _, _, rfl, fun b o e => Heap.get?_push_of_some _ (Heap.get?_push_of_some _ (Heap.get?_push_of_some _ e)), ⟨_, _, rfl⟩, by heap_get, by heap_get, by heap_get, no_up (fun _ _ e => e) (Nat.le_add_right _ 2), no_up (fun _ _ e => e) (Nat.le_add_right _ 1), no_up (fun _ _ e => e) (Nat.le_refl _)⟩
end
theorem map_use {w : World} {A : Around} {s : Shared} {Q E : Value → Shared → Prop} {h₀ : Heap} {L : Addr} {m : Str → Option Value} {news : List (Addr × Obj)} {l : Addr} {a b : Str} {ta tb : Tok} {n : Nat} (Y : (KY w.params).In s.heap) (hl : (l, ⟨.type "list", none, .seq #[.str a ta, .str b tb] n, #[]⟩) ∈ news)
    (F : Fr h₀ L s.heap m) (N : News h₀ L s.heap news) (hh : A.handled = none) (hd : A.depth ≤ 800) (hu : A.units ≤ 6000)
    (k : ∀ mp tp it h' tk', Fr h₀ L h' m → News h₀ L h' news → h'.get? mp = some ⟨.type "map", none, .fields #[.ref tp, .builtin "str.strip"], #[]⟩ → h'.get? tp = some ⟨.type "tuple", none, .seq #[.ref it] 0, #[]⟩ → h'.get? it = some ⟨.type "list_iterator", none, .fields #[.ref l, .int 0 0], #[]⟩ → 
      (∀ p ∈ news, p.1 ≠ it) → it ≠ L → h₀.get? it = none → Q (.ref mp) { s with heap := h', toks := tk' }) : wpAny (model PR w) A (call (.type "map") [.builtin "str.strip", .ref l]) Q E s := by
  refine by_AX hh hd hu (wpAny_mono (x_map Y (N _ hl).1) (fun r s' ⟨mp, tp, it, e, kp, ⟨h', tk', es⟩, g1, g2, g3, n1, n2, n3⟩ => ?_) fun _ _ x => x.elim)
  subst e es
  refine k mp tp it h' tk' (F.keeps kp) (News.grown N kp) g1 g2 g3 (fun p hp e => ?_) (fun e => ?_) ?_
  · have := (N p hp).1
    rw [e, n3] at this; cases this
  · obtain ⟨oL, _, _, hL, _⟩ := F.ns
    have e' : it = L := e
    subst e'; rw [n3] at hL; cases hL
  · cases z : h₀.get? it with
    | none => rfl
    | some o' => have := F.keep _ _ z; rw [n3] at this; cases this
end
section
theorem slot_map_next : Slot "map" "__next__" "map.__next__" :=
  .of (owner := "map") (n := "__next__") (by rw [typeLookup_type, builtinLookup_eq_fast]; kernel_rfl) (by decide +kernel) (by decide +kernel) (by decide +kernel)
    (by first | exact .inl (by decide +kernel) | exact .inr (by decide +kernel)) (by rw [isSubtype_type]; kernel_rfl)
theorem slot_map_iter : Slot "map" "__iter__" "map.__iter__" :=
  .of (owner := "map") (n := "__iter__") (by rw [typeLookup_type, builtinLookup_eq_fast]; kernel_rfl) (by decide +kernel) (by decide +kernel) (by decide +kernel)
    (by first | exact .inl (by decide +kernel) | exact .inr (by decide +kernel)) (by rw [isSubtype_type]; kernel_rfl)
theorem entry_map_next : entryFor table "map.__next__" = some Builtin.«map.__next__» := entryFor_of_tree (by kernel_rfl)
theorem args_map_next (a : Value) : argsOk "map.__next__" ⟨[a], []⟩ := by unfold argsOk; kernel_rfl
theorem args_map_iter (a : Value) : argsOk "map.__iter__" ⟨[a], []⟩ := by unfold argsOk; kernel_rfl
theorem map_no_len : typeLookup (.type "map") "__len__" = pure none := by rw [typeLookup_type, builtinLookup_eq_fast]; kernel_rfl
theorem map_no_hint : typeLookup (.type "map") "__length_hint__" = pure none := by rw [typeLookup_type, builtinLookup_eq_fast]; kernel_rfl
section
variable {prog : Program} {w : World} {A : Around} {E : Value → Shared → Prop} {s : Shared}
theorem nextOf_item {it l : Addr} {i : Nat} {items : Array Value} {x : Value} {Q : Value → Shared → Prop} (hit : s.heap.IsListIter it l i) (hl : s.heap.IsList l items) (hx : items[i]? = some x)
    (hQ : ∀ h', h'.IsListIter it l (i + 1) → Heap.SameBut it s.heap h' → Q x { s with heap := h' }) : wpAny (model prog w) A (Builtin.SmallTypes.nextOf (.ref it)) Q E s := by
  obtain ⟨o, ho, hc, hd⟩ := id hit
  obtain ⟨ol, hol, hcl, nl, hdl⟩ := hl
  unfold Builtin.SmallTypes.nextOf
  refine wpAny_bind (wpAny_callSpecial?_slot (name := Str.ofString "__next__") hit.typeIs slot_listiter_next (wpAny_call_entry slot_listiter_next hit.typeIs entry_listiter_next ?_ (args_listiter_next _)))
  refine wpAny_bind (m := field (.ref it) 0) (wpAny_field ho hd (x := .ref l) rfl ?_)
  first | refine wi_neg (show ¬ ((Value.ref l == Value.none) = true) from Bool.false_ne_true) ?_ | rw [if_neg (show ¬ ((Value.ref l == Value.none) = true) from Bool.false_ne_true)]
  refine wpAny_bind (m := field (.ref it) 1) (wpAny_field ho hd (x := .int i 0) rfl ?_)
  refine wpAny_bind (m := seqItems? (.ref l)) (wpAny_seqItems hol hdl ?_)
  simp only [Int.toNat_natCast, hx]
  refine wpAny_bind (wpAny_setField ho hd (by simp) (wpAny_pure ⟨x, rfl, wpAny_pure (hQ _ ⟨_, Heap.get?_update_self _ ho (Obj.isFreed_of_fields (Obj.data_mapFields hd _)), (Obj.cls_mapFields ..).trans hc, ?_⟩ (Heap.SameBut.update ..))⟩))
  rw [Obj.data_mapFields hd]; simp [rawInt]
theorem nextOf_end {it l : Addr} {i : Nat} {items : Array Value} {Q : Value → Shared → Prop} (hh : A.handled = none) (hit : s.heap.IsListIter it l i) (hl : s.heap.IsList l items) (hx : items[i]? = none)
    (hQ : ∀ e h', Heap.ExtBut it s.heap h' → (∃ oe, h'.get? e = some oe ∧ oe.cls = .type "StopIteration") → E (.ref e) { s with heap := h' }) : wpAny (model prog w) A (Builtin.SmallTypes.nextOf (.ref it)) Q E s := by
  obtain ⟨o, ho, hc, hd⟩ := id hit
  obtain ⟨ol, hol, hcl, nl, hdl⟩ := hl
  unfold Builtin.SmallTypes.nextOf
  refine wpAny_bind (wpAny_callSpecial?_slot (name := Str.ofString "__next__") hit.typeIs slot_listiter_next (wpAny_call_entry slot_listiter_next hit.typeIs entry_listiter_next ?_ (args_listiter_next _)))
  refine wpAny_bind (m := field (.ref it) 0) (wpAny_field ho hd (x := .ref l) rfl ?_)
  first | refine wi_neg (show ¬ ((Value.ref l == Value.none) = true) from Bool.false_ne_true) ?_ | rw [if_neg (show ¬ ((Value.ref l == Value.none) = true) from Bool.false_ne_true)]
  refine wpAny_bind (m := field (.ref it) 1) (wpAny_field ho hd (x := .int i 0) rfl ?_)
  refine wpAny_bind (m := seqItems? (.ref l)) (wpAny_seqItems hol hdl ?_)
  simp only [Int.toNat_natCast, hx]
  refine wpAny_bind (wpAny_rule (wpAny_bind (wpAny_setField ho hd (by simp) ?_)))
  show wpAny _ _ (newExc (.type "StopIteration") [] >>= _) _ _ _
  refine wpAny_bind ?_
  simp only [newExc, newTuple]
  refine wpAny_bind (wpAny_newObj_type ?_ (by size_fits))
  refine wpAny_bind (m := firstArgMember _ _) (wpAny_of_eq (a := Value.none) (by first | rfl | (simp only [firstArgMember]; rfl)) ?_)
  refine wpAny_newObj_type ?_ (by size_fits)
  simp only [raiseNew]
  refine wpAny_bind (wpAny_handled ?_)
  rw [show A.in1.handled = none from hh]
  refine wpAny_bind (wpAny_pure (wpAny_throw ?_))
  exact hQ _ _ (((Heap.SameBut.update ..).extBut.push _).push _) ⟨_, Heap.get?_push_size _ rfl, rfl⟩
/-- a map of strip over a list's iterator -/
noncomputable def MapAt (h : Heap) (mp tp it l : Addr) (items : Array Value) (i : Nat) : Prop :=
  h.get? mp = some ⟨.type "map", none, .fields #[.ref tp, .builtin "str.strip"], #[]⟩ ∧ h.get? tp = some ⟨.type "tuple", none, .seq #[.ref it] 0, #[]⟩ ∧ h.IsListIter it l i ∧ h.IsList l items
theorem map_next_item {mp tp it l : Addr} {i : Nat} {items : Array Value} {x y : Str} {t : Tok} {Q : Option Value → Shared → Prop} (hm : MapAt s.heap mp tp it l items i) (hne : mp ≠ it ∧ tp ≠ it ∧ l ≠ it) (hx : items[i]? = some (.str x t)) (hy : Txt.strip x = y) (hs : x.length ≤ sizeLine)
    (hQ : ∀ h' t' tk, MapAt h' mp tp it l items (i + 1) → Heap.SameBut it s.heap h' → Q (some (.str y t')) { s with heap := h', toks := tk }) : wpAny (model prog w) A (pyNext (.ref mp)) Q E s := by
  obtain ⟨h1, h2, h3, h4⟩ := hm
  have hT : s.TypeIs (.ref mp) "map" := ⟨_, h1, rfl⟩
  unfold pyNext
  refine wpAny_bind (wpAny_attempt (wpAny_callSpecial?_slot (name := Str.ofString "__next__") hT slot_map_next (wpAny_call_entry slot_map_next hT entry_map_next ?_ (args_map_next _))))
  unfold Builtin.«map.__next__»
  refine wpAny_bind (wpAny_pure ?_)
  dsimp only
  refine wpAny_bind (wpAny_field h1 rfl (x := .ref tp) rfl ?_)
  refine wpAny_bind (wpAny_seqItems h2 rfl ?_)
  dsimp only
  rw [← Array.forIn_toList]
  refine wpAny_bind ?_
  rw [show (#[Value.ref it] : Array Value).toList = [Value.ref it] from rfl, List.forIn_cons]
  refine wpAny_bind (wpAny_bind (wpAny_holding (nextOf_item h3 h4 hx fun h' h3' hsame => wpAny_pure ?_)))
  dsimp only
  rw [List.forIn_nil]
  refine wpAny_pure ?_
  have g1 : h'.get? mp = some ⟨.type "map", none, .fields #[.ref tp, .builtin "str.strip"], #[]⟩ := (hsame.2 mp hne.1).trans h1
  have g2 : h'.get? tp = some ⟨.type "tuple", none, .seq #[.ref it] 0, #[]⟩ := (hsame.2 tp hne.2.1).trans h2
  have g4 : h'.IsList l items := h4.extBut hsame.extBut hne.2.2
  refine wpAny_bind (wpAny_field g1 rfl (x := .builtin "str.strip") rfl ?_)
  refine wpAny_bind (wpAny_holding ?_)
  show wpAny _ _ (call (.builtin "str.strip") [.str x t]) _ _ _
  refine KXw.strip hy hs fun t' k => ?_
  refine wpAny_bind (wpAny_letGo (wpAny_pure ⟨_, rfl, wpAny_pure (hQ h' t' k ⟨g1, g2, h3', g4⟩ hsame)⟩))
theorem map_next_end {mp tp it l : Addr} {i : Nat} {items : Array Value} {Q : Option Value → Shared → Prop} (hh : A.handled = none) (hm : MapAt s.heap mp tp it l items i) (hx : items[i]? = none)
    (hQ : ∀ h', Heap.ExtBut it s.heap h' → Q none { s with heap := h' }) : wpAny (model prog w) A (pyNext (.ref mp)) Q E s := by
  obtain ⟨h1, h2, h3, h4⟩ := hm
  have hT : s.TypeIs (.ref mp) "map" := ⟨_, h1, rfl⟩
  unfold pyNext
  refine wpAny_bind (wpAny_attempt (wpAny_callSpecial?_slot (name := Str.ofString "__next__") hT slot_map_next (wpAny_call_entry slot_map_next hT entry_map_next ?_ (args_map_next _))))
  unfold Builtin.«map.__next__»
  refine wpAny_bind (wpAny_pure ?_)
  dsimp only
  refine wpAny_bind (wpAny_field h1 rfl (x := .ref tp) rfl ?_)
  refine wpAny_bind (wpAny_seqItems h2 rfl ?_)
  dsimp only
  rw [← Array.forIn_toList]
  refine wpAny_bind ?_
  rw [show (#[Value.ref it] : Array Value).toList = [Value.ref it] from rfl, List.forIn_cons]
  refine wpAny_bind (wpAny_bind (wpAny_holding (nextOf_end hh h3 h4 hx fun e h' hext he => ?_)))
  obtain ⟨oe, h5, h6⟩ := he
  refine wpAny_bind (wpAny_isInstance (T := "StopIteration") (b := true) ⟨_, h5, h6⟩ isSubtype_stop ?_)
  exact wpAny_pure (hQ _ hext)
end
end
section
section
variable {prog : Program} {w : World} {A : Around} {E : Value → Shared → Prop} {s : Shared}
theorem extend_turn {S I : Addr} {res : Value} {R : Result → Shared → Prop} {acc : Array Value} {c : Nat} (hsz : acc.size ≤ 1000)
    (h : wpAny (model prog w) A.in1 (pyNext (.ref I)) (fun r s' => match r with
      | some v => s'.heap.get? S = some { cls := .type "list", dict := none, data := .seq acc c, slots := #[] } ∧ ∀ h'' c', Heap.SameBut S s'.heap h'' → h''.get? S = some { cls := .type "list", dict := none, data := .seq (acc.push v) c', slots := #[] } →
          codeAny (model prog w) A (.builtin "list.extend.loop" ⟨[.ref S, .ref I, res], []⟩) R { s' with heap := h'' }
      | none => R (.ok (.ret res)) s') (fun e s' => R (.error e) s') s) :
    codeAny (model prog w) A (.builtin "list.extend.loop" ⟨[.ref S, .ref I, res], []⟩) R s := by
  refine codeAny_builtin PySem.F.entry_extend_loop ?_
  rw [Around.under_plainId PySem.F.plain_extend_loop _]
  show wpAny _ A.in1 (pyNext (.ref I) >>= _) _ _ s
  refine wpAny_bind (wpAny_mono h (fun r s' hr => ?_) fun _ _ z => z)
  cases r with
  | none => exact wpAny_pure hr
  | some v =>
    obtain ⟨hS, hk⟩ := hr
    show wpAny _ A.in1 (updateSeq S (·.push v) >>= _) _ _ _
    refine wpAny_bind (wpAny_updateSeq hS rfl (wpAny_pure ⟨plainId_quiet PySem.F.plain_extend_loop _, hk _ _ (Heap.SameBut.update ..) (Heap.get?_update_self _ hS rfl)⟩) ?_ ?_)
    · rw [sizeLine_eq]; omega
    · rw [Array.size_push, sizeLine_eq]; omega
theorem entry_map_iter : entryFor table "map.__iter__" = some Builtin.«dict_keyiterator.__iter__» := entryFor_alias (id' := "dict_keyiterator.__iter__") (by kernel_rfl) (by decide +kernel) (by decide +kernel) (by kernel_rfl)
theorem pyIter_map {mp : Addr} {o : Obj} {Q : Value → Shared → Prop} (ho : s.heap.get? mp = some o) (hc : o.cls = .type "map") (h : Q (.ref mp) s) : wpAny (model prog w) A (pyIter (.ref mp)) Q E s := by
  have hT : s.TypeIs (.ref mp) "map" := ⟨_, ho, hc⟩
  refine wpAny_pyIter_slot hT slot_map_iter (wpAny_call_entry slot_map_iter hT entry_map_iter ?_ (args_map_iter _))
  show wpAny _ _ (ret (.ref mp)) _ _ s
  exact wpAny_pure ⟨_, rfl, "map", _, hT, slot_map_next.lookup, h⟩
theorem MapAt.keep {h h' : Heap} {mp tp it l : Addr} {items : Array Value} {i : Nat} (m : MapAt h mp tp it l items i) (k : ∀ b o, h.get? b = some o → h'.get? b = some o) : MapAt h' mp tp it l items i :=
  ⟨k _ _ m.1, k _ _ m.2.1, m.2.2.1.at fun o e => k _ _ e, m.2.2.2.at fun o e => k _ _ e⟩
theorem MapAt.other {h h' : Heap} {mp tp it l S : Addr} {items : Array Value} {i : Nat} (m : MapAt h mp tp it l items i) (hs : Heap.SameBut S h h') (h1 : mp ≠ S) (h2 : tp ≠ S) (h3 : it ≠ S) (h4 : l ≠ S) : MapAt h' mp tp it l items i :=
  ⟨(hs.2 _ h1).trans m.1, (hs.2 _ h2).trans m.2.1, m.2.2.1.at fun o e => (hs.2 _ h3).trans e, m.2.2.2.at fun o e => (hs.2 _ h4).trans e⟩
set_option maxHeartbeats 400000 in
theorem collect_map2 {mp tp it l : Addr} {x1 x2 y1 y2 : Str} {t1 t2 : Tok} {Q : List Value → Shared → Prop} (hh : A.handled = none) (hm : MapAt s.heap mp tp it l #[.str x1 t1, .str x2 t2] 0) (hne : mp ≠ it ∧ tp ≠ it ∧ l ≠ it)
   (hy1 : Txt.strip x1 = y1) (hy2 : Txt.strip x2 = y2) (hs1 : x1.length ≤ sizeLine) (hs2 : x2.length ≤ sizeLine)
   (hQ : ∀ h' u1 u2 tk, (∀ b o, b ≠ it → s.heap.get? b = some o → h'.get? b = some o) → Q [.str y1 u1, .str y2 u2] { s with heap := h', toks := tk }) : wpAny (model prog w) A (collect (.ref mp)) Q E s := by
  have hlt : ∀ {b o}, s.heap.get? b = some o → b ≠ s.heap.objs.size := fun e => Nat.ne_of_lt (Heap.lt_size e)
  have n1 : mp ≠ s.heap.objs.size := hlt hm.1
  have n2 : tp ≠ s.heap.objs.size := hlt hm.2.1
  have n3 : it ≠ s.heap.objs.size := by obtain ⟨o, ho, _⟩ := hm.2.2.1; exact hlt ho
  have n4 : l ≠ s.heap.objs.size := by obtain ⟨o, ho, _⟩ := hm.2.2.2; exact hlt ho
  unfold collect
  refine wpAny_bind (wpAny_runValue (codeAny_builtin PySem.F.entry_proto_collect ?_))
  rw [Around.under_plainId PySem.F.plain_proto_collect _]
  show wpAny _ A.in1 (newList [] >>= fun l => again (.builtin "list.__iadd__" ⟨[l, .ref mp], []⟩)) _ _ s
  refine wpAny_bind (wpAny_newObj_type ?_)
  refine wpAny_pure ⟨plainId_quiet PySem.F.plain_list_iadd _, codeAny_builtin PySem.F.entry_list_iadd ?_⟩
  rw [Around.under_plainId PySem.F.plain_list_iadd _]
  show wpAny _ A.in1 (Builtin.List.listExtendWith (.ref s.heap.objs.size) (.ref mp) (.ref s.heap.objs.size)) _ _ _
  have hm1 := hm.keep (h' := s.heap.push { cls := .type "list", data := .seq ([] : List Value).toArray }) (fun b o e => Heap.get?_push_of_some _ e)
  have hS1 : (s.heap.push { cls := .type "list", data := .seq ([] : List Value).toArray }).get? s.heap.objs.size = some { cls := .type "list", data := .seq ([] : List Value).toArray } := Heap.get?_push_size _ rfl
  have hT : ({ s with heap := s.heap.push { cls := .type "list", data := .seq ([] : List Value).toArray } } : Shared).TypeIs (.ref mp) "map" := ⟨_, hm1.1, rfl⟩
  unfold Builtin.List.listExtendWith
  refine wpAny_bind (wpAny_typeOf hT ?_)
  have c1 : Builtin.List.listSameRef (.ref s.heap.objs.size) (.ref mp) = false := by simp [Builtin.List.listSameRef, n1.symm]
  rw [if_neg (by rw [c1]; decide)]
  refine wpAny_bind (pyIter_map hm1.1 rfl ?_)
  refine wpAny_bind (wpAny_holding ?_)
  unfold Builtin.List.listLengthHint
  refine wpAny_bind (wpAny_specialOf hT map_no_len ?_)
  dsimp only
  refine wpAny_bind (wpAny_specialOf hT map_no_hint ?_)
  refine wpAny_pure ?_
  rw [if_pos (by rw [Bool.true_or])]
  refine wpAny_bind (wpAny_rule ?_)
  refine wpAny_bind ?_
  show wpAny _ A.in1 (updateSeq s.heap.objs.size (·.push .none) >>= fun _ => updateSeq s.heap.objs.size (·.pop)) _ _ _
  refine wpAny_bind (wpAny_updateSeq hS1 rfl ?_)
  have hS2 := Heap.get?_update_self (Obj.mapSeq (·.push Value.none)) hS1 rfl
  refine wpAny_updateSeq hS2 rfl ?_
  have hS3 := Heap.get?_update_self (Obj.mapSeq (·.pop)) hS2 rfl
  have hm3 := (hm1.other (Heap.SameBut.update (a := s.heap.objs.size) (f := Obj.mapSeq (·.push Value.none)) ..) n1 n2 n3 n4).other (Heap.SameBut.update (a := s.heap.objs.size) (f := Obj.mapSeq (·.pop)) ..) n1 n2 n3 n4
  have k3 : ∀ b o, b ≠ it → s.heap.get? b = some o → (((s.heap.push { cls := .type "list", data := .seq ([] : List Value).toArray }).update s.heap.objs.size (Obj.mapSeq (·.push Value.none))).update s.heap.objs.size (Obj.mapSeq (·.pop))).get? b = some o := fun b o _ e =>
    (Heap.get?_update_other _ _ (hlt e).symm).trans ((Heap.get?_update_other _ _ (hlt e).symm).trans (Heap.get?_push_of_some _ e))
  refine wpAny_pure ⟨plainId_quiet PySem.F.plain_extend_loop _, ?_⟩
  refine extend_turn (acc := #[]) (by simp) (map_next_item hm3 hne rfl hy1 hs1 fun h4 u1 k1 hm4 sm4 => ⟨(sm4.2 _ n3.symm).trans hS3, fun h5 c5 sm5 hS5 => ?_⟩)
  have hm5 := hm4.other sm5 n1 n2 n3 n4
  refine extend_turn (acc := (#[] : Array Value).push (.str y1 u1)) (by simp) (map_next_item hm5 hne rfl hy2 hs2 fun h6 u2 k2 hm6 sm6 => ⟨(sm6.2 _ n3.symm).trans hS5, fun h7 c7 sm7 hS7 => ?_⟩)
  have hm7 := hm6.other sm7 n1 n2 n3 n4
  refine extend_turn (c := c7) (acc := ((#[] : Array Value).push (.str y1 u1)).push (.str y2 u2)) (by simp) (map_next_end hh hm7 rfl fun h8 ext8 => ?_)
  show wpAny _ A (load s.heap.objs.size >>= _) _ _ _
  refine wpAny_bind (wpAny_load (ext8 _ _ n3.symm hS7) (wpAny_pure (hQ _ u1 u2 _ fun b o hb e => ?_)))
  exact ext8 _ _ hb ((sm7.2 _ (hlt e)).trans ((sm6.2 _ hb).trans ((sm5.2 _ (hlt e)).trans ((sm4.2 _ hb).trans (k3 b o hb e)))))
end
end
section
theorem attr_strip {prog : Program} {w : World} {K : Frag} {A : Around} {Q E : Value → Shared → Prop} {s : Shared} {ex : Bool} {h₀ : Heap} {L : Addr} {m : Str → Option Value} (F : Fr h₀ L s.heap m) (X₀ : K.In h₀) (e : findCls K (.type "str") (.type "type") "strip" = some (.val (.builtin "str.strip"))) (h : Q (.builtin "str.strip") { s with toks := s.toks + 1 }) :
    wpAny (model prog w) A (getAttr (.type "str") "strip" ex) Q E s := by
  have X := X₀.keeps F.keep
  have hstub : opaqueClassAbove (.type "str") = pure none := by unfold opaqueClassAbove; dsimp only; rw [show Manifest.isStub "str" = false by decide +kernel]; rfl
  have L0 : Looks (model prog w) s.heap (typeOf (.type "str")) (.type "type") := Looks.of_pure (by first | rfl | kernel_rfl)
  have hg : findIn K (.type "type") "__getattribute__" = some (some (.builtin "type.__getattribute__")) := type_tga
  have LO : Looks (model prog w) s.heap (opaqueClassAbove (.type "str")) none := Looks.of_pure hstub
  exact cls_open X LO L0 hg (looks_hook X (r := none) (by rfl)) (by show subIn K _ _ = _; rfl) e
    (wpAny_pure (by show wpAny _ _ (handedOut (.builtin "str.strip")) _ _ _; rw [handedOut_of (by rfl)]; exact wpAny_pure h))
noncomputable def Splits (x a b : Str) : Prop := x.length ≤ 1000 ∧ (decide (x.length < (Str.ofString "=").length) || decide (Builtin.Str.strKind x < Builtin.Str.strKind (Str.ofString "="))) = false ∧ (Builtin.Str.occurrences x (Str.ofString "=") 0 x.length (limitOf x 1)).isEmpty = false ∧
  Builtin.Str.partsBetween x (Builtin.Str.occurrences x (Str.ofString "=") 0 x.length (limitOf x 1)) (Str.ofString "=").length = [a, b]
theorem split_use {prog : Program} {w : World} {A : Around} {Q E : Value → Shared → Prop} {s : Shared} {h₀ : Heap} {L : Addr} {m : Str → Option Value} {news : List (Addr × Obj)} {x a b : Str} {t u v : Tok} (F : Fr h₀ L s.heap m) (N : News h₀ L s.heap news) (hx : Splits x a b)
    (k : ∀ D ta tb h' tk, Fr h₀ L h' m → News h₀ L h' ((D, lst [.str a ta, .str b tb] 0) :: news) → (∀ p ∈ news, p.1 < D) → Q (.ref D) { s with heap := h', toks := tk }) :
    wpAny (model prog w) A (call (.builtin "str.split") [.str x t, .str (Str.ofString "=") u, .int 1 v]) Q E s := by
  obtain ⟨h0, h1, h2, h3⟩ := hx
  refine call_meets PySem.F.slot_str_split (typeIs_str _ _ _) PySem.F.entry_str_split (PySem.F.args_str_split_3 _ _ _) (meets_str_split_sep_max x (Str.ofString "=") 1 t u v (by decide) h1 (by decide) h2 (by rw [sizeLine_eq]; omega) (by rw [h3, sizeLine_eq]; show 2 ≤ _; decide)) ?_
  show Q _ _
  rw [h3]
  have hlt : ∀ p ∈ news, p.1 < s.heap.objs.size := fun p hp => Heap.lt_size (N p hp).1
  refine k _ s.toks (s.toks + 1) _ _ (F.push _) (fun p hp => ?_) hlt
  rcases List.mem_cons.mp hp with rfl | hp
  · refine ⟨Heap.get?_push_size _ rfl, fun e => ?_, next_is_new F⟩
    exact absurd F.ns.lt (e ▸ Nat.lt_irrefl _)
  · exact ⟨Heap.get?_push_of_some _ (N p hp).1, (N p hp).2⟩
theorem Fr.but {h₀ h h' : Heap} {L it : Addr} {m : Str → Option Value} (F : Fr h₀ L h m) (k : ∀ b o, b ≠ it → h.get? b = some o → h'.get? b = some o) (hL : it ≠ L) (h0 : h₀.get? it = none) : Fr h₀ L h' m :=
  ⟨F.ns.at' fun o e => k L o hL.symm e, fun b o e => k b o (fun q => by rw [q, h0] at e; cases e) (F.keep b o e), F.above⟩
theorem News.but {h₀ h h' : Heap} {L it : Addr} {news : List (Addr × Obj)} (N : News h₀ L h news) (k : ∀ b o, b ≠ it → h.get? b = some o → h'.get? b = some o) (hn : ∀ p ∈ news, p.1 ≠ it) : News h₀ L h' news := fun p hp => ⟨k _ _ (hn p hp) (N p hp).1, (N p hp).2⟩
inductive PairPost (a b : Str) (news : List (Addr × Obj)) : Value → List (Addr × Obj) → Prop
  | mk : ∀ p dx ta tb, (∀ q ∈ news, q.1 ≠ p) → (∀ q ∈ news, q.1 ≠ dx) → dx ≠ p → PairPost a b news (.ref p) ((p, pairO dx a b ta tb) :: (dx, dictOf [] 0) :: news)
end
section
/-- the contract of a call, in the code's form (for bound methods) -/
noncomputable def CallsC (w : World) (f : Addr) (vs : List Value) (led : List (Addr × Obj)) (dd uu : Nat) (Post : Value → List (Addr × Obj) → Prop) : Prop :=
  ∀ (dp un : Nat) (gd : Option (List Code)) (cn : Str) (cs : Scope) (a : Addr) (ccd : Value) (cl : List (Str × Addr)) (outer : List Env) (A₀ : Around) (base h₀ : Heap) (L : Addr) (m : Str → Option Value) (s : Shared) (Q E : Value → Shared → Prop) (loose : List Str) (mean : ExcName → Option Value) (mg mb : Str → Option Value),
    Below A₀ base outer h₀ → (KY w.params).In base → Fr h₀ L s.heap m → (mkk.heap_1 w.params).In h₀ → News h₀ L s.heap led → Top topProg loose mean mg mb h₀ → cs.kind = .function → dp + dd ≤ 800 → un + uu ≤ 6000 →
    (∀ r led' h' tk', Post r led' → Fr h₀ L h' m → News h₀ L h' led' → Q r { s with heap := h', toks := tk' }) →
    codeAny (model PySem.Challenge.rw_ik0001_01.row.prog w) (ktrTop dp un gd cn cs L a ccd cl outer) (.call (.ref f) ⟨vs, []⟩) (fun r s' => match r with | .ok (.ret v) => Q v s' | .ok _ => False | .error e => E e s') s
theorem CallsC.use {w : World} {f : Addr} {vs : List Value} {led : List (Addr × Obj)} {dd uu : Nat} {Post : Value → List (Addr × Obj) → Prop} (C : CallsC w f vs led dd uu Post)
    {dp un : Nat} {gd : Option (List Code)} {cn : Str} {cs : Scope} {a : Addr} {ccd : Value} {cl : List (Str × Addr)} {outer : List Env} {A₀ : Around} {base h₀ : Heap} {L : Addr} {m : Str → Option Value} {s : Shared} {Q E : Value → Shared → Prop} {loose : List Str} {mean : ExcName → Option Value} {mg mb : Str → Option Value}
    (F : Fr h₀ L s.heap m) (B : Below A₀ base outer h₀) (YB : (KY w.params).In base) (X : (mkk.heap_1 w.params).In h₀) (N : News h₀ L s.heap led) (T : Top topProg loose mean mg mb h₀) (hk : cs.kind = .function) (hd : dp + dd ≤ 800) (hu : un + uu ≤ 6000)
    (k : ∀ r led' h' tk', Post r led' → Fr h₀ L h' m → News h₀ L h' led' → Q r { s with heap := h', toks := tk' }) :
    codeAny (model PySem.Challenge.rw_ik0001_01.row.prog w) (ktrTop dp un gd cn cs L a ccd cl outer) (.call (.ref f) ⟨vs, []⟩) (fun r s' => match r with | .ok (.ret v) => Q v s' | .ok _ => False | .error e => E e s') s :=
  C _ _ _ _ _ _ _ _ _ _ _ _ _ _ _ _ _ _ _ _ _ B YB F X N T hk hd hu k
set_option maxRecDepth 100000 in
set_option maxHeartbeats 1000000 in
theorem parse_c {w : World} {x a1 b1 a2 b2 : Str} {t : Tok} {news : List (Addr × Obj)} (hx : Splits x a1 b1) (hla : a1.length ≤ 1000 ∧ b1.length ≤ 1000) (ha : Txt.strip a1 = a2) (hb : Txt.strip b1 = b2) : CallsC w 204 [.ref 210, .str x t] news 50 500 (PairPost a2 b2 news) := by
  unfold CallsC
  intro dp un gd cn cs a ccd cl outer A₀ base h₀ L m s Q E loose mean mg mb B YB F X N T hk hdp hu hret
  k_dflt (walk_at "enter")
  k_steps
  refine attr_strip (K := mkk.heap_1 w.params) (by k_asm) (by k_asm) (by first | rfl | kernel_rfl) ?_
  k_steps
  refine split_use (by k_asm) (by k_asm) hx ?_
  intro D ta tb h' tk F' N' l1
  k_steps
  refine map_use (yin (by k_asm) (by k_asm) (by k_asm)) (List.Mem.head _) (by k_asm) N' (by rfl) (by walk_at "side") (by walk_at "side") ?_
  intro mp tp it h' tk' F' N' g1 g2 g3 nit nL n0
  k_steps
  have n1 : mp ≠ it := fun e => by rw [e, g3] at g1; have := congrArg Obj.cls (Option.some.inj g1); simp at this
  have n2 : tp ≠ it := fun e => by rw [e, g3] at g2; have := congrArg Obj.cls (Option.some.inj g2); simp at this
  have nD : D ≠ it := nit (D, lst [.str a1 ta, .str b1 tb] 0) (.head _)
  refine wpAny_bind (wpAny_specialOf ⟨_, g1, rfl⟩ slot_map_iter.lookup ?_)
  refine wpAny_pure ⟨rfl, ?_⟩
  have hm : MapAt h' mp tp it D #[.str a1 ta, .str b1 tb] 0 := ⟨g1, g2, ⟨_, g3, rfl, rfl⟩, ⟨_, (N' (D, lst [.str a1 ta, .str b1 tb] 0) (.head _)).1, rfl, _, rfl⟩⟩
  refine collect_map2 rfl hm ⟨n1, n2, nD⟩ ha hb ?_ ?_ ?_
  · rw [sizeLine_eq]; omega
  · rw [sizeLine_eq]; omega
  intro h2 u1 u2 tk2 hkeep
  have F2 := Fr.but F' hkeep nL n0
  have N2 : News _ _ h2 news := News.but (fun p hp => N' p (.tail _ hp)) hkeep (fun p hp => nit p (.tail _ hp))
  clear N' F' g1 g2 g3 hm
  refine ⟨by k_in, ?_⟩
  refine pair_call F2 (by assumption) YB (by assumption) N2 (by assumption) rfl (by walk_at "side") (by walk_at "side") ?_
  intro p dx h' tk' F' N' k1 k2 k3
  k_steps
  exact hret _ _ _ _ ⟨p, dx, u1, u2, k1, k2, k3⟩ (by k_asm) (by k_asm)
end
section
noncomputable def qual7 : Str := "FreezableDefaultDict.freeze.<locals>.<lambda>"
/-- a lambda's code table: empty, or filled by an earlier call -/
inductive TabIs (P : Addr) (a b : Int) (q : Str) : List (Addr × Obj) → Prop
  | new : TabIs P a b q [(P, tabObj #[])]
  | keep : ∀ c oc vs t, (oc : Obj).data = .fields vs → vs[1]? = some (.str q t) → TabIs P a b q [(P, tabObj #[rawInt a, rawInt b, .ref c]), (c, oc)]
/-- the table ahead of a making and behind it -/
inductive TabTo (P : Addr) (a b : Int) (q : Str) : List (Addr × Obj) → List (Addr × Obj) → Prop
  | new : ∀ c oc vs t, (oc : Obj).data = .fields vs → vs[1]? = some (.str q t) → TabTo P a b q [(P, tabObj #[])] [(P, tabObj #[rawInt a, rawInt b, .ref c]), (c, oc)]
  | keep : ∀ c oc vs t, (oc : Obj).data = .fields vs → vs[1]? = some (.str q t) → TabTo P a b q [(P, tabObj #[rawInt a, rawInt b, .ref c]), (c, oc)] [(P, tabObj #[rawInt a, rawInt b, .ref c]), (c, oc)]
theorem updF_at {P : Addr} {o : Obj} {rest : List (Addr × Obj)} (h2 : ∀ p ∈ rest, p.1 ≠ P) : ∀ {own : List (Addr × Obj)}, (∀ p ∈ own, p.1 ≠ P) → UpdF P o (own ++ (P, o) :: rest) (fun o' => own ++ (P, o') :: rest)
  | [], _ => .head h2
  | p :: own, h => .tail (h p (.head _)) (updF_at h2 fun q hq => h q (.tail _ hq))
theorem kla_any {prog : Program} {w : World} {E : Value → Shared → Prop} {s : Shared} {h₀ : Heap} {L c P a : Addr} {m mg mb : Str → Option Value} {p : Program} {loose : List Str} {mean : ExcName → Option Value} {A : Around} {cn name qual : Str} {params : Arguments} {body : PySem.Expr} {scope cs : Scope} {pos : Pos} {firstLine : Nat} {clos cl : List (Str × Addr)} {ccd : Value} {Q : Value → Shared → Prop} {own rest l6 : List (Addr × Obj)}
    (F : Fr h₀ L s.heap m) (N : News h₀ L s.heap (own ++ (l6 ++ rest))) (T : Top p loose mean mg mb h₀) (C : CodeHd h₀ c P) (hcd : ccd = .ref c) (h6 : TabIs P pos.line pos.col qual l6) (nd : ND (own ++ (l6 ++ rest))) (hcl : closureFor scope (envX cn cs L a ccd cl) = pure clos)
    (h : ∀ f c' oc vs t ctv h' tk, TabTo P pos.line pos.col qual l6 [(P, tabObj #[rawInt pos.line, rawInt pos.col, .ref c']), (c', oc)] → oc.data = .fields vs → vs[1]? = some (.str qual t) → Fr h₀ L h' m →
      News h₀ L h' ((f, kla_obj name qual params body scope clos ((mg "__name__").getD .none) c' ctv) :: (own ++ (P, tabObj #[rawInt pos.line, rawInt pos.col, .ref c']) :: (c', oc) :: rest)) →
      ND ((f, kla_obj name qual params body scope clos ((mg "__name__").getD .none) c' ctv) :: (own ++ (P, tabObj #[rawInt pos.line, rawInt pos.col, .ref c']) :: (c', oc) :: rest)) → Q (.ref f) { s with heap := h', toks := tk }) :
    wpAny (model prog w) A (makeFunction name qual params (.expr body) scope (envX cn cs L a ccd cl) [] [] [] pos firstLine) Q E s := by
  have e0 : ∀ x : Value, (#[] ++ #[rawInt pos.line, rawInt pos.col, x] : Array Value) = #[rawInt pos.line, rawInt pos.col, x] := fun x => by simp
  cases h6 with
  | new =>
    have n1 := nd_cat1 [own, [_], rest] [0, 1, 2] [1, 0, 2] nd
    have n2 : ∀ q ∈ own ++ rest, q.1 ≠ P := (nd_cons.mp n1).1
    have U : UpdF P (tabObj #[]) (own ++ (P, tabObj #[]) :: rest) (fun o' => own ++ (P, o') :: rest) := updF_at (fun q hq => n2 q (List.mem_append_right _ hq)) fun q hq => n2 q (List.mem_append_left _ hq)
    refine kla_nest (P := P) (ps := #[]) F N T C hcd U trivial rfl hcl fun f c' oc vs t ctv h' tk F' N' d1 d2 l1 l2 => ?_
    rw [e0] at N'
    refine h f c' oc vs t ctv h' tk (.new c' oc vs t d1 d2) d1 d2 F' (fun q hq => N' q (sub_cat [[_], [_], own, [_], rest] [0, 2, 3, 1, 4] [0, 1, 2, 3, 4] (by decide) q hq)) ?_
    have n3 : ND ((c', oc) :: (own ++ (P, tabObj #[]) :: rest)) := nd_cons.mpr ⟨fun q hq => Nat.ne_of_lt (l1 q hq), nd⟩
    have n4 : ND ((f, kla_obj name qual params body scope clos ((mg "__name__").getD .none) c' ctv) :: (c', oc) :: (own ++ (P, tabObj #[]) :: rest)) := nd_cons.mpr ⟨List.forall_mem_cons.mpr ⟨Nat.ne_of_lt l2, fun q hq => Nat.ne_of_lt (Nat.lt_trans (l1 q hq) l2)⟩, n3⟩
    exact nd_cat [[_], [_], own, [_], rest] [[_], [_], own, [_], rest] [0, 1, 2, 3, 4] [0, 2, 3, 1, 4] n4
  | keep c' oc vs t d1 d2 =>
    refine kla_hit (P := P) (ps := #[rawInt pos.line, rawInt pos.col, .ref c']) F N T C hcd (List.mem_append_right _ (.head _)) trivial (codeAmong_snoc (pos := pos) (c := .ref c') [] trivial rfl) hcl fun f ctv h' tk F' N' l => ?_
    exact h f c' oc vs t ctv h' tk (.keep c' oc vs t d1 d2) d1 d2 F' N' (nd_cons.mpr ⟨fun q hq => Nat.ne_of_lt (l q hq), nd⟩)
/-- a body's walk with its own small post -/
theorem name_run {M : Model} {A : Around} {b : List Stmt} {env : Env} {Q : Flow → Shared → Prop} {E : Value → Shared → Prop} {s : Shared} (h : let e := env; let A1 := A; wpAny M A1 (execs b e) Q E s) : wpAny M A (execs b env) Q E s := h
theorem body_cut {M : Model} {A : Around} {t : Sem Flow} {Q : Flow → Shared → Prop} {E : Value → Shared → Prop} {s : Shared} (P : Flow → Shared → Prop)
    (h : ∀ Q' : Flow → Shared → Prop, (∀ f s', P f s' → Q' f s') → wpAny M A t Q' (fun _ _ => False) s) (k : ∀ f s', P f s' → Q f s') : wpAny M A t Q E s :=
  wpAny_mono (h P fun _ _ p => p) k fun _ _ x => x.elim
/-- a body has run to its end -/
inductive LeftN (g : Heap) (L : Addr) (s : Shared) (Post : Value → List (Addr × Obj) → Prop) : Flow → Shared → Prop
  | mk : ∀ led h tk m, Post .none led → Fr g L h m → News g L h led → LeftN g L s Post .next { s with heap := h, toks := tk }
/-- a body has returned -/
inductive LeftR (g : Heap) (L : Addr) (s : Shared) (Post : Value → List (Addr × Obj) → Prop) : Flow → Shared → Prop
  | mk : ∀ r led h tk m, Post r led → Fr g L h m → News g L h led → LeftR g L s Post (.ret r) { s with heap := h, toks := tk }
inductive FrzPost (l7 : List (Addr × Obj)) (w : World) (b bx lam : Addr) (es : List Ent) (n : Nat) (news : List (Addr × Obj)) (r : Value) (led : List (Addr × Obj)) : Prop where
  | mk : ∀ l7' own g hs ft k, (r = .none) → ((∀ p ∈ (b, bookO bx lam (es.map ent) n) :: (bx, frzO g hs ft k) :: (own ++ (l7' ++ news)), p ∈ led)) → (TabTo 107 83 23 qual7 l7 l7') → (ND ((b, bookO bx lam (es.map ent) n) :: (bx, frzO g hs ft k) :: (own ++ (l7' ++ news)))) → (∀ nt sup x t, Fac w 15 lam nt [] sup → Fac w 25 g nt [.str x t] ((b, bookO bx lam (es.map ent) n) :: (bx, frzO g hs ft k) :: (own ++ (l7' ++ sup)))) → FrzPost l7 w b bx lam es n news r led
section
set_option maxRecDepth 100000 in
set_option maxHeartbeats 400000 in
theorem freeze_t {w : World} {b bx lam : Addr} {es : List Ent} {n : Nat} {l7 news : List (Addr × Obj)} (h7 : TabIs 107 83 23 qual7 l7) (hnd : ND ((bx, dictOf [] 0) :: (b, bookO bx lam (es.map ent) n) :: (l7 ++ news))) : 
   Calls w 112 [.ref b] ((bx, dictOf [] 0) :: (b, bookO bx lam (es.map ent) n) :: (l7 ++ news)) 50 500 (FrzPost l7 w b bx lam es n news) := by
  unfold Calls
  intro dp un gd cn cs a ccd cl outer A₀ base h₀ L m s Q E loose mean mg mb B YB F X N T hk hdp hu hret
  refine wpAny_call ?_
  k_dflt (walk_at "enter")
  (with_reducible rename Fr _ _ _ _ => kF)
  rename_i g1 L1 hp1 tk1 FG1 B1 X1 T1 l1 o1 c1 N1
  replace kF : Fr _ _ _ (fun _ => none) := kF
  replace c1 : o1.data = Data.cell (some (.ref b)) := c1
  refine body_cut (LeftN g1 L1 s (FrzPost l7 w b bx lam es n news)) (fun Q' hq => ?_) fun f s' hp => ?_
  rotate_left
  · clear kF N1
    cases hp with | mk led h tk m hp kF N1 =>
    k_steps
    exact hret _ _ _ _ hp (by k_asm) (by k_asm)
  clear hret B F N
  k_steps
  k_dflt (refine' kla_eval ?d0 ?_; (case d0 => exact rfl))
  have nd1 : ND ([(L1 + 1, o1), (bx, dictOf [] 0), (b, bookO bx lam (es.map ent) n)] ++ (l7 ++ news)) := nd_cons.mpr ⟨lt_ne_of (c := L1) (d := L1 + 1) (l := (bx, dictOf [] 0) :: (b, bookO bx lam (es.map ent) n) :: (l7 ++ news)) l1 (Nat.le_succ _), hnd⟩
  clear hnd l1
  k_dflt (refine' kla_any (P := 107) (own := [_, _, _]) ?F ?N ?T ?C ?cd ?h6 ?nd ?cl ?_; (case F => exact kF); (case N => exact N1); (case T => k_asm); (case cd => exact rfl); (case C => exact codeHd_of_K (by k_asm) (by kernel_rfl)); (case h6 => exact h7); (case nd => exact nd1); (case cl => exact rfl); k_whole)
  intro f' c' oc' vs' t' ct' h' tk' h8 d1' d2' F' N' nd2
  clear kF N1 nd1 h7
  (try dsimp only at F' N' nd2)
  k_steps
  have nd3 := (nd_cons.mp nd2)
  refine book_set (pre := [_, _]) (post := (b, bookO bx lam (es.map ent) n) :: (107, tabObj #[rawInt 83, rawInt 23, .ref c']) :: (c', oc') :: news) F' (yin F' B1 YB) N' (News.get N' (by k_mem)) ?_ ?_ ?_
  · exact List.forall_mem_cons.mpr ⟨fun e => nd3.1 _ (.tail _ (.head _)) e.symm, List.forall_mem_cons.mpr ⟨fun e => (nd_cons.mp nd3.2).1 _ (.head _) e.symm, List.forall_mem_nil _⟩⟩
  · exact (nd_cons.mp (nd_cons.mp nd3.2).2).1
  intro h2 hs ft k F2 N2
  clear F' N'
  k_steps
  (with_reducible rename Fr _ _ _ _ => kF); (with_reducible rename News _ _ _ _ => kN)
  refine hq _ _ (.mk _ _ _ _ ⟨[(107, tabObj #[rawInt 83, rawInt 23, .ref c']), (c', oc')], [(f', _), (L1 + 1, o1)], f', hs, ft, k, rfl, fun p hp => hp, h8, nd_cat [[_], [_], [_], [_], [_], [_], news] [[_], [_], [_], [_], [_], [_], news] [0, 1, 2, 3, 4, 5, 6] [3, 2, 0, 1, 4, 5, 6] nd2, ?_⟩ kF fun p hp => kN p (sub_cat [[_], [_], [_], [_], [_], [_], news] [3, 2, 0, 1, 4, 5, 6] [0, 1, 2, 3, 4, 5, 6] (by decide) p hp))
  intro nt sup x t fac
  refine ⟨?_, ?_⟩
  · obtain ⟨⟨lo, fd, h1, h2⟩, _⟩ := fac
    refine ⟨_, _, .tail _ (.tail _ (.head _)), rfl⟩
  intro news ns e hsup hnt hle
  unfold Calls
  clear hq kF kN YB T X nd2 nd3 FG1 B1 X1 T1 h8
  intro dp un gd cn cs a ccd cl outer A₀ base h₀ L m s Q E loose mean mg' mb B YB F X N T hk hdp hu hret
  refine wpAny_call ?_
  k_dflt (refine' kla_code ?k1 ?k2 ?k3 ?k4 ?k5 ?kA ?kF ?kK ?k6 ?k7 ?k8 ?k9 ?kB ?_ ?c2 ?c3 ?c4 ?c5; (case kA => exact rfl); (case kF => exact rfl); (case kK => assumption); (case k1 => assumption); (case k2 => assumption); (case k3 => assumption); (case k4 => assumption); (case k5 => assumption); (case k6 => exact List.mem_cons_of_mem _ (hsup _ (by k_mem))); (case k7 => exact codeRec_news N (List.mem_cons_of_mem _ (hsup _ (by k_mem))) d1' d2'); (case k8 => walk_at "room"); (case k9 => exact rfl); (case c5 => decide); (case kB => exact locs rfl); (case c2 => exact rfl); (case c3 => exact rfl); (case c4 => exact rfl); k_whole; intro g' L' h' FG' F' N' B' X' T'; (try dsimp only); (try k_fold))
  have m1 := hsup _ (.head _)
  have m2 := hsup _ (.tail _ (.head _))
  have m4 := hsup _ (.tail _ (.tail _ (.tail _ (.head _))))
  have N2 := fun p hp => N' p (.tail _ (List.forall_mem_cons.mpr ⟨m1, List.forall_mem_cons.mpr ⟨m2, List.forall_mem_cons.mpr ⟨m4, List.forall_mem_nil _⟩⟩⟩ p hp))
  have C7 : CodeHd g' 111 107 := codeHd_of_K X' (by kernel_rfl)
  have N3 := N'
  clear N'
  have N' : News g' L' _ _ := N2
  clear N2
  k_steps
  refine book_factory F' N3 (yin F' B' YB) (N3 _ (.tail _ m1)).1 (N3 _ (.tail _ m2)).1 (by kernel_rfl) rfl (by walk_at "side") (by walk_at "side") ?_
  intro h2 tk2 F2 N2
  clear N' F'
  obtain ⟨⟨lo, fd, h1, h2⟩, fac⟩ := fac
  have hs2 : ∀ p ∈ sup, p ∈ news := fun p hp => hsup _ (by simp [hp])
  refine callWith_function (o := lo) (fd := fd) (PyProof.Rows.evalArgs_nil3 ⟨⟨(N2 (lam, lo) (.tail _ (hs2 _ h1))).1, h2⟩, ?_⟩)
  refine Calls.use (fac news ns e hs2 hnt hle) (un := un + 3) F2 B' YB X' N2 T' (by rfl) (by walk_at "side") (by walk_at "side") ?_
  rintro r led' h' tk' hpost F3 N3
  clear F2 N2
  k_steps
  exact hret _ _ _ _ hpost (by k_asm) (by k_asm)
end
end
section
theorem book_sub {w : World} {A : Around} {s : Shared} {Q E : Value → Shared → Prop} {b bx lam : Addr} {es : List DictEntry} {n : Nat} {key : Value} {value slice : PySem.Expr}
    (Y : (KY w.params).In s.heap) (hb : s.heap.get? b = some (bookO bx lam es n)) (h : wpAny (model PR w) A (getItem (.ref b) key) Q E s)
    (hs : subscripted slice false (.ref b) key = operate [.ref b, key] (getItem (.ref b) key) := by with_unfolding_all rfl) (ht : ∀ r, letTemporaryGo value (.ref b) r = pure () := by intro _; with_unfolding_all rfl) :
    wpAny (model PR w) A (subscriptTail value slice (.ref b) key) Q E s := by
  have L0 : Looks (model PR w) s.heap (typeOf (.ref b)) (.ref 115) := (Looks.ld hb).andThen .now
  have L2 : Looks (model PR w) s.heap (typeLookup (.ref 115) "__getitem__") (some (.builtin "dict.__getitem__")) := looks_findIn Y (by kernel_rfl)
  unfold subscriptTail
  refine wpAny_bind ?_
  unfold getitemInPython specialOf
  refine wpAny_bind (wpAny_bind (L0.here (L2.here ?_)))
  refine wpAny_pure (wpAny_bind ?_)
  rw [hs]
  exact wpAny_operating (wpAny_mono h (fun r s₃ h₃ => wpAny_bind (wpAny_of_eq (ht r) (wpAny_pure h₃))) fun _ _ x => x)
noncomputable abbrev PRec := Addr × Addr × Str × Str × Tok × Tok
noncomputable def pval (p : PRec) : Value := .ref p.1
noncomputable def pobjs (p : PRec) : List (Addr × Obj) := [(p.1, pairO p.2.1 p.2.2.1 p.2.2.2.1 p.2.2.2.2.1 p.2.2.2.2.2), (p.2.1, dictOf [] 0)]
noncomputable abbrev It := Ent × List Value × Nat
noncomputable def itobj (t : It) : Addr × Obj := (t.1.2.2.2, lst t.2.1 t.2.2)
end
section
/-- the entry of a key: found, or new with an empty list -/
noncomputable def Keyed (its : List It) (x : Str) (its₁ : List It) (t : It) (its₂ : List It) : Prop :=
  (its = its₁ ++ t :: its₂ ∧ t.1.2.1 = x ∧ ∀ u ∈ its₁, u.1.2.1 ≠ x) ∨ ((∀ u ∈ its, u.1.2.1 ≠ x) ∧ its₁ = its ∧ its₂ = [] ∧ t.1.2.1 = x ∧ t.2 = ([], 0))
theorem find_split {α : Type} {p : α → Bool} {x : α} : ∀ {l : List α}, l.find? p = some x → ∃ a b, l = a ++ x :: b ∧ p x = true ∧ ∀ y ∈ a, p y = false
  | [], h => by cases h
  | y :: l, h => by
    rw [List.find?_cons] at h
    cases hy : p y with
    | true => rw [hy] at h; cases h; exact ⟨[], l, rfl, hy, fun _ h => nomatch h⟩
    | false =>
      rw [hy] at h
      obtain ⟨a, b, rfl, h1, h2⟩ := find_split h
      refine ⟨y :: a, b, rfl, h1, fun z hz => ?_⟩
      rcases List.mem_cons.mp hz with rfl | hz
      · exact hy
      · exact h2 z hz
theorem book_put {w : World} {dp un : Nat} {gd : Option (List Code)} {cn : Str} {cs : Scope} {a : Addr} {ccd : Value} {cl : List (Str × Addr)} {outer : List Env} {A₀ : Around} {base h₀ : Heap} {L : Addr} {m : Str → Option Value} {s : Shared} {Q E : Value → Shared → Prop} {loose : List Str} {mean : ExcName → Option Value} {mg mb : Str → Option Value}
    {nt b bx lam : Addr} {ns : List Value} {e n : Nat} {its : List It} {x : Str} {t : Tok} {sup rest : List (Addr × Obj)} {value slice : PySem.Expr}
    (F : Fr h₀ L s.heap m) (B : Below A₀ base outer h₀) (YB : (KY w.params).In base) (X : (mkk.heap_1 w.params).In h₀) (N : News h₀ L s.heap ((nt, lst ns e) :: (b, bookO bx lam ((its.map (·.1)).map ent) n) :: (bx, dictOf [] 0) :: (its.map itobj ++ rest))) (T : Top topProg loose mean mg mb h₀) (hk : cs.kind = .function) (hd : dp + 60 ≤ 800) (hu : un + 600 ≤ 6000)
    (nd : ND ((nt, lst ns e) :: (b, bookO bx lam ((its.map (·.1)).map ent) n) :: (bx, dictOf [] 0) :: (its.map itobj ++ rest))) (fac : Fac w 15 lam nt [] sup) (hsup : ∀ p ∈ sup, p ∈ rest) (hbs : (b == sysModules) = false) (hl : ns.length ≤ 100000) (hsz : its.length ≤ 1000)
    (k : ∀ its₁ t its₂ n' ns' e' h' tk', Keyed its x its₁ t its₂ → ns'.length = ns.length + ((its₁.length + 1 + its₂.length) - its.length) → Fr h₀ L h' m →
      News h₀ L h' (itobj t :: (nt, lst ns' e') :: (b, bookO bx lam (((its₁ ++ t :: its₂).map (·.1)).map ent) n') :: (bx, dictOf [] 0) :: ((its₁ ++ its₂).map itobj ++ rest)) →
      ND (itobj t :: (nt, lst ns' e') :: (b, bookO bx lam (((its₁ ++ t :: its₂).map (·.1)).map ent) n') :: (bx, dictOf [] 0) :: ((its₁ ++ its₂).map itobj ++ rest)) → Q (.ref t.1.2.2.2) { s with heap := h', toks := tk' })
    (hs : subscripted slice false (.ref b) (.str x t) = operate [.ref b, .str x t] (getItem (.ref b) (.str x t)) := by with_unfolding_all rfl) (ht : ∀ r, letTemporaryGo value (.ref b) r = pure () := by intro _; with_unfolding_all rfl) :
    wpAny (model PR w) (ktrTop dp un gd cn cs L a ccd cl outer) (subscriptTail value slice (.ref b) (.str x t)) Q E s := by
  have Y := yin F B YB
  have hb := (N (b, _) (.tail _ (.head _))).1
  refine book_sub Y hb ?_ hs ht
  cases hf : (its.map (·.1)).find? fun e => e.2.1 == x with
  | some en =>
    refine book_hit Y hb hf ?_
    obtain ⟨i1, i2, e1, h1, h2⟩ := find_split hf
    obtain ⟨its₁, r, rfl, rfl, e2⟩ := List.map_eq_append_iff.mp e1
    obtain ⟨t, its₂, rfl, rfl, rfl⟩ := List.map_eq_cons_iff.mp e2
    have hx : t.1.2.1 = x := beq_iff_eq.mp h1
    rw [mid_in] at nd
    rw [mid_in] at N
    refine k its₁ t its₂ n ns e s.heap _ (.inl ⟨rfl, hx, fun u hu hux => ?_⟩) (by simp; omega) F (fun p hp => N p ?_) ?_
    · have := h2 u.1 (List.mem_map_of_mem hu)
      rw [hux] at this; simp at this
    · rw [mid_out] at hp
      exact sub_cat [[_], [_], [_], its₁.map itobj, [_], its₂.map itobj, rest] [4, 0, 1, 2, 3, 5, 6] [0, 1, 2, 3, 4, 5, 6] (by decide) p hp
    · rw [mid_out]
      exact nd_cat1 [[_], [_], [_], its₁.map itobj, [_], its₂.map itobj, rest] [0, 1, 2, 3, 4, 5, 6] [4, 0, 1, 2, 3, 5, 6] nd
  | none =>
    refine book_miss Y hb hbs hf ?_
    have habs : ∀ e ∈ its.map (·.1), e.2.1 ≠ x := fun e he hx => by
      have := List.find?_eq_none.mp hf e he
      rw [hx] at this; simp at this
    have nd0 := nd
    simp only [nd_cons, List.forall_mem_cons] at nd
    obtain ⟨⟨c1, c2, c3⟩, ⟨c4, c5⟩, c6, c7⟩ := nd
    refine Calls.use (missing_t (news := its.map itobj ++ rest) fac (fun p hp => List.mem_append_right _ (hsup p hp)) c3 c5 ⟨c2, c1, c4, hbs⟩ hl habs (by simpa using hsz)) (dp := dp) (un := un + 1) (s := { s with toks := s.toks + 1 }) F B YB X N T hk (by walk_at "lia") (by walk_at "lia") ?_
    rintro r led h' tk' ⟨q, tk, e', hs', hq, hbq, hbxq, hf'⟩ F' N'
    refine k its ((hs', x, t, q), [], 0) [] (n + 1) (ns ++ [.int ns.length tk]) e' h' tk' (.inr ⟨fun u hu => habs u.1 (List.mem_map_of_mem hu), rfl, rfl, rfl, rfl⟩) (by simp) F' (fun p hp => N' p ?_) ?_
    · simp only [List.mem_cons, List.mem_append, List.map_append, List.map_cons, List.append_nil, List.map_nil] at hp ⊢
      exact hp
    · rw [List.append_nil]
      simp only [nd_cons, List.forall_mem_cons]
      exact ⟨⟨fun h => hq h.symm, Nat.ne_of_lt hbq, Nat.ne_of_lt hbxq, fun p hp => Nat.ne_of_lt (hf' p hp)⟩, ⟨c1, c2, c3⟩, ⟨c4, c5⟩, c6, c7⟩
theorem after_put {P : Prop} {h₀ h : Heap} {L q nt b bx ea : Addr} {ont ob obx eo : Obj} {mid fix : List (Addr × Obj)} {hs : Int} {x : Str} {tt : Tok} {vs : List Value} {kk : Nat} (N : News h₀ L h (itobj ((hs, x, tt, q), vs, kk) :: (nt, ont) :: (b, ob) :: (bx, obx) :: (mid ++ (ea, eo) :: fix)))
   (nd : ND (itobj ((hs, x, tt, q), vs, kk) :: (nt, ont) :: (b, ob) :: (bx, obx) :: (mid ++ (ea, eo) :: fix)))
   (k : News h₀ L h ((q, lst vs kk) :: (ea, eo) :: (nt, ont) :: (b, ob) :: (bx, obx) :: (mid ++ (ea, eo) :: fix)) → @Ne Nat ea q → @Ne Nat nt q → @Ne Nat b q → @Ne Nat bx q → (∀ p ∈ mid ++ (ea, eo) :: fix, p.1 ≠ q) → P) : P := by
  have n1 := (nd_cons.mp nd).1
  have n2 := n1 (ea, eo) (.tail _ (.tail _ (.tail _ (List.mem_append_right _ (.head _)))))
  refine k (fun p hp => N p (sub_cat [[_], [_], [_], [_], mid, [_], fix] [0, 5, 1, 2, 3, 4, 5, 6] [0, 1, 2, 3, 4, 5, 6] (by decide) p hp)) n2 (n1 _ (.head _)) (n1 _ (.tail _ (.head _))) (n1 _ (.tail _ (.tail _ (.head _)))) fun p hp => n1 p (.tail _ (.tail _ (.tail _ hp)))
end
section
/-- under each key its values, as they come -/
noncomputable def putKV (g : List (Str × List Str)) (x v : Str) : List (Str × List Str) := match g with
  | [] => [(x, [v])]
  | (y, vs) :: g => if y = x then (y, vs ++ [v]) :: g else (y, vs) :: putKV g x v
noncomputable def groups (rows : List (Str × Str)) : List (Str × List Str) := rows.foldl (fun g r => putKV g r.1 r.2) []
noncomputable def ItIs (t : It) (p : Str × List Str) : Prop := t.1.2.1 = p.1 ∧ StrsAre t.2.1 p.2
inductive All2 {α β : Type} (R : α → β → Prop) : List α → List β → Prop
  | nil : All2 R [] []
  | cons {a b l m} : R a b → All2 R l m → All2 R (a :: l) (b :: m)
theorem All2.len {α β : Type} {R : α → β → Prop} {l : List α} {m : List β} (h : All2 R l m) : l.length = m.length := by
  induction h with
  | nil => rfl
  | cons _ _ ih => simp [ih]
noncomputable def pkey (sd : Bool) (p : PRec) : Str := if sd then p.2.2.2.1 else p.2.2.1
noncomputable def pother (sd : Bool) (p : PRec) : Str := if sd then p.2.2.1 else p.2.2.2.1
noncomputable def rowsOf (sd : Bool) (prs : List PRec) : List (Str × Str) := prs.map fun p => (pkey sd p, pother sd p)
theorem put_all {x v : Str} {tv : Tok} : ∀ {its : List It} {g : List (Str × List Str)} {its₁ its₂ : List It} {t : It} {k : Nat}, All2 ItIs its g → Keyed its x its₁ t its₂ → All2 ItIs (its₁ ++ (t.1, t.2.1 ++ [.str v tv], k) :: its₂) (putKV g x v)
  | [], _, its₁, its₂, t, k, .nil, h => by
    rcases h with ⟨h, _⟩ | ⟨_, rfl, rfl, hx, ht⟩
    · cases its₁ <;> cases h
    · rw [ht]
      exact .cons ⟨hx, .cons _ _ .nil⟩ .nil
  | u :: its, (y, vs) :: g, its₁, its₂, t, k, .cons hu ha, h => by
    have hy : u.1.2.1 = y := hu.1
    unfold putKV
    rcases h with ⟨h, hx, hn⟩ | ⟨hn, rfl, rfl, hx, ht⟩
    · cases its₁ with
      | nil =>
        simp only [List.nil_append, List.cons.injEq] at h
        obtain ⟨rfl, rfl⟩ := h
        first | refine wi_pos (hy ▸ hx) ?_ | rw [if_pos (hy ▸ hx)]
        exact .cons ⟨hy, hu.2.append' (.cons _ _ .nil)⟩ ha
      | cons a l =>
        simp only [List.cons_append, List.cons.injEq] at h
        obtain ⟨rfl, rfl⟩ := h
        have := hn u (.head _)
        first | refine wi_neg (hy ▸ this) ?_ | rw [if_neg (hy ▸ this)]
        exact .cons hu (put_all ha (.inl ⟨rfl, hx, fun w hw => hn w (.tail _ hw)⟩))
    · have := hn u (.head _)
      first | refine wi_neg (hy ▸ this) ?_ | rw [if_neg (hy ▸ this)]
      exact .cons hu (put_all ha (.inr ⟨fun w hw => hn w (.tail _ hw), rfl, rfl, hx, ht⟩))
inductive BookJ (M : Str → Option Value) (nt b bx lam pl : Addr) (plo : Obj) (rows : List (Str × Str)) (c : Nat) (fix : List (Addr × Obj)) (i : Nat) (m₁ : Str → Option Value) (n₁ : List (Addr × Obj)) : Prop where
  | mk : ((∃ up ue, m₁ = fun z => if z = Str.ofString "pair" then up else if z = Str.ofString "ends" then ue else M z)) → ∀ its n ns' e', (n₁ = (nt, lst ns' e') :: (b, bookO bx lam ((its.map (·.1)).map ent) n) :: (bx, dictOf [] 0) :: (its.map itobj ++ fix)) → (ND ((pl, plo) :: n₁)) → (All2 ItIs its (groups (rows.take i))) → (ns'.length = c + its.length) → BookJ M nt b bx lam pl plo rows c fix i m₁ n₁
theorem with_fr {P : Prop} {h₀ h : Heap} {L : Addr} {m : Str → Option Value} (F : Fr h₀ L h m) (k : ∀ M, M = m → Fr h₀ L h M → P) : P := k m rfl F
theorem putKV_len (x v : Str) : ∀ g : List (Str × List Str), (putKV g x v).length ≤ g.length + 1
  | [] => Nat.le_refl _
  | (y, vs) :: g => by
    unfold putKV
    split
    · simp
    · have := putKV_len x v g; simp only [List.length_cons]; omega
theorem putKV_val {x v : Str} {n : Nat} : ∀ {g : List (Str × List Str)}, (∀ p ∈ g, p.2.length ≤ n) → ∀ p ∈ putKV g x v, p.2.length ≤ n + 1
  | [], _, p, hp => by
    rcases List.mem_cons.mp hp with rfl | hp
    · simp
    · cases hp
  | (y, vs) :: g, h, p, hp => by
    unfold putKV at hp
    split at hp
    · rcases List.mem_cons.mp hp with rfl | hp
      · have := h (y, vs) (.head _); simp only [List.length_append, List.length_singleton] at this ⊢; omega
      · exact Nat.le_succ_of_le (h p (.tail _ hp))
    · rcases List.mem_cons.mp hp with rfl | hp
      · exact Nat.le_succ_of_le (h _ (.head _))
      · exact putKV_val (fun q hq => h q (.tail _ hq)) p hp
theorem groups_snoc (rows : List (Str × Str)) (r : Str × Str) : groups (rows ++ [r]) = putKV (groups rows) r.1 r.2 := by unfold groups; rw [List.foldl_append]; rfl
theorem groups_bounds (rows : List (Str × Str)) : ∀ i, i ≤ rows.length → (groups (rows.take i)).length ≤ i ∧ ∀ p ∈ groups (rows.take i), p.2.length ≤ i
  | 0, _ => ⟨Nat.le_refl _, fun p hp => nomatch hp⟩
  | i + 1, h => by
    obtain ⟨h1, h2⟩ := groups_bounds rows i (by walk_at "lia")
    have e : rows.take (i + 1) = rows.take i ++ [rows[i]] := by rw [List.take_succ_eq_append_getElem]
    rw [e, groups_snoc]
    refine ⟨Nat.le_trans (putKV_len _ _ _) (by walk_at "lia"), putKV_val h2⟩
theorem All2.mem {α β : Type} {R : α → β → Prop} {l : List α} {m : List β} (h : All2 R l m) : ∀ a ∈ l, ∃ b ∈ m, R a b := by
  induction h with
  | nil => intro a ha; cases ha
  | cons r _ ih =>
    intro a ha
    rcases List.mem_cons.mp ha with rfl | ha
    · exact ⟨_, .head _, r⟩
    · obtain ⟨b, hb, hr⟩ := ih a ha
      exact ⟨b, .tail _ hb, hr⟩
theorem keyed_len {its its₁ its₂ : List It} {x : Str} {t : It} {g : List (Str × List Str)} {n : Nat} (ha : All2 ItIs its g) (hk : Keyed its x its₁ t its₂) (hg : ∀ p ∈ g, p.2.length ≤ n) : t.2.1.length ≤ n := by
  rcases hk with ⟨rfl, _, _⟩ | ⟨_, _, _, _, h⟩
  · obtain ⟨p, hp, hr⟩ := ha.mem t (by simp)
    rw [hr.2.length]; exact hg p hp
  · rw [h]; exact Nat.zero_le _
theorem keyed_count {its its₁ its₂ : List It} {x : Str} {t : It} (hk : Keyed its x its₁ t its₂) : its.length ≤ its₁.length + 1 + its₂.length := by
  rcases hk with ⟨rfl, _, _⟩ | ⟨_, rfl, rfl, _, _⟩
  · simp; omega
  · simp
theorem book_turn {h₀ h : Heap} {L : Addr} {M : Str → Option Value} {nt b bx lam pl I q ea : Addr} {plo oI eo : Obj} {rows : List (Str × Str)} {c i : Nat} {fix : List (Addr × Obj)} {its its₁ its₂ : List It} {hs : Int} {x x' v : Str} {tt tv tk : Tok} {vs ns' ns2 : List Value} {kk k2 e2 n' : Nat} {s₁ : Shared} {pv ev ue : Option Value}
   (kF : Fr h₀ L h (fun y => if y = Str.ofString "ends" then ev else if y = Str.ofString "pair" then pv else if y = Str.ofString "ends" then ue else M y))
   (kN : News h₀ L h ((q, lst (vs ++ [.str v tv]) k2) :: (ea, eo) :: (nt, lst ns2 e2) :: (b, bookO bx lam (((its₁ ++ ((hs, x', tt, q), vs, kk) :: its₂).map (·.1)).map ent) n') :: (bx, dictOf [] 0) :: ((its₁ ++ its₂).map itobj ++ (ea, eo) :: (I, oI) :: (pl, plo) :: fix)))
   (nd : ND (itobj ((hs, x', tt, q), vs, kk) :: (nt, lst ns2 e2) :: (b, bookO bx lam (((its₁ ++ ((hs, x', tt, q), vs, kk) :: its₂).map (·.1)).map ent) n') :: (bx, dictOf [] 0) :: ((its₁ ++ its₂).map itobj ++ (ea, eo) :: (I, oI) :: (pl, plo) :: fix)))
   (ha : All2 ItIs its (groups (rows.take i))) (hkey : Keyed its x its₁ ((hs, x', tt, q), vs, kk) its₂) (hrow : rows[i]? = some (x, v)) (hc : ns'.length = c + its.length) (hcount : ns2.length = ns'.length + ((its₁.length + 1 + its₂.length) - its.length)) :
   TurnEnd h₀ L [(I, oI), (pl, plo)] I (BookJ M nt b bx lam pl plo rows c fix (i + 1)) s₁ { s₁ with heap := h, toks := tk } := by
  have hk0 := keyed_count hkey
  have ek : (its₁ ++ ((hs, x', tt, q), vs, kk) :: its₂).map (·.1) = (its₁ ++ ((hs, x', tt, q), vs ++ [.str v tv], k2) :: its₂).map (·.1) := by rw [List.map_append, List.map_append]; rfl
  rw [ek, mid_out] at kN nd
  have nd2 : ND ((I, oI) :: (pl, plo) :: (nt, lst ns2 e2) :: (b, bookO bx lam (((its₁ ++ ((hs, x', tt, q), vs ++ [.str v tv], k2) :: its₂).map (·.1)).map ent) n') :: (bx, dictOf [] 0) :: (its₁.map itobj ++ itobj ((hs, x', tt, q), vs ++ [.str v tv], k2) :: (its₂.map itobj ++ fix))) :=
    nd_cat [[_], [_], [_], [_], its₁.map itobj, its₂.map itobj, [_], [_], [_], fix] [[_], [_], [_], [_], its₁.map itobj, its₂.map itobj, [(ea, eo)], [_], [_], fix] [0, 1, 2, 3, 4, 5, 6, 7, 8, 9] [7, 8, 1, 2, 3, 4, 0, 5, 9] nd
  obtain ⟨nd3, nd4⟩ := nd_cons.mp nd2
  refine ⟨h, tk, _, (nt, lst ns2 e2) :: (b, bookO bx lam (((its₁ ++ ((hs, x', tt, q), vs ++ [.str v tv], k2) :: its₂).map (·.1)).map ent) n') :: (bx, dictOf [] 0) :: (its₁.map itobj ++ itobj ((hs, x', tt, q), vs ++ [.str v tv], k2) :: (its₂.map itobj ++ fix)), rfl, kF, fun p hp => kN p ?_, fun p hp => nd3 p (.tail _ hp), ⟨pv, ev, ?_⟩, its₁ ++ ((hs, x', tt, q), vs ++ [.str v tv], k2) :: its₂, n', ns2, e2, by rw [mid_in], nd4, ?_, ?_⟩
  · exact sub_cat [[_], [_], [_], [_], [_], its₁.map itobj, its₂.map itobj, [_], [_], fix] [7, 8, 2, 3, 4, 5, 0, 6, 9] [0, 1, 2, 3, 4, 5, 6, 1, 7, 8, 9] (by decide) p hp
  · funext z
    by_cases h1 : z = Str.ofString "pair"
    · subst h1; rw [if_neg (by decide), if_pos rfl, if_pos rfl]
    · by_cases h2 : z = Str.ofString "ends"
      · subst h2; rw [if_pos rfl, if_neg h1, if_pos rfl]
      · rw [if_neg h2, if_neg h1, if_neg h2, if_neg h1, if_neg h2]
  · have e : rows.take (i + 1) = rows.take i ++ [(x, v)] := by rw [List.take_add_one, hrow]; rfl
    rw [e, groups_snoc]
    exact put_all ha hkey
  · rw [List.length_append, List.length_cons, hcount, hc, Nat.add_comm its₂.length 1, ← Nat.add_assoc its₁.length 1, Nat.add_assoc c, Nat.add_sub_cancel' hk0]
theorem not_sys {w : World} {h₀ h base : Heap} {L b : Addr} {o : Obj} {news : List (Addr × Obj)} {A₀ : Around} {outer : List Env} (N : News h₀ L h news) (hm : (b, o) ∈ news) (B : Below A₀ base outer h₀) (YB : (KY w.params).In base) : (b == sysModules) = false := by
  obtain ⟨o', ho⟩ : ∃ o, (KY w.params).lookup 1 = some o := Option.isSome_iff_exists.mp (by kernel_rfl)
  have h1 := (YB.keeps B.stays) 1 _ ho
  have h2 := (N _ hm).2.2
  rw [beq_eq_false_iff_ne]
  intro e
  have e' : b = 1 := e
  subst e'
  rw [h1] at h2; cases h2
noncomputable def qual6 : Str := "_law_book.<locals>.<lambda>"
noncomputable abbrev tb6 (c : Addr) : Obj := tabObj #[rawInt 159, rawInt 32, .ref c]
noncomputable abbrev tb7 (c : Addr) : Obj := tabObj #[rawInt 83, rawInt 23, .ref c]
/-- a frozen book and what it leans on -/
inductive BookPost (l6 l7 : List (Addr × Obj)) (w : World) (nt pl : Addr) (prs : List PRec) (sd : Bool) (c k : Nat) (news : List (Addr × Obj)) (r : Value) (led : List (Addr × Obj)) : Prop where
  | mk : ∀ b bx lam n its ns' e' l6' l7' own g hs ft kk, (r = .ref b) → ((∀ p ∈ (nt, lst ns' e') :: (pl, lst (prs.map pval) k) :: (b, bookO bx lam ((its.map (·.1)).map ent) n) :: (bx, frzO g hs ft kk) :: (its.map itobj ++ (own ++ (l6' ++ (l7' ++ news)))), p ∈ led)) → (ND ((nt, lst ns' e') :: (pl, lst (prs.map pval) k) :: (b, bookO bx lam ((its.map (·.1)).map ent) n) :: (bx, frzO g hs ft kk) :: (its.map itobj ++ (own ++ (l6' ++ (l7' ++ news)))))) → (TabTo 246 159 32 qual6 l6 l6') → (TabTo 107 83 23 qual7 l7 l7') → (All2 ItIs its (groups (rowsOf sd prs))) → (ns'.length = c + its.length) → (∀ x t, Fac w 25 g nt [.str x t] ((b, bookO bx lam ((its.map (·.1)).map ent) n) :: (bx, frzO g hs ft kk) :: (own ++ (l6' ++ l7')))) → BookPost l6 l7 w nt pl prs sd c k news r led
theorem Fac.mono {w : World} {d : Nat} {lam nt : Addr} {vs : List Value} {sup sup' : List (Addr × Obj)} (f : Fac w d lam nt vs sup) (h : ∀ p ∈ sup, p ∈ sup') : Fac w d lam nt vs sup' := by
  obtain ⟨⟨lo, fd, h1, h2⟩, f⟩ := f
  exact ⟨⟨lo, fd, h _ h1, h2⟩, fun news ns e hs => f news ns e fun p hp => hs p (h p hp)⟩
theorem book_end {P : Prop} {w : World} {b bx lam nt pl cc c' : Addr} {prs : List PRec} {sd : Bool} {c k n e' : Nat} {its : List It} {ns' : List Value} {LO co oc : Obj} {l6 l7 news : List (Addr × Obj)} {r : Value} {led : List (Addr × Obj)}
   (post : FrzPost l7 w b bx lam (its.map (·.1)) n ((nt, lst ns' e') :: (pl, lst (prs.map pval) k) :: (its.map itobj ++ ((lam, LO) :: (cc, co) :: (246, tb6 c') :: (c', oc) :: news))) r led) (h6 : TabTo 246 159 32 qual6 l6 [(246, tb6 c'), (c', oc)])
   (ha : All2 ItIs its (groups (rowsOf sd prs))) (hc : ns'.length = c + its.length) (fac : Fac w 15 lam nt [] [(lam, LO), (cc, co), (c', oc)])
   (kk : BookPost l6 l7 w nt pl prs sd c k news (.ref b) led → r = .none → P) : P := by
  obtain ⟨l7', own, g, hs, ft, kx, rfl, hsub, h7, nd, hf⟩ := post
  refine kk ⟨b, bx, lam, n, its, ns', e', [(246, tb6 c'), (c', oc)], l7', (lam, LO) :: (cc, co) :: own, g, hs, ft, kx, rfl, fun p hp => hsub p (sub_cat [[_], [_], own, l7', [_], [_], its.map itobj, [_], [_], [_], [_], news] [4, 5, 0, 1, 6, 7, 8, 2, 9, 10, 3, 11] [0, 1, 2, 3, 4, 5, 6, 7, 8, 9, 10, 11] (by decide) p hp), ?_, h6, h7, ha, hc, fun x tx => (hf nt _ x tx fac).mono ?_⟩ rfl
  · exact nd_cat1 [[_], [_], own, l7', [_], [_], its.map itobj, [_], [_], [_], [_], news] [0, 1, 2, 3, 4, 5, 6, 7, 8, 9, 10, 11] [4, 5, 0, 1, 6, 7, 8, 2, 9, 10, 3, 11] nd
  · exact sub_cat [[_], [_], own, l7', [_], [_], [_], [_]] [0, 1, 2, 3, 4, 5, 6] [0, 1, 4, 5, 2, 7, 6, 3]
theorem book_abs {P : Prop} {w : World} {h₀ h : Heap} {L b bx lam c' cc nt pl : Addr} {ont plo oc LO co : Obj} {rest : List (Addr × Obj)} (N : News h₀ L h ((b, bookO bx lam [] 0) :: (bx, dictOf [] 0) :: (lam, LO) :: (cc, co) :: (nt, ont) :: (pl, plo) :: (246, tb6 c') :: (c', oc) :: rest))
   (nd : ND ((lam, LO) :: (cc, co) :: (nt, ont) :: (pl, plo) :: (246, tb6 c') :: (c', oc) :: rest)) (hbb : bx ≠ b) (nb : ∀ p ∈ (lam, LO) :: (cc, co) :: (nt, ont) :: (pl, plo) :: (246, tb6 c') :: (c', oc) :: rest, p.1 ≠ b) (nbx : ∀ p ∈ (lam, LO) :: (cc, co) :: (nt, ont) :: (pl, plo) :: (246, tb6 c') :: (c', oc) :: rest, p.1 ≠ bx) (fac : Fac w 15 lam nt [] [(lam, LO), (cc, co), (c', oc)])
   (k : ∀ cc LO co, Fac w 15 lam nt [] [(lam, LO), (cc, co), (c', oc)] → News h₀ L h ((pl, plo) :: (nt, ont) :: (b, bookO bx lam [] 0) :: (bx, dictOf [] 0) :: (lam, LO) :: (cc, co) :: (246, tb6 c') :: (c', oc) :: rest) →
      ND ((pl, plo) :: (nt, ont) :: (b, bookO bx lam [] 0) :: (bx, dictOf [] 0) :: (lam, LO) :: (cc, co) :: (246, tb6 c') :: (c', oc) :: rest) → P) : P :=
  k cc LO co fac (fun p hp => N p (sub_cat [[_], [_], [_], [_], [_], [_], [_], [_], rest] [5, 4, 0, 1, 2, 3, 6, 7, 8] [0, 1, 2, 3, 4, 5, 6, 7, 8] (by decide) p hp))
    (nd_cat1 [[_], [_], [_], [_], [_], [_], [_], [_], rest] [0, 1, 2, 3, 4, 5, 6, 7, 8] [5, 4, 0, 1, 2, 3, 6, 7, 8] (nd_cons.mpr ⟨List.forall_mem_cons.mpr ⟨hbb, nb⟩, nd_cons.mpr ⟨nbx, nd⟩⟩))
end
section
section
local macro_rules | `(tactic| walk_at "getAttr ref") => do
  let f := fun (p : String) (t : Lean.Ident) => `(tactic| ((with_reducible show wpAny _ _ (getAttr (Value.ref _) (Str.ofString $(Lean.quote p)) _) _ _ _); (refine $t (by k_asm) (by k_asm) (by k_asm) (by k_asm) (by k_asm) (by k_asm) (by rfl) (by walk_at "side") (by walk_at "side") (by k_mem) (by k_mem) ?_)))
  let a ← f "name" (Lean.mkIdent `Mine.pair_name)
  let b ← f "value" (Lean.mkIdent `Mine.pair_value)
  `(tactic| (k_here; (first | $a:tactic | $b:tactic); intro h' tk' F' N'; (try k_sweep)))
local macro_rules | `(tactic| walk_at "exec For Name Name cons nil") => `(tactic| (k_here; (rename Fr _ _ _ _ => lF'); (with_unfolding_all refine' For_invVF lF' ?k1 ?k2 ?_; (case k1 => exact rfl); (case k2 => exact rfl); k_whole)))
set_option maxRecDepth 100000 in
set_option maxHeartbeats 4000000 in
theorem book_t {w : World} {nt pl : Addr} {prs : List PRec} {ns : List Value} {e k : Nat} {sd : Bool} {st : Tok} {l6 l7 news : List (Addr × Obj)} (hpr : ∀ p ∈ prs, ∀ q ∈ pobjs p, q ∈ news) (hlen : prs.length ≤ 100 ∧ ns.length ≤ 1000) (h6 : TabIs 246 159 32 qual6 l6) (h7 : TabIs 107 83 23 qual7 l7) (hnd : ND ((nt, lst ns e) :: (pl, lst (prs.map pval) k) :: (l6 ++ (l7 ++ news)))) : 
   Calls w 251 [.ref pl, .int (if sd then 1 else 0) st, .ref nt] ((nt, lst ns e) :: (pl, lst (prs.map pval) k) :: (l6 ++ (l7 ++ news))) 150 1500 (BookPost l6 l7 w nt pl prs sd ns.length k news) := by
  unfold Calls
  intro dp un gd cn cs a ccd cl outer A₀ base h₀ L m s Q E loose mean mg mb B YB F X N T hk hdp hu hret
  refine wpAny_call ?_
  k_dflt (walk_at "enter")
  (with_reducible rename Fr _ _ _ _ => kF)
  rename_i g1 L1 hp1 tk1 FG1 B1 X1 T1 l1 o1 c1 N1
  replace c1 : o1.data = Data.cell (some (.ref nt)) := c1
  replace kF : Fr _ _ _ (fun y => if y = Str.ofString "side" then some (.int (if sd then 1 else 0) st) else if y = Str.ofString "pairs" then some (.ref pl) else none) := kF
  refine body_cut (LeftR g1 L1 s (BookPost l6 l7 w nt pl prs sd ns.length k news)) (fun Q' hq => ?_) fun f s' hp => ?_
  rotate_left
  · clear kF N1
    cases hp with | mk r led h tk m hp kF N1 =>
    k_steps
    exact hret _ _ _ _ hp (by k_asm) (by k_asm)
  clear hret B F N
  refine name_run ?_
  intro en AA
  k_steps
  k_dflt (refine' kla_eval ?d0 ?_; (case d0 => exact rfl))
  have nd1 : ND ([(L1 + 1, o1), (nt, lst ns e), (pl, lst (prs.map pval) k)] ++ (l6 ++ (l7 ++ news))) := nd_cons.mpr ⟨lt_ne_of (c := L1) (d := L1 + 1) (l := (nt, lst ns e) :: (pl, lst (prs.map pval) k) :: (l6 ++ (l7 ++ news))) l1 (Nat.le_succ _), hnd⟩
  clear hnd l1
  k_dflt (refine' kla_any (P := 246) (own := [_, _, _]) ?F ?N ?T ?C ?cd ?h6 ?nd ?cl ?_; (case F => exact kF); (case N => exact N1); (case T => k_asm); (case cd => exact rfl); (case C => exact codeHd_of_K (by k_asm) (by kernel_rfl)); (case h6 => exact h6); (case nd => exact nd1); (case cl => exact rfl); k_whole)
  intro lam c' oc' vs' t' ct' h' tk' h8 d1' d2' F' N' nd2
  clear kF N1 nd1 h6
  (try dsimp only at F' N' nd2)
  k_steps
  refine Makes2.use (x_mkbook (yin F' B1 YB) (News.get N' (.head _))) F' N' (by rfl) (by walk_at "side") (by walk_at "side") ?_
  clear F' N'
  intro b bx h' tk' F' N' nb nbx hbb
  have C7 : CodeHd g1 111 107 := codeHd_of_K X1 (by kernel_rfl)
  refine book_abs (w := w) (nt := nt) N' nd2 hbb nb nbx ?_ ?_
  · refine ⟨⟨_, _, .head _, rfl⟩, ?_⟩
    intro news ns e hsup hnt hle
    unfold Calls
    clear hq YB nd2 nb nbx N' F' h8 hpr hlen X1 T1 FG1 B1 h7 C7
    intro dp un gd cn cs a ccd cl outer A₀ base h₀ L m s Q E loose mean mg' mb B YB F X N T hk hdp hu hret
    refine wpAny_call ?_
    have m1 := hsup _ (.head _)
    have m2 := hsup _ (.tail _ (.head _))
    have m3 := hsup _ (.tail _ (.tail _ (.head _)))
    k_dflt (refine' kla_code ?k1 ?k2 ?k3 ?k4 ?k5 ?kA ?kF ?kK ?k6 ?k7 ?k8 ?k9 ?kB ?_ ?c2 ?c3 ?c4 ?c5; (case kA => exact rfl); (case kF => exact rfl); (case kK => assumption); (case k1 => assumption); (case k2 => assumption); (case k3 => assumption); (case k4 => assumption); (case k5 => assumption); (case k6 => exact List.mem_cons_of_mem _ m1); (case k7 => exact codeRec_news N (List.mem_cons_of_mem _ m3) d1' d2'); (case k8 => walk_at "room"); (case k9 => exact rfl); (case c5 => decide); (case kB => exact locs rfl); (case c2 => exact rfl); (case c3 => exact rfl); (case c4 => exact rfl); k_whole; intro g' L' h' FG' F' N' B' X' T'; (try dsimp only); (try k_fold))
    have N2 := fun p hp => N' p (.tail _ (List.forall_mem_cons.mpr ⟨m1, List.forall_mem_cons.mpr ⟨m2, List.forall_mem_nil _⟩⟩ p hp))
    have C7 : CodeHd g' 111 107 := codeHd_of_K X' (by kernel_rfl)
    have N3 := N'
    clear N'
    have N' : News g' L' _ _ := N2
    clear N2
    k_steps
    refine Calls.use (noted_t (vs := ns) (e := e) (news := news) hnt hle) (un := un + 3) F' B' YB X' N3 T' (by rfl) (by walk_at "side") (by walk_at "side") ?_
    rintro r led h' tk' ⟨q, tk, e', hq, hlt⟩ F2 N2
    clear F' N' N3
    k_steps
    exact hret _ _ _ _ (.mk q tk e' hq hlt) (by k_asm) (by k_asm)
  clear N' nd2 nb nbx
  intro cc LO co fac N' nd
  k_steps
  (with_reducible rename Fr _ _ _ _ => kF); (with_reducible rename News _ _ _ _ => kN)
  refine with_fr kF fun M hM kF => ?_
  refine for_list (vs := prs.map pval) (e := k) (news := (nt, lst ns e) :: (b, bookO bx lam [] 0) :: (bx, dictOf [] 0) :: (lam, LO) :: (cc, co) :: (246, tb6 c') :: (c', oc') :: (l7 ++ news))
    (BookJ M nt b bx lam pl (lst (prs.map pval) k) (rowsOf sd prs) ns.length ((lam, LO) :: (cc, co) :: (246, tb6 c') :: (c', oc') :: (l7 ++ news))) rfl kF kN ?_ ?_ ?_
  · refine ⟨⟨M "pair", M "ends", ?_⟩, [], 0, ns, e, rfl, nd, .nil, by simp⟩
    · funext z
      by_cases h1 : z = Str.ofString "pair"
      · subst h1; rw [if_pos rfl]
      · by_cases h2 : z = Str.ofString "ends"
        · subst h2; rw [if_neg h1, if_pos rfl]
        · rw [if_neg h1, if_neg h2]
  · rintro i v m₁ n₁ h tk I oI hv ⟨⟨up, ue, rfl⟩, its, n, ns', e', rfl, nd, ha, hl⟩ hI hpl F₁ N₁
    rw [List.getElem?_map] at hv
    obtain ⟨p, hp, rfl⟩ := Option.map_eq_some_iff.mp hv
    have hpm := List.mem_of_getElem? hp
    have q1 := hpr p hpm _ (.head _)
    have q2 := hpr p hpm _ (.tail _ (.head _))
    have N' := News.add (News.add N₁ (p := (p.2.1, dictOf [] 0)) (.tail _ (.tail _ (.tail _ (.tail _ (.tail _ (List.mem_append_right _ (.tail _ (.tail _ (.tail _ (.tail _ (List.mem_append_right _ q2)))))))))))) (p := (p.1, pairO p.2.1 p.2.2.1 p.2.2.2.1 p.2.2.2.2.1 p.2.2.2.2.2)) (.tail _ (.tail _ (.tail _ (.tail _ (.tail _ (.tail _ (List.mem_append_right _ (.tail _ (.tail _ (.tail _ (.tail _ (List.mem_append_right _ q1))))))))))))
    clear N₁
    have e2 : (fun y => if y = Str.ofString "pair" then some (pval p) else (fun z => if z = Str.ofString "pair" then up else if z = Str.ofString "ends" then ue else M z) y) = fun y => if y = Str.ofString "pair" then some (.ref p.1) else if y = Str.ofString "ends" then ue else M y := by
      funext y
      by_cases h1 : y = Str.ofString "pair"
      · rw [if_pos h1, if_pos h1]; rfl
      · rw [if_neg h1, if_neg h1]; dsimp only; rw [if_neg h1]
    have F' := e2 ▸ F₁
    clear F₁ kF kN
    subst hM
    have hi : i < prs.length := (List.getElem?_eq_some_iff.mp hp).1
    have hgb := groups_bounds (rowsOf sd prs) i (by rw [show (rowsOf sd prs).length = prs.length from List.length_map _]; exact Nat.le_of_lt hi)
    have hi1 : i ≤ 100 := Nat.le_of_lt (Nat.lt_of_lt_of_le hi hlen.1)
    have hil : its.length ≤ 100 := ha.len ▸ Nat.le_trans hgb.1 hi1
    have hnl : ns'.length ≤ 1100 := hl ▸ Nat.add_le_add hlen.2 hil
    cases sd
    · k_steps
      (with_reducible rename News _ _ _ _ => kN)
      have nd1 := put_nd (o1 := lst [] 0) (o2 := lst [] 0) (oq := lst [.str p.2.2.1 p.2.2.2.2.1, .str p.2.2.2.1 p.2.2.2.2.2] 0) (oI := oI) nd hI hpl (by assumption)
      refine book_put (by k_asm) (by k_asm) (by k_asm) (by k_asm) (fun q hq => kN q ?_) (by k_asm) (by rfl) (by walk_at "side") (by walk_at "side") nd1 fac ?_ ?_ ?_ ?_ ?_
      · exact sub_cat [[_], [_], [_], [_], [_], [_], [_], [_], its.map itobj, _] [5, 6, 7, 8, 0, 3, 4, 9] [0, 1, 2, 3, 4, 5, 6, 7, 8, 9] (by decide) q hq
      · intro q hq
        first | (refine sub_of ?_ hq; walk_at "sub"; done) | (simp only [List.mem_cons] at hq ⊢; grind)
      · exact not_sys kN (b := b) (o := bookO bx lam ((its.map (·.1)).map ent) n) (.tail _ (.tail _ (.tail _ (.tail _ (.tail _ (.tail _ (.head _))))))) (by assumption) YB
      · exact p0 hnl
      · exact p0 hil
      intro its₁ t its₂ n' ns2 e2 h2 tk2 hkey hcount F2 N2 nd2
      obtain ⟨⟨hs, x', tt, q⟩, vs, kk⟩ := t
      have hvl : vs.length ≤ 100 := Nat.le_trans (keyed_len (t := ((hs, x', tt, q), vs, kk)) ha hkey hgb.2) hi1
      refine after_put N2 nd2 fun N3 x1 x2 x3 x4 x5 => ?_
      clear N2 kN
      dsimp only
      k_steps
      (with_reducible rename News _ _ _ _ => kN); (with_reducible rename Fr _ _ _ _ => kF)
      simp only [List.push_toArray] at kN
      exact book_turn kF kN nd2 ha hkey (by simp [rowsOf, hp, pkey, pother]) hl hcount
    · k_steps
      (with_reducible rename News _ _ _ _ => kN)
      have nd1 := put_nd (o1 := lst [] 0) (o2 := lst [] 0) (oq := lst [.str p.2.2.1 p.2.2.2.2.1, .str p.2.2.2.1 p.2.2.2.2.2] 0) (oI := oI) nd hI hpl (by assumption)
      refine book_put (by k_asm) (by k_asm) (by k_asm) (by k_asm) (fun q hq => kN q ?_) (by k_asm) (by rfl) (by walk_at "side") (by walk_at "side") nd1 fac ?_ ?_ ?_ ?_ ?_
      · exact sub_cat [[_], [_], [_], [_], [_], [_], [_], [_], its.map itobj, _] [5, 6, 7, 8, 0, 3, 4, 9] [0, 1, 2, 3, 4, 5, 6, 7, 8, 9] (by decide) q hq
      · intro q hq
        first | (refine sub_of ?_ hq; walk_at "sub"; done) | (simp only [List.mem_cons] at hq ⊢; grind)
      · exact not_sys kN (b := b) (o := bookO bx lam ((its.map (·.1)).map ent) n) (.tail _ (.tail _ (.tail _ (.tail _ (.tail _ (.tail _ (.head _))))))) (by assumption) YB
      · exact p0 hnl
      · exact p0 hil
      intro its₁ t its₂ n' ns2 e2 h2 tk2 hkey hcount F2 N2 nd2
      obtain ⟨⟨hs, x', tt, q⟩, vs, kk⟩ := t
      have hvl : vs.length ≤ 100 := Nat.le_trans (keyed_len (t := ((hs, x', tt, q), vs, kk)) ha hkey hgb.2) hi1
      refine after_put N2 nd2 fun N3 x1 x2 x3 x4 x5 => ?_
      clear N2 kN
      dsimp only
      k_steps
      (with_reducible rename News _ _ _ _ => kN); (with_reducible rename Fr _ _ _ _ => kF)
      simp only [List.push_toArray] at kN
      exact book_turn kF kN nd2 ha hkey (by simp [rowsOf, hp, pkey, pother]) hl hcount
  · rintro m₁ n₁ h tk ⟨⟨up, ue, rfl⟩, its, n, ns', e', rfl, nd, ha, hl⟩ F₁ N₁
    clear kF kN
    subst hM
    k_steps
    refine book_method (yin (by k_asm) (by k_asm) (by k_asm)) (News.get (by k_asm) (by k_mem)) (News.get (by k_asm) (by k_mem)) ?_
    k_steps
    (with_reducible rename News _ _ _ _ => kN)
    refine Calls.use (freeze_t (b := b) (bx := bx) (lam := lam) (n := n) (es := its.map (·.1)) (news := (nt, lst ns' e') :: (pl, lst (prs.map pval) k) :: (its.map itobj ++ ((lam, LO) :: (cc, co) :: (246, tb6 c') :: (c', oc') :: news))) h7 (nd_cat1 [[_], [_], [_], [_], its.map itobj, [_], [_], [_], [_], l7, news] [0, 1, 2, 3, 4, 5, 6, 7, 8, 9, 10] [3, 2, 9, 1, 0, 4, 5, 6, 7, 8, 10] nd)) (by k_asm) (by k_asm) (by k_asm) (by k_asm) (fun q hq => kN q ?_) (by k_asm) (by rfl) (by walk_at "side") (by walk_at "side") ?_
    · exact sub_cat [[_], [_], [_], [_], its.map itobj, [_], [_], [_], [_], l7, news] [3, 2, 9, 1, 0, 4, 5, 6, 7, 8, 10] [0, 1, 2, 3, 4, 5, 6, 7, 8, 9, 10] (by decide) q hq
    intro r led h' tk' post F' N'
    clear kN
    rw [show (prs.map pval).length = (rowsOf sd prs).length by simp [rowsOf], List.take_length] at ha
    refine book_end post h8 ha hl fac fun pb er => ?_
    clear post
    subst er
    k_steps
    exact hq _ _ (.mk _ _ _ _ _ pb (by k_asm) (by k_asm))
end
end
section
theorem mod5 (n : Int) : n % 5 = ((n % 5).toNat : Int) ∧ (n % 5).toNat < 5 := by omega
theorem div5 (n : Int) : n / 5 % 5 = ((n / 5 % 5).toNat : Int) ∧ (n / 5 % 5).toNat < 5 := mod5 (n / 5)
theorem fmod_A (n : Int) : n.fmod 5 = ((n % 5).toNat : Int) := (Int.fmod_eq_emod_of_nonneg _ (by decide)).trans (mod5 n).1
theorem fmod_B (n : Int) : (n.fdiv 5).fmod 5 = ((n / 5 % 5).toNat : Int) := by
  rw [Int.fmod_eq_emod_of_nonneg _ (by decide), Int.fdiv_eq_ediv_of_nonneg _ (by decide)]
  exact (div5 n).1
theorem nodup_pick : ∀ {l : List Nat} (is : List Nat) (k : Nat), l.Nodup → is.Nodup → (∀ i ∈ is, i < k) → ((is.filterMap fun i => l[i]?) ++ l.drop k).Nodup := by
  intro l is k hl hi hk
  rw [List.nodup_append]
  have inj : ∀ (i j x : Nat), l[i]? = some x → l[j]? = some x → i = j := fun i j x h1 h2 => by
    obtain ⟨a1, b1⟩ := List.getElem?_eq_some_iff.mp h1
    obtain ⟨a2, b2⟩ := List.getElem?_eq_some_iff.mp h2
    have e : l[i] = l[j] := b1.trans b2.symm
    rcases Nat.lt_trichotomy i j with h | h | h
    · exact absurd e (List.pairwise_iff_getElem.mp hl i j a1 a2 h)
    · exact h
    · exact absurd e.symm (List.pairwise_iff_getElem.mp hl j i a2 a1 h)
  refine ⟨?_, hl.sublist (List.drop_sublist _ _), fun a ha b hb hab => ?_⟩
  · induction is with
    | nil => exact List.nodup_nil
    | cons i is ih =>
      rw [List.nodup_cons] at hi
      have ih := ih hi.2 fun j hj => hk j (.tail _ hj)
      rw [List.filterMap_cons]
      cases h : l[i]? with
      | none => exact ih
      | some x =>
        refine List.nodup_cons.mpr ⟨fun hm => ?_, ih⟩
        obtain ⟨j, hj, hx⟩ := List.mem_filterMap.mp hm
        exact hi.1 (inj i j x h hx ▸ hj)
  · subst hab
    obtain ⟨i, hi', hx⟩ := List.mem_filterMap.mp ha
    obtain ⟨j, hj⟩ := List.mem_iff_getElem?.mp hb
    rw [List.getElem?_drop] at hj
    have := inj _ _ _ hx hj
    have := hk i hi'
    walk_at "lia"
theorem nd_pick {A B : List (Addr × Obj)} (is : List Nat) (k : Nat) (h : ND B) (hi : is.Nodup ∧ ∀ i ∈ is, i < k) (e : A.map (·.1) = (is.filterMap fun i => (B.map (·.1))[i]?) ++ (B.map (·.1)).drop k) : ND A := by
  show (A.map (·.1)).Nodup
  rw [e]
  exact nodup_pick is k h hi.1 hi.2
structure IntsH (vs : List Value) (ns : List Int) : Prop where
  h : IntsAre vs ns
noncomputable def wordL : List Str := ["B", "a", "a b", "c", "d"]
noncomputable def wordAt (k : Int) : Str := wordL.getD k.toNat Str.empty
noncomputable def blankL : List Str := ["", " ", "\t", "\n "]
theorem blank_len (k : Nat) : (blankL.getD k Str.empty).length ≤ 2 := by
  match k with
  | 0 => decide
  | 1 => decide
  | 2 => decide
  | 3 => decide
  | k + 4 => exact Nat.zero_le _
theorem word_len (k : Nat) : (wordL.getD k Str.empty).length ≤ 3 := by
  match k with
  | 0 => decide
  | 1 => decide
  | 2 => decide
  | 3 => decide
  | 4 => decide
  | k + 5 => exact Nat.zero_le _
/-- a pair made of a number -/
noncomputable def PIs (p : PRec) (n : Int) : Prop := p.2.2.1 = wordAt (n % 5) ∧ p.2.2.2.1 = wordAt (n / 5 % 5)
inductive PairsJ (M : Str → Option Value) (pl wl nl : Addr) (wo nlo : Obj) (ns : List Int) (news : List (Addr × Obj)) (i : Nat) (m₁ : Str → Option Value) : List (Addr × Obj) → Prop where
  | mk : ∀ ux ub, (m₁ = fun z => if z = Str.ofString "x" then ux else if z = Str.ofString "blank" then ub else M z) → ∀ prs e, (ND ((nl, nlo) :: (pl, lst (prs.map pval) e) :: (wl, wo) :: (prs.flatMap pobjs ++ news))) → (All2 PIs prs (ns.take i)) → PairsJ M pl wl nl wo nlo ns news i m₁ ((pl, lst (prs.map pval) e) :: (wl, wo) :: (prs.flatMap pobjs ++ news))
theorem ints_item {vs : List Value} {ns : List Int} (h : IntsAre vs ns) {i : Nat} {v : Value} (hv : vs[i]? = some v) : ∃ n t, ns[i]? = some n ∧ v = .int n t := by
  have hlt : i < ns.length := by rw [← h.length]; exact (List.getElem?_eq_some_iff.mp hv).1
  obtain ⟨t, ht⟩ := h.get i ns[i] (by simp [hlt])
  exact ⟨ns[i], t, by simp [hlt], Option.some.inj (hv.symm.trans ht)⟩
theorem with_head {P : Prop} {h₀ h : Heap} {L l : Addr} {o : Obj} {rest : List (Addr × Obj)} (N : News h₀ L h ((l, o) :: rest)) (k : ∀ pl, pl = l → News h₀ L h ((pl, o) :: rest) → P) : P := k l rfl N

/-- the walk ends here: what follows is by hand -/
noncomputable def Stop (P : Prop) : Prop := P
theorem Stop.of {P : Prop} (h : Stop P) : P := h
theorem Stop.go {P : Prop} (h : P) : Stop P := h
theorem star_binop {a b : PySem.Expr} {op : Operator} {p : Pos} {rest : List PySem.Expr} {env : Env} : starEach (.BinOp a op b p :: rest) env = (false, PySem.eval (.BinOp a op b p) env) :: starEach rest env := by
  rw [starEach]; intro _ _ h; cases h
noncomputable def rowText (n : Int) : Str :=
  let bl := blankL.getD (n / 25 % 4).toNat Str.empty
  bl ++ wordAt (n % 5) ++ bl ++ Str.ofString "=" ++ bl ++ wordAt (n / 5 % 5) ++ bl
theorem row_splits0 : ∀ i : Fin 4, ∀ j k : Fin 5, 
    let bl := blankL.getD i.1 Str.empty
    let u := wordL.getD j.1 Str.empty
    let v := wordL.getD k.1 Str.empty
    Splits (bl ++ u ++ bl ++ Str.ofString "=" ++ bl ++ v ++ bl) (bl ++ u ++ bl) (bl ++ v ++ bl) ∧ Txt.strip (bl ++ u ++ bl) = u ∧ Txt.strip (bl ++ v ++ bl) = v := by unfold Splits; decide +kernel
theorem row_splits (n : Int) : 
    let bl := blankL.getD (n / 25 % 4).toNat Str.empty
    let u := wordL.getD (n % 5).toNat Str.empty
    let v := wordL.getD (n / 5 % 5).toNat Str.empty
    Splits (bl ++ u ++ bl ++ Str.ofString "=" ++ bl ++ v ++ bl) (bl ++ u ++ bl) (bl ++ v ++ bl) ∧ Txt.strip (bl ++ u ++ bl) = u ∧ Txt.strip (bl ++ v ++ bl) = v :=
  row_splits0 ⟨(n / 25 % 4).toNat, by omega⟩ ⟨(n % 5).toNat, (mod5 n).2⟩ ⟨(n / 5 % 5).toNat, (mod5 (n / 5)).2⟩
theorem All2.snoc {α β : Type} {R : α → β → Prop} {l : List α} {m : List β} {a : α} {b : β} (h : All2 R l m) (r : R a b) : All2 R (l ++ [a]) (m ++ [b]) := by
  induction h with
  | nil => exact .cons r .nil
  | cons q _ ih => exact .cons q ih
inductive PairsPost (nl : Addr) (nlo : Obj) (ns : List Int) (news : List (Addr × Obj)) : Value → List (Addr × Obj) → Prop where
  | mk : ∀ pl prs e, (ND ((pl, lst (prs.map pval) e) :: (prs.flatMap pobjs ++ (nl, nlo) :: news))) → (All2 PIs prs ns) → PairsPost nl nlo ns news (.ref pl) ((pl, lst (prs.map pval) e) :: (prs.flatMap pobjs ++ (nl, nlo) :: news))
theorem append_led {prog : Program} {w : World} {A : Around} {E : Value → Shared → Prop} {s : Shared} {Q : Value → Shared → Prop} {h₀ : Heap} {L pl : Addr} {m : Str → Option Value} {xs : List Value} {e : Nat} {x : Value} {rest : List (Addr × Obj)}
    (F : Fr h₀ L s.heap m) (N : News h₀ L s.heap ((pl, lst xs e) :: rest)) (off : ∀ p ∈ rest, p.1 ≠ pl) (hsz : xs.length ≤ 100000)
    (h : ∀ h', Fr h₀ L h' m → News h₀ L h' ((pl, lst (xs ++ [x]) (e + 1)) :: rest) → Q .none { s with heap := h' }) :
    wpAny (model prog w) A (call (.builtin "list.append") [.ref pl, x]) Q E s := by
  have D := N (pl, lst xs e) (.head _)
  refine append_at (hsz := by rw [List.size_toArray, sizeLine_eq]; walk_at "lia") D.1 fun h' hs hD => h h' (F.change hs D.2.1 D.2.2) ?_
  rw [List.push_toArray] at hD
  exact News.setIn (own := []) N (fun p hp => nomatch hp) off hs hD
theorem pairs_end {h₀ h' : Heap} {L pl wl nl I p dx : Addr} {wo oI nlo : Obj} {M : Str → Option Value} {ns : List Int} {news : List (Addr × Obj)} {prs : List PRec} {e i : Nat} {n : Int} {w1 w2 : Str} {ta tb : Tok} {s₁ : Shared} {tk' : Nat} {ux ub : Option Value} {more : List (Addr × Obj)}
    (F : Fr h₀ L h' (fun z => if z = Str.ofString "x" then ux else if z = Str.ofString "blank" then ub else M z)) (N : News h₀ L h' ((pl, lst (prs.map pval ++ [.ref p]) (e + 1)) :: more)) (hn : ns[i]? = some n)
    (hm : ∀ q ∈ (p, pairO dx w1 w2 ta tb) :: (dx, dictOf [] 0) :: (I, oI) :: (nl, nlo) :: (wl, wo) :: (prs.flatMap pobjs ++ news), q ∈ more)
    (nd : ND ((nl, nlo) :: (pl, lst (prs.map pval) e) :: (wl, wo) :: (prs.flatMap pobjs ++ news))) (ha : All2 PIs prs (ns.take i))
    (hI : ∀ q ∈ (pl, lst (prs.map pval) e) :: (wl, wo) :: (prs.flatMap pobjs ++ news), q.1 ≠ I) 
    (np : ∀ q ∈ (I, oI) :: (nl, nlo) :: (pl, lst (prs.map pval) e) :: (wl, wo) :: (prs.flatMap pobjs ++ news), q.1 ≠ p) (ndx : ∀ q ∈ (I, oI) :: (nl, nlo) :: (pl, lst (prs.map pval) e) :: (wl, wo) :: (prs.flatMap pobjs ++ news), q.1 ≠ dx) (hpd : dx ≠ p)
    (h1 : wordAt (n % 5) = w1 ∧ wordAt (n / 5 % 5) = w2) : TurnEnd h₀ L [(I, oI), (nl, nlo)] I (PairsJ M pl wl nl wo nlo ns news (i + 1)) s₁ { s₁ with heap := h', toks := tk' } := by
  have e1 : (prs ++ [(p, dx, w1, w2, ta, tb)]).flatMap pobjs ++ news = prs.flatMap pobjs ++ (p, pairO dx w1 w2 ta tb) :: (dx, dictOf [] 0) :: news := by rw [List.flatMap_append, List.append_assoc]; rfl
  have e2 : (prs ++ [(p, dx, w1, w2, ta, tb)]).map pval = prs.map pval ++ [.ref p] := by rw [List.map_append]; rfl
  have n1 : ND ((dx, dictOf [] 0) :: (p, pairO dx w1 w2 ta tb) :: (nl, nlo) :: (pl, lst (prs.map pval) e) :: (wl, wo) :: (prs.flatMap pobjs ++ news)) := nd_cons.mpr ⟨List.forall_mem_cons.mpr ⟨fun h => hpd h.symm, fun q hq => ndx q (.tail _ hq)⟩, nd_cons.mpr ⟨fun q hq => np q (.tail _ hq), nd⟩⟩
  have n2 : ND ((dx, dictOf [] 0) :: (p, pairO dx w1 w2 ta tb) :: (I, oI) :: (pl, lst (prs.map pval) e) :: (wl, wo) :: (prs.flatMap pobjs ++ news)) := nd_cons.mpr ⟨List.forall_mem_cons.mpr ⟨fun h => hpd h.symm, List.forall_mem_cons.mpr ⟨ndx _ (.head _), fun q hq => ndx q (.tail _ (.tail _ hq))⟩⟩, nd_cons.mpr ⟨List.forall_mem_cons.mpr ⟨np _ (.head _), fun q hq => np q (.tail _ (.tail _ hq))⟩, nd_cons.mpr ⟨hI, (nd_cons.mp nd).2⟩⟩⟩
  have n3 : ND ((I, oI) :: (pl, lst (prs.map pval ++ [.ref p]) (e + 1)) :: (wl, wo) :: (prs.flatMap pobjs ++ (p, pairO dx w1 w2 ta tb) :: (dx, dictOf [] 0) :: news)) := nd_cat [[_], [_], [_], [_], [_], prs.flatMap pobjs, news] [[_], [_], [_], [_], [_], prs.flatMap pobjs, news] [0, 1, 2, 3, 4, 5, 6] [2, 3, 4, 5, 1, 0, 6] n2
  refine ⟨h', tk', _, (pl, lst ((prs ++ [(p, dx, w1, w2, ta, tb)]).map pval) (e + 1)) :: (wl, wo) :: ((prs ++ [(p, dx, w1, w2, ta, tb)]).flatMap pobjs ++ news), rfl, F, fun q hq => ?_, ?_, ux, ub, rfl, prs ++ [(p, dx, w1, w2, ta, tb)], e + 1, ?_, ?_⟩
  · rw [e1, e2] at hq
    exact N q ((List.mem_cons.mp (sub_cat [[_], [_], [_], [_], [_], [_], prs.flatMap pobjs, news] [3, 4, 0, 5, 6, 1, 2, 7] [0, 1, 2, 3, 4, 5, 6, 7] (by decide) q hq)).elim (fun h => h ▸ .head _) fun h => .tail _ (hm q h))
  · rw [e1, e2]
    exact (nd_cons.mp n3).1
  · rw [e1, e2]
    exact nd_cat [[_], [_], [_], [_], [_], prs.flatMap pobjs, news] [[_], [_], [_], [_], [_], prs.flatMap pobjs, news] [0, 1, 2, 3, 4, 5, 6] [2, 3, 4, 5, 1, 0, 6] n1
  · rw [List.take_add_one, hn]
    exact ha.snoc ⟨h1.1.symm, h1.2.symm⟩
theorem pairs_nd {nl pl wl : Addr} {nlo plo wo : Obj} {news : List (Addr × Obj)} (hnd : ND ((nl, nlo) :: news)) (hwl : ∀ p ∈ (nl, nlo) :: news, p.1 < wl) (hl : wl < pl ∧ nl < pl ∧ AllLt pl news) : ND ((nl, nlo) :: (pl, plo) :: (wl, wo) :: (([] : List PRec).flatMap pobjs ++ news)) :=
  nd_cat [[_], [_], [_], news] [[_], [_], [_], news] [0, 1, 2, 3] [2, 0, 1, 3] (nd_cons.mpr ⟨lt_ne (d := pl) (l := (wl, wo) :: (nl, nlo) :: news) hl, nd_cons.mpr ⟨all_lt_ne hwl, hnd⟩⟩ : ND ((pl, plo) :: (wl, wo) :: (nl, nlo) :: news))
end
section
section
variable {prog : Program} {w : World} {A : Around} {E : Value → Shared → Prop} {s : Shared} {h₀ : Heap} {L : Addr} {m : Str → Option Value} {env : Env}

theorem comp_loop {elt target iter : Expr} {ifs : List Expr} {scope : Scope} {pos : Pos} {it acc : Value} {env : Env} {R : Result → Shared → Prop} (I : Nat → Shared → Prop)
    (turn : ∀ n s, I n s → wpAny (model prog w) A (pyNext it) (fun r s₁ => match r with
      | none => R (.ok .next) s₁
      | some v => wpAny (model prog w) A (letOwnedTupleGo target it v) (fun _ s₂ => wpAny (model prog w) A (assign target env v) (fun _ s₃ =>
          wpAny (model prog w) A (forIn ifs true fun c r => if r = true then do let ok ← isTrue c env (PySem.eval c env); pure (ForInStep.yield ok) else pure (ForInStep.yield r)) (fun ok s₄ =>
            if ok = true then wpAny (model prog w) A (PySem.eval elt env) (fun x s₅ =>
              wpAny (model prog w) A (call (.builtin "list.append") [acc, x]) (fun _ s₆ => ∃ m, m < n ∧ I m s₆) (notedBy (model prog w) A env fun e s' => R (.error e) s') s₅) (notedBy (model prog w) A env fun e s' => R (.error e) s') s₄
            else ∃ m, m < n ∧ I m s₄) (notedBy (model prog w) A env fun e s' => R (.error e) s') s₃) (notedBy (model prog w) A env fun e s' => R (.error e) s') s₂) (notedBy (model prog w) A env fun e s' => R (.error e) s') s₁) (notedBy (model prog w) A env fun e s' => R (.error e) s') s)
    (n : Nat) (h : I n s) : codeAny (model prog w) A (.compLoop (.ListComp elt [⟨target, iter, ifs, 0⟩] scope pos) 0 it acc env) R s := by
  refine codeAny_loop rfl I (fun n s hI => ?_) n h
  show wpAny _ A ((compTurn (.ListComp elt [⟨target, iter, ifs, 0⟩] scope pos) 0 it acc env).onRaise (fun x => do noteFrame x env; theTreesLotGoes x)) _ _ s
  refine wpAny_noted ?_
  rw [compTurn_list]
  refine wpAny_bind (wpAny_standAt (wpAny_bind (wpAny_mono (turn n s hI) (fun r s₁ h₁ => ?_) fun _ _ h' => h')))
  cases r with
  | none => exact wpAny_pure h₁
  | some v =>
    refine wpAny_bind (wpAny_mono h₁ (fun _ s₂ h₂ => wpAny_bind (wpAny_mono h₂ (fun _ s₃ h₃ => wpAny_bind (wpAny_mono h₃ (fun ok s₄ h₄ => ?_) fun _ _ h' => h')) fun _ _ h' => h')) fun _ _ h' => h')
    cases ok with
    | false => exact wpAny_pure ⟨rfl, h₄⟩
    | true => exact wpAny_bind (wpAny_bind (wpAny_mono h₄ (fun x s₅ h₅ => wpAny_bind (wpAny_mono h₅ (fun _ s₆ h₆ => wpAny_pure (wpAny_pure ⟨rfl, h₆⟩)) fun _ _ h' => h')) fun _ _ h' => h'))

/-- what a turn of a comprehension leaves -/
inductive CEnd (h₀ : Heap) (L : Addr) (m : Str → Option Value) (wr : List Addr) (own : List (Addr × Obj)) (C : Addr) (oC : Obj) (D : Addr) (oD : Obj) (J : List (Addr × Obj) → Prop) (s₁ s₂ : Shared) : Prop where
  | mk : ∀ h' tk news, (s₂ = { s₁ with heap := h', toks := tk }) → (Fr h₀ L h' m) → (News h₀ L h' ((C, oC) :: (D, oD) :: (news ++ own))) → ((∀ p ∈ news, p.1 ∉ wr ∧ p.1 ≠ C ∧ p.1 ≠ D)) → (J news) → CEnd h₀ L m wr own C oC D oD J s₁ s₂
theorem NsObj.has {h : Heap} {C : Addr} {m : Str → Option Value} (x : h.Ns C m) : ∃ o, h.get? C = some o ∧ LCg.NsObj o m := LCg.ns_obj x

/-- one assignment of a comprehension's target -/
noncomputable def Sets (prog : Program) (w : World) (A : Around) (target : Expr) (scope : Scope) (cl : List (Str × Addr)) (env : Env) (n : Nat) (P : Nat → Value → Heap → Prop) (S : Nat → (Str → Option Value) → Prop) : Prop :=
  ∀ i v C m₃ (s₃ : Shared) (Q : Unit → Shared → Prop) (E : Value → Shared → Prop), i < n → P i v s₃.heap → s₃.heap.Ns C m₃ → (∀ h' tk m₅, (∀ b o, b ≠ C → s₃.heap.get? b = some o → h'.get? b = some o) → h'.Ns C m₅ → S i m₅ → Q () { s₃ with heap := h', toks := tk }) →
    wpAny (model prog w) A (assign target (compEnvC scope cl C env) v) Q E s₃

theorem comp_block {elt target iter : Expr} {ifs : List Expr} {scope : Scope} {cl : List (Str × Addr)} {pos : Pos} {s₂ : Shared} {I : Addr} {fp wr : List Addr} {n : Nat} {P Md : Nat → Value → Heap → Prop} {St : Nat → Heap → Prop} {news : List (Addr × Obj)} {RR : Value → Addr → Result → Shared → Prop}
    (W : KTurns prog w A target I fp wr n P Md St) (S : Nat → (Str → Option Value) → Prop) (J : Nat → List Value → List (Addr × Obj) → Prop)
    (hself : ∀ (s : Shared) (Q : Value → Shared → Prop) (E : Value → Shared → Prop), St 0 s.heap → Q (.ref I) s → wpAny (model prog w) A (pyIter (.ref I)) Q E s)
    (hIo : ∀ i h, St i h → ∀ b ∈ wr, ∃ o, h.get? b = some o) (hsz : n ≤ sizeLine) (hcell : ∀ y ∈ scope.names, y.2 ≠ .cell) (hkind : scope.kind = .function) (hst : St 0 s₂.heap) (hfp : ∀ b ∈ fp, b < s₂.heap.objs.size)
    (F : Fr h₀ L s₂.heap m) (N : News h₀ L s₂.heap news) (hLf : L ∉ fp) (hwr : ∀ b ∈ wr, h₀.get? b = none) (off : ∀ p ∈ news, p.1 ∉ wr) (hJ : J 0 [] news)
    (hset : Sets prog w A target scope cl env n P S)
    (turn : ∀ i ys m₅ C oC D own news₁ h tk (E' : Value → Shared → Prop), i < n → ys.length ≤ i → S i m₅ → LCg.NsObj oC m₅ → J i ys news₁ → (∀ p ∈ news₁, p.1 ∉ wr ∧ p.1 ≠ C ∧ p.1 ≠ D) → (∀ b ∈ wr, ∃ o, (b, o) ∈ own) → Fr h₀ L h m → News h₀ L h ((C, oC) :: (D, lst ys ys.length) :: (news₁ ++ own)) →
      wpAny (model prog w) A (forIn ifs true fun c r => if r = true then do let ok ← isTrue c (compEnvC scope cl C env) (PySem.eval c (compEnvC scope cl C env)); pure (ForInStep.yield ok) else pure (ForInStep.yield r)) (fun ok s₄ =>
        if ok = true then wpAny (model prog w) A (PySem.eval elt (compEnvC scope cl C env)) (fun y => CEnd h₀ L m wr own C oC D (lst ys ys.length) (J (i + 1) (ys ++ [y])) { s₂ with heap := h, toks := tk }) E' s₄
        else CEnd h₀ L m wr own C oC D (lst ys ys.length) (J (i + 1) ys) { s₂ with heap := h, toks := tk } s₄) E' { s₂ with heap := h, toks := tk })
    (hRR : ∀ D C h tk m' ys news', ys.length ≤ n → Fr h₀ L h m → News h₀ L h ((D, lst ys ys.length) :: news') → (∀ p ∈ news', p.1 ≠ C ∧ p.1 ≠ D) → h.Ns C m' → h₀.get? C = none → C ≠ L → C ≠ D → J n ys news' → RR (.ref D) C (.ok .next) { s₂ with heap := h, toks := tk }) :
    wpAny (model prog w) A (newList []) (fun acc s₃ => wpAny (model prog w) A (newFunctionEnv scope env.globals cl [] env.qual none .none (some env)) (fun cenv s₄ =>
      codeAny (model prog w) A (.compStart (.ListComp elt [⟨target, iter, ifs, 0⟩] scope pos) 0 (.ref I) acc { cenv with scope := relabel scope env }) (RR acc cenv.locals) s₄) E s₃) E s₂ := by
  refine wpAny_newObj_type (wpAny_newFunctionEnv hcell (by intro y hy; simp at hy) (fun h₁ hns₁ hsb₁ => ?_) hkind)
  dsimp only at hns₁ hsb₁ ⊢
  generalize hH2 : s₂.heap.push { cls := .type "list", dict := none, data := .seq ([] : List Value).toArray } = H2 at hns₁ hsb₁ ⊢
  have hC : H2.objs.size = s₂.heap.objs.size + 1 := by rw [← hH2, Heap.size_push]
  generalize hDe : s₂.heap.objs.size = D at *
  generalize hCe : H2.objs.size = C at *
  have hCD : @Ne Nat C D := by walk_at "lia"
  have below : ∀ b, @LT.lt Nat _ b D → @Ne Nat b C ∧ @Ne Nat b D := fun b hb => ⟨by walk_at "lia", by walk_at "lia"⟩
  have hlt : ∀ {b o}, s₂.heap.get? b = some o → @LT.lt Nat _ b D := fun e => hDe ▸ Heap.lt_size e
  have hDf : D ∉ fp := fun hm => Nat.lt_irrefl _ (hfp _ hm)
  have hCf : C ∉ fp := fun hm => by have := hfp _ hm; have : @LT.lt Nat _ C D := this; walk_at "lia"
  have old : ∀ b o, s₂.heap.get? b = some o → h₁.get? b = some o := fun b o e => hsb₁.extBut b o (below b (hlt e)).1 (Heap.get?_push_of_some _ (hH2 ▸ Heap.get?_push_of_some _ e))
  have hacc : h₁.get? D = some (lst [] 0) := hsb₁.extBut _ _ hCD.symm (Heap.get?_push_of_some _ (hH2 ▸ hDe ▸ Heap.get?_push_size _ rfl))
  have hst₁ : St 0 h₁ := W.frame _ _ _ hst fun b _ o e => old b o e
  have fresh₀ : ∀ a, @LE.le Nat _ D a → h₀.get? a = none := fun a ha => by
    cases e : h₀.get? a with
    | none => rfl
    | some o' => have := hlt (F.keep a o' e); have : @LT.lt Nat _ a D := this; walk_at "lia"
  have hD₀ : h₀.get? D = none := fresh₀ _ (Nat.le_refl _)
  have hC₀ : h₀.get? C = none := fresh₀ _ (by walk_at "lia")
  have hLlt : @LT.lt Nat _ L D := hDe ▸ F.ns.lt
  have hDL : D ≠ L := (below L hLlt).2.symm
  have hCL : C ≠ L := (below L hLlt).1.symm
  have hCw : C ∉ wr := fun h => hCf (W.sub _ h)
  have hDw : D ∉ wr := fun h => hDf (W.sub _ h)
  have hLw : L ∉ wr := fun h => hLf (W.sub _ h)
  have oldw : ∀ b o, h₀.get? b = some o → b ∉ wr := fun b o e hb => by rw [hwr b hb] at e; cases e
  have off₀ : ∀ p ∈ news, p.1 ∉ wr ∧ p.1 ≠ C ∧ p.1 ≠ D := fun p hp => ⟨off p hp, (below _ (hlt (N p hp).1)).1, (below _ (hlt (N p hp).1)).2⟩
  have loop : ∀ s₃ : Shared, s₃ = { s₂ with heap := h₁, toks := s₂.toks + ([] : List (Str × Value)).length } →
      codeAny (model prog w) A (.compLoop (.ListComp elt [⟨target, iter, ifs, 0⟩] scope pos) 0 (.ref I) (.ref D) (compEnvC scope cl C env)) (RR (.ref D) C) s₃ := by
    rintro s₃ rfl
    refine comp_loop
      (fun k s' => ∃ h' tk i ys m' news', s' = { s₂ with heap := h', toks := tk } ∧ i ≤ n ∧ k = n + 1 - i ∧ ys.length ≤ i ∧ St i h' ∧ Fr h₀ L h' m ∧ h'.Ns C m' ∧ News h₀ L h' ((D, lst ys ys.length) :: news') ∧
        (∀ p ∈ news', p.1 ∉ wr ∧ p.1 ≠ C ∧ p.1 ≠ D) ∧ J i ys news') ?_ (n + 1)
      ⟨h₁, _, 0, [], _, news, rfl, Nat.zero_le _, rfl, Nat.le_refl _, hst₁, F.keeps old, hns₁, fun p hp => ?_, off₀, hJ⟩
    · refine fun k s' hh0 => ex6 hh0 fun h' tk i ys m' news' hh1 => and10 hh1 fun es hi ek hyl hst' F' hn' N' off' hJ' => ?_
      clear hh0 hh1
      subst es ek
      have next : ∀ h₂ : Heap, (∀ b o, b ∉ wr → h'.get? b = some o → h₂.get? b = some o) → Fr h₀ L h₂ m ∧ h₂.Ns C m' ∧ News h₀ L h₂ ((D, lst ys ys.length) :: news') := fun h₂ hk =>
        ⟨⟨F'.ns.at' fun o e => hk _ o hLw e, fun b o e => hk b o (oldw b o e) (F'.keep b o e), F'.above⟩, hn'.at' fun o e => hk _ o hCw e, fun p hp => by
          refine ⟨hk _ _ ?_ (N' p hp).1, (N' p hp).2⟩
          rcases List.mem_cons.mp hp with rfl | hp
          · exact hDw
          · exact (off' p hp).1⟩
      by_cases hlt : i < n
      · refine W.item i _ _ _ hlt hst' fun v h₂ tk₂ hMd hk₂ => ?_
        refine W.go i v _ _ _ hMd fun h₃ hP hst₃ hk₃ => ?_
        obtain ⟨F₃, hn₃, N₃⟩ := next h₃ fun b o hb x => hk₃ b o hb (hk₂ b o hb x)
        refine hset i v C m' _ _ _ hlt hP hn₃ fun h₄ tk₄ m₅ hk₄ hn₄ hS => ?_
        dsimp only at hk₄
        have hst₄ : St (i + 1) h₄ := W.frame _ _ _ hst₃ fun b hb o e => hk₄ b o (fun q => hCf (q ▸ hb)) e
        obtain ⟨oC, heC, hoC⟩ := NsObj.has hn₄
        have F₄ : Fr h₀ L h₄ m := ⟨F₃.ns.at' fun o e => hk₄ _ o hCL.symm e, fun b o e => hk₄ b o (fun q => by rw [q, hC₀] at e; cases e) (F₃.keep b o e), F₃.above⟩
        have Nown : News h₀ L h₄ (PyProof.Rows.ownOf h₀ fp h₄) := news_ownOf hLf
        have N₄ : News h₀ L h₄ ((C, oC) :: (D, lst ys ys.length) :: (news' ++ PyProof.Rows.ownOf h₀ fp h₄)) := fun p hp => by
          rcases List.mem_cons.mp hp with rfl | hp
          · exact ⟨heC, hCL, hC₀⟩
          · have hp' : p ∈ (D, lst ys ys.length) :: news' ∨ p ∈ PyProof.Rows.ownOf h₀ fp h₄ := by
              rcases List.mem_cons.mp hp with rfl | hp
              · exact .inl (.head _)
              · exact (List.mem_append.mp hp).imp (List.mem_cons_of_mem _) id
            rcases hp' with hp | hp
            · have z := N₃ p hp
              refine ⟨hk₄ _ _ ?_ z.1, z.2⟩
              rcases List.mem_cons.mp hp with rfl | hp
              · exact hCD.symm
              · exact (off' p hp).2.1
            · exact Nown p hp
        have back : ∀ ys' h₅ tk₅ news₅, ys'.length ≤ i + 1 → Fr h₀ L h₅ m → News h₀ L h₅ ((C, oC) :: (D, lst ys' ys'.length) :: (news₅ ++ PyProof.Rows.ownOf h₀ fp h₄)) → (∀ p ∈ news₅, p.1 ∉ wr ∧ p.1 ≠ C ∧ p.1 ≠ D) → J (i + 1) ys' news₅ →
            ∃ k', k' < n + 1 - i ∧ ∃ h' tk i ys m' news', { s₂ with heap := h₅, toks := tk₅ } = { s₂ with heap := h', toks := tk } ∧ i ≤ n ∧ k' = n + 1 - i ∧ ys.length ≤ i ∧ St i h' ∧ Fr h₀ L h' m ∧ h'.Ns C m' ∧ News h₀ L h' ((D, lst ys ys.length) :: news') ∧ (∀ p ∈ news', p.1 ∉ wr ∧ p.1 ≠ C ∧ p.1 ≠ D) ∧ J i ys news' := by
          intro ys' h₅ tk₅ news₅ hy F₅ N₅ off₅ hJ₅
          refine ⟨n + 1 - (i + 1), by walk_at "lia", h₅, tk₅, i + 1, ys', m₅, news₅, rfl, hlt, rfl, hy, W.frame _ _ _ hst₄ fun b hb o e => ?_, F₅, hoC.ns (N₅ (C, oC) (.head _)).1, fun p hp => ?_, off₅, hJ₅⟩
          · cases hn : h₀.get? b with
            | some o₀ =>
              have : o₀ = o := by have q := F₄.keep b o₀ hn; rw [e] at q; exact (Option.some.inj q).symm
              exact this ▸ F₅.keep b o₀ hn
            | none => exact (N₅ _ (.tail _ (.tail _ (List.mem_append_right _ (mem_ownOf hb hn e))))).1
          · refine N₅ p (.tail _ ?_)
            rcases List.mem_cons.mp hp with rfl | hp
            · exact .head _
            · exact .tail _ (List.mem_append_left _ hp)
        refine wpAny_mono (turn i ys m₅ C oC D (PyProof.Rows.ownOf h₀ fp h₄) news' h₄ tk₄ _ hlt hyl hS hoC hJ' off' (fun b hb => (hIo _ _ hst₄ b hb).imp fun o ho => mem_ownOf (W.sub _ hb) (hwr b hb) ho) F₄ N₄) (fun ok s₄ h₄' => ?_) fun _ _ e => e
        cases ok with
        | false =>
          simp only [Bool.false_eq_true, if_false] at h₄' ⊢
          obtain ⟨h₅, tk₅, news₅, rfl, F₅, N₅, off₅, hJ₅⟩ := h₄'
          exact back ys h₅ tk₅ news₅ (Nat.le_succ_of_le hyl) F₅ N₅ off₅ hJ₅
        | true =>
          simp only [if_true] at h₄' ⊢
          refine wpAny_mono h₄' (fun y s₅ h₅' => ?_) fun _ _ e => e
          obtain ⟨h₅, tk₅, news₅, rfl, F₅, N₅, off₅, hJ₅⟩ := h₅'
          have zD := N₅ (D, lst ys ys.length) (.tail _ (.head _))
          refine append_at (hsz := by rw [List.size_toArray]; walk_at "lia") zD.1 fun h₆ hs₆ hD₆ => ?_
          rw [List.push_toArray] at hD₆
          refine back (ys ++ [y]) h₆ tk₅ news₅ (by rw [List.length_append, List.length_singleton]; walk_at "lia") (F₅.change hs₆ hDL hD₀) (fun p hp => ?_) off₅ hJ₅
          rcases List.mem_cons.mp hp with rfl | hp
          · exact ⟨hs₆.extBut _ _ hCD (N₅ (C, oC) (.head _)).1, hCL, hC₀⟩
          · rcases List.mem_cons.mp hp with rfl | hp
            · refine ⟨?_, hDL, hD₀⟩
              rw [List.length_append, List.length_singleton]; exact hD₆
            · have z := N₅ p (.tail _ (.tail _ hp))
              refine ⟨hs₆.extBut _ _ (fun q => ?_) z.1, z.2⟩
              rcases List.mem_append.mp hp with hp | hp
              · exact (off₅ p hp).2.2 q
              · exact hDf (q ▸ ownOf_sub p hp)
      · have hin : i = n := by walk_at "lia"
        subst hin
        refine W.done _ _ _ hst' fun h₂ tk₂ hk₂ => ?_
        obtain ⟨F₂, hn₂, N₂⟩ := next h₂ hk₂
        exact hRR D C h₂ tk₂ m' ys news' hyl F₂ N₂ (fun p hp => (off' p hp).2) hn₂ hC₀ hCL hCD hJ'
    · rcases List.mem_cons.mp hp with rfl | hp
      · exact ⟨hacc, hDL, hD₀⟩
      · exact ⟨old _ _ (N p hp).1, (N p hp).2⟩
  exact codeAny_compStart_list (loop _ rfl) (hself _ _ _ hst₁ (loop _ rfl))
end
end
section
section
variable {prog : Program} {w : World} {A : Around} {E : Value → Shared → Prop} {s : Shared} {h₀ : Heap} {L : Addr} {m : Str → Option Value} {env : Env}

/-- the turns of a comprehension -/
noncomputable def CTurn (prog : Program) (w : World) (A : Around) (h₀ : Heap) (L : Addr) (m : Str → Option Value) (env : Env) (elt : PySem.Expr) (ifs : List PySem.Expr) (scope : Scope) (cl : List (Str × Addr)) (S : Nat → (Str → Option Value) → Prop) (J : Nat → List Value → List (Addr × Obj) → Prop) (n : Nat) (s : Shared) : Prop :=
  ∀ wr i ys m₅ C oC D own news₁ h tk (E' : Value → Shared → Prop), i < n → ys.length ≤ i → S i m₅ → LCg.NsObj oC m₅ → J i ys news₁ → (∀ p ∈ news₁, p.1 ∉ wr ∧ p.1 ≠ C ∧ p.1 ≠ D) → (∀ b ∈ wr, ∃ o, (b, o) ∈ own) → Fr h₀ L h m → News h₀ L h ((C, oC) :: (D, lst ys ys.length) :: (news₁ ++ own)) →
      wpAny (model prog w) A (forIn ifs true fun c r => if r = true then do let ok ← isTrue c (compEnvC scope cl C env) (PySem.eval c (compEnvC scope cl C env)); pure (ForInStep.yield ok) else pure (ForInStep.yield r)) (fun ok s₄ =>
        if ok = true then wpAny (model prog w) A (PySem.eval elt (compEnvC scope cl C env)) (fun y => CEnd h₀ L m wr own C oC D (lst ys ys.length) (J (i + 1) (ys ++ [y])) { s with heap := h, toks := tk }) E' s₄
        else CEnd h₀ L m wr own C oC D (lst ys ys.length) (J (i + 1) ys) { s with heap := h, toks := tk } s₄) E' { s with heap := h, toks := tk }
/-- the end of a comprehension -/
noncomputable def CFin (prog : Program) (w : World) (A : Around) (E : Value → Shared → Prop) (h₀ : Heap) (L : Addr) (m : Str → Option Value) (use : Option (Value → Sem Unit)) (Q : Value → Shared → Prop) (J : Nat → List Value → List (Addr × Obj) → Prop) (n : Nat) (s : Shared) : Prop :=
  ∀ D C h tk m' ys news', ys.length ≤ n → Fr h₀ L h m → News h₀ L h ((D, lst ys ys.length) :: news') → (∀ p ∈ news', p.1 ≠ C ∧ p.1 ≠ D) → h.Ns C m' → h₀.get? C = none → C ≠ L → C ≠ D → J n ys news' → compPost (model prog w) A E use Q (.ref D) C (.ok .next) { s with heap := h, toks := tk }
theorem finE {Q : Value → Shared → Prop} {J : Nat → List Value → List (Addr × Obj) → Prop} {n : Nat}
    (fin : ∀ D h tk ys news', ys.length ≤ n → Fr h₀ L h m → News h₀ L h ((D, lst ys ys.length) :: news') → (∀ p ∈ news', p.1 ≠ D) → J n ys news' → Q (.ref D) { s with heap := h, toks := tk }) :
    CFin prog w A E h₀ L m none Q J n s := by
  intro D C h tk m' ys news' hy F' N' off hn hC₀ hCL hCD hJ
  refine ⟨m', hn, fun h'' hs'' => fin D h'' tk ys news' hy (F'.change hs'' hCL hC₀) (fun p hp => ?_) (fun p hp => (off p hp).2) hJ⟩
  refine ⟨hs''.extBut _ _ ?_ (N' p hp).1, (N' p hp).2⟩
  rcases List.mem_cons.mp hp with rfl | hp
  · exact hCD.symm
  · exact (off p hp).1
theorem finA {y : Str} {py : Pos} {Q : Flow → Shared → Prop} {J : Nat → List Value → List (Addr × Obj) → Prop} {n : Nat} (hL : env.locals = L)
    (hy : env.kindOf y = some .local) (hp : (env.scope.kind == .class || (env.scope.kind == .module && env.locals != env.globals)) = false)
    (fin : ∀ D h tk ys news', ys.length ≤ n → Fr h₀ L h (fun z => if z = y then some (.ref D) else m z) → News h₀ L h ((D, lst ys ys.length) :: news') → (∀ p ∈ news', p.1 ≠ D) → J n ys news' → Q .next { s with heap := h, toks := tk }) :
    CFin prog w A E h₀ L m (some (assign (.Name y py) env)) (fun _ s' => Q .next s') J n s := by
  subst hL
  intro D C h tk m' ys news' hyl F' N' off hn hC₀ hCL hCD hJ
  show wpAny _ A (assign (.Name y py) env (.ref D)) _ _ _
  refine wpAny_assign_Name (wpAny_storeName_local hy F'.ns (fun h₂ hn₂ hs₂ => ?_) hp)
  have hL₀ : h₀.get? env.locals = none := Heap.get?_none_of_le F'.above
  have F₂ : Fr h₀ env.locals h₂ (fun z => if z = y then some (.ref D) else m z) := ⟨hn₂, fun b o e => hs₂.extBut b o (fun q => by rw [q, hL₀] at e; cases e) (F'.keep b o e), F'.above⟩
  refine ⟨m', hn.sameBut hs₂ hCL, fun h'' hs'' => fin D h'' _ ys news' hyl (F₂.change hs'' hCL hC₀) (fun p hp => ?_) (fun p hp => (off p hp).2) hJ⟩
  have z : h₂.get? p.1 = some p.2 := hs₂.extBut _ _ (N' p hp).2.1 (N' p hp).1
  refine ⟨hs''.extBut _ _ ?_ z, (N' p hp).2⟩
  rcases List.mem_cons.mp hp with rfl | hp
  · exact hCD.symm
  · exact (off p hp).1

/-- a comprehension at its iterator -/
noncomputable def CompAt (prog : Program) (w : World) (A : Around) (E : Value → Shared → Prop) (env : Env) (elt target iter : PySem.Expr) (ifs : List PySem.Expr) (scope : Scope) (cl : List (Str × Addr)) (pos : Pos) (use : Option (Value → Sem Unit)) (Q : Value → Shared → Prop) (it : Value) (s₂ : Shared) : Prop :=
  wpAny (model prog w) A (newList []) (fun acc s₃ => wpAny (model prog w) A (newFunctionEnv scope env.globals cl [] env.qual none .none (some env)) (fun cenv s₄ =>
      codeAny (model prog w) A (.compStart (.ListComp elt [⟨target, iter, ifs, 0⟩] scope pos) 0 it acc { cenv with scope := relabel scope env }) (compPost (model prog w) A E use Q acc cenv.locals) s₄) E s₃) E s₂

theorem ListComp_at {elt target iter : PySem.Expr} {ifs : List PySem.Expr} {scope : Scope} {cl : List (Str × Addr)} {pos : Pos} {Q : Value → Shared → Prop} 
    (hclos : closureFor scope env = pure cl) (hkind : scope.kind = .function) (hnames : ∀ y ∈ scope.names, y.2 = .local → scope.names.lookup y.1 = some .local)
    (h : wpAny (model prog w) A (PySem.eval iter env) (fun xv s₁ => wpAny (model prog w) A (pyIter xv) (CompAt prog w A E env elt target iter ifs scope cl pos none Q) E s₁) E s)
    (hs : ∀ x, foldedSetIterable iter env x = pure x := by intro _; rfl) :
    wpAny (model prog w) A (PySem.eval (.ListComp elt [⟨target, iter, ifs, 0⟩] scope pos) env) Q E s := by
  rw [eval_ListComp]
  exact wpAny_comprehension_free (use := none) rfl hs hclos hkind hnames h
theorem Assign_at {elt target iter : PySem.Expr} {ifs : List PySem.Expr} {scope : Scope} {cl : List (Str × Addr)} {y : Str} {py pos spos : Pos} {Q : Flow → Shared → Prop} 
    (hsw : swapsWith (.ListComp elt [⟨target, iter, ifs, 0⟩] scope pos) (some (.Name y py)) spos.line env = pure true)
    (hclos : closureFor scope env = pure cl) (hkind : scope.kind = .function) (hnames : ∀ y ∈ scope.names, y.2 = .local → scope.names.lookup y.1 = some .local)
    (h : wpAny (model prog w) A (PySem.eval iter env) (fun xv s₁ => wpAny (model prog w) A (pyIter xv) (CompAt prog w A E env elt target iter ifs scope cl pos (some (assign (.Name y py) env)) (fun _ s' => Q .next s')) E s₁) E s)
    (hs : ∀ x, foldedSetIterable iter env x = pure x := by intro _; rfl) :
    wpAny (model prog w) A (exec (.Assign [.Name y py] (.ListComp elt [⟨target, iter, ifs, 0⟩] scope pos) spos) env) Q E s := by
  rw [exec_Assign_Name_used _ _ _ _ hsw]
  refine wpAny_bind (wpAny_standAt (wpAny_bind ?_))
  show wpAny _ A (do let _ ← comprehension (.ListComp elt [⟨target, iter, ifs, 0⟩] scope pos) scope env _ (newList []) false (PySem.eval iter env) (some (assign (.Name y py) env))) _ _ s
  exact wpAny_bind (wpAny_mono (wpAny_comprehension_free (use := some (assign (.Name y py) env)) (Q := fun _ s' => Q .next s') rfl hs hclos hkind hnames h) (fun _ s' hq => wpAny_pure (wpAny_pure hq)) fun _ _ e => e)

theorem sets_name {scope : Scope} {cl : List (Str × Addr)} {n : Nat} {P : Nat → Value → Heap → Prop} {T : Nat → Value → Prop} {x : Str} {px : Pos} (hkind : scope.kind = .function) (hx : scope.names.lookup x = some .local) (hP : ∀ i v h, i < n → P i v h → T i v) :
    Sets prog w A (.Name x px) scope cl env n P (fun i m => ∃ v, T i v ∧ m x = some v) := by
  intro i v C m₃ s₃ Q E hi hp hn k
  refine wpAny_assign_Name (wpAny_storeName_local (lookup_relabel_local hx) hn (fun h₃ hn₃ hs₃ => ?_) (by simp [compEnvC, relabel, hkind]))
  exact k h₃ _ _ (fun b o hb e => hs₃.extBut b o hb e) hn₃ ⟨v, hP i v _ hi hp, by simp⟩
theorem sets_pair {scope : Scope} {cl : List (Str × Addr)} {n : Nat} {Pt : Nat → Array Value → Prop} {T : Nat → Value → Value → Prop} {x x₂ : Str} {px px₂ tp : Pos} {tk : Nat} (hh : A.handled = none) (hkind : scope.kind = .function) (hx : scope.names.lookup x = some .local) (hx₂ : scope.names.lookup x₂ = some .local) (hxx : x ≠ x₂)
    (hP : ∀ i vals, i < n → Pt i vals → ∃ a b, vals = #[a, b] ∧ T i a b) :
    Sets prog w A (.Tuple [.Name x px, .Name x₂ px₂] tk tp) scope cl env n (fun i v h => ∃ T vals, v = .ref T ∧ Pt i vals ∧ h.IsTuple T vals) (fun i m => ∃ a b, T i a b ∧ m x = some a ∧ m x₂ = some b) := by
  rintro i v C m₃ s₃ Q E hi ⟨Ta, vals, rfl, hp, ht⟩ hn k
  obtain ⟨a, b, rfl, hT⟩ := hP i vals hi hp
  refine assign_Tuple_tuple hh ht rfl rfl fun h₅ he => ?_
  have he' : ∀ b o, s₃.heap.get? b = some o → h₅.get? b = some o := fun b o e => he b o (Nat.ne_of_lt (Heap.lt_size e)) e
  refine assignInOrder_cons (wpAny_assign_Name (wpAny_storeName_local (lookup_relabel_local hx) (hn.at' fun o e => he' _ o e) (fun h₆ hn₆ hs₆ => ?_) (by simp [compEnvC, relabel, hkind])))
  refine assignInOrder_cons (wpAny_assign_Name (wpAny_storeName_local (lookup_relabel_local hx₂) hn₆ (fun h₃ hn₃ hs₃ => ?_) (by simp [compEnvC, relabel, hkind])))
  refine assignInOrder_nil ?_
  exact k h₃ _ _ (fun b o hb e => hs₃.extBut b o hb (hs₆.extBut b o hb (he' b o e))) hn₃ ⟨a, b, hT, by simp [hxx], by simp⟩

theorem comp_list {elt iter : PySem.Expr} {ifs : List PySem.Expr} {scope : Scope} {cl : List (Str × Addr)} {pos px : Pos} {x : Str} {use : Option (Value → Sem Unit)} {Q : Value → Shared → Prop} {ax : Addr} {vs : List Value} {news : List (Addr × Obj)} (J : Nat → List Value → List (Addr × Obj) → Prop)
    (hh : A.handled = none) (hl : s.heap.IsList ax vs.toArray) (haL : ax ≠ L) (hsz : vs.length ≤ 100000) (F : Fr h₀ L s.heap m) (N : News h₀ L s.heap news) (hJ : J 0 [] news)
    (turn : CTurn prog w A h₀ L m env elt ifs scope cl (fun i m₅ => ∃ v, vs[i]? = some v ∧ m₅ x = some v) J vs.length s)
    (fin : CFin prog w A E h₀ L m use Q J vs.length s)
    (hcell : ∀ y ∈ scope.names, y.2 ≠ .cell := by decide) (hkind : scope.kind = .function := by rfl) (hx : scope.names.lookup x = some .local := by rfl) :
    wpAny (model prog w) A (pyIter (.ref ax)) (CompAt prog w A E env elt (.Name x px) iter ifs scope cl pos use Q) E s := by
  obtain ⟨ol, hol, _⟩ := id hl
  have hlt : ax < s.heap.objs.size := Heap.lt_size hol
  refine wpAny_pyIter_list hl ?_
  have up : ∀ b o, s.heap.get? b = some o → (s.heap.push { cls := .type "list_iterator", data := .fields #[.ref ax, .int 0 0] }).get? b = some o := fun b o e => Heap.get?_push_of_some _ e
  have W := Walks.list (prog := prog) (w := w) hh s.heap.objs.size ax (Nat.ne_of_lt hlt) vs.toArray
  rw [show vs.toArray.size = vs.length by simp] at W
  refine comp_block (s₂ := { s with heap := s.heap.push _ }) (KTurns.ofWalks W (fun i v s Q E _ q => wpAny_pure q)) (fun i m₅ => ∃ v, vs[i]? = some v ∧ m₅ x = some v) J (fun s Q E st q => wpAny_pyIter_listiter st.1 q) (fun i h st b hb => by rw [List.mem_singleton.mp hb]; obtain ⟨o, e, _⟩ := st.1; exact ⟨o, e⟩) (by rw [sizeLine_eq]; omega) hcell hkind
    ⟨⟨_, Heap.get?_push_size _ rfl, rfl, rfl⟩, hl.at fun o e => up _ o e⟩ (fun b hb => ?_) (F.keeps up) (N.grown up) ?_ (fun b hb => ?_) (fun p hp hI => ?_) hJ (sets_name hkind hx fun i v h _ hp => by simpa using hp) (turn [s.heap.objs.size]) fin
  · show b < (s.heap.push _).objs.size
    rw [Heap.size_push]
    rcases List.mem_cons.mp hb with rfl | hb
    · exact Nat.lt_succ_self _
    · rw [List.mem_singleton.mp hb]; exact Nat.lt_succ_of_lt hlt
  · intro hm
    rcases List.mem_cons.mp hm with e | hm
    · exact absurd F.ns.lt (e ▸ Nat.lt_irrefl _)
    · exact haL (List.mem_singleton.mp hm).symm
  · rw [List.mem_singleton.mp hb]; exact next_is_new F
  · exact absurd (Heap.lt_size (N p hp).1) ((List.mem_singleton.mp hI) ▸ Nat.lt_irrefl _)

theorem comp_range {elt iter : PySem.Expr} {ifs : List PySem.Expr} {scope : Scope} {cl : List (Str × Addr)} {pos px : Pos} {x : Str} {use : Option (Value → Sem Unit)} {Q : Value → Shared → Prop} {r : Addr} {n : Nat} {t u v : Tok} {news : List (Addr × Obj)} (J : Nat → List Value → List (Addr × Obj) → Prop)
    (hh : A.handled = none) (hr : IsRange s.heap r 0 n 1 t u v) (hsm : Builtin.Range.small 0 n 1 = true) (hn : Builtin.Range.rangeSize 0 n 1 = (n : Int)) (hsz : n ≤ 100000) (F : Fr h₀ L s.heap m) (N : News h₀ L s.heap news) (hJ : J 0 [] news)
    (turn : CTurn prog w A h₀ L m env elt ifs scope cl (fun i m₅ => ∃ v, (∃ t, v = .int (i : Int) t) ∧ m₅ x = some v) J n s)
    (fin : CFin prog w A E h₀ L m use Q J n s)
    (hcell : ∀ y ∈ scope.names, y.2 ≠ .cell := by decide) (hkind : scope.kind = .function := by rfl) (hx : scope.names.lookup x = some .local := by rfl) :
    wpAny (model prog w) A (pyIter (.ref r)) (CompAt prog w A E env elt (.Name x px) iter ifs scope cl pos use Q) E s := by
  refine wpAny_pyIter_range hr hsm ?_
  have up : ∀ o b o', s.heap.get? b = some o' → (s.heap.push o).get? b = some o' := fun o b o' e => Heap.get?_push_of_some _ e
  have W := Walks.range (prog := prog) (w := w) hh s.heap.objs.size 0 1 n
  refine comp_block (s₂ := { s with heap := s.heap.push _ }) (KTurns.ofWalks W (fun i v s Q E _ q => wpAny_pure q)) (fun i m₅ => ∃ v, (∃ t, v = .int (i : Int) t) ∧ m₅ x = some v) J (fun s Q E st q => wpAny_pyIter_rangeiter st q) (fun i h st b hb => by rw [List.mem_singleton.mp hb]; exact ⟨_, st⟩) (by rw [sizeLine_eq]; omega) hcell hkind
    (by show IsRangeIter _ _ _ _ _; rw [hn]; simpa using Heap.get?_push_size _ rfl) (fun b hb => ?_) (F.keeps (up _)) (N.grown (up _)) ?_ (fun b hb => ?_) (fun p hp hI => ?_) hJ (sets_name hkind hx fun i v h _ hp => by simpa using hp) (turn [s.heap.objs.size]) fin
  · show b < (s.heap.push _).objs.size
    rw [Heap.size_push, List.mem_singleton.mp hb]
    exact Nat.lt_succ_self _
  · intro hm
    exact absurd F.ns.lt ((List.mem_singleton.mp hm) ▸ Nat.lt_irrefl _)
  · rw [List.mem_singleton.mp hb]; exact next_is_new F
  · exact absurd (Heap.lt_size (N p hp).1) ((List.mem_singleton.mp hI) ▸ Nat.lt_irrefl _)

theorem comp_enum {elt iter : PySem.Expr} {ifs : List PySem.Expr} {scope : Scope} {cl : List (Str × Addr)} {pos px px₂ tp : Pos} {tk : Nat} {x x₂ : Str} {use : Option (Value → Sem Unit)} {Q : Value → Shared → Prop} {ax : Addr} {vs : List Value} {news : List (Addr × Obj)} (J : Nat → List Value → List (Addr × Obj) → Prop)
    (hh : A.handled = none) (hl : s.heap.IsList ax vs.toArray) (haL : ax ≠ L) (hsz : vs.length ≤ 100000) (F : Fr h₀ L s.heap m) (N : News h₀ L s.heap news) (hJ : J 0 [] news)
    (turn : CTurn prog w A h₀ L m env elt ifs scope cl (fun i m₅ => ∃ a b, ((∃ t, a = .int (i : Int) t) ∧ vs[i]? = some b) ∧ m₅ x = some a ∧ m₅ x₂ = some b) J vs.length s)
    (fin : CFin prog w A E h₀ L m use Q J vs.length s)
    (hcell : ∀ y ∈ scope.names, y.2 ≠ .cell := by decide) (hkind : scope.kind = .function := by rfl) (hx : scope.names.lookup x = some .local := by rfl) (hx₂ : scope.names.lookup x₂ = some .local := by rfl) (hxx : x ≠ x₂ := by decide) :
    wpAny (model prog w) A (call (.type "enumerate") [.ref ax]) (fun xv s₁ => wpAny (model prog w) A (pyIter xv) (CompAt prog w A E env elt (.Tuple [.Name x px, .Name x₂ px₂] tk tp) iter ifs scope cl pos use Q) E s₁) E s := by
  obtain ⟨ol, hol, _⟩ := id hl
  have hlt : ax < s.heap.objs.size := Heap.lt_size hol
  have hLs : L < s.heap.objs.size := F.ns.lt
  refine call_enumerate_list hl fun h' hE hI hs' hk => ?_
  refine wpAny_pyIter_enum hE ?_
  have W := (WalksT.enumerate (prog := prog) (w := w) hh (s.heap.objs.size + 1) s.heap.objs.size ax (Nat.succ_ne_self _) (ktu_ne 1 hlt) (Nat.ne_of_lt hlt) vs.toArray).toU
  rw [show vs.toArray.size = vs.length by simp] at W
  refine comp_block (s₂ := { s with heap := h' }) (KTurns.ofWalksU W) (fun i m₅ => ∃ a b, ((∃ t, a = .int (i : Int) t) ∧ vs[i]? = some b) ∧ m₅ x = some a ∧ m₅ x₂ = some b) J (fun s Q E st q => wpAny_pyIter_enum st.1.choose_spec q) (fun i h st b hb => by
      obtain ⟨⟨old, he⟩, ⟨o, e, _⟩, _⟩ := st
      have hb' : b = s.heap.objs.size + 1 ∨ b = s.heap.objs.size := by simpa using hb
      rcases hb' with rfl | rfl
      · exact ⟨_, he⟩
      · exact ⟨_, e⟩) (by rw [sizeLine_eq]; omega) hcell hkind
    ⟨⟨.none, hE⟩, hI, hl.at fun o e => hk ax o e⟩ (fun b hb => ?_) (F.keeps hk) (N.grown hk) (fun hI' => ?_) (fun b hb => ?_) (fun p hp hI' => ?_) hJ
    (sets_pair (T := fun i a b => (∃ t, a = .int (i : Int) t) ∧ vs[i]? = some b) hh hkind hx hx₂ hxx (by
      rintro i vals _ ⟨t, y, hy, rfl⟩
      exact ⟨_, _, rfl, ⟨t, rfl⟩, by simpa using hy⟩)) (turn [s.heap.objs.size + 1, s.heap.objs.size]) fin
  · have hb' : b = s.heap.objs.size + 1 ∨ b = s.heap.objs.size ∨ b = ax := by simpa using hb
    show b < h'.objs.size
    rw [hs']
    have hlt' : @LT.lt Nat _ ax s.heap.objs.size := hlt
    rcases hb' with rfl | rfl | rfl
    · exact Nat.lt_succ_self _
    · exact Nat.lt_succ_of_lt (Nat.lt_succ_self _)
    · exact Nat.lt_succ_of_lt (Nat.lt_succ_of_lt hlt')
  · have hb' : L = s.heap.objs.size + 1 ∨ L = s.heap.objs.size ∨ L = ax := by simpa using hI'
    rcases hb' with e | e | e
    · exact ktu_ne 1 hLs e
    · exact Nat.ne_of_lt hLs e
    · exact haL e.symm
  · have hb' : b = s.heap.objs.size + 1 ∨ b = s.heap.objs.size := by simpa using hb
    rcases hb' with rfl | rfl
    · exact ktu_new F (Nat.le_add_right _ _)
    · exact ktu_new F (Nat.le_refl _)
  · have hb' : p.1 = s.heap.objs.size + 1 ∨ p.1 = s.heap.objs.size := by simpa using hI'
    have hlp := Heap.lt_size (N p hp).1
    rcases hb' with e | e
    · exact ktu_ne 1 hlp e
    · exact Nat.ne_of_lt hlp e
end
end
section
noncomputable def wd (k : Nat) : Str := wordL.getD k Str.empty
theorem wd_inj : ∀ i j : Fin 5, wd i.1 = wd j.1 → i = j := by decide +kernel
theorem wd_eq {i j : Nat} (hi : i < 5) (hj : j < 5) : wd i = wd j ↔ i = j := ⟨fun h => congrArg Fin.val (wd_inj ⟨i, hi⟩ ⟨j, hj⟩ h), fun h => h ▸ rfl⟩
theorem wd_lt0 : ∀ i j : Fin 5, decide ((wd i.1).cps.toList < (wd j.1).cps.toList) = decide (i.1 < j.1) := by decide +kernel
theorem wd_lt {i j : Nat} (hi : i < 5) (hj : j < 5) : decide ((wd i).cps.toList < (wd j).cps.toList) = decide (i < j) := wd_lt0 ⟨i, hi⟩ ⟨j, hj⟩
theorem wd_ne0 : ∀ i : Fin 5, decide ((Str.ofString "").cps.toList < (wd i.1).cps.toList) = true := by decide +kernel
theorem wd_ok0 : ∀ i : Fin 5, (PyData.str (wd i.1)).canLay0 = true := by decide +kernel
theorem wd_ok {i : Nat} (hi : i < 5) : (PyData.str (wd i)).canLay0 = true := wd_ok0 ⟨i, hi⟩
noncomputable def wdata (ks : List Nat) : List PyData := (ks.map wd).map PyData.str
theorem wdata_ok : ∀ {ks : List Nat}, (∀ k ∈ ks, k < 5) → PyData.canLayAll0 (wdata ks) = true
  | [], _ => rfl
  | k :: ks, h => by
    have h1 := wd_ok (h k (.head _))
    have h2 := wdata_ok (fun q hq => h q (.tail _ hq))
    simp only [wdata, List.map_cons, PyData.canLayAll0, Bool.and_eq_true]
    exact ⟨h1, h2⟩
theorem wdata_depth : ∀ (ks : List Nat), PyData.depthAll (wdata ks) = 0
  | [] => rfl
  | k :: ks => by
    have h2 := wdata_depth ks
    simp only [wdata] at h2
    simp only [wdata, List.map_cons, PyData.depthAll, PyData.depth, h2]; rfl
theorem wshaped {ks : List Nat} (h : ∀ k ∈ ks, k < 5) : SeqAt.shaped (.list (wdata ks)) = true := by
  simp only [SeqAt.shaped, PyData.canLay0, PyData.depth, wdata_ok h, wdata_depth]; rfl
theorem wshaped1 {k : Nat} (h : k < 5) : SeqAt.shaped (.str (wd k)) = true := by
  simp only [SeqAt.shaped, wd_ok h, PyData.depth]; rfl
theorem wreads {h : Heap} {a : Addr} {vs : List Value} {ks : List Nat} (hl : h.IsList a vs.toArray) (hi : StrsAre vs (ks.map wd)) : Reads h (.ref a) (.list (wdata ks)) [a] := by
  obtain ⟨o, ho, hc, n, hd⟩ := hl
  exact .list ho hc hd (strs_readAll h hi)
theorem wsame : ∀ {ks js : List Nat}, (∀ k ∈ ks, k < 5) → (∀ k ∈ js, k < 5) → PySem.Spec.sameAll (wdata ks) (wdata js) = decide (ks = js)
  | [], [], _, _ => by simp [wdata, PySem.Spec.sameAll]
  | [], _ :: _, _, _ => by simp [wdata, PySem.Spec.sameAll]
  | _ :: _, [], _, _ => by simp [wdata, PySem.Spec.sameAll]
  | k :: ks, j :: js, h, h' => by
    have ih := wsame (fun q hq => h q (.tail _ hq)) (fun q hq => h' q (.tail _ hq))
    have e := wd_eq (h k (.head _)) (h' j (.head _))
    simp only [wdata, List.map_cons, PySem.Spec.sameAll, PySem.Spec.same] at ih ⊢
    rw [ih]
    by_cases h1 : k = j <;> by_cases h2 : ks = js <;> simp [h1, h2, e]
theorem wmix : ∀ (ks js : List Nat), SeqAt.noMix (.list (wdata ks)) (.list (wdata js)) = true := fun ks js =>
  SeqAt.noMix_of_shape (.list .str) rfl _ _ (by show Shape.has _ (.list ((ks.map wd).map PyData.str)) = true; rw [List.map_map]; exact list_map_has fun _ => rfl) (by show Shape.has _ (.list ((js.map wd).map PyData.str)) = true; rw [List.map_map]; exact list_map_has fun _ => rfl)
theorem wcount : ∀ {ks : List Nat} {k : Nat}, (∀ k ∈ ks, k < 5) → k < 5 → (0 ≤ Spec.countIn (.str (wd k)) (wdata ks) ∧ (Spec.countIn (.str (wd k)) (wdata ks) ≠ 0 ↔ k ∈ ks))
  | [], k, _, _ => by simp [wdata, Spec.countIn]
  | j :: ks, k, h, hk => by
    obtain ⟨h1, h2⟩ := wcount (ks := ks) (k := k) (fun q hq => h q (.tail _ hq)) hk
    have e := wd_eq (h j (.head _)) hk
    simp only [wdata, List.map_cons] at h1 h2 ⊢
    unfold Spec.countIn
    simp only [Spec.same]
    by_cases h3 : j = k
    · subst h3; simp only [beq_self_eq_true, if_true, List.mem_cons, true_or, iff_true]; omega
    · have h4 : ¬ wd j = wd k := fun x => h3 (e.mp x)
      simp only [beq_iff_eq, h4, if_false, Int.zero_add, List.mem_cons, Bool.false_eq_true]
      refine ⟨h1, ?_⟩
      rw [h2]
      simp [Ne.symm h3]
section
variable {prog : Program} {w : World} {A : Around} {E : Value → Shared → Prop} {s : Shared} {Q : Value → Shared → Prop} {a b : Addr} {vs us : List Value} {ks js : List Nat} {k : Nat} {t : Tok}
theorem w_in (hl : s.heap.IsList a vs.toArray) (hi : StrsAre vs (ks.map wd)) (h5 : ∀ k ∈ ks, k < 5) (hk : k < 5) (hu : A.units ≤ 7000) (h : Q (.bool (decide (k ∈ ks))) s) : wpAny (model prog w) A (compareOp .In (.str (wd k) t) (.ref a)) Q E s := by
  refine in_list_dataH (wreads hl hi) (Reads.str _ _) (wshaped h5) (wshaped1 hk) (by show A.units + 65 < cLine; have : cLine = 9900 := rfl; omega) (fun y hy => ?_) ?_
  · simp only [wdata, List.mem_map] at hy; obtain ⟨x, _, rfl⟩ := hy; rfl
  · rw [show decide (Spec.countIn (.str (wd k)) (wdata ks) ≠ 0) = decide (k ∈ ks) from by simp only [(wcount h5 hk).2]]; exact h
theorem w_notin (hl : s.heap.IsList a vs.toArray) (hi : StrsAre vs (ks.map wd)) (h5 : ∀ k ∈ ks, k < 5) (hk : k < 5) (hu : A.units ≤ 7000) (h : Q (.bool (!decide (k ∈ ks))) s) : wpAny (model prog w) A (compareOp .NotIn (.str (wd k) t) (.ref a)) Q E s := by
  refine notIn_list_dataH (wreads hl hi) (Reads.str _ _) (wshaped h5) (wshaped1 hk) (by show A.units + 65 < cLine; have : cLine = 9900 := rfl; omega) (fun y hy => ?_) ?_
  · simp only [wdata, List.mem_map] at hy; obtain ⟨x, _, rfl⟩ := hy; rfl
  · rw [show decide (Spec.countIn (.str (wd k)) (wdata ks) ≠ 0) = decide (k ∈ ks) from by simp only [(wcount h5 hk).2]]; exact h
theorem w_ne (hl : s.heap.IsList a vs.toArray) (hi : StrsAre vs (ks.map wd)) (hl' : s.heap.IsList b us.toArray) (hi' : StrsAre us (js.map wd)) (h5 : ∀ k ∈ ks, k < 5) (h5' : ∀ k ∈ js, k < 5) (hu : A.units ≤ 7000) (h : Q (.bool (!decide (ks = js))) s) : wpAny (model prog w) A (compareOp .NotEq (.ref a) (.ref b)) Q E s :=
  ne_dataH_same (wreads hl hi) (wreads hl' hi') (wshaped h5) (wshaped h5') (by show A.units + 64 < cLine; have : cLine = 9900 := rfl; omega) (wmix ks js) (by simp only [PySem.Spec.same]; rw [wsame h5 h5']; exact h)
end

/-- a text that the last of a list of words is, or the empty one -/
noncomputable def LastIs (js : List Nat) (lv : Str) : Prop := ∀ k, k < 5 → decide (lv.cps.toList < (wd k).cps.toList) = (match js.getLast? with | none => true | some j => decide (j < k))
theorem lastIs_nil : LastIs [] (Str.ofString "") := fun k hk => wd_ne0 ⟨k, hk⟩
theorem lastIs_of {js : List Nat} {j : Nat} (h5 : ∀ k ∈ js, k < 5) (h : js.getLast? = some j) : LastIs js (wd j) := fun k hk => by
  rw [h]; exact wd_lt (h5 j (List.mem_of_getLast? h)) hk
noncomputable def LastPost (base h₀ : Heap) (L : Addr) (m : Str → Option Value) (led : List (Addr × Obj)) (js : List Nat) (s : Shared) (v : Value) (s' : Shared) : Prop :=
  ∃ lv t h' tk', v = .str lv t ∧ LastIs js lv ∧ s' = { s with heap := h', toks := tk' } ∧ Fr h₀ L h' m ∧ News h₀ L h' led
theorem cut_pure {α : Type} {M : Model} {A : Around} {t : Sem α} {Q : α → Shared → Prop} {E : Value → Shared → Prop} {s : Shared} {h₀ : Heap} {L : Addr} {m : Str → Option Value} {led : List (Addr × Obj)} (F : Fr h₀ L s.heap m) (N : News h₀ L s.heap led) (P : α → Prop)
    (h1 : ∀ (Q' : α → Shared → Prop), (∀ v h' tk', P v → Fr h₀ L h' m → News h₀ L h' led → Q' v { s with heap := h', toks := tk' }) → wpAny M A t Q' (fun _ _ => False) s)
    (h2 : ∀ v h' tk', P v → Fr h₀ L h' m → News h₀ L h' led → Q v { s with heap := h', toks := tk' }) : wpAny M A t Q E s := by
  refine wpAny_mono (h1 (fun v s' => ∃ h' tk', P v ∧ Fr h₀ L h' m ∧ News h₀ L h' led ∧ s' = { s with heap := h', toks := tk' }) fun v h' tk' p f n => ⟨h', tk', p, f, n, rfl⟩) (fun v s' hv => ?_) fun _ _ h => h.elim
  obtain ⟨h', tk', p, f, n, rfl⟩ := hv
  exact h2 v h' tk' p f n
theorem getD_last {js : List Nat} {j : Nat} (h : js.getLast? = some j) : (js.map wd).getD ((-1 : Int) + ((js.map wd).length : Nat)).toNat Str.empty = wd j := by
  have hne : js ≠ [] := fun e => by subst e; cases h
  have hl : 0 < js.length := List.length_pos_iff.mpr hne
  rw [List.getLast?_eq_getElem?] at h
  have e : ((-1 : Int) + ((js.map wd).length : Nat)).toNat = js.length - 1 := by rw [List.length_map]; omega
  rw [e, List.getD_eq_getElem?_getD, List.getElem?_map, h]; rfl
/-- the test of _law_alone at a place -/
noncomputable def keepIt (mine theirs : List Nat) (i x : Nat) : Bool := !decide (x ∈ theirs) && (!decide (x ∈ mine.take i) || (match theirs.getLast? with | none => true | some j => decide (j < x)))
noncomputable def aloneTo (mine theirs : List Nat) : Nat → List Nat
  | 0 => []
  | i + 1 => match mine[i]? with
    | some x => if keepIt mine theirs i x then aloneTo mine theirs i ++ [x] else aloneTo mine theirs i
    | none => aloneTo mine theirs i
noncomputable def alone (mine theirs : List Nat) : List Nat := aloneTo mine theirs mine.length
theorem StrsAre_take : ∀ {vs : List Value} {xs : List Str} (i : Nat), StrsAre vs xs → StrsAre (vs.take i) (xs.take i)
  | _, _, 0, _ => by simp only [List.take_zero]; exact .nil
  | _, _, i + 1, .nil => by simp only [List.take_nil]; exact .nil
  | _, _, i + 1, .cons x t r => by simp only [List.take_succ_cons]; exact .cons x t (StrsAre_take i r)
theorem StrsAre_drop : ∀ {vs : List Value} {xs : List Str} (i : Nat), StrsAre vs xs → StrsAre (vs.drop i) (xs.drop i)
  | _, _, 0, h => by simpa using h
  | _, _, i + 1, .nil => by simp only [List.drop_nil]; exact .nil
  | _, _, i + 1, .cons x t r => by simp only [List.drop_succ_cons]; exact StrsAre_drop i r
theorem strs_word {vs : List Value} {ks : List Nat} {i : Nat} {v : Value} (h : StrsAre vs (ks.map wd)) (hv : vs[i]? = some v) : ∃ x t, ks[i]? = some x ∧ v = .str (wd x) t := by
  have hlt : i < ks.length := by
    have := h.length; rw [List.length_map] at this
    rw [← this]; exact (List.getElem?_eq_some_iff.mp hv).1
  obtain ⟨t, ht⟩ := StrsAre.at h (j := i) (y := wd ks[i]) (by simp [hlt])
  exact ⟨ks[i], t, by simp [hlt], Option.some.inj (hv.symm.trans ht)⟩
theorem w_upto {prog : Program} {w : World} {A : Around} {E : Value → Shared → Prop} {h₀ : Heap} {L : Addr} {m : Str → Option Value} {news : List (Addr × Obj)} {s : Shared} {value slice : PySem.Expr} {l : Addr} {vs : List Value} {i : Nat} {t : Tok} {ops : List Value} {Q : Value → Shared → Prop}
    (F : Fr h₀ L s.heap m) (N : News h₀ L s.heap news) (hl : s.heap.IsList l vs.toArray) (hsz : vs.length ≤ 100000)
    (h : ∀ q h', Fr h₀ L h' m → News h₀ L h' ((q, lst (vs.take i) 0) :: news) → (∀ p ∈ news, p.1 < q) → Q (.ref q) { s with heap := h' })
    (hs : subscripted slice false (.ref l) (.ref s.heap.objs.size) = operate ops (getItem (.ref l) (.ref s.heap.objs.size)) := by with_unfolding_all rfl)
    (ht : ∀ r, letTemporaryGo value (.ref l) r = pure () := by intro _; with_unfolding_all rfl) :
    wpAny (model prog w) A (subscriptTail value slice (.ref l) (.ref s.heap.objs.size)) Q E { s with heap := s.heap.push { cls := .type "slice", data := .fields #[.none, .int (i : Int) t, .none] } } := by
  refine slice_list3 (lo := none) (hi := some (i : Int)) (st := none) F N hl .none (.int _ _) .none (by decide) ?_ hs ht (by rw [List.size_toArray, sizeLine_eq]; omega)
  intro h' F' N'
  refine h _ h' F' ?_ fun p hp => Nat.lt_succ_of_lt (Heap.lt_size (N p hp).1)
  have e : slicePick vs.toArray none (some (i : Int)) none = (vs.take i).toArray := by rw [slicePick_upto' vs.toArray i]
  rw [e] at N'
  exact N'
/-- a call that makes a list of words -/
inductive WordsPost (ws : List Nat) (old : List (Addr × Obj)) : Value → List (Addr × Obj) → Prop where
  | mk : ∀ q ys e, (StrsAre ys (ws.map wd)) → (∀ p ∈ old, p.1 ≠ q) → WordsPost ws old (.ref q) ((q, lst ys e) :: old)
end
section
section
variable {prog : Program} {w : World} {A : Around} {E : Value → Shared → Prop} {s : Shared} {h₀ : Heap} {L : Addr} {m : Str → Option Value} {env : Env}
theorem comp_zip {elt iter : PySem.Expr} {ifs : List PySem.Expr} {scope : Scope} {cl : List (Str × Addr)} {pos px px₂ tp : Pos} {tk : Nat} {x x₂ : Str} {use : Option (Value → Sem Unit)} {Q : Value → Shared → Prop} {l1 l2 : Addr} {vs us : List Value} {news : List (Addr × Obj)} (J : Nat → List Value → List (Addr × Obj) → Prop)
    (hh : A.handled = none) (hl1 : s.heap.IsList l1 vs.toArray) (hl2 : s.heap.IsList l2 us.toArray) (haL1 : l1 ≠ L) (haL2 : l2 ≠ L) (hsz : vs.length ≤ 100000) (F : Fr h₀ L s.heap m) (N : News h₀ L s.heap news) (hJ : J 0 [] news)
    (turn : CTurn prog w A h₀ L m env elt ifs scope cl (fun i m₅ => ∃ a b, (vs[i]? = some a ∧ us[i]? = some b) ∧ m₅ x = some a ∧ m₅ x₂ = some b) J (min vs.length us.length) s)
    (fin : CFin prog w A E h₀ L m use Q J (min vs.length us.length) s)
    (hcell : ∀ y ∈ scope.names, y.2 ≠ .cell := by decide) (hkind : scope.kind = .function := by rfl) (hx : scope.names.lookup x = some .local := by rfl) (hx₂ : scope.names.lookup x₂ = some .local := by rfl) (hxx : x ≠ x₂ := by decide) :
    wpAny (model prog w) A (call (.type "zip") [.ref l1, .ref l2]) (fun xv s₁ => wpAny (model prog w) A (pyIter xv) (CompAt prog w A E env elt (.Tuple [.Name x px, .Name x₂ px₂] tk tp) iter ifs scope cl pos use Q) E s₁) E s := by
  obtain ⟨o1, ho1, _⟩ := id hl1
  obtain ⟨o2, ho2, _⟩ := id hl2
  have hlt1 : l1 < s.heap.objs.size := Heap.lt_size ho1
  have hlt2 : l2 < s.heap.objs.size := Heap.lt_size ho2
  have hLs : L < s.heap.objs.size := F.ns.lt
  have D : ZipApart (s.heap.objs.size + 4) (s.heap.objs.size + 2) (s.heap.objs.size + 3) s.heap.objs.size (s.heap.objs.size + 1) l1 l2 := ktu_apart _ _ _ hlt1 hlt2
  refine call_zip_2 hl1 hl2 fun h' hz hTI hTO hi1 hi2 hs' hk => ?_
  refine wpAny_pyIter_zip hz ?_
  have W := (WalksT.zip2 (prog := prog) (w := w) hh _ _ _ _ _ _ _ D vs.toArray us.toArray).toU
  rw [show vs.toArray.size = vs.length by simp, show us.toArray.size = us.length by simp] at W
  have own : ∀ {b : Nat}, (b = s.heap.objs.size + 4 ∨ b = s.heap.objs.size + 2 ∨ b = s.heap.objs.size + 3 ∨ b = s.heap.objs.size ∨ b = s.heap.objs.size + 1) → @LE.le Nat _ s.heap.objs.size b := by
    intro b hb
    rcases hb with rfl | rfl | rfl | rfl | rfl <;> walk_at "lia"
  refine comp_block (s₂ := { s with heap := h' }) (KTurns.ofWalksU W) (fun i m₅ => ∃ a b, (vs[i]? = some a ∧ us[i]? = some b) ∧ m₅ x = some a ∧ m₅ x₂ = some b) J (fun s Q E st q => wpAny_pyIter_zip st.1 q) (fun i h st b hb => by
      obtain ⟨h1, _, ⟨_, _, h2⟩, ⟨o3, h3, _⟩, ⟨o4, h4, _⟩, _⟩ := st
      have hb' : b = s.heap.objs.size + 4 ∨ b = s.heap.objs.size + 3 ∨ b = s.heap.objs.size ∨ b = s.heap.objs.size + 1 := by simpa using hb
      rcases hb' with rfl | rfl | rfl | rfl
      · exact ⟨_, h1⟩
      · exact ⟨_, h2⟩
      · exact ⟨_, h3⟩
      · exact ⟨_, h4⟩) (by rw [sizeLine_eq]; walk_at "lia") hcell hkind
    ⟨hz, hTI, ⟨_, _, hTO⟩, hi1, hi2, hl1.at fun o e => hk _ o e, hl2.at fun o e => hk _ o e⟩ (fun b hb => ?_) (F.keeps hk) (N.grown hk) (fun hI' => ?_) (fun b hb => ?_) (fun p hp hI' => ?_) hJ
    (sets_pair (T := fun i a b => vs[i]? = some a ∧ us[i]? = some b) hh hkind hx hx₂ hxx (by
      rintro i vals _ ⟨a, b, ha, hb, rfl⟩
      exact ⟨_, _, rfl, by simpa using ha, by simpa using hb⟩)) (turn [s.heap.objs.size + 4, s.heap.objs.size + 3, s.heap.objs.size, s.heap.objs.size + 1]) fin
  · have hb' : b = s.heap.objs.size + 4 ∨ b = s.heap.objs.size + 2 ∨ b = s.heap.objs.size + 3 ∨ b = s.heap.objs.size ∨ b = s.heap.objs.size + 1 ∨ b = l1 ∨ b = l2 := by simpa using hb
    show @LT.lt Nat _ b h'.objs.size
    rw [hs']
    have e1 : @LT.lt Nat _ l1 s.heap.objs.size := hlt1
    have e2 : @LT.lt Nat _ l2 s.heap.objs.size := hlt2
    rcases hb' with rfl | rfl | rfl | rfl | rfl | rfl | rfl <;> walk_at "lia"
  · have hb' : L = s.heap.objs.size + 4 ∨ L = s.heap.objs.size + 2 ∨ L = s.heap.objs.size + 3 ∨ L = s.heap.objs.size ∨ L = s.heap.objs.size + 1 ∨ L = l1 ∨ L = l2 := by simpa using hI'
    have hLs' : @LT.lt Nat _ L s.heap.objs.size := hLs
    rcases hb' with e | e | e | e | e | e | e
    · have := own (.inl e); walk_at "lia"
    · have := own (.inr (.inl e)); walk_at "lia"
    · have := own (.inr (.inr (.inl e))); walk_at "lia"
    · have := own (.inr (.inr (.inr (.inl e)))); walk_at "lia"
    · have := own (.inr (.inr (.inr (.inr e)))); walk_at "lia"
    · exact haL1 e.symm
    · exact haL2 e.symm
  · have hb' : b = s.heap.objs.size + 4 ∨ b = s.heap.objs.size + 3 ∨ b = s.heap.objs.size ∨ b = s.heap.objs.size + 1 := by simpa using hb
    exact ktu_new F (own (by rcases hb' with h | h | h | h <;> simp [h]))
  · have hb' : p.1 = s.heap.objs.size + 4 ∨ p.1 = s.heap.objs.size + 3 ∨ p.1 = s.heap.objs.size ∨ p.1 = s.heap.objs.size + 1 := by simpa using hI'
    have hlp : @LT.lt Nat _ p.1 s.heap.objs.size := Heap.lt_size (N p hp).1
    have := own (b := p.1) (by rcases hb' with h | h | h | h <;> simp [h])
    walk_at "lia"
end
end
section
noncomputable abbrev cellO (v : Option Value) : Obj := { cls := .type "cell", data := .cell v }
section
variable {prog : Program} {w : World} {A : Around} {E : Value → Shared → Prop} {s : Shared} {h₀ : Heap} {L : Addr} {m : Str → Option Value} {env : Env}
/-- what a turn of a comprehension over a captured name leaves -/
inductive CEndC (h₀ : Heap) (L : Addr) (m : Str → Option Value) (wr : List Addr) (own : List (Addr × Obj)) (C : Addr) (oC : Obj) (D : Addr) (oD : Obj) (K : Addr) (oK : Obj) (J : List (Addr × Obj) → Prop) (s₁ s₂ : Shared) : Prop where
  | mk : ∀ h' tk news, (s₂ = { s₁ with heap := h', toks := tk }) → (Fr h₀ L h' m) → (News h₀ L h' ((C, oC) :: (D, oD) :: (K, oK) :: (news ++ own))) → ((∀ p ∈ news, p.1 ∉ wr ∧ p.1 ≠ C ∧ p.1 ≠ D ∧ p.1 ≠ K)) → (J news) → CEndC h₀ L m wr own C oC D oD K oK J s₁ s₂
theorem comp_block_c {elt iter : PySem.Expr} {ifs : List PySem.Expr} {scope : Scope} {cl : List (Str × Addr)} {pos px : Pos} {c : Str} {s₂ : Shared} {I : Addr} {fp wr : List Addr} {n : Nat} {P Md : Nat → Value → Heap → Prop} {St : Nat → Heap → Prop} {news : List (Addr × Obj)} {RR : Value → Addr → Result → Shared → Prop}
    (W : KTurns prog w A (.Name c px) I fp wr n P Md St) (T : Nat → Value → Prop) (hT : ∀ i v h, i < n → P i v h → T i v) (J : Nat → List Value → List (Addr × Obj) → Prop)
    (hself : ∀ (s : Shared) (Q : Value → Shared → Prop) (E : Value → Shared → Prop), St 0 s.heap → Q (.ref I) s → wpAny (model prog w) A (pyIter (.ref I)) Q E s)
    (hIo : ∀ i h, St i h → ∀ b ∈ wr, ∃ o, h.get? b = some o) (hsz : n ≤ sizeLine) (hcf : ∀ n acc, cellsFrom n scope.names acc = (c, n) :: acc) (hpc : ∀ h, pushCells h scope.names = h.push (cellO none)) (hck : (relabel scope env).names.lookup c = some .cell) (hkind : scope.kind = .function) (hst : St 0 s₂.heap) (hfp : ∀ b ∈ fp, b < s₂.heap.objs.size)
    (F : Fr h₀ L s₂.heap m) (N : News h₀ L s₂.heap news) (hLf : L ∉ fp) (hwr : ∀ b ∈ wr, h₀.get? b = none) (off : ∀ p ∈ news, p.1 ∉ wr) (hJ : J 0 [] news)
    (turn : ∀ i v ys m₅ C oC D K oK own news₁ h tk (E' : Value → Shared → Prop), i < n → ys.length ≤ i → T i v → LCg.NsObj oC m₅ → oK.data = .cell (some v) → J i ys news₁ → (∀ p ∈ news₁, p.1 ∉ wr ∧ p.1 ≠ C ∧ p.1 ≠ D ∧ p.1 ≠ K) → (∀ b ∈ wr, ∃ o, (b, o) ∈ own) → Fr h₀ L h m → News h₀ L h ((C, oC) :: (D, lst ys ys.length) :: (K, oK) :: (news₁ ++ own)) →
      wpAny (model prog w) A (forIn ifs true fun c' r => if r = true then do let ok ← isTrue c' (compEnvC scope ((c, K) :: cl) C env) (PySem.eval c' (compEnvC scope ((c, K) :: cl) C env)); pure (ForInStep.yield ok) else pure (ForInStep.yield r)) (fun ok s₄ =>
        if ok = true then wpAny (model prog w) A (PySem.eval elt (compEnvC scope ((c, K) :: cl) C env)) (fun y => CEndC h₀ L m wr own C oC D (lst ys ys.length) K oK (J (i + 1) (ys ++ [y])) { s₂ with heap := h, toks := tk }) E' s₄
        else CEndC h₀ L m wr own C oC D (lst ys ys.length) K oK (J (i + 1) ys) { s₂ with heap := h, toks := tk } s₄) E' { s₂ with heap := h, toks := tk })
    (hRR : ∀ D C h tk m' ys news', ys.length ≤ n → Fr h₀ L h m → News h₀ L h ((D, lst ys ys.length) :: news') → (∀ p ∈ news', p.1 ≠ C ∧ p.1 ≠ D) → h.Ns C m' → h₀.get? C = none → C ≠ L → C ≠ D → J n ys news' → RR (.ref D) C (.ok .next) { s₂ with heap := h, toks := tk }) :
    wpAny (model prog w) A (newList []) (fun acc s₃ => wpAny (model prog w) A (newFunctionEnv scope env.globals cl [] env.qual none .none (some env)) (fun cenv s₄ =>
      codeAny (model prog w) A (.compStart (.ListComp elt [⟨.Name c px, iter, ifs, 0⟩] scope pos) 0 (.ref I) acc { cenv with scope := relabel scope env }) (RR acc cenv.locals) s₄) E s₃) E s₂ := by
  refine wpAny_newObj_type ?_
  simp only [newFunctionEnv, Option.isSome_some, if_true]
  refine wpAny_bind (wpAny_alloc ?_)
  refine wpAny_bind (wpAny_layCells _ (fun name kind cells => by cases hkc : kind == NameKind.cell <;> simp [hkc]) _ _ _ _ ?_)
  rw [hcf, hpc]
  refine wpAny_bind (wpAny_pure (wpAny_pure ?_))
  generalize hH2 : s₂.heap.push { cls := .type "list", dict := none, data := .seq ([] : List Value).toArray } = H2
  have hC0 : H2.objs.size = s₂.heap.objs.size + 1 := by rw [← hH2, Heap.size_push]
  have hK0 : (H2.push { cls := .type "dict", data := .dict #[] }).objs.size = s₂.heap.objs.size + 2 := by rw [Heap.size_push, hC0]
  generalize hDe : s₂.heap.objs.size = D at *
  generalize hCe : H2.objs.size = C at *
  generalize hKe : (H2.push { cls := .type "dict", data := .dict #[] }).objs.size = K at *
  generalize hH3 : (H2.push { cls := .type "dict", data := .dict #[] }).push (cellO none) = h₁ at *
  as_aux_lemma =>
    have hC : C = D + 1 := hC0
    have hK : K = D + 2 := hK0
    have hCD : @Ne Nat C D := by walk_at "lia"
    have hKD : @Ne Nat K D := by walk_at "lia"
    have hKC : @Ne Nat K C := by walk_at "lia"
    have below : ∀ b, @LT.lt Nat _ b D → @Ne Nat b C ∧ @Ne Nat b D ∧ @Ne Nat b K := fun b hb => ⟨by walk_at "lia", by walk_at "lia", by walk_at "lia"⟩
    have hlt : ∀ {b o}, s₂.heap.get? b = some o → @LT.lt Nat _ b D := fun e => hDe ▸ Heap.lt_size e
    have hDf : D ∉ fp := fun hm => Nat.lt_irrefl _ (hfp _ hm)
    have hCf : C ∉ fp := fun hm => by have := hfp _ hm; have : @LT.lt Nat _ C D := this; walk_at "lia"
    have hKf : K ∉ fp := fun hm => by have := hfp _ hm; have : @LT.lt Nat _ K D := this; walk_at "lia"
    have up2 : ∀ b o, H2.get? b = some o → h₁.get? b = some o := fun b o e => hH3 ▸ Heap.get?_push_of_some _ (Heap.get?_push_of_some _ e)
    have old : ∀ b o, s₂.heap.get? b = some o → h₁.get? b = some o := fun b o e => up2 b o (hH2 ▸ Heap.get?_push_of_some _ e)
    have hacc : h₁.get? D = some (lst [] 0) := up2 _ _ (hH2 ▸ hDe ▸ Heap.get?_push_size _ rfl)
    have hkac : h₁.get? K = some (cellO none) := hH3 ▸ hKe ▸ Heap.get?_push_size _ rfl
    have hns₁ : h₁.Ns C (fun _ => none) := by
      have h0 := Heap.Ns.new H2 (.type "dict")
      rw [hCe] at h0
      exact h0.keeps fun b o e => hH3 ▸ Heap.get?_push_of_some _ e
    have hst₁ : St 0 h₁ := W.frame _ _ _ hst fun b _ o e => old b o e
    have fresh₀ : ∀ a, @LE.le Nat _ D a → h₀.get? a = none := fun a ha => by
      cases e : h₀.get? a with
      | none => rfl
      | some o' => have := hlt (F.keep a o' e); have : @LT.lt Nat _ a D := this; walk_at "lia"
    have hD₀ : h₀.get? D = none := fresh₀ _ (Nat.le_refl _)
    have hC₀ : h₀.get? C = none := fresh₀ _ (by walk_at "lia")
    have hK₀ : h₀.get? K = none := fresh₀ _ (by walk_at "lia")
    have hLlt : @LT.lt Nat _ L D := hDe ▸ F.ns.lt
    have hDL : D ≠ L := (below L hLlt).2.1.symm
    have hCL : C ≠ L := (below L hLlt).1.symm
    have hKL : K ≠ L := (below L hLlt).2.2.symm
    have hCw : C ∉ wr := fun h => hCf (W.sub _ h)
    have hDw : D ∉ wr := fun h => hDf (W.sub _ h)
    have hKw : K ∉ wr := fun h => hKf (W.sub _ h)
    have hLw : L ∉ wr := fun h => hLf (W.sub _ h)
    have oldw : ∀ b o, h₀.get? b = some o → b ∉ wr := fun b o e hb => by rw [hwr b hb] at e; cases e
    have off₀ : ∀ p ∈ news, p.1 ∉ wr ∧ p.1 ≠ C ∧ p.1 ≠ D ∧ p.1 ≠ K := fun p hp => ⟨off p hp, (below _ (hlt (N p hp).1)).1, (below _ (hlt (N p hp).1)).2.1, (below _ (hlt (N p hp).1)).2.2⟩
    have loop : ∀ s₃ : Shared, s₃ = { s₂ with heap := h₁ } →
        codeAny (model prog w) A (.compLoop (.ListComp elt [⟨.Name c px, iter, ifs, 0⟩] scope pos) 0 (.ref I) (.ref D) (compEnvC scope ((c, K) :: cl) C env)) (RR (.ref D) C) s₃ := by
      rintro s₃ rfl
      refine comp_loop
        (fun k s' => ∃ h' tk i ys m' oK ov news', oK.data = .cell ov ∧ s' = { s₂ with heap := h', toks := tk } ∧ i ≤ n ∧ k = n + 1 - i ∧ ys.length ≤ i ∧ St i h' ∧ Fr h₀ L h' m ∧ h'.Ns C m' ∧ News h₀ L h' ((D, lst ys ys.length) :: (K, oK) :: news') ∧
          (∀ p ∈ news', p.1 ∉ wr ∧ p.1 ≠ C ∧ p.1 ≠ D ∧ p.1 ≠ K) ∧ J i ys news') ?_ (n + 1)
        ⟨h₁, s₂.toks, 0, [], _, cellO none, none, news, rfl, rfl, Nat.zero_le _, rfl, Nat.le_refl _, hst₁, F.keeps old, hns₁, fun p hp => ?_, off₀, hJ⟩
      · refine fun k s' hh0 => ex8 hh0 fun h' tk i ys m' oK ov news' hh1 => and11 hh1 fun hov es hi ek hyl hst' F' hn' N' off' hJ' => ?_
        clear hh0 hh1
        subst es ek
        have next : ∀ h₂ : Heap, (∀ b o, b ∉ wr → h'.get? b = some o → h₂.get? b = some o) → Fr h₀ L h₂ m ∧ h₂.Ns C m' ∧ News h₀ L h₂ ((D, lst ys ys.length) :: (K, oK) :: news') := fun h₂ hk =>
          ⟨⟨F'.ns.at' fun o e => hk _ o hLw e, fun b o e => hk b o (oldw b o e) (F'.keep b o e), F'.above⟩, hn'.at' fun o e => hk _ o hCw e, fun p hp => by
            refine ⟨hk _ _ ?_ (N' p hp).1, (N' p hp).2⟩
            rcases List.mem_cons.mp hp with rfl | hp
            · exact hDw
            · rcases List.mem_cons.mp hp with rfl | hp
              · exact hKw
              · exact (off' p hp).1⟩
        by_cases hlt : i < n
        · refine W.item i _ _ _ hlt hst' fun v h₂ tk₂ hMd hk₂ => ?_
          refine W.go i v _ _ _ hMd fun h₃ hP hst₃ hk₃ => ?_
          obtain ⟨F₃, hn₃, N₃⟩ := next h₃ fun b o hb x => hk₃ b o hb (hk₂ b o hb x)
          have hkc := N₃ (K, oK) (.tail _ (.head _))
          refine wpAny_assign_Name (wpAny_storeName_cell (v₀ := ov) hkind hck (by simp [compEnvC]) ⟨_, hkc.1, hov⟩ fun h₄ hv₄ hs₄ => ?_)
          obtain ⟨o₄, ho₄, hd₄⟩ := hv₄
          have hk₄ : ∀ b o, b ≠ K → h₃.get? b = some o → h₄.get? b = some o := fun b o hb e => hs₄.extBut b o hb e
          have hst₄ : St (i + 1) h₄ := W.frame _ _ _ hst₃ fun b hb o e => hk₄ b o (fun q => hKf (q ▸ hb)) e
          have hn₄ : h₄.Ns C m' := hn₃.at' fun o e => hk₄ _ o hKC.symm e
          obtain ⟨oC, heC, hoC⟩ := NsObj.has hn₄
          have F₄ : Fr h₀ L h₄ m := ⟨F₃.ns.at' fun o e => hk₄ _ o hKL.symm e, fun b o e => hk₄ b o (fun q => by rw [q, hK₀] at e; cases e) (F₃.keep b o e), F₃.above⟩
          have Nown : News h₀ L h₄ (PyProof.Rows.ownOf h₀ fp h₄) := news_ownOf hLf
          have N₄ : News h₀ L h₄ ((C, oC) :: (D, lst ys ys.length) :: (K, o₄) :: (news' ++ PyProof.Rows.ownOf h₀ fp h₄)) := fun p hp => by
            rcases List.mem_cons.mp hp with rfl | hp
            · exact ⟨heC, hCL, hC₀⟩
            · rcases List.mem_cons.mp hp with rfl | hp
              · have z := N₃ (D, lst ys ys.length) (.head _)
                exact ⟨hk₄ _ _ hKD.symm z.1, z.2⟩
              · rcases List.mem_cons.mp hp with rfl | hp
                · exact ⟨ho₄, hKL, hK₀⟩
                · rcases List.mem_append.mp hp with hp | hp
                  · have z := N₃ p (.tail _ (.tail _ hp))
                    exact ⟨hk₄ _ _ (off' p hp).2.2.2 z.1, z.2⟩
                  · exact Nown p hp
          have back : ∀ ys' h₅ tk₅ news₅, ys'.length ≤ i + 1 → Fr h₀ L h₅ m → News h₀ L h₅ ((C, oC) :: (D, lst ys' ys'.length) :: (K, o₄) :: (news₅ ++ PyProof.Rows.ownOf h₀ fp h₄)) → (∀ p ∈ news₅, p.1 ∉ wr ∧ p.1 ≠ C ∧ p.1 ≠ D ∧ p.1 ≠ K) → J (i + 1) ys' news₅ →
              ∃ k', k' < n + 1 - i ∧ ∃ h' tk i ys m' oK ov news', oK.data = .cell ov ∧ { s₂ with heap := h₅, toks := tk₅ } = { s₂ with heap := h', toks := tk } ∧ i ≤ n ∧ k' = n + 1 - i ∧ ys.length ≤ i ∧ St i h' ∧ Fr h₀ L h' m ∧ h'.Ns C m' ∧ News h₀ L h' ((D, lst ys ys.length) :: (K, oK) :: news') ∧ (∀ p ∈ news', p.1 ∉ wr ∧ p.1 ≠ C ∧ p.1 ≠ D ∧ p.1 ≠ K) ∧ J i ys news' := by
            intro ys' h₅ tk₅ news₅ hy F₅ N₅ off₅ hJ₅
            refine ⟨n + 1 - (i + 1), by walk_at "lia", h₅, tk₅, i + 1, ys', m', o₄, some v, news₅, hd₄, rfl, hlt, rfl, hy, W.frame _ _ _ hst₄ fun b hb o e => ?_, F₅, hoC.ns (N₅ (C, oC) (.head _)).1, fun p hp => ?_, off₅, hJ₅⟩
            · cases hn : h₀.get? b with
              | some o₀ =>
                have : o₀ = o := by have q := F₄.keep b o₀ hn; rw [e] at q; exact (Option.some.inj q).symm
                exact this ▸ F₅.keep b o₀ hn
              | none => exact (N₅ _ (.tail _ (.tail _ (.tail _ (List.mem_append_right _ (mem_ownOf hb hn e)))))).1
            · refine N₅ p (.tail _ ?_)
              rcases List.mem_cons.mp hp with rfl | hp
              · exact .head _
              · rcases List.mem_cons.mp hp with rfl | hp
                · exact .tail _ (.head _)
                · exact .tail _ (.tail _ (List.mem_append_left _ hp))
          refine wpAny_mono (turn i v ys m' C oC D K o₄ (PyProof.Rows.ownOf h₀ fp h₄) news' h₄ _ _ hlt hyl (hT i v _ hlt hP) hoC hd₄ hJ' off' (fun b hb => (hIo _ _ hst₄ b hb).imp fun o ho => mem_ownOf (W.sub _ hb) (hwr b hb) ho) F₄ N₄) (fun ok s₄ h₄' => ?_) fun _ _ e => e
          cases ok with
          | false =>
            simp only [Bool.false_eq_true, if_false] at h₄' ⊢
            obtain ⟨h₅, tk₅, news₅, rfl, F₅, N₅, off₅, hJ₅⟩ := h₄'
            exact back ys h₅ tk₅ news₅ (Nat.le_succ_of_le hyl) F₅ N₅ off₅ hJ₅
          | true =>
            simp only [if_true] at h₄' ⊢
            refine wpAny_mono h₄' (fun y s₅ h₅' => ?_) fun _ _ e => e
            obtain ⟨h₅, tk₅, news₅, rfl, F₅, N₅, off₅, hJ₅⟩ := h₅'
            have zD := N₅ (D, lst ys ys.length) (.tail _ (.head _))
            refine append_at (hsz := by rw [List.size_toArray]; walk_at "lia") zD.1 fun h₆ hs₆ hD₆ => ?_
            rw [List.push_toArray] at hD₆
            refine back (ys ++ [y]) h₆ tk₅ news₅ (by rw [List.length_append, List.length_singleton]; walk_at "lia") (F₅.change hs₆ hDL hD₀) (fun p hp => ?_) off₅ hJ₅
            rcases List.mem_cons.mp hp with rfl | hp
            · exact ⟨hs₆.extBut _ _ hCD (N₅ (C, oC) (.head _)).1, hCL, hC₀⟩
            · rcases List.mem_cons.mp hp with rfl | hp
              · refine ⟨?_, hDL, hD₀⟩
                rw [List.length_append, List.length_singleton]; exact hD₆
              · have z := N₅ p (.tail _ (.tail _ hp))
                refine ⟨hs₆.extBut _ _ (fun q => ?_) z.1, z.2⟩
                rcases List.mem_cons.mp hp with rfl | hp
                · exact hKD q
                · rcases List.mem_append.mp hp with hp | hp
                  · exact (off₅ p hp).2.2.1 q
                  · exact hDf (q ▸ ownOf_sub p hp)
        · have hin : i = n := by walk_at "lia"
          subst hin
          refine W.done _ _ _ hst' fun h₂ tk₂ hk₂ => ?_
          obtain ⟨F₂, hn₂, N₂⟩ := next h₂ hk₂
          exact hRR D C h₂ tk₂ m' ys news' hyl F₂ (fun p hp => N₂ p (by rcases List.mem_cons.mp hp with rfl | hp; exact .head _; exact .tail _ (.tail _ hp))) (fun p hp => ⟨(off' p hp).2.1, (off' p hp).2.2.1⟩) hn₂ hC₀ hCL hCD hJ'
      · rcases List.mem_cons.mp hp with rfl | hp
        · exact ⟨hacc, hDL, hD₀⟩
        · rcases List.mem_cons.mp hp with rfl | hp
          · exact ⟨hkac, hKL, hK₀⟩
          · exact ⟨old _ _ (N p hp).1, (N p hp).2⟩
    exact codeAny_compStart_list (loop _ rfl) (hself _ _ _ hst₁ (loop _ rfl))
end
section
variable {prog : Program} {w : World} {A : Around} {E : Value → Shared → Prop} {s : Shared} {h₀ : Heap} {L : Addr} {m : Str → Option Value} {env : Env}
noncomputable def CTurnC (prog : Program) (w : World) (A : Around) (h₀ : Heap) (L : Addr) (m : Str → Option Value) (env : Env) (elt : PySem.Expr) (ifs : List PySem.Expr) (scope : Scope) (cl : List (Str × Addr)) (c : Str) (T : Nat → Value → Prop) (J : Nat → List Value → List (Addr × Obj) → Prop) (n : Nat) (s : Shared) : Prop :=
  ∀ wr i v ys m₅ C oC D K oK own news₁ h tk (E' : Value → Shared → Prop), i < n → ys.length ≤ i → T i v → LCg.NsObj oC m₅ → oK.data = .cell (some v) → J i ys news₁ → (∀ p ∈ news₁, p.1 ∉ wr ∧ p.1 ≠ C ∧ p.1 ≠ D ∧ p.1 ≠ K) → (∀ b ∈ wr, ∃ o, (b, o) ∈ own) → Fr h₀ L h m → News h₀ L h ((C, oC) :: (D, lst ys ys.length) :: (K, oK) :: (news₁ ++ own)) →
      wpAny (model prog w) A (forIn ifs true fun c' r => if r = true then do let ok ← isTrue c' (compEnvC scope ((c, K) :: cl) C env) (PySem.eval c' (compEnvC scope ((c, K) :: cl) C env)); pure (ForInStep.yield ok) else pure (ForInStep.yield r)) (fun ok s₄ =>
        if ok = true then wpAny (model prog w) A (PySem.eval elt (compEnvC scope ((c, K) :: cl) C env)) (fun y => CEndC h₀ L m wr own C oC D (lst ys ys.length) K oK (J (i + 1) (ys ++ [y])) { s with heap := h, toks := tk }) E' s₄
        else CEndC h₀ L m wr own C oC D (lst ys ys.length) K oK (J (i + 1) ys) { s with heap := h, toks := tk } s₄) E' { s with heap := h, toks := tk }
theorem comp_range_c {elt iter : PySem.Expr} {ifs : List PySem.Expr} {scope : Scope} {cl : List (Str × Addr)} {pos px : Pos} {x : Str} {use : Option (Value → Sem Unit)} {Q : Value → Shared → Prop} {r : Addr} {n : Nat} {t u v : Tok} {news : List (Addr × Obj)} (J : Nat → List Value → List (Addr × Obj) → Prop)
    (hh : A.handled = none) (hr : IsRange s.heap r 0 n 1 t u v) (hsm : Builtin.Range.small 0 n 1 = true) (hn : Builtin.Range.rangeSize 0 n 1 = (n : Int)) (hsz : n ≤ 100000) (F : Fr h₀ L s.heap m) (N : News h₀ L s.heap news) (hJ : J 0 [] news)
    (turn : CTurnC prog w A h₀ L m env elt ifs scope cl x (fun i v => ∃ t, v = .int (i : Int) t) J n s)
    (fin : CFin prog w A E h₀ L m use Q J n s)
    (hcf : ∀ n acc, cellsFrom n scope.names acc = (x, n) :: acc := by intro _ _; rfl) (hpc : ∀ h, pushCells h scope.names = h.push (cellO none) := by intro _; rfl) (hck : (relabel scope env).names.lookup x = some .cell := by rfl) (hkind : scope.kind = .function := by rfl) :
    wpAny (model prog w) A (pyIter (.ref r)) (CompAt prog w A E env elt (.Name x px) iter ifs scope cl pos use Q) E s := by
  refine wpAny_pyIter_range hr hsm ?_
  have up : ∀ o b o', s.heap.get? b = some o' → (s.heap.push o).get? b = some o' := fun o b o' e => Heap.get?_push_of_some _ e
  have W := Walks.range (prog := prog) (w := w) hh s.heap.objs.size 0 1 n
  refine comp_block_c (s₂ := { s with heap := s.heap.push _ }) (KTurns.ofWalks W (fun i v s Q E _ q => wpAny_pure q)) (fun i v => ∃ t, v = .int (i : Int) t) (fun i v h _ hp => by simpa using hp) J (fun s Q E st q => wpAny_pyIter_rangeiter st q) (fun i h st b hb => by rw [List.mem_singleton.mp hb]; exact ⟨_, st⟩) (by rw [sizeLine_eq]; walk_at "lia") hcf hpc hck hkind
    (by show IsRangeIter _ _ _ _ _; rw [hn]; simpa using Heap.get?_push_size _ rfl) (fun b hb => ?_) (F.keeps (up _)) (N.grown (up _)) ?_ (fun b hb => ?_) (fun p hp hI => ?_) hJ (turn [s.heap.objs.size]) fin
  · show b < (s.heap.push _).objs.size
    rw [Heap.size_push, List.mem_singleton.mp hb]
    exact Nat.lt_succ_self _
  · intro hm
    exact absurd F.ns.lt ((List.mem_singleton.mp hm) ▸ Nat.lt_irrefl _)
  · rw [List.mem_singleton.mp hb]; exact next_is_new F
  · exact absurd (Heap.lt_size (N p hp).1) ((List.mem_singleton.mp hI) ▸ Nat.lt_irrefl _)
end
end
section
section
variable {prog : Program} {w : World} {A : Around} {E : Value → Shared → Prop} {s : Shared} {env : Env} {h₀ : Heap} {target : PySem.Expr} {body : List Stmt} {Q : Flow → Shared → Prop}
theorem for_range {r : Addr} {n : Nat} {t u v : Tok} {m₀ : Str → Option Value} {news : List (Addr × Obj)} (J : Nat → (Str → Option Value) → List (Addr × Obj) → Prop)
    (hgo : ∀ (it v : Value), letOwnedTupleGo target it v = pure ())
    (hh : A.handled = none) (hr : IsRange s.heap r 0 n 1 t u v) (hsm : Builtin.Range.small 0 n 1 = true) (hn : Builtin.Range.rangeSize 0 n 1 = (n : Int)) (F : Fr h₀ env.locals s.heap m₀) (N : News h₀ env.locals s.heap news) (hj : J 0 m₀ news)
    (turn : ∀ i t m₁ news₁ h tk I oI, i < n → J i m₁ news₁ → (∀ p ∈ news₁, p.1 ≠ I) → Fr h₀ env.locals h m₁ → News h₀ env.locals h ((I, oI) :: news₁) →
      wpAny (model prog w) A (assign target env (.int (i : Int) t)) (fun _ s₃ => wpAny (model prog w) A (execs body env) (TurnPost h₀ env.locals [(I, oI)] I (J (i + 1)) { s with heap := h, toks := tk } Q) E s₃) E { s with heap := h, toks := tk })
    (done : ∀ m₁ news₁ h tk, J n m₁ news₁ → Fr h₀ env.locals h m₁ → News h₀ env.locals h news₁ → Q .next { s with heap := h, toks := tk }) :
    wpAny (model prog w) A (pyIter (.ref r)) (fun it s₂ => TurnsAt prog w A h₀ env target body Q E it s₂) E s := by
  refine wpAny_pyIter_range hr hsm ?_
  have up : ∀ o b o', s.heap.get? b = some o' → (s.heap.push o).get? b = some o' := fun o b o' e => Heap.get?_push_of_some _ e
  have W := Walks.range (prog := prog) (w := w) hh s.heap.objs.size 0 1 n
  have hLs : @LT.lt Nat _ env.locals s.heap.objs.size := F.ns.lt
  refine ⟨s.heap.objs.size, [s.heap.objs.size], [s.heap.objs.size], n, _, _, _, m₀, news, J, rfl, KTurns.ofWalks W (fun i v s Q E _ q => wpAny_of_eq (hgo _ _) q), ?_, ?_, ?_, (by show IsRangeIter _ _ _ _ _; rw [hn]; simpa using Heap.get?_push_size _ rfl), F.keeps (up _), N.grown (up _), hj, ?_, ?_⟩
  · intro hm
    exact absurd hLs ((List.mem_singleton.mp hm) ▸ Nat.lt_irrefl _)
  · intro b hb
    rw [List.mem_singleton.mp hb]; exact next_is_new F
  · intro p hp hI
    exact absurd (Heap.lt_size (N p hp).1) ((List.mem_singleton.mp hI) ▸ Nat.lt_irrefl _)
  · rintro i v m₁ news₁ h₁ tk₁ own hi ⟨tv, rfl⟩ hJ hoff hown hget hall hst F₁ N₁
    have hI0 : h₀.get? s.heap.objs.size = none := next_is_new F
    obtain ⟨oI, hoI⟩ : ∃ oI, h₁.get? s.heap.objs.size = some oI := ⟨_, hst⟩
    have hIo : (s.heap.objs.size, oI) ∈ own := hall _ (.head _) hI0 oI hoI
    have hsub : ∀ p ∈ own, p = (s.heap.objs.size, oI) := by
      intro p hp
      have h1 := hget p hp
      have h2 := List.mem_singleton.mp (hown p hp)
      rw [h2, hoI] at h1; obtain ⟨a, b⟩ := p; cases h1; cases h2; rfl
    have N₂ : News h₀ env.locals h₁ ((s.heap.objs.size, oI) :: news₁) := fun p hp => by
      rcases List.mem_cons.mp hp with rfl | hp
      · exact N₁ _ (List.mem_append_left _ hIo)
      · exact N₁ _ (List.mem_append_right _ hp)
    have T := turn i tv m₁ news₁ h₁ tk₁ s.heap.objs.size oI hi hJ (fun p hp he => hoff p hp (List.mem_singleton.mpr he)) F₁ N₂
    have ev : (0 : Int) + (i : Int) * 1 = (i : Int) := by omega
    show wpAny (model prog w) A (assign target env (.int (0 + (i : Int) * 1) tv)) _ _ _
    rw [ev]
    refine wpAny_mono T (fun _ s₃ h₃ => wpAny_mono h₃ (fun f s₂ p => ?_) fun _ _ e => e) fun _ _ e => e
    have fin : TurnEnd h₀ env.locals [(s.heap.objs.size, oI)] s.heap.objs.size (J (i + 1)) { s with heap := h₁, toks := tk₁ } s₂ → LoopStepU h₀ env.locals [s.heap.objs.size] own (J (i + 1)) { s with heap := h₁, toks := tk₁ } .next s₂ := by
      rintro ⟨h', tk, m', nx, e, F', N', ho, hJ'⟩
      refine ⟨rfl, h', tk, m', nx, e, F', fun p hp => ?_, fun p hp hq => ho p hp (List.mem_singleton.mp hq), hJ'⟩
      rcases List.mem_append.mp hp with h1 | h1
      · rw [hsub p h1]; exact N' _ (.head _)
      · exact N' _ (.tail _ h1)
    cases f with
    | ret v => exact .ret p
    | brk => exact .brk p
    | next => exact .next (fin p)
    | cont => exact .cont (fin p)
  · rintro h' tk m' n₁ F' N' _ hJ
    exact done m' n₁ h' tk hJ F' N'
end
end
section
section
variable {prog : Program} {w : World} {A : Around} {E : Value → Shared → Prop} {s : Shared} {h₀ : Heap} {L : Addr} {m : Str → Option Value} {env : Env}
/-- a list comprehension of two clauses, no test -/
noncomputable abbrev two (elt t₁ i₁ t₂ i₂ : PySem.Expr) (scope : Scope) (pos : Pos) : PySem.Expr := .ListComp elt [⟨t₁, i₁, [], 0⟩, ⟨t₂, i₂, [], 0⟩] scope pos
theorem compTurn_two0 (elt t₁ i₁ t₂ i₂ : PySem.Expr) (scope : Scope) (pos : Pos) (it acc : Value) (env : Env) :
    compTurn (two elt t₁ i₁ t₂ i₂ scope pos) 0 it acc env = (standAt i₁.pos >>= fun _ => pyNext it >>= fun r => match r with
      | none => pure (.done .next)
      | some v => letOwnedTupleGo t₁ it v >>= fun _ => assign t₁ env v >>= fun _ => PySem.eval i₂ env >>= fun x => standAt i₂.pos >>= fun _ => foldedSetIterable i₂ env x >>= fun x => holding [x] (pyIter x) >>= fun it₂ =>
          runOwn (.compStart (two elt t₁ i₁ t₂ i₂ scope pos) 1 it₂ acc env) env >>= fun _ => 
          again (.compLoop (two elt t₁ i₁ t₂ i₂ scope pos) 0 it acc env)) := by rfl
theorem compTurn_two1 (elt t₁ i₁ t₂ i₂ : PySem.Expr) (scope : Scope) (pos : Pos) (it acc : Value) (env : Env) :
    compTurn (two elt t₁ i₁ t₂ i₂ scope pos) 1 it acc env = (standAt i₂.pos >>= fun _ => pyNext it >>= fun r => match r with
      | none => pure (.done .next)
      | some v => letOwnedTupleGo t₂ it v >>= fun _ => assign t₂ env v >>= fun _ => (PySem.eval elt env >>= fun x => call (.builtin "list.append") [acc, x] >>= fun _ => pure ()) >>= fun _ =>
          again (.compLoop (two elt t₁ i₁ t₂ i₂ scope pos) 1 it acc env)) := by rfl

theorem comp_loop0 {elt t₁ i₁ t₂ i₂ : PySem.Expr} {scope : Scope} {pos : Pos} {it acc : Value} {env : Env} {R : Result → Shared → Prop} (I : Nat → Shared → Prop) (hs : ∀ x, foldedSetIterable i₂ env x = pure x)
    (turn : ∀ n s, I n s → wpAny (model prog w) A (pyNext it) (fun r s₁ => match r with
      | none => R (.ok .next) s₁
      | some v => wpAny (model prog w) A (letOwnedTupleGo t₁ it v) (fun _ s₂ => wpAny (model prog w) A (assign t₁ env v) (fun _ s₃ =>
          wpAny (model prog w) A (PySem.eval i₂ env) (fun x s₄ => wpAny (model prog w) A (pyIter x) (fun it₂ s₅ =>
            codeAny (model prog w) A (.compStart (two elt t₁ i₁ t₂ i₂ scope pos) 1 it₂ acc env) (fun r s' => match r with | .ok _ => ∃ m, m < n ∧ I m s' | .error e => cameBackBy (model prog w) A env (notedBy (model prog w) A env fun e s' => R (.error e) s') e s') s₅)
            (notedBy (model prog w) A env fun e s' => R (.error e) s') s₄) (notedBy (model prog w) A env fun e s' => R (.error e) s') s₃) (notedBy (model prog w) A env fun e s' => R (.error e) s') s₂) (notedBy (model prog w) A env fun e s' => R (.error e) s') s₁) (notedBy (model prog w) A env fun e s' => R (.error e) s') s)
    (n : Nat) (h : I n s) : codeAny (model prog w) A (.compLoop (two elt t₁ i₁ t₂ i₂ scope pos) 0 it acc env) R s := by
  refine codeAny_loop rfl I (fun n s hI => ?_) n h
  show wpAny _ A ((compTurn (two elt t₁ i₁ t₂ i₂ scope pos) 0 it acc env).onRaise (fun x => do noteFrame x env; theTreesLotGoes x)) _ _ s
  refine wpAny_noted ?_
  rw [compTurn_two0]
  refine wpAny_bind (wpAny_standAt (wpAny_bind (wpAny_mono (turn n s hI) (fun r s₁ h₁ => ?_) fun _ _ h' => h')))
  cases r with
  | none => exact wpAny_pure h₁
  | some v =>
    refine wpAny_bind (wpAny_mono h₁ (fun _ s₂ h₂ => wpAny_bind (wpAny_mono h₂ (fun _ s₃ h₃ => wpAny_bind (wpAny_mono h₃ (fun x s₄ h₄ => wpAny_bind (wpAny_standAt ?_)) fun _ _ h' => h')) fun _ _ h' => h')) fun _ _ h' => h')
    rw [hs]
    refine wpAny_bind (wpAny_pure (wpAny_bind (wpAny_holding (wpAny_mono h₄ (fun it₂ s₅ h₅ => wpAny_bind (wpAny_runOwn ?_)) fun _ _ h' => h'))))
    rw [Around.mark_none]
    exact codeAny_mono h₅ (fun r s₆ h₆ => by
      cases r with
      | ok f => exact wpAny_pure ⟨rfl, h₆⟩
      | error e => exact h₆)
theorem comp_loop1 {elt t₁ i₁ t₂ i₂ : PySem.Expr} {scope : Scope} {pos : Pos} {it acc : Value} {env : Env} {R : Result → Shared → Prop} (I : Nat → Shared → Prop)
    (turn : ∀ n s, I n s → wpAny (model prog w) A (pyNext it) (fun r s₁ => match r with
      | none => R (.ok .next) s₁
      | some v => wpAny (model prog w) A (letOwnedTupleGo t₂ it v) (fun _ s₂ => wpAny (model prog w) A (assign t₂ env v) (fun _ s₃ =>
          wpAny (model prog w) A (PySem.eval elt env) (fun x s₅ =>
              wpAny (model prog w) A (call (.builtin "list.append") [acc, x]) (fun _ s₆ => ∃ m, m < n ∧ I m s₆) (notedBy (model prog w) A env fun e s' => R (.error e) s') s₅)
            (notedBy (model prog w) A env fun e s' => R (.error e) s') s₃) (notedBy (model prog w) A env fun e s' => R (.error e) s') s₂) (notedBy (model prog w) A env fun e s' => R (.error e) s') s₁) (notedBy (model prog w) A env fun e s' => R (.error e) s') s)
    (n : Nat) (h : I n s) : codeAny (model prog w) A (.compLoop (two elt t₁ i₁ t₂ i₂ scope pos) 1 it acc env) R s := by
  refine codeAny_loop rfl I (fun n s hI => ?_) n h
  show wpAny _ A ((compTurn (two elt t₁ i₁ t₂ i₂ scope pos) 1 it acc env).onRaise (fun x => do noteFrame x env; theTreesLotGoes x)) _ _ s
  refine wpAny_noted ?_
  rw [compTurn_two1]
  refine wpAny_bind (wpAny_standAt (wpAny_bind (wpAny_mono (turn n s hI) (fun r s₁ h₁ => ?_) fun _ _ h' => h')))
  cases r with
  | none => exact wpAny_pure h₁
  | some v =>
    exact wpAny_bind (wpAny_mono h₁ (fun _ s₂ h₂ => wpAny_bind (wpAny_mono h₂ (fun _ s₃ h₃ => wpAny_bind (wpAny_bind (wpAny_mono h₃ (fun x s₅ h₅ => wpAny_bind (wpAny_mono h₅ (fun _ s₆ h₆ => wpAny_pure (wpAny_pure ⟨rfl, h₆⟩)) fun _ _ h' => h')) fun _ _ h' => h'))) fun _ _ h' => h')) fun _ _ h' => h')
theorem comp_start1 {elt t₁ i₁ t₂ i₂ : PySem.Expr} {scope : Scope} {pos : Pos} {it acc : Value} {env : Env} {R : Result → Shared → Prop}
    (h0 : codeAny (model prog w) A (.compLoop (two elt t₁ i₁ t₂ i₂ scope pos) 1 it acc env) R s)
    (h : wpAny (model prog w) A (pyIter it) (fun it' s' => codeAny (model prog w) A (.compLoop (two elt t₁ i₁ t₂ i₂ scope pos) 1 it' acc env) R s')
      (notedBy (model prog w) A env fun x s' => R (.error x) s') s) :
    codeAny (model prog w) A (.compStart (two elt t₁ i₁ t₂ i₂ scope pos) 1 it acc env) R s := by
  refine codeAny_of_tree ?_
  show wpAny _ _ ((compStart (two elt t₁ i₁ t₂ i₂ scope pos) 1 it acc env).onRaise (fun x => do noteFrame x env; standAt theWindowsPlace)) _ _ s
  refine wpAny_notedAt ?_
  unfold compStart
  show wpAny _ _ (ask >>= _) _ _ s
  refine wpAny_bind (wpAny_askSetting (wpAny_ite ?_))
  split
  · first
      | exact wpAny_bind (wpAny_pure (wpAny_pure (And.intro rfl h0)))
      | exact wpAny_pure (And.intro rfl h0)
  · refine wpAny_bind (wpAny_rule ?_)
    show wpAny _ _ (standAt i₂.pos >>= _) _ _ s
    exact wpAny_bind (wpAny_standAt (wpAny_bind (wpAny_mono h (fun it' s' h' => wpAny_pure (And.intro rfl h')) fun _ _ x => x)))

theorem inner_block {t₁ i₁ i₂ : PySem.Expr} {scope : Scope} {cl : List (Str × Addr)} {pos px pe : Pos} {x : Str} {C D I : Addr} {fp wr : List Addr} {P Md : Nat → Value → Heap → Prop} {St : Nat → Heap → Prop} {us ys : List Value} {mC : Str → Option Value} {rest : List (Addr × Obj)} {RI : Result → Shared → Prop}
    (W : KTurns prog w A (.Name x px) I fp wr us.length P Md St) (hP : ∀ i v h, i < us.length → P i v h → us[i]? = some v)
    (hself : ∀ (s : Shared) (Q : Value → Shared → Prop) (E : Value → Shared → Prop), St 0 s.heap → Q (.ref I) s → wpAny (model prog w) A (pyIter (.ref I)) Q E s)
    (hst : St 0 s.heap) (hkind : scope.kind = .function) (hx : scope.names.lookup x = some .local) (hdb : (x == ("__debug__" : Str)) = false)
    (F : Fr h₀ L s.heap m) (hCN : s.heap.Ns C mC) (hC₀ : h₀.get? C = none) (hCL : C ≠ L) (N : News h₀ L s.heap ((D, lst ys ys.length) :: rest)) (hDC : D ≠ C) (off : ∀ p ∈ rest, p.1 ≠ C ∧ p.1 ≠ D) (hsz : ys.length + us.length ≤ 100000)
    (hwr : ∀ b ∈ wr, h₀.get? b = none ∧ b ≠ L ∧ b ≠ C ∧ b ≠ D ∧ ∀ p ∈ rest, p.1 ≠ b) (hC : C ∉ fp) (hD : D ∉ fp)
    (fin : ∀ h' tk' mC', Fr h₀ L h' m → h'.Ns C mC' → News h₀ L h' ((D, lst (ys ++ us) (ys ++ us).length) :: rest) → RI (.ok .next) { s with heap := h', toks := tk' }) :
    codeAny (model prog w) A (.compStart (two (.Name x pe) t₁ i₁ (.Name x px) i₂ scope pos) 1 (.ref I) (.ref D) (compEnvC scope cl C env)) RI s := by
  have loop : codeAny (model prog w) A (.compLoop (two (.Name x pe) t₁ i₁ (.Name x px) i₂ scope pos) 1 (.ref I) (.ref D) (compEnvC scope cl C env)) RI s := by
    refine comp_loop1 (fun k s' => ∃ h' tk i m', s' = { s with heap := h', toks := tk } ∧ i ≤ us.length ∧ k = us.length + 1 - i ∧ St i h' ∧ Fr h₀ L h' m ∧ h'.Ns C m' ∧ News h₀ L h' ((D, lst (ys ++ us.take i) (ys ++ us.take i).length) :: rest)) ?_ (us.length + 1)
      ⟨_, _, 0, mC, rfl, Nat.zero_le _, rfl, hst, F, hCN, by rw [List.take_zero, List.append_nil]; exact N⟩
    refine fun k s' hh0 => ex4 hh0 fun h' tk i m' hh1 => and7 hh1 fun es hi ek hst' F' hn' N' => ?_
    clear hh0 hh1
    subst es ek
    have next : ∀ h₂ : Heap, (∀ b o, b ∉ wr → h'.get? b = some o → h₂.get? b = some o) → Fr h₀ L h₂ m ∧ h₂.Ns C m' ∧ News h₀ L h₂ ((D, lst (ys ++ us.take i) (ys ++ us.take i).length) :: rest) := fun h₂ hk =>
      ⟨⟨F'.ns.at' fun o e => hk _ o (fun q => (hwr _ q).2.1 rfl) e, fun b o e => hk b o (fun q => by rw [(hwr _ q).1] at e; cases e) (F'.keep b o e), F'.above⟩, hn'.at' fun o e => hk _ o (fun q => (hwr _ q).2.2.1 rfl) e, fun p hp => by
        refine ⟨hk _ _ (fun q => ?_) (N' p hp).1, (N' p hp).2⟩
        rcases List.mem_cons.mp hp with rfl | hp
        · exact (hwr _ q).2.2.2.1 rfl
        · exact (hwr _ q).2.2.2.2 p hp rfl⟩
    by_cases hlt : i < us.length
    · refine W.item i _ _ _ hlt hst' fun v h₂ tk₂ hMd hk₂ => ?_
      refine W.go i v _ _ _ hMd fun h₃ hPv hst₃ hk₃ => ?_
      obtain ⟨F₃, hn₃, N₃⟩ := next h₃ fun b o hb x => hk₃ b o hb (hk₂ b o hb x)
      have hv := hP i v _ hlt hPv
      refine wpAny_assign_Name (wpAny_storeName_local (lookup_relabel_local hx) hn₃ (fun h₄ hn₄ hs₄ => ?_) (by simp [compEnvC, relabel, hkind]))
      have hst₄ : St (i + 1) h₄ := W.frame _ _ _ hst₃ fun b hb o e => hs₄.extBut b o (fun q => hC ((show b = C from q) ▸ hb)) e
      refine wpAny_Name (wpAny_loadName_local (v := v) (by simp [compEnvC, relabel, hkind]) (lookup_relabel_local hx) hn₄ (by walk_at "mem") ?_) hdb
      have zD : h₄.get? D = some (lst (ys ++ us.take i) (ys ++ us.take i).length) := hs₄.extBut _ _ hDC (N₃ _ (.head _)).1
      refine append_at (hsz := by rw [List.size_toArray, sizeLine_eq]; simp only [List.length_append, List.length_take]; walk_at "lia") zD fun h₆ hs₆ hD₆ => ?_
      rw [List.push_toArray] at hD₆
      have hys : ys ++ us.take (i + 1) = ys ++ us.take i ++ [v] := by rw [List.take_add_one, hv, List.append_assoc]; rfl
      refine ⟨us.length + 1 - (i + 1), by walk_at "lia", h₆, _, i + 1, _, rfl, hlt, rfl, W.frame _ _ _ hst₄ fun b hb o e => hs₆.extBut b o (fun q => hD (q ▸ hb)) e, ?_, hn₄.at' fun o e => hs₆.extBut _ _ hDC.symm e, fun p hp => ?_⟩
      · have F₄ : Fr h₀ L h₄ m := ⟨F₃.ns.at' fun o e => hs₄.extBut _ _ hCL.symm e, fun b o e => hs₄.extBut b o (fun q => by rw [show b = C from q, hC₀] at e; cases e) (F₃.keep b o e), F₃.above⟩
        exact F₄.change hs₆ (N _ (.head _)).2.1 (N _ (.head _)).2.2
      · rw [hys] at hp
        rcases List.mem_cons.mp hp with rfl | hp
        · refine ⟨?_, (N₃ _ (.head _)).2⟩
          rw [List.length_append (as := ys ++ us.take i), List.length_singleton]; exact hD₆
        · have z := N₃ p (.tail _ hp)
          exact ⟨hs₆.extBut _ _ (off p hp).2 (hs₄.extBut _ _ (off p hp).1 z.1), z.2⟩
    · have hin : i = us.length := by walk_at "lia"
      subst hin
      refine W.done _ _ _ hst' fun h₂ tk₂ hk₂ => ?_
      obtain ⟨F₂, hn₂, N₂⟩ := next h₂ hk₂
      rw [List.take_length] at N₂
      exact fin h₂ tk₂ m' F₂ hn₂ N₂
  exact comp_start1 loop (hself _ _ _ hst loop)

theorem inner_run {t₁ i₁ i₂ : PySem.Expr} {scope : Scope} {cl : List (Str × Addr)} {pos px pe : Pos} {x : Str} {C D q : Addr} {us ys : List Value} {e : Nat} {mC : Str → Option Value} {rest : List (Addr × Obj)} {RI : Result → Shared → Prop}
    (hh : A.handled = none) (hkind : scope.kind = .function) (hx : scope.names.lookup x = some .local) (hdb : (x == ("__debug__" : Str)) = false)
    (F : Fr h₀ L s.heap m) (hCN : s.heap.Ns C mC) (hC₀ : h₀.get? C = none) (hCL : C ≠ L) (N : News h₀ L s.heap ((D, lst ys ys.length) :: rest)) (hDC : D ≠ C) (off : ∀ p ∈ rest, p.1 ≠ C ∧ p.1 ≠ D) (hq : (q, lst us e) ∈ rest) (hsz : ys.length + us.length ≤ 100000)
    (fin : ∀ h' tk' mC', Fr h₀ L h' m → h'.Ns C mC' → News h₀ L h' ((D, lst (ys ++ us) (ys ++ us).length) :: rest) → RI (.ok .next) { s with heap := h', toks := tk' }) :
    wpAny (model prog w) A (pyIter (.ref q)) (fun it₂ s₅ => codeAny (model prog w) A (.compStart (two (.Name x pe) t₁ i₁ (.Name x px) i₂ scope pos) 1 it₂ (.ref D) (compEnvC scope cl C env)) RI s₅) E s := by
  have hl : s.heap.IsList q us.toArray := ⟨_, (N _ (.tail _ hq)).1, rfl, _, rfl⟩
  have hqlt : q < s.heap.objs.size := Heap.lt_size (N _ (.tail _ hq)).1
  refine wpAny_pyIter_list hl ?_
  generalize hI : s.heap.objs.size = I
  have up : ∀ b o, s.heap.get? b = some o → (s.heap.push { cls := .type "list_iterator", data := .fields #[.ref q, .int 0 0] }).get? b = some o := fun b o e => Heap.get?_push_of_some _ e
  have W := Walks.list (prog := prog) (w := w) hh I q (by rw [← hI]; exact Nat.ne_of_lt hqlt) us.toArray
  rw [show us.toArray.size = us.length by simp] at W
  have K := KTurns.ofWalks (target := .Name x px) W (fun i v s Q E _ q => wpAny_pure q)
  have lt : ∀ {b o}, s.heap.get? b = some o → b ≠ I := fun e => by rw [← hI]; exact Nat.ne_of_lt (Heap.lt_size e)
  have hIL : L ≠ I := hI ▸ Nat.ne_of_lt F.ns.lt
  obtain ⟨oC0, heC0, _⟩ := NsObj.has hCN
  have hIC : C ≠ I := lt heC0
  have hID : D ≠ I := lt (N _ (.head _)).1
  have hIr : ∀ p ∈ rest, p.1 ≠ I := fun p hp => lt (N _ (.tail _ hp)).1
  have hI₀ : h₀.get? I = none := hI ▸ next_is_new F
  have hqCD := off _ hq
  refine inner_block (s := { s with heap := s.heap.push _ }) K (fun i v h _ hp => by simpa using hp) (fun s Q E st q => wpAny_pyIter_listiter st.1 q)
    ⟨⟨_, by rw [← hI]; exact Heap.get?_push_size _ rfl, rfl, rfl⟩, hl.at fun o e => up _ o e⟩ hkind hx hdb (F.keeps up) (hCN.at' fun o e => up _ o e) hC₀ hCL (N.grown up) hDC off hsz (fun b hb => ?_) (fun hm => ?_) (fun hm => ?_) fin
  · rw [List.mem_singleton.mp hb]
    exact ⟨hI₀, hIL.symm, hIC.symm, hID.symm, hIr⟩
  · rcases List.mem_cons.mp hm with e | hm
    · exact hIC e
    · exact hqCD.1 (List.mem_singleton.mp hm).symm
  · rcases List.mem_cons.mp hm with e | hm
    · exact hID e
    · exact hqCD.2 (List.mem_singleton.mp hm).symm

theorem comp_block2 {target iter i₂ : PySem.Expr} {scope : Scope} {cl : List (Str × Addr)} {pos px pe : Pos} {x : Str} {B : Nat} {s₂ : Shared} {I : Addr} {fp wr : List Addr} {n : Nat} {P Md : Nat → Value → Heap → Prop} {St : Nat → Heap → Prop} {news : List (Addr × Obj)} {RR : Value → Addr → Result → Shared → Prop}
    (W : KTurns prog w A target I fp wr n P Md St) (S : Nat → (Str → Option Value) → Prop) (J : Nat → List Value → List (Addr × Obj) → Prop)
    (hself : ∀ (s : Shared) (Q : Value → Shared → Prop) (E : Value → Shared → Prop), St 0 s.heap → Q (.ref I) s → wpAny (model prog w) A (pyIter (.ref I)) Q E s)
    (hIo : ∀ i h, St i h → ∀ b ∈ wr, ∃ o, h.get? b = some o) (hsz : B ≤ 100000) (hh : A.handled = none) (hx : scope.names.lookup x = some .local) (hdb : (x == ("__debug__" : Str)) = false) (hs2 : ∀ C y, foldedSetIterable i₂ (compEnvC scope cl C env) y = pure y) (hcell : ∀ y ∈ scope.names, y.2 ≠ .cell) (hkind : scope.kind = .function) (hst : St 0 s₂.heap) (hfp : ∀ b ∈ fp, b < s₂.heap.objs.size)
    (F : Fr h₀ L s₂.heap m) (N : News h₀ L s₂.heap news) (hLf : L ∉ fp) (hwr : ∀ b ∈ wr, h₀.get? b = none) (off : ∀ p ∈ news, p.1 ∉ wr) (hJ : J 0 [] news)
    (hset : Sets prog w A target scope cl env n P S)
    (turn : ∀ i ys m₅ C oC D own news₁ h tk (E' : Value → Shared → Prop), i < n → ys.length ≤ B → S i m₅ → LCg.NsObj oC m₅ → J i ys news₁ → (∀ p ∈ news₁, p.1 ∉ wr ∧ p.1 ≠ C ∧ p.1 ≠ D) → (∀ b ∈ wr, ∃ o, (b, o) ∈ own) → (∀ p ∈ own, p.1 ∈ fp) → Fr h₀ L h m → News h₀ L h ((C, oC) :: (D, lst ys ys.length) :: (news₁ ++ own)) →
      wpAny (model prog w) A (PySem.eval i₂ (compEnvC scope cl C env)) (fun y s₄ => ∃ q us e h' tk' news₂, y = .ref q ∧ s₄ = { s₂ with heap := h', toks := tk' } ∧ Fr h₀ L h' m ∧ News h₀ L h' ((C, oC) :: (D, lst ys ys.length) :: (news₂ ++ own)) ∧ (∀ p ∈ news₂, p.1 ∉ wr ∧ p.1 ≠ C ∧ p.1 ≠ D) ∧ (q, lst us e) ∈ news₂ ∧ (ys ++ us).length ≤ B ∧ J (i + 1) (ys ++ us) news₂) E' { s₂ with heap := h, toks := tk })
    (hRR : ∀ D C h tk m' ys news', ys.length ≤ B → Fr h₀ L h m → News h₀ L h ((D, lst ys ys.length) :: news') → (∀ p ∈ news', p.1 ≠ C ∧ p.1 ≠ D) → h.Ns C m' → h₀.get? C = none → C ≠ L → C ≠ D → J n ys news' → RR (.ref D) C (.ok .next) { s₂ with heap := h, toks := tk }) :
    wpAny (model prog w) A (newList []) (fun acc s₃ => wpAny (model prog w) A (newFunctionEnv scope env.globals cl [] env.qual none .none (some env)) (fun cenv s₄ =>
      codeAny (model prog w) A (.compStart (two (.Name x pe) target iter (.Name x px) i₂ scope pos) 0 (.ref I) acc { cenv with scope := relabel scope env }) (RR acc cenv.locals) s₄) E s₃) E s₂ := by
  refine wpAny_newObj_type (wpAny_newFunctionEnv hcell (by intro y hy; simp at hy) (fun h₁ hns₁ hsb₁ => ?_) hkind)
  dsimp only at hns₁ hsb₁ ⊢
  generalize hH2 : s₂.heap.push { cls := .type "list", dict := none, data := .seq ([] : List Value).toArray } = H2 at hns₁ hsb₁ ⊢
  have hC : H2.objs.size = s₂.heap.objs.size + 1 := by rw [← hH2, Heap.size_push]
  generalize hDe : s₂.heap.objs.size = D at *
  generalize hCe : H2.objs.size = C at *
  have hCD : @Ne Nat C D := by walk_at "lia"
  have below : ∀ b, @LT.lt Nat _ b D → @Ne Nat b C ∧ @Ne Nat b D := fun b hb => ⟨by walk_at "lia", by walk_at "lia"⟩
  have hlt : ∀ {b o}, s₂.heap.get? b = some o → @LT.lt Nat _ b D := fun e => hDe ▸ Heap.lt_size e
  have hDf : D ∉ fp := fun hm => Nat.lt_irrefl _ (hfp _ hm)
  have hCf : C ∉ fp := fun hm => by have := hfp _ hm; have : @LT.lt Nat _ C D := this; walk_at "lia"
  have old : ∀ b o, s₂.heap.get? b = some o → h₁.get? b = some o := fun b o e => hsb₁.extBut b o (below b (hlt e)).1 (Heap.get?_push_of_some _ (hH2 ▸ Heap.get?_push_of_some _ e))
  have hacc : h₁.get? D = some (lst [] 0) := hsb₁.extBut _ _ hCD.symm (Heap.get?_push_of_some _ (hH2 ▸ hDe ▸ Heap.get?_push_size _ rfl))
  have hst₁ : St 0 h₁ := W.frame _ _ _ hst fun b _ o e => old b o e
  have fresh₀ : ∀ a, @LE.le Nat _ D a → h₀.get? a = none := fun a ha => by
    cases e : h₀.get? a with
    | none => rfl
    | some o' => have := hlt (F.keep a o' e); have : @LT.lt Nat _ a D := this; walk_at "lia"
  have hD₀ : h₀.get? D = none := fresh₀ _ (Nat.le_refl _)
  have hC₀ : h₀.get? C = none := fresh₀ _ (by walk_at "lia")
  have hLlt : @LT.lt Nat _ L D := hDe ▸ F.ns.lt
  have hDL : D ≠ L := (below L hLlt).2.symm
  have hCL : C ≠ L := (below L hLlt).1.symm
  have hCw : C ∉ wr := fun h => hCf (W.sub _ h)
  have hDw : D ∉ wr := fun h => hDf (W.sub _ h)
  have hLw : L ∉ wr := fun h => hLf (W.sub _ h)
  have oldw : ∀ b o, h₀.get? b = some o → b ∉ wr := fun b o e hb => by rw [hwr b hb] at e; cases e
  have off₀ : ∀ p ∈ news, p.1 ∉ wr ∧ p.1 ≠ C ∧ p.1 ≠ D := fun p hp => ⟨off p hp, (below _ (hlt (N p hp).1)).1, (below _ (hlt (N p hp).1)).2⟩
  have loop : ∀ s₃ : Shared, s₃ = { s₂ with heap := h₁, toks := s₂.toks + ([] : List (Str × Value)).length } →
      codeAny (model prog w) A (.compLoop (two (.Name x pe) target iter (.Name x px) i₂ scope pos) 0 (.ref I) (.ref D) (compEnvC scope cl C env)) (RR (.ref D) C) s₃ := by
    rintro s₃ rfl
    refine comp_loop0
      (fun k s' => ∃ h' tk i ys m' news', s' = { s₂ with heap := h', toks := tk } ∧ i ≤ n ∧ k = n + 1 - i ∧ ys.length ≤ B ∧ St i h' ∧ Fr h₀ L h' m ∧ h'.Ns C m' ∧ News h₀ L h' ((D, lst ys ys.length) :: news') ∧
        (∀ p ∈ news', p.1 ∉ wr ∧ p.1 ≠ C ∧ p.1 ≠ D) ∧ J i ys news') (hs2 C) ?_ (n + 1)
      ⟨h₁, _, 0, [], _, news, rfl, Nat.zero_le _, rfl, Nat.zero_le _, hst₁, F.keeps old, hns₁, fun p hp => ?_, off₀, hJ⟩
    · refine fun k s' hh0 => ex6 hh0 fun h' tk i ys m' news' hh1 => and10 hh1 fun es hi ek hyl hst' F' hn' N' off' hJ' => ?_
      clear hh0 hh1
      subst es ek
      have next : ∀ h₂ : Heap, (∀ b o, b ∉ wr → h'.get? b = some o → h₂.get? b = some o) → Fr h₀ L h₂ m ∧ h₂.Ns C m' ∧ News h₀ L h₂ ((D, lst ys ys.length) :: news') := fun h₂ hk =>
        ⟨⟨F'.ns.at' fun o e => hk _ o hLw e, fun b o e => hk b o (oldw b o e) (F'.keep b o e), F'.above⟩, hn'.at' fun o e => hk _ o hCw e, fun p hp => by
          refine ⟨hk _ _ ?_ (N' p hp).1, (N' p hp).2⟩
          rcases List.mem_cons.mp hp with rfl | hp
          · exact hDw
          · exact (off' p hp).1⟩
      by_cases hlt : i < n
      · refine W.item i _ _ _ hlt hst' fun v h₂ tk₂ hMd hk₂ => ?_
        refine W.go i v _ _ _ hMd fun h₃ hP hst₃ hk₃ => ?_
        obtain ⟨F₃, hn₃, N₃⟩ := next h₃ fun b o hb x => hk₃ b o hb (hk₂ b o hb x)
        refine hset i v C m' _ _ _ hlt hP hn₃ fun h₄ tk₄ m₅ hk₄ hn₄ hS => ?_
        dsimp only at hk₄
        have hst₄ : St (i + 1) h₄ := W.frame _ _ _ hst₃ fun b hb o e => hk₄ b o (fun q => hCf (q ▸ hb)) e
        obtain ⟨oC, heC, hoC⟩ := NsObj.has hn₄
        have F₄ : Fr h₀ L h₄ m := ⟨F₃.ns.at' fun o e => hk₄ _ o hCL.symm e, fun b o e => hk₄ b o (fun q => by rw [q, hC₀] at e; cases e) (F₃.keep b o e), F₃.above⟩
        have Nown : News h₀ L h₄ (PyProof.Rows.ownOf h₀ fp h₄) := news_ownOf hLf
        have N₄ : News h₀ L h₄ ((C, oC) :: (D, lst ys ys.length) :: (news' ++ PyProof.Rows.ownOf h₀ fp h₄)) := fun p hp => by
          rcases List.mem_cons.mp hp with rfl | hp
          · exact ⟨heC, hCL, hC₀⟩
          · have hp' : p ∈ (D, lst ys ys.length) :: news' ∨ p ∈ PyProof.Rows.ownOf h₀ fp h₄ := by
              rcases List.mem_cons.mp hp with rfl | hp
              · exact .inl (.head _)
              · exact (List.mem_append.mp hp).imp (List.mem_cons_of_mem _) id
            rcases hp' with hp | hp
            · have z := N₃ p hp
              refine ⟨hk₄ _ _ ?_ z.1, z.2⟩
              rcases List.mem_cons.mp hp with rfl | hp
              · exact hCD.symm
              · exact (off' p hp).2.1
            · exact Nown p hp
        have back : ∀ ys' h₅ tk₅ m₆ news₅, ys'.length ≤ B → h₅.Ns C m₆ → Fr h₀ L h₅ m → News h₀ L h₅ ((D, lst ys' ys'.length) :: (news₅ ++ PyProof.Rows.ownOf h₀ fp h₄)) → (∀ p ∈ news₅, p.1 ∉ wr ∧ p.1 ≠ C ∧ p.1 ≠ D) → J (i + 1) ys' news₅ →
            ∃ k', k' < n + 1 - i ∧ ∃ h' tk i ys m' news', { s₂ with heap := h₅, toks := tk₅ } = { s₂ with heap := h', toks := tk } ∧ i ≤ n ∧ k' = n + 1 - i ∧ ys.length ≤ B ∧ St i h' ∧ Fr h₀ L h' m ∧ h'.Ns C m' ∧ News h₀ L h' ((D, lst ys ys.length) :: news') ∧ (∀ p ∈ news', p.1 ∉ wr ∧ p.1 ≠ C ∧ p.1 ≠ D) ∧ J i ys news' := by
          intro ys' h₅ tk₅ m₆ news₅ hy hn₅ F₅ N₅ off₅ hJ₅
          refine ⟨n + 1 - (i + 1), by walk_at "lia", h₅, tk₅, i + 1, ys', m₆, news₅, rfl, hlt, rfl, hy, W.frame _ _ _ hst₄ fun b hb o e => ?_, F₅, hn₅, fun p hp => ?_, off₅, hJ₅⟩
          · cases hn : h₀.get? b with
            | some o₀ =>
              have : o₀ = o := by have q := F₄.keep b o₀ hn; rw [e] at q; exact (Option.some.inj q).symm
              exact this ▸ F₅.keep b o₀ hn
            | none => exact (N₅ _ (.tail _ (List.mem_append_right _ (mem_ownOf hb hn e)))).1
          · refine N₅ p ?_
            rcases List.mem_cons.mp hp with rfl | hp
            · exact .head _
            · exact .tail _ (List.mem_append_left _ hp)
        refine wpAny_mono (turn i ys m₅ C oC D (PyProof.Rows.ownOf h₀ fp h₄) news' h₄ tk₄ _ hlt hyl hS hoC hJ' off' (fun b hb => (hIo _ _ hst₄ b hb).imp fun o ho => mem_ownOf (W.sub _ hb) (hwr b hb) ho) (fun p hp => ownOf_sub p hp) F₄ N₄) (fun y s₄ h₄' => ?_) fun _ _ e => e
        obtain ⟨q, us, e, h₅, tk₅, news₅, rfl, rfl, F₅, N₅, off₅, hq, hB, hJ₅⟩ := h₄'
        have offr : ∀ p ∈ news₅ ++ PyProof.Rows.ownOf h₀ fp h₄, p.1 ≠ C ∧ p.1 ≠ D := fun p hp => by
          rcases List.mem_append.mp hp with hp | hp
          · exact (off₅ p hp).2
          · exact ⟨fun q => hCf (q ▸ ownOf_sub p hp), fun q => hDf (q ▸ ownOf_sub p hp)⟩
        refine inner_run hh hkind hx hdb F₅ (hoC.ns (N₅ (C, oC) (.head _)).1) hC₀ hCL (fun p hp => N₅ p (.tail _ hp)) hCD.symm offr (List.mem_append_left _ hq) (by rw [List.length_append] at hB; walk_at "lia") fun h' tk' mC' F' hn' N' => ?_
        exact back (ys ++ us) h' tk' mC' news₅ hB hn' F' N' off₅ hJ₅
      · have hin : i = n := by walk_at "lia"
        subst hin
        refine W.done _ _ _ hst' fun h₂ tk₂ hk₂ => ?_
        obtain ⟨F₂, hn₂, N₂⟩ := next h₂ hk₂
        exact hRR D C h₂ tk₂ m' ys news' hyl F₂ N₂ (fun p hp => (off' p hp).2) hn₂ hC₀ hCL hCD hJ'
    · rcases List.mem_cons.mp hp with rfl | hp
      · exact ⟨hacc, hDL, hD₀⟩
      · exact ⟨old _ _ (N p hp).1, (N p hp).2⟩
  exact codeAny_compStart_list (rest := [⟨.Name x px, i₂, [], 0⟩]) (loop _ rfl) (hself _ _ _ hst₁ (loop _ rfl))
end
end
section
section
variable {prog : Program} {w : World} {A : Around} {E : Value → Shared → Prop} {s : Shared} {h₀ : Heap} {L : Addr} {m : Str → Option Value} {env : Env}
/-- a comprehension of two clauses at its iterator -/
noncomputable def CompAt2 (prog : Program) (w : World) (A : Around) (E : Value → Shared → Prop) (env : Env) (e : PySem.Expr) (scope : Scope) (cl : List (Str × Addr)) (use : Option (Value → Sem Unit)) (Q : Value → Shared → Prop) (it : Value) (s₂ : Shared) : Prop :=
  wpAny (model prog w) A (newList []) (fun acc s₃ => wpAny (model prog w) A (newFunctionEnv scope env.globals cl [] env.qual none .none (some env)) (fun cenv s₄ =>
      codeAny (model prog w) A (.compStart e 0 it acc { cenv with scope := relabel scope env }) (compPost (model prog w) A E use Q acc cenv.locals) s₄) E s₃) E s₂
theorem ListComp2_at {elt t₁ i₁ t₂ i₂ : PySem.Expr} {scope : Scope} {cl : List (Str × Addr)} {pos : Pos} {Q : Value → Shared → Prop} 
    (hclos : closureFor scope env = pure cl) (hkind : scope.kind = .function) (hnames : ∀ y ∈ scope.names, y.2 = .local → scope.names.lookup y.1 = some .local)
    (h : wpAny (model prog w) A (PySem.eval i₁ env) (fun xv s₁ => wpAny (model prog w) A (pyIter xv) (CompAt2 prog w A E env (two elt t₁ i₁ t₂ i₂ scope pos) scope cl none Q) E s₁) E s)
    (hs : ∀ x, foldedSetIterable i₁ env x = pure x := by intro _; rfl) :
    wpAny (model prog w) A (PySem.eval (.ListComp elt [⟨t₁, i₁, [], 0⟩, ⟨t₂, i₂, [], 0⟩] scope pos) env) Q E s := by
  rw [eval_ListComp]
  exact wpAny_comprehension_free (use := none) rfl hs hclos hkind hnames h
theorem Assign2_at {elt t₁ i₁ t₂ i₂ : PySem.Expr} {scope : Scope} {cl : List (Str × Addr)} {y : Str} {py pos spos : Pos} {Q : Flow → Shared → Prop} 
    (hsw : swapsWith (.ListComp elt [⟨t₁, i₁, [], 0⟩, ⟨t₂, i₂, [], 0⟩] scope pos) (some (.Name y py)) spos.line env = pure true)
    (hclos : closureFor scope env = pure cl) (hkind : scope.kind = .function) (hnames : ∀ y ∈ scope.names, y.2 = .local → scope.names.lookup y.1 = some .local)
    (h : wpAny (model prog w) A (PySem.eval i₁ env) (fun xv s₁ => wpAny (model prog w) A (pyIter xv) (CompAt2 prog w A E env (two elt t₁ i₁ t₂ i₂ scope pos) scope cl (some (assign (.Name y py) env)) (fun _ s' => Q .next s')) E s₁) E s)
    (hs : ∀ x, foldedSetIterable i₁ env x = pure x := by intro _; rfl) :
    wpAny (model prog w) A (exec (.Assign [.Name y py] (.ListComp elt [⟨t₁, i₁, [], 0⟩, ⟨t₂, i₂, [], 0⟩] scope pos) spos) env) Q E s := by
  rw [exec_Assign_Name_used _ _ _ _ hsw]
  refine wpAny_bind (wpAny_standAt (wpAny_bind ?_))
  show wpAny _ A (do let _ ← comprehension (.ListComp elt [⟨t₁, i₁, [], 0⟩, ⟨t₂, i₂, [], 0⟩] scope pos) scope env _ (newList []) false (PySem.eval i₁ env) (some (assign (.Name y py) env))) _ _ s
  exact wpAny_bind (wpAny_mono (wpAny_comprehension_free (use := some (assign (.Name y py) env)) (Q := fun _ s' => Q .next s') rfl hs hclos hkind hnames h) (fun _ s' hq => wpAny_pure (wpAny_pure hq)) fun _ _ e => e)
/-- the turns of a comprehension of two clauses -/
noncomputable def CTurn2 (prog : Program) (w : World) (A : Around) (h₀ : Heap) (L : Addr) (m : Str → Option Value) (env : Env) (i₂ : PySem.Expr) (scope : Scope) (cl : List (Str × Addr)) (ax : Addr) (B : Nat) (S : Nat → (Str → Option Value) → Prop) (J : Nat → List Value → List (Addr × Obj) → Prop) (n : Nat) (s : Shared) : Prop :=
  ∀ (wr : List Addr) (i : Nat) (ys : List Value) (m₅ : Str → Option Value) (C : Addr) (oC : Obj) (D : Addr) (own news₁ : List (Addr × Obj)) (h : Heap) (tk : Nat) (E' : Value → Shared → Prop), i < n → ys.length ≤ B → S i m₅ → LCg.NsObj oC m₅ → J i ys news₁ → (∀ p ∈ news₁, p.1 ∉ wr ∧ p.1 ≠ C ∧ p.1 ≠ D) → (∀ b ∈ wr, ∃ o, (b, o) ∈ own) → (∀ p ∈ own, p.1 ∈ wr ∨ p.1 = ax) → Fr h₀ L h m → News h₀ L h ((C, oC) :: (D, lst ys ys.length) :: (news₁ ++ own)) →
      wpAny (model prog w) A (PySem.eval i₂ (compEnvC scope cl C env)) (fun y s₄ => ∃ q us e h' tk' news₂, y = .ref q ∧ s₄ = { s with heap := h', toks := tk' } ∧ Fr h₀ L h' m ∧ News h₀ L h' ((C, oC) :: (D, lst ys ys.length) :: (news₂ ++ own)) ∧ (∀ p ∈ news₂, p.1 ∉ wr ∧ p.1 ≠ C ∧ p.1 ≠ D) ∧ (q, lst us e) ∈ news₂ ∧ (ys ++ us).length ≤ B ∧ J (i + 1) (ys ++ us) news₂) E' { s with heap := h, toks := tk }
noncomputable def CFin2 (prog : Program) (w : World) (A : Around) (E : Value → Shared → Prop) (h₀ : Heap) (L : Addr) (m : Str → Option Value) (use : Option (Value → Sem Unit)) (Q : Value → Shared → Prop) (J : Nat → List Value → List (Addr × Obj) → Prop) (B n : Nat) (s : Shared) : Prop :=
  ∀ D C h tk m' ys news', ys.length ≤ B → Fr h₀ L h m → News h₀ L h ((D, lst ys ys.length) :: news') → (∀ p ∈ news', p.1 ≠ C ∧ p.1 ≠ D) → h.Ns C m' → h₀.get? C = none → C ≠ L → C ≠ D → J n ys news' → compPost (model prog w) A E use Q (.ref D) C (.ok .next) { s with heap := h, toks := tk }
theorem finE2 {Q : Value → Shared → Prop} {J : Nat → List Value → List (Addr × Obj) → Prop} {B n : Nat}
    (fin : ∀ D h tk ys news', ys.length ≤ B → Fr h₀ L h m → News h₀ L h ((D, lst ys ys.length) :: news') → (∀ p ∈ news', p.1 ≠ D) → J n ys news' → Q (.ref D) { s with heap := h, toks := tk }) :
    CFin2 prog w A E h₀ L m none Q J B n s := by
  intro D C h tk m' ys news' hy F' N' off hn hC₀ hCL hCD hJ
  refine ⟨m', hn, fun h'' hs'' => fin D h'' tk ys news' hy (F'.change hs'' hCL hC₀) (fun p hp => ?_) (fun p hp => (off p hp).2) hJ⟩
  refine ⟨hs''.extBut _ _ ?_ (N' p hp).1, (N' p hp).2⟩
  rcases List.mem_cons.mp hp with rfl | hp
  · exact hCD.symm
  · exact (off p hp).1
theorem finA2 {y : Str} {py : Pos} {Q : Flow → Shared → Prop} {J : Nat → List Value → List (Addr × Obj) → Prop} {B n : Nat} (hL : env.locals = L)
    (hy : env.kindOf y = some .local) (hp : (env.scope.kind == .class || (env.scope.kind == .module && env.locals != env.globals)) = false)
    (fin : ∀ D h tk ys news', ys.length ≤ B → Fr h₀ L h (fun z => if z = y then some (.ref D) else m z) → News h₀ L h ((D, lst ys ys.length) :: news') → (∀ p ∈ news', p.1 ≠ D) → J n ys news' → Q .next { s with heap := h, toks := tk }) :
    CFin2 prog w A E h₀ L m (some (assign (.Name y py) env)) (fun _ s' => Q .next s') J B n s := by
  subst hL
  intro D C h tk m' ys news' hyl F' N' off hn hC₀ hCL hCD hJ
  show wpAny _ A (assign (.Name y py) env (.ref D)) _ _ _
  refine wpAny_assign_Name (wpAny_storeName_local hy F'.ns (fun h₂ hn₂ hs₂ => ?_) hp)
  have hL₀ : h₀.get? env.locals = none := Heap.get?_none_of_le F'.above
  have F₂ : Fr h₀ env.locals h₂ (fun z => if z = y then some (.ref D) else m z) := ⟨hn₂, fun b o e => hs₂.extBut b o (fun q => by rw [q, hL₀] at e; cases e) (F'.keep b o e), F'.above⟩
  refine ⟨m', hn.sameBut hs₂ hCL, fun h'' hs'' => fin D h'' _ ys news' hyl (F₂.change hs'' hCL hC₀) (fun p hp => ?_) (fun p hp => (off p hp).2) hJ⟩
  have z : h₂.get? p.1 = some p.2 := hs₂.extBut _ _ (N' p hp).2.1 (N' p hp).1
  refine ⟨hs''.extBut _ _ ?_ z, (N' p hp).2⟩
  rcases List.mem_cons.mp hp with rfl | hp
  · exact hCD.symm
  · exact (off p hp).1
theorem comp_two {i₁ i₂ : PySem.Expr} {scope : Scope} {cl : List (Str × Addr)} {pos px px₂ pe : Pos} {x x₂ : Str} {use : Option (Value → Sem Unit)} {Q : Value → Shared → Prop} {ax : Addr} {vs : List Value} {news : List (Addr × Obj)} (B : Nat) (J : Nat → List Value → List (Addr × Obj) → Prop)
    (hh : A.handled = none) (hl : s.heap.IsList ax vs.toArray) (haL : ax ≠ L) (hsz : B ≤ 100000) (F : Fr h₀ L s.heap m) (N : News h₀ L s.heap news) (hJ : J 0 [] news)
    (turn : CTurn2 prog w A h₀ L m env i₂ scope cl ax B (fun i m₅ => ∃ v, vs[i]? = some v ∧ m₅ x = some v) J vs.length s)
    (fin : CFin2 prog w A E h₀ L m use Q J B vs.length s)
    (hs2 : ∀ C y, foldedSetIterable i₂ (compEnvC scope cl C env) y = pure y := by intro _ _; rfl)
    (hcell : ∀ y ∈ scope.names, y.2 ≠ .cell := by decide) (hkind : scope.kind = .function := by rfl) (hx : scope.names.lookup x = some .local := by rfl) (hx₂ : scope.names.lookup x₂ = some .local := by rfl) (hdb : (x₂ == ("__debug__" : Str)) = false := by decide) :
    wpAny (model prog w) A (pyIter (.ref ax)) (CompAt2 prog w A E env (two (.Name x₂ pe) (.Name x px) i₁ (.Name x₂ px₂) i₂ scope pos) scope cl use Q) E s := by
  obtain ⟨ol, hol, _⟩ := id hl
  have hlt : ax < s.heap.objs.size := Heap.lt_size hol
  refine wpAny_pyIter_list hl ?_
  have up : ∀ b o, s.heap.get? b = some o → (s.heap.push { cls := .type "list_iterator", data := .fields #[.ref ax, .int 0 0] }).get? b = some o := fun b o e => Heap.get?_push_of_some _ e
  have W := Walks.list (prog := prog) (w := w) hh s.heap.objs.size ax (Nat.ne_of_lt hlt) vs.toArray
  rw [show vs.toArray.size = vs.length by simp] at W
  refine comp_block2 (s₂ := { s with heap := s.heap.push _ }) (KTurns.ofWalks W (fun i v s Q E _ q => wpAny_pure q)) (fun i m₅ => ∃ v, vs[i]? = some v ∧ m₅ x = some v) J (fun s Q E st q => wpAny_pyIter_listiter st.1 q) (fun i h st b hb => by rw [List.mem_singleton.mp hb]; obtain ⟨o, e, _⟩ := st.1; exact ⟨o, e⟩) hsz hh hx₂ hdb hs2 hcell hkind
    ⟨⟨_, Heap.get?_push_size _ rfl, rfl, rfl⟩, hl.at fun o e => up _ o e⟩ (fun b hb => ?_) (F.keeps up) (N.grown up) ?_ (fun b hb => ?_) (fun p hp hI => ?_) hJ (sets_name hkind hx fun i v h _ hp => by simpa using hp) (fun i ys m₅ C oC D own news₁ h tk E' h1 h2 h3 h4 h5 h6 h7 h8 => turn [s.heap.objs.size] i ys m₅ C oC D own news₁ h tk E' h1 h2 h3 h4 h5 h6 h7 (fun p hp => by
      rcases List.mem_cons.mp (h8 p hp) with e | e
      · exact .inl (by rw [e]; exact .head _)
      · exact .inr (List.mem_singleton.mp e))) fin
  · show b < (s.heap.push _).objs.size
    rw [Heap.size_push]
    rcases List.mem_cons.mp hb with rfl | hb
    · exact Nat.lt_succ_self _
    · rw [List.mem_singleton.mp hb]; exact Nat.lt_succ_of_lt hlt
  · intro hm
    rcases List.mem_cons.mp hm with e | hm
    · exact absurd F.ns.lt (e ▸ Nat.lt_irrefl _)
    · exact haL (List.mem_singleton.mp hm).symm
  · rw [List.mem_singleton.mp hb]; exact next_is_new F
  · exact absurd (Heap.lt_size (N p hp).1) ((List.mem_singleton.mp hI) ▸ Nat.lt_irrefl _)
theorem finV {y : Str} {py : Pos} {Q : Value → Shared → Prop} {J : Nat → List Value → List (Addr × Obj) → Prop} {n : Nat} (hL : env.locals = L)
    (hy : env.kindOf y = some .local) (hp : (env.scope.kind == .class || (env.scope.kind == .module && env.locals != env.globals)) = false)
    (fin : ∀ D h tk ys news', ys.length ≤ n → Fr h₀ L h (fun z => if z = y then some (.ref D) else m z) → News h₀ L h ((D, lst ys ys.length) :: news') → (∀ p ∈ news', p.1 ≠ D) → J n ys news' → Q .none { s with heap := h, toks := tk }) :
    CFin prog w A E h₀ L m (some (assign (.Name y py) env)) Q J n s := by
  subst hL
  intro D C h tk m' ys news' hyl F' N' off hn hC₀ hCL hCD hJ
  show wpAny _ A (assign (.Name y py) env (.ref D)) _ _ _
  refine wpAny_assign_Name (wpAny_storeName_local hy F'.ns (fun h₂ hn₂ hs₂ => ?_) hp)
  have hL₀ : h₀.get? env.locals = none := Heap.get?_none_of_le F'.above
  have F₂ : Fr h₀ env.locals h₂ (fun z => if z = y then some (.ref D) else m z) := ⟨hn₂, fun b o e => hs₂.extBut b o (fun q => by rw [q, hL₀] at e; cases e) (F'.keep b o e), F'.above⟩
  refine ⟨m', hn.sameBut hs₂ hCL, fun h'' hs'' => fin D h'' _ ys news' hyl (F₂.change hs'' hCL hC₀) (fun p hp => ?_) (fun p hp => (off p hp).2) hJ⟩
  have z : h₂.get? p.1 = some p.2 := hs₂.extBut _ _ (N' p hp).2.1 (N' p hp).1
  refine ⟨hs''.extBut _ _ ?_ z, (N' p hp).2⟩
  rcases List.mem_cons.mp hp with rfl | hp
  · exact hCD.symm
  · exact (off p hp).1

end
end
section
section
variable {prog : Program} {w : World} {A : Around} {E : Value → Shared → Prop} {s : Shared} {env : Env} {h₀ : Heap} {L : Addr} {m : Str → Option Value} {elt : PySem.Expr} {ifs : List PySem.Expr} {scope : Scope} {cl : List (Str × Addr)} {base : List (Addr × Obj)} {K : Nat → List Value → Prop} {n : Nat}
/-! turns of a comprehension over a ledger that stays: all parts one by one, no pattern in the walk -/
theorem turn_list {vs : List Value} {x : Str} (turn : ∀ wr i ys m₅ C oC D own h tk (E' : Value → Shared → Prop) v, i < n → ys.length ≤ i → vs[i]? = some v → m₅ x = some v → LCg.NsObj oC m₅ → K i ys → (∀ p ∈ base, p.1 ∉ wr ∧ p.1 ≠ C ∧ p.1 ≠ D) → (∀ b ∈ wr, ∃ o, (b, o) ∈ own) → Fr h₀ L h m → News h₀ L h ((C, oC) :: (D, lst ys ys.length) :: (base ++ own)) →
      wpAny (model prog w) A (forIn ifs true fun c r => if r = true then do let ok ← isTrue c (compEnvC scope cl C env) (PySem.eval c (compEnvC scope cl C env)); pure (ForInStep.yield ok) else pure (ForInStep.yield r)) (fun ok s₄ =>
        if ok = true then wpAny (model prog w) A (PySem.eval elt (compEnvC scope cl C env)) (fun y => CEnd h₀ L m wr own C oC D (lst ys ys.length) (fun n₁ => n₁ = base ∧ K (i + 1) (ys ++ [y])) { s with heap := h, toks := tk }) E' s₄
        else CEnd h₀ L m wr own C oC D (lst ys ys.length) (fun n₁ => n₁ = base ∧ K (i + 1) ys) { s with heap := h, toks := tk } s₄) E' { s with heap := h, toks := tk }) :
    CTurn prog w A h₀ L m env elt ifs scope cl (fun i m₅ => ∃ v, vs[i]? = some v ∧ m₅ x = some v) (fun i ys n₁ => n₁ = base ∧ K i ys) n s := by
  rintro wr i ys m₅ C oC D own news₁ h tk E' hi hyl ⟨v, hv, hm⟩ hoC ⟨rfl, hK⟩ off hwo F N
  exact turn wr i ys m₅ C oC D own h tk E' v hi hyl hv hm hoC hK off hwo F N
theorem turn_range {x : Str} (turn : ∀ wr i ys m₅ C oC D own h tk (E' : Value → Shared → Prop) t, i < n → ys.length ≤ i → m₅ x = some (.int (i : Int) t) → LCg.NsObj oC m₅ → K i ys → (∀ p ∈ base, p.1 ∉ wr ∧ p.1 ≠ C ∧ p.1 ≠ D) → (∀ b ∈ wr, ∃ o, (b, o) ∈ own) → Fr h₀ L h m → News h₀ L h ((C, oC) :: (D, lst ys ys.length) :: (base ++ own)) →
      wpAny (model prog w) A (forIn ifs true fun c r => if r = true then do let ok ← isTrue c (compEnvC scope cl C env) (PySem.eval c (compEnvC scope cl C env)); pure (ForInStep.yield ok) else pure (ForInStep.yield r)) (fun ok s₄ =>
        if ok = true then wpAny (model prog w) A (PySem.eval elt (compEnvC scope cl C env)) (fun y => CEnd h₀ L m wr own C oC D (lst ys ys.length) (fun n₁ => n₁ = base ∧ K (i + 1) (ys ++ [y])) { s with heap := h, toks := tk }) E' s₄
        else CEnd h₀ L m wr own C oC D (lst ys ys.length) (fun n₁ => n₁ = base ∧ K (i + 1) ys) { s with heap := h, toks := tk } s₄) E' { s with heap := h, toks := tk }) :
    CTurn prog w A h₀ L m env elt ifs scope cl (fun i m₅ => ∃ v, (∃ t, v = .int (i : Int) t) ∧ m₅ x = some v) (fun i ys n₁ => n₁ = base ∧ K i ys) n s := by
  rintro wr i ys m₅ C oC D own news₁ h tk E' hi hyl ⟨v, ⟨t, rfl⟩, hm⟩ hoC ⟨rfl, hK⟩ off hwo F N
  exact turn wr i ys m₅ C oC D own h tk E' t hi hyl hm hoC hK off hwo F N
theorem turn_enum {vs : List Value} {x x₂ : Str} (turn : ∀ wr i ys m₅ C oC D own h tk (E' : Value → Shared → Prop) t v, i < n → ys.length ≤ i → vs[i]? = some v → m₅ x = some (.int (i : Int) t) → m₅ x₂ = some v → LCg.NsObj oC m₅ → K i ys → (∀ p ∈ base, p.1 ∉ wr ∧ p.1 ≠ C ∧ p.1 ≠ D) → (∀ b ∈ wr, ∃ o, (b, o) ∈ own) → Fr h₀ L h m → News h₀ L h ((C, oC) :: (D, lst ys ys.length) :: (base ++ own)) →
      wpAny (model prog w) A (forIn ifs true fun c r => if r = true then do let ok ← isTrue c (compEnvC scope cl C env) (PySem.eval c (compEnvC scope cl C env)); pure (ForInStep.yield ok) else pure (ForInStep.yield r)) (fun ok s₄ =>
        if ok = true then wpAny (model prog w) A (PySem.eval elt (compEnvC scope cl C env)) (fun y => CEnd h₀ L m wr own C oC D (lst ys ys.length) (fun n₁ => n₁ = base ∧ K (i + 1) (ys ++ [y])) { s with heap := h, toks := tk }) E' s₄
        else CEnd h₀ L m wr own C oC D (lst ys ys.length) (fun n₁ => n₁ = base ∧ K (i + 1) ys) { s with heap := h, toks := tk } s₄) E' { s with heap := h, toks := tk }) :
    CTurn prog w A h₀ L m env elt ifs scope cl (fun i m₅ => ∃ a b, ((∃ t, a = .int (i : Int) t) ∧ vs[i]? = some b) ∧ m₅ x = some a ∧ m₅ x₂ = some b) (fun i ys n₁ => n₁ = base ∧ K i ys) n s := by
  rintro wr i ys m₅ C oC D own news₁ h tk E' hi hyl ⟨a, b, ⟨⟨t, rfl⟩, hb⟩, hma, hmb⟩ hoC ⟨rfl, hK⟩ off hwo F N
  exact turn wr i ys m₅ C oC D own h tk E' t b hi hyl hb hma hmb hoC hK off hwo F N
theorem turn_zip {vs us : List Value} {x x₂ : Str} (turn : ∀ wr i ys m₅ C oC D own h tk (E' : Value → Shared → Prop) a b, i < n → ys.length ≤ i → vs[i]? = some a → us[i]? = some b → m₅ x = some a → m₅ x₂ = some b → LCg.NsObj oC m₅ → K i ys → (∀ p ∈ base, p.1 ∉ wr ∧ p.1 ≠ C ∧ p.1 ≠ D) → (∀ b ∈ wr, ∃ o, (b, o) ∈ own) → Fr h₀ L h m → News h₀ L h ((C, oC) :: (D, lst ys ys.length) :: (base ++ own)) →
      wpAny (model prog w) A (forIn ifs true fun c r => if r = true then do let ok ← isTrue c (compEnvC scope cl C env) (PySem.eval c (compEnvC scope cl C env)); pure (ForInStep.yield ok) else pure (ForInStep.yield r)) (fun ok s₄ =>
        if ok = true then wpAny (model prog w) A (PySem.eval elt (compEnvC scope cl C env)) (fun y => CEnd h₀ L m wr own C oC D (lst ys ys.length) (fun n₁ => n₁ = base ∧ K (i + 1) (ys ++ [y])) { s with heap := h, toks := tk }) E' s₄
        else CEnd h₀ L m wr own C oC D (lst ys ys.length) (fun n₁ => n₁ = base ∧ K (i + 1) ys) { s with heap := h, toks := tk } s₄) E' { s with heap := h, toks := tk }) :
    CTurn prog w A h₀ L m env elt ifs scope cl (fun i m₅ => ∃ a b, (vs[i]? = some a ∧ us[i]? = some b) ∧ m₅ x = some a ∧ m₅ x₂ = some b) (fun i ys n₁ => n₁ = base ∧ K i ys) n s := by
  rintro wr i ys m₅ C oC D own news₁ h tk E' hi hyl ⟨a, b, ⟨ha, hb⟩, hma, hmb⟩ hoC ⟨rfl, hK⟩ off hwo F N
  exact turn wr i ys m₅ C oC D own h tk E' a b hi hyl ha hb hma hmb hoC hK off hwo F N
theorem turn_range_c {x : Str} (turn : ∀ wr i t ys m₅ C oC D K' oK own h tk (E' : Value → Shared → Prop), i < n → ys.length ≤ i → LCg.NsObj oC m₅ → oK.data = .cell (some (.int (i : Int) t)) → K i ys → (∀ p ∈ base, p.1 ∉ wr ∧ p.1 ≠ C ∧ p.1 ≠ D ∧ p.1 ≠ K') → (∀ b ∈ wr, ∃ o, (b, o) ∈ own) → Fr h₀ L h m → News h₀ L h ((C, oC) :: (D, lst ys ys.length) :: (K', oK) :: (base ++ own)) →
      wpAny (model prog w) A (forIn ifs true fun c' r => if r = true then do let ok ← isTrue c' (compEnvC scope ((x, K') :: cl) C env) (PySem.eval c' (compEnvC scope ((x, K') :: cl) C env)); pure (ForInStep.yield ok) else pure (ForInStep.yield r)) (fun ok s₄ =>
        if ok = true then wpAny (model prog w) A (PySem.eval elt (compEnvC scope ((x, K') :: cl) C env)) (fun y => CEndC h₀ L m wr own C oC D (lst ys ys.length) K' oK (fun n₁ => n₁ = base ∧ K (i + 1) (ys ++ [y])) { s with heap := h, toks := tk }) E' s₄
        else CEndC h₀ L m wr own C oC D (lst ys ys.length) K' oK (fun n₁ => n₁ = base ∧ K (i + 1) ys) { s with heap := h, toks := tk } s₄) E' { s with heap := h, toks := tk }) :
    CTurnC prog w A h₀ L m env elt ifs scope cl x (fun i v => ∃ t, v = .int (i : Int) t) (fun i ys n₁ => n₁ = base ∧ K i ys) n s := by
  rintro wr i v ys m₅ C oC D K' oK own news₁ h tk E' hi hyl ⟨t, rfl⟩ hoC hoK ⟨rfl, hK⟩ off hwo F N
  exact turn wr i t ys m₅ C oC D K' oK own h tk E' hi hyl hoC hoK hK off hwo F N
theorem finVF {y : Str} {py : Pos} {Q : Value → Shared → Prop} (hL : env.locals = L) (hy : env.kindOf y = some .local) (hp : (env.scope.kind == .class || (env.scope.kind == .module && env.locals != env.globals)) = false)
    (fin : ∀ D h tk ys, ys.length ≤ n → Fr h₀ L h (fun z => if z = y then some (.ref D) else m z) → News h₀ L h ((D, lst ys ys.length) :: base) → (∀ p ∈ base, p.1 ≠ D) → K n ys → Q .none { s with heap := h, toks := tk }) :
    CFin prog w A E h₀ L m (some (assign (.Name y py) env)) Q (fun i ys n₁ => n₁ = base ∧ K i ys) n s := finV hL hy hp fun D h tk ys news' hyl F N off hJ => by
  obtain ⟨rfl, hK⟩ := hJ
  exact fin D h tk ys hyl F N off hK
theorem finF {Q : Value → Shared → Prop} (fin : ∀ D h tk ys, ys.length ≤ n → Fr h₀ L h m → News h₀ L h ((D, lst ys ys.length) :: base) → (∀ p ∈ base, p.1 ≠ D) → K n ys → Q (.ref D) { s with heap := h, toks := tk }) :
    CFin prog w A E h₀ L m none Q (fun i ys n₁ => n₁ = base ∧ K i ys) n s := finE fun D h tk ys news' hy F N off hJ => by
  obtain ⟨rfl, hK⟩ := hJ
  exact fin D h tk ys hy F N off hK
end
/-- a pure piece whose value is known -/
theorem cut_eq {α : Type} {M : Model} {A : Around} {t : Sem α} {Q : α → Shared → Prop} {E : Value → Shared → Prop} {s : Shared} {h₀ : Heap} {L : Addr} {m : Str → Option Value} {news : List (Addr × Obj)} (F : Fr h₀ L s.heap m) (N : News h₀ L s.heap news) (x : α)
    (h : ∀ Q' : α → Shared → Prop, (∀ v h' tk', v = x → Fr h₀ L h' m → News h₀ L h' news → Q' v { s with heap := h', toks := tk' }) → wpAny M A t Q' (fun _ _ => False) s)
    (k : ∀ h' tk', Fr h₀ L h' m → News h₀ L h' news → Q x { s with heap := h', toks := tk' }) : wpAny M A t Q E s :=
  cut_pure F N (fun v => v = x) h (by rintro v h' tk' rfl F' N'; exact k h' tk' F' N')
/-- an element of a list of ints, of words -/
inductive IntAt (ns : List Int) (i : Nat) : Value → Prop
  | mk : ∀ n t, ns[i]? = some n → IntAt ns i (.int n t)
theorem int_at {vs : List Value} {ns : List Int} (h : IntsAre vs ns) {i : Nat} {v : Value} (hv : vs[i]? = some v) : IntAt ns i v := by
  obtain ⟨n, t, hn, rfl⟩ := ints_item h hv
  exact .mk n t hn
inductive WordAt (ks : List Nat) (i : Nat) : Value → Prop
  | mk : ∀ x t, ks[i]? = some x → WordAt ks i (.str (wd x) t)
theorem word_at {vs : List Value} {ks : List Nat} {i : Nat} {v : Value} (h : StrsAre vs (ks.map wd)) (hv : vs[i]? = some v) : WordAt ks i v := by
  obtain ⟨x, t, hx, rfl⟩ := strs_word h hv
  exact .mk x t hx
end
local macro_rules | `(tactic| k_steps) => `(tactic| ((try k_fold); repeat' ((fail_if_success (with_reducible show Stop _)); first | (k_unfold; (try dsimp only)) | (k_end; wrow_close) | ((try dsimp only); walk1) | (leave1; walk_say "STEP leave1"; try dsimp only) | fail "no step")))
local macro_rules | `(tactic| walk_at "halt") => `(tactic| (k_here; refine Stop.of ?_))
local macro_rules | `(tactic| walk_at $k:str) => if k.getString == "call ref" || k.getString == "pyIter ref" then `(tactic| walk_at "halt") else Lean.Macro.throwUnsupported
section
section
local macro_rules | `(tactic| walk_at "binaryOp Add str str") => `(tactic| (k_here; (refine SBL.add (hsz := ?hsz) ?_); (case hsz => (have : (Str.ofString "=").length = 1 := by decide); simp only [Str.length_append] at *; rw [sizeLine_eq]; walk_at "lia"); intro _ _ _))
local macro_rules | `(tactic| walk_at "callWith ref") => `(tactic| (k_here; k_dflt (refine' callWith_M (he := star_binop) ?k1 ?k2 ?k3 ?k4 ?_; (case k1 => k_asm); (case k2 => k_asm); (case k3 => k_mem); (case k4 => k_is); k_whole)))
local macro_rules | `(tactic| walk_at "exec For Name Name cons nil") => `(tactic| (k_here; (rename Fr _ _ _ _ => lF'); (with_unfolding_all refine' For_invVF lF' ?k1 ?k2 ?_; (case k1 => exact rfl); (case k2 => exact rfl); k_whole)))
local macro_rules | `(tactic| walk_at "subscriptTail") => `(tactic| walk_at "halt")
theorem prs_len {prs : List PRec} {ns : List Int} {vs : List Value} {i : Nat} (ha : All2 PIs prs (ns.take i)) (hi : IntsAre vs ns) (hlen : vs.length ≤ 100) : (prs.map pval).length ≤ 100000 := by
  have h1 := ha.len
  have h2 := hi.length
  rw [List.length_take] at h1
  rw [List.length_map]
  omega
set_option maxRecDepth 100000 in
set_option maxHeartbeats 2000000 in
theorem pairs_t {w : World} {nl : Addr} {vs : List Value} {ns : List Int} {k : Nat} {news : List (Addr × Obj)} (hi : IntsH vs ns) (hnd : ND ((nl, lst vs k) :: news)) (hlen : vs.length ≤ 100) : Calls w 234 [.ref nl] ((nl, lst vs k) :: news) 150 1500 (PairsPost nl (lst vs k) ns news) := by
  unfold Calls
  intro dp un gd cn cs a ccd cl outer A₀ base h₀ L m s Q E loose mean mg mb B YB F X N T hk hdp hu hret
  refine wpAny_call ?_
  k_dflt (walk_at "enter")
  (with_reducible rename Fr _ _ _ _ => kF)
  replace kF : Fr _ _ _ (fun y => List.lookup y [(Str.ofString "numbers", Value.ref nl)]) := kF
  (with_reducible rename News _ _ _ _ => N1)
  rename_i g1 L1 hp1 FG1 B1 X1 T1
  refine body_cut (LeftR g1 L1 s (PairsPost nl (lst vs k) ns news)) (fun Q' hq => ?_) fun f s' hp => ?_
  rotate_left
  · clear kF N1
    cases hp with | mk r led h tk m hp kF N1 =>
    k_steps
    exact hret _ _ _ _ hp (by k_asm) (by k_asm)
  clear hret B F N
  refine name_run ?_
  intro en AA
  k_steps
  refine Stop.go ?_
  refine Calls.use words_t (by k_asm) (by k_asm) (by k_asm) (by k_asm) (by k_asm) (by k_asm) (by rfl) (by walk_at "side") (by walk_at "side") ?_
  rintro r led h' tk' ⟨wl, t1, t2, t3, t4, t5, hwl⟩ F' N'
  k_steps
  (with_reducible rename Fr _ _ _ _ => kF); (with_reducible rename News _ _ _ _ => kN)
  refine Stop.go ?_
  refine with_head kN fun pl hpl kN => ?_
  subst hpl
  refine with_fr kF fun M hM kF => ?_
  refine for_list (vs := vs) (e := k) (news := (pl, lst [] 0) :: (wl, lst [.str "B" t1, .str "a" t2, .str "a b" t3, .str "c" t4, .str "d" t5] 0) :: news)
    (PairsJ M pl wl nl (lst [.str "B" t1, .str "a" t2, .str "a b" t3, .str "c" t4, .str "d" t5] 0) (lst vs k) ns news) rfl kF (fun p hp => kN p ?_) ?_ ?_ ?_
  · first
    | exact sub_cat [[_], [_], [_], _] [2, 0, 1, 3] [0, 1, 2, 3] (by decide) p hp
    | exact sub_cat [[_], [_], [_], _] [1, 0, 2, 3] [0, 1, 2, 3] (by decide) p hp
    | exact sub_cat [[_], [_], [_], _] [2, 1, 0, 3] [0, 1, 2, 3] (by decide) p hp
    | exact sub_cat [[_], [_], [_], _] [0, 1, 2, 3] [0, 1, 2, 3] (by decide) p hp
    | exact sub_cat [[_], [_], [_], _] [0, 2, 1, 3] [0, 1, 2, 3] (by decide) p hp
  · refine ⟨M (Str.ofString "x"), M (Str.ofString "blank"), ?_, [], 0, ?_, .nil⟩
    · funext z
      by_cases h1 : z = Str.ofString "x"
      · subst h1; rw [if_pos rfl]
      · by_cases h2 : z = Str.ofString "blank"
        · subst h2; rw [if_neg h1, if_pos rfl]
        · rw [if_neg h1, if_neg h2]
    · have hl : wl < pl ∧ nl < pl ∧ AllLt pl news := by assumption
      exact pairs_nd hnd hwl hl
  · rintro i v m₁ n₁ h tk I oI hv ⟨up, ue, rfl, prs, e, nd, ha⟩ hI hpl F₁ N₁
    obtain ⟨n, tn, hn⟩ := int_at hi.h hv
    have e2 : (fun y => if y = Str.ofString "x" then some (.int n tn) else (fun z => if z = Str.ofString "x" then up else if z = Str.ofString "blank" then ue else M z) y) = fun y => if y = Str.ofString "x" then some (Value.int n tn) else if y = Str.ofString "blank" then ue else M y := by
      funext y
      by_cases h1 : y = Str.ofString "x"
      · rw [if_pos h1, if_pos h1]
      · rw [if_neg h1, if_neg h1]; dsimp only; rw [if_neg h1]
    have F' := e2 ▸ F₁
    have N' := N₁
    clear F₁ N₁ kF kN
    subst hM
    clear e2
    dsimp +zetaDelta only [envOf] at F' N'
    k_steps
    refine Stop.go ?_
    try dsimp only
    have hq1 : (Str.ofString "=").length = 1 := by decide
    have q4 : (n.fdiv 25).fmod 4 = n / 25 % 4 := by rw [Int.fmod_eq_emod_of_nonneg _ (by decide), Int.fdiv_eq_ediv_of_nonneg _ (by decide)]
    rw [q4]
    refine KTb.item_list (ws := blankL) (News.isList (by k_asm) (by k_dflt k_mem)) (.cons _ _ (.cons _ _ (.cons _ _ (.cons _ _ .nil)))) (by walk_at "lia") (by show _ < (4 : Int); walk_at "lia") (by walk_at "lia") ?_
    intro tb _
    have hbl : (blankL.getD (n / 25 % 4).toNat Str.empty).length ≤ 2 := blank_len _
    generalize hble : blankL.getD (n / 25 % 4).toNat Str.empty = bl at hbl ⊢
    k_steps
    refine Stop.go ?_
    try dsimp only
    have q5 : n.fmod 5 = n % 5 := Int.fmod_eq_emod_of_nonneg _ (by decide)
    have q6 : (n.fdiv 5).fmod 5 = n / 5 % 5 := by rw [Int.fmod_eq_emod_of_nonneg _ (by decide), Int.fdiv_eq_ediv_of_nonneg _ (by decide)]
    rw [q5]
    refine KTb.item_list (ws := wordL) (News.isList (by k_asm) (by k_dflt k_mem)) (.cons _ _ (.cons _ _ (.cons _ _ (.cons _ _ (.cons _ _ .nil))))) (by walk_at "lia") (by show _ < (5 : Int); walk_at "lia") (by walk_at "lia") ?_
    intro tw1 _
    have hw1 : (wordL.getD (n % 5).toNat Str.empty).length ≤ 3 := word_len _
    generalize hwe1 : wordL.getD (n % 5).toNat Str.empty = w1 at hw1 ⊢
    k_steps
    refine Stop.go ?_
    try dsimp only
    rw [q6]
    refine KTb.item_list (ws := wordL) (News.isList (by k_asm) (by k_dflt k_mem)) (.cons _ _ (.cons _ _ (.cons _ _ (.cons _ _ (.cons _ _ .nil))))) (by walk_at "lia") (by show _ < (5 : Int); walk_at "lia") (by walk_at "lia") ?_
    intro tw2 _
    have hw2 : (wordL.getD (n / 5 % 5).toNat Str.empty).length ≤ 3 := word_len _
    generalize hwe2 : wordL.getD (n / 5 % 5).toNat Str.empty = w2 at hw2 ⊢
    k_steps
    refine Stop.go ?_
    have hsp := row_splits n
    rw [hble, hwe1, hwe2] at hsp
    obtain ⟨s1, s2, s3⟩ := hsp
    have hpi : wordAt (n % 5) = w1 ∧ wordAt (n / 5 % 5) = w2 := ⟨hwe1, hwe2⟩
    clear hble hwe1 hwe2
    (with_reducible rename News _ _ _ _ => kN)
    refine call_meth kN (by k_mem) (CallsC.use (parse_c s1 ⟨by simp only [Str.length_append]; walk_at "lia", by simp only [Str.length_append]; walk_at "lia"⟩ s2 s3) (by k_asm) (by k_asm) (by k_asm) (by k_asm) kN (by k_asm) (by rfl) (by walk_at "side") (by walk_at "side") ?_)
    rintro r led' h' tk' ⟨p, dx, ta, tb', np, ndx, ndp⟩ F' N'
    clear kN
    k_steps
    (with_reducible rename Fr _ _ _ _ => kF)
    refine append_led (xs := prs.map pval) (e := e) (rest := (p, pairO dx w1 w2 ta tb') :: (dx, dictOf [] 0) :: (I, oI) :: (nl, lst vs k) :: (wl, lst [.str "B" t1, .str "a" t2, .str "a b" t3, .str "c" t4, .str "d" t5] 0) :: (prs.flatMap pobjs ++ news)) kF (fun q hq => N' q ?_) ?_ ?_ ?_
    · exact sub_cat [[_], [_], [_], [_], [_], [_], [_], _] [6, 0, 1, 4, 5, 7] [0, 1, 2, 3, 4, 5, 6, 7] (by decide) q hq
    · have n1 := nd_cons.mp (nd_cons.mp nd).2
      exact List.forall_mem_cons.mpr ⟨fun h => np (pl, lst (prs.map pval) e) (by walk_at "mem") h.symm, List.forall_mem_cons.mpr ⟨fun h => ndx (pl, lst (prs.map pval) e) (by walk_at "mem") h.symm, List.forall_mem_cons.mpr ⟨fun h => hI (pl, lst (prs.map pval) e) (.head _) h.symm, List.forall_mem_cons.mpr ⟨fun h => (nd_cons.mp nd).1 (pl, lst (prs.map pval) e) (.head _) h.symm, n1.1⟩⟩⟩⟩
    · exact prs_len ha hi.h hlen
    clear N' kF
    intro h2 F2 N2
    k_steps

    have e3 : (fun y => if y = Str.ofString "blank" then some (Value.str bl tb) else if y = Str.ofString "x" then some (Value.int n tn) else if y = Str.ofString "blank" then ue else if y = Str.ofString "pairs" then some (Value.ref pl) else if y = Str.ofString "words" then some (Value.ref wl) else List.lookup y [(Str.ofString "numbers", Value.ref nl)]) =
      fun z => if z = Str.ofString "x" then some (Value.int n tn) else if z = Str.ofString "blank" then some (Value.str bl tb) else (fun y => if y = Str.ofString "pairs" then some (Value.ref pl) else if y = Str.ofString "words" then some (Value.ref wl) else List.lookup y [(Str.ofString "numbers", Value.ref nl)]) z := by
      funext z
      by_cases h1 : z = Str.ofString "blank"
      · subst h1; rfl
      · simp only [if_neg h1]
    rw [e3] at F2
    refine pairs_end (ta := ta) (tb := tb') F2 N2 hn (fun q hq => ?_) nd ha hI ?_ ?_ ndp hpi
    · exact hq
    · intro q hq; exact np q (sub_cat [[_], [_], [_], [_], [_], _] [2, 3, 4, 5] [0, 1, 2, 3, 4, 5] (by decide) q hq)
    · intro q hq; exact ndx q (sub_cat [[_], [_], [_], [_], [_], _] [2, 3, 4, 5] [0, 1, 2, 3, 4, 5] (by decide) q hq)
  · rintro m₁ n₁ h tk ⟨up, ue, rfl, prs, e, nd, ha⟩ F₁ N₁
    clear kF kN
    subst hM
    dsimp +zetaDelta only [envOf] at F₁ N₁
    k_steps
    (with_reducible rename News _ _ _ _ => kN)
    rw [show vs.length = ns.length from hi.h.length, List.take_length] at ha
    refine hq _ _ (.mk _ _ _ _ _ ⟨pl, prs, e, nd_cat1 [[_], [_], [_], prs.flatMap pobjs, news] [0, 1, 2, 3, 4] [1, 3, 0, 4] nd, ha⟩ (by k_asm) (fun q hq => kN q ?_))
    exact sub_cat [[_], [_], [_], prs.flatMap pobjs, news] [1, 3, 0, 4] [0, 1, 2, 3, 4] (by decide) q hq
end
end
section
section
local macro_rules | `(tactic| walk_at $k:str) => do
  if ["compareOp NotIn str ref", "call type:enumerate", "eval IfExp", "subscriptTail", "compareOp NotEq ref ref", "eval ListComp"].contains k.getString then `(tactic| walk_at "halt") else Lean.Macro.throwUnsupported
inductive LastStr (js : List Nat) : Value → Prop
  | mk : ∀ lv t, LastIs js lv → LastStr js (.str lv t)
set_option maxRecDepth 100000 in
set_option maxHeartbeats 2000000 in
theorem alone_t {w : World} {ml tl : Addr} {vs us : List Value} {ks js : List Nat} {e1 e2 : Nat} {news : List (Addr × Obj)} (hv : StrsAre vs (ks.map wd)) (hu' : StrsAre us (js.map wd)) (hk5 : ∀ k ∈ ks, k < 5) (hj5 : ∀ k ∈ js, k < 5) (hlen : vs.length ≤ 100 ∧ us.length ≤ 100) :
   Calls w 239 [.ref ml, .ref tl] ((ml, lst vs e1) :: (tl, lst us e2) :: news) 20 200 (WordsPost (alone ks js) ((ml, lst vs e1) :: (tl, lst us e2) :: news)) := by
  unfold Calls
  intro dp un gd cn cs a ccd cl outer A₀ base h₀ L m s Q E loose mean mg mb B YB F X N T hk hdp hu hret
  refine wpAny_call ?_
  k_dflt (walk_at "enter")
  (with_reducible rename Fr _ _ _ _ => kF)
  replace kF : Fr _ _ _ (fun _ => none) := kF
  rename_i g1 L1 hp1 tk1 FG1 B1 X1 T1 l1 o3 o2 o1 c3 c2 c1 N1
  replace c1 : o1.data = Data.cell (some (.ref ml)) := c1
  replace c2 : o2.data = Data.cell (some (.ref tl)) := c2
  replace c3 : o3.data = Data.cell none := c3
  refine body_cut (LeftR g1 L1 s (WordsPost (alone ks js) ((ml, lst vs e1) :: (tl, lst us e2) :: news))) (fun Q' hq => ?_) fun f s' hp => ?_
  rotate_left
  · clear kF N1
    cases hp with | mk r led h tk m hp kF N1 =>
    k_steps
    exact hret _ _ _ _ hp (by k_asm) (by k_asm)
  clear hret B F N
  refine name_run ?_
  intro en AA
  k_steps
  refine Stop.go ?_
  refine cut_pure kF N1 (LastStr js) (fun Q' hQ' => IfExp_ ?_) ?_
  · k_steps
    refine Stop.go ?_
    refine w_ne (ks := js) (js := []) (News.isList (by k_asm) (by k_dflt k_mem)) hu' (News.isList (by k_asm) (by k_dflt k_mem)) .nil hj5 (fun _ h => nomatch h) (by walk_at "side") ?_
    cases hjs : js.getLast? with
    | none =>
      have hn : js = [] := by simpa using hjs
      subst hn
      simp only [decide_true, Bool.not_true]
      k_steps
      (with_reducible rename News _ _ _ _ => kN)
      exact hQ' _ _ _ (.mk _ _ lastIs_nil) (by k_asm) (fun q hq => kN q (.tail _ hq))
    | some j0 =>
      have hn : js ≠ [] := fun h => by subst h; cases hjs
      have hp : 0 < js.length := List.length_pos_iff.mpr hn
      simp only [hn, decide_false, Bool.not_false]
      k_steps
      refine Stop.go ?_
      (with_reducible rename News _ _ _ _ => kN)
      refine item_strs_neg (News.isList (by k_asm) (by k_dflt k_mem)) hu' (by decide) (by rw [List.length_map]; walk_at "lia") (by decide) ?_
      intro t
      rw [getD_last hjs]
      exact hQ' _ _ _ (.mk _ _ (lastIs_of hj5 hjs)) (by k_asm) (fun q hq => kN q (.tail _ hq))
  · intro v h' tk' hv0 F' N'
    cases hv0 with | mk lv t hlv =>
    clear kF N1
    have hn3 : ∀ p ∈ news, p.1 ≠ L1 + 1 + 1 + 1 := lt_ne_of l1.2.2 (by show @LE.le Nat _ _ _; walk_at "lia")
    k_steps
    refine Stop.go ?_
    refine ListComp_at (by with_unfolding_all rfl) (by rfl) (by decide) ?_
    k_steps
    refine Stop.go ?_
    (with_reducible rename Fr _ _ _ _ => kF)
    (with_reducible rename News _ _ _ _ => kN)
    rename_i o4 c4
    refine comp_enum (vs := vs) (fun i ys n₁ => n₁ = (L1 + 1 + 1 + 1, o4) :: (L1 + 1 + 1, o2) :: (L1 + 1, o1) :: (ml, lst vs e1) :: (tl, lst us e2) :: news ∧ StrsAre ys ((aloneTo ks js i).map wd)) rfl (News.isList kN (by k_dflt k_mem)) (kN (ml, lst vs e1) (by k_mem)).2.1 (by walk_at "lia") kF kN ⟨rfl, .nil⟩ (turn_enum ?_) (finF ?_)
    · clear kF kN hq
      intro wr i ys m₅ C oC D own h tk E' t1 b hi hyl hb hma hmb hoC hys off hwo F3 N3
      obtain ⟨x, t2, hx, rfl⟩ := strs_word hv hb
      have hk5x : x < 5 := hk5 x (List.mem_of_getElem? hx)
      refine wpAny_tests_one (cut_eq F3 N3 (keepIt ks js i x) (fun Q' hQ' => ?_) ?_)
      · k_steps
        refine Stop.go ?_
        refine w_notin (News.isList (by k_asm) (by k_dflt k_mem)) hu' hj5 hk5x (by walk_at "side") ?_
        cases h1 : decide (x ∈ js) with
        | true =>
          simp only [Bool.not_true]
          k_steps
          exact hQ' _ _ _ (by simp only [keepIt, h1]; rfl) (by k_asm) (by k_asm)
        | false =>
          simp only [Bool.not_false]
          k_steps
          refine Stop.go ?_
          refine w_upto (s := ⟨h, _, _, _, _⟩) F3 N3 (News.isList (by k_asm) (by k_dflt k_mem)) (by walk_at "lia") ?_
          intro q h' F4 N4 l4
          k_steps
          refine Stop.go ?_
          refine w_notin (ks := ks.take i) (News.isList (by k_asm) (by k_dflt k_mem)) (by rw [List.map_take]; exact StrsAre_take i hv) (fun k hk => hk5 k (List.mem_of_mem_take hk)) hk5x (by walk_at "side") ?_
          cases h2 : decide (x ∈ ks.take i) with
          | false =>
            simp only [Bool.not_false]
            k_steps
            (with_reducible rename News _ _ _ _ => kN)
            exact hQ' _ _ _ (by simp only [keepIt, h1, h2]; rfl) (by k_asm) (fun q hq => kN q (.tail _ hq))
          | true =>
            simp only [Bool.not_true]
            have hg := hlv x hk5x
            k_steps
            all_goals (
              (with_reducible rename News _ _ _ _ => kN)
              refine hQ' _ _ _ ?_ (by k_asm) (fun q hq => kN q (.tail _ hq))
              simp only [keepIt, h1, h2, ← hg]
              simp only [Bool.not_false, Bool.not_true, Bool.true_and, Bool.false_or]
              symm
              first | exact decide_eq_true (by assumption) | exact decide_eq_false (by assumption))
      · intro h' tk' F4 N4
        have hstep : aloneTo ks js (i + 1) = if keepIt ks js i x then aloneTo ks js i ++ [x] else aloneTo ks js i := by simp only [aloneTo, hx]
        cases hok : keepIt ks js i x with
        | true =>
          simp only [if_true]
          rw [hok] at hstep
          k_steps
          exact ⟨h', tk', _, rfl, F4, N4, off, rfl, by rw [hstep, if_pos rfl, List.map_append]; exact strsAre_append hys (.cons _ _ .nil)⟩
        | false =>
          simp only [Bool.false_eq_true, if_false]
          rw [hok] at hstep
          exact ⟨h', tk', _, rfl, F4, N4, off, rfl, by rw [hstep, if_neg (by decide)]; exact hys⟩
    · intro D h tk ys hyl F3 N3 off hys
      k_steps
      (with_reducible rename News _ _ _ _ => kN)
      refine hq _ _ (.mk _ ((D, lst ys ys.length) :: (ml, lst vs e1) :: (tl, lst us e2) :: news) _ _ _ ⟨D, ys, ys.length, ?_, fun p hp => off p (.tail _ (.tail _ (.tail _ hp)))⟩ (by k_asm) (fun q hq => kN q (sub_cat [[_], [_], [_], [_], [_], [_], news] [0, 4, 5, 6] [0, 1, 2, 3, 4, 5, 6] (by decide) q hq)))
      have hvl := hv.length
      rw [List.length_map] at hvl
      rw [hvl] at hys
      exact hys
end
end
section
section
local macro_rules | `(tactic| walk_at $k:str) => do
  if ["compareOp Eq ref ref", "compareOp IsNot ref ref", "call type:zip", "eval ListComp"].contains k.getString then `(tactic| walk_at "halt") else Lean.Macro.throwUnsupported
set_option maxRecDepth 100000 in
set_option maxHeartbeats 2000000 in
theorem same_t {w : World} {tl dl : Addr} {as bs : List Addr} {e1 e2 : Nat} {news : List (Addr × Obj)} (hlen : as.length ≤ 100 ∧ bs.length ≤ 100) (hobj : ∀ x, x ∈ as ∨ x ∈ bs → ∃ o, (x, o) ∈ news ∧ o.cls ≠ .type "tuple") :
   Calls w 266 [.ref tl, .ref dl] ((tl, lst (as.map .ref) e1) :: (dl, lst (bs.map .ref) e2) :: news) 20 200 (fun r led => r = .bool (decide (as = bs)) ∧ led = (tl, lst (as.map .ref) e1) :: (dl, lst (bs.map .ref) e2) :: news) := by
  unfold Calls
  intro dp un gd cn cs a ccd cl outer A₀ base h₀ L m s Q E loose mean mg mb B YB F X N T hk hdp hu hret
  refine wpAny_call ?_
  k_dflt (walk_at "enter")
  (with_reducible rename Fr _ _ _ _ => kF)
  replace kF : Fr _ _ _ (fun y => List.lookup y [(Str.ofString "due", Value.ref dl), (Str.ofString "told", Value.ref tl)]) := kF
  rename_i g1 L1 hp1 FG1 N1 B1 X1 T1
  refine name_run ?_
  intro en AA
  k_steps
  · have hsz : as.length = bs.length := by
      rename_i h; simp only [List.size_toArray, List.length_map] at h; walk_at "lia"
    refine Stop.go ?_
    refine ListComp_at (by with_unfolding_all rfl) (by rfl) (by decide) ?_
    k_steps
    refine Stop.go ?_
    (with_reducible rename Fr _ _ _ _ => kF)
    (with_reducible rename News _ _ _ _ => kN)
    refine comp_zip (vs := as.map .ref) (us := bs.map .ref) (fun i ys n₁ => n₁ = (tl, lst (as.map .ref) e1) :: (dl, lst (bs.map .ref) e2) :: news ∧ (ys = [] ↔ as.take i = bs.take i)) rfl (News.isList kN (by k_dflt k_mem)) (News.isList kN (by k_dflt k_mem)) (kN (tl, lst (as.map .ref) e1) (by k_mem)).2.1 (kN (dl, lst (bs.map .ref) e2) (by k_mem)).2.1 (by simp only [List.length_map]; walk_at "lia") kF kN ⟨rfl, by simp⟩ (turn_zip ?_) (finF ?_)
    · clear kF kN hret
      intro wr i ys m₅ C oC D own h tk E' a b hi hyl ha hb hma hmb hoC hys off hwo F3 N3
      rw [List.getElem?_map] at ha hb
      obtain ⟨x, hx, rfl⟩ := Option.map_eq_some_iff.mp ha
      obtain ⟨y, hy, rfl⟩ := Option.map_eq_some_iff.mp hb
      have hstep : as.take (i + 1) = bs.take (i + 1) ↔ as.take i = bs.take i ∧ x = y := by
        rw [List.take_add_one, List.take_add_one, hx, hy]
        have hl : (as.take i).length = (bs.take i).length := by simp only [List.length_take]; walk_at "lia"
        simp only [Option.toList_some]
        constructor
        · intro h
          have h2 := List.append_inj h hl
          exact ⟨h2.1, by simpa using h2.2⟩
        · rintro ⟨h1, h2⟩
          rw [h1, h2]
      have ho1 := hobj x (.inl (List.mem_of_getElem? hx))
      have ho2 := hobj y (.inr (List.mem_of_getElem? hy))
      obtain ⟨ox, hox, hnt⟩ := ho1
      obtain ⟨oy, hoy, _⟩ := ho2
      refine wpAny_tests_one (cut_eq F3 N3 (!decide (x = y)) (fun Q' hQ' => ?_) ?_)
      · k_steps
        refine Stop.go ?_
        by_cases hxy : x = y
        · subst hxy
          refine wpAny_isNot_ref_self ?_
          k_steps
          exact hQ' _ _ _ (by walk_at "mem") (by k_asm) (by k_asm)
        · refine wpAny_isNot_ref_other hxy (N3 (x, ox) (by simp only [List.mem_cons, List.mem_append]; simp only [hox, true_or, or_true])).1 (N3 (y, oy) (by simp only [List.mem_cons, List.mem_append]; simp only [hoy, true_or, or_true])).1 hnt ?_
          k_steps
          exact hQ' _ _ _ (by simp [hxy]) (by k_asm) (by k_asm)
      · intro h' tk' F4 N4
        by_cases hxy : x = y
        · subst hxy
          simp only [decide_true, Bool.not_true, Bool.false_eq_true, if_false]
          exact ⟨h', tk', _, rfl, F4, N4, off, rfl, by rw [hstep, hys]; simp⟩
        · simp only [hxy, decide_false, Bool.not_false, if_true]
          k_steps
          exact ⟨h', tk', _, rfl, F4, N4, off, rfl, by rw [hstep]; simp [hxy]⟩
    · intro D h tk ys hyl F3 N3 off hys
      k_steps
      refine Stop.go ?_
      (with_reducible rename News _ _ _ _ => kN)
      have hmin : min (as.map Value.ref).length (bs.map Value.ref).length = as.length := by simp only [List.length_map]; walk_at "lia"
      rw [hmin] at hys
      rw [List.take_length, hsz, List.take_length] at hys
      cases ys with
      | nil =>
        refine SeqAt.eq_listAt (e := fun _ => true) (News.isList kN (by k_dflt k_mem)) (News.isList kN (by k_dflt k_mem)) rfl (by show _ < (9900 : Nat); walk_at "side") (fun j h1 _ => absurd h1 (by walk_at "mem")) ?_
        have hab : as = bs := hys.mp rfl
        k_steps
        exact hret _ _ _ _ ⟨by simp [hab], rfl⟩ (by k_asm) (fun q hq => by (with_reducible rename News _ _ _ _ => kN2); exact kN2 q (List.mem_cons_of_mem _ (List.mem_cons_of_mem _ hq)))
      | cons y0 ys0 =>
        refine SeqAt.eq_list_lengthsAt (News.isList kN (by k_dflt k_mem)) (News.isList kN (by k_dflt k_mem)) (by walk_at "mem") (by show _ < (9900 : Nat); walk_at "side") ?_
        have hab : as ≠ bs := fun e => by have := hys.mpr e; cases this
        k_steps
        exact hret _ _ _ _ ⟨by simp [hab], rfl⟩ (by k_asm) (fun q hq => by (with_reducible rename News _ _ _ _ => kN2); exact kN2 q (List.mem_cons_of_mem _ (List.mem_cons_of_mem _ hq)))
  · have hne : ((as.map Value.ref).toArray.size : Int) ≠ ((bs.map Value.ref).toArray.size : Int) := by assumption
    have hsz : as ≠ bs := fun e => hne (by rw [e])
    have hv : (((as.map Value.ref).toArray.size : Int) == ((bs.map Value.ref).toArray.size : Int)) = false := beq_eq_false_iff_ne.mpr hne
    rw [hv]
    exact hret _ _ _ _ ⟨by simp [hsz], rfl⟩ (by k_asm) (by k_asm)
end
end
section
/-- an object that is a list of these values -/
noncomputable def OL (o : Obj) (vs : List Value) : Prop := o.cls = .type "list" ∧ ∃ n, o.data = .seq vs.toArray n
theorem OL.lst (vs : List Value) (n : Nat) : OL (lst vs n) vs := ⟨rfl, n, rfl⟩
theorem OL.isList {h₀ h : Heap} {L a : Addr} {o : Obj} {vs : List Value} {news : List (Addr × Obj)} (x : OL o vs) (N : News h₀ L h news) (hm : (a, o) ∈ news) : h.IsList a vs.toArray := ⟨o, (N _ hm).1, x.1, x.2⟩
noncomputable def rowV (M : Nat → Nat → Bool) (i : Nat) : List Value := (List.range 5).map fun j => .bool (M i j)
noncomputable def matRows (rs : Nat → Nat) (os : Nat → Obj) (n : Nat) : List (Addr × Obj) := (List.range n).map fun i => (rs i, os i)
noncomputable def refsV (rs : Nat → Nat) (n : Nat) : List Value := (List.range n).map fun i => .ref (rs i)
noncomputable def MatOK (oll : Obj) (rs : Nat → Nat) (os : Nat → Obj) (M : Nat → Nat → Bool) : Prop := OL oll (refsV rs 5) ∧ ∀ i, i < 5 → OL (os i) (rowV M i)
theorem rowV_at {M : Nat → Nat → Bool} {i j : Nat} (hj : j < 5) : (rowV M i)[j]? = some (.bool (M i j)) := by simp [rowV, hj]
theorem refsV_at {rs : Nat → Nat} {n i : Nat} (hi : i < n) : (refsV rs n)[i]? = some (.ref (rs i)) := by simp [refsV, hi]
theorem matRows_mem {rs : Nat → Nat} {os : Nat → Obj} {n i : Nat} (hi : i < n) : (rs i, os i) ∈ matRows rs os n := by
  unfold matRows; exact List.mem_map.mpr ⟨i, List.mem_range.mpr hi, rfl⟩
theorem matRows_succ (rs : Nat → Nat) (os : Nat → Obj) (n : Nat) : matRows rs os (n + 1) = matRows rs os n ++ [(rs n, os n)] := by simp [matRows, List.range_succ]
theorem matRows_congr {rs rs' : Nat → Nat} {os os' : Nat → Obj} {n : Nat} (h : ∀ i, i < n → rs i = rs' i ∧ os i = os' i) : matRows rs os n = matRows rs' os' n := by
  unfold matRows
  refine List.map_congr_left fun i hi => ?_
  have := h i (List.mem_range.mp hi)
  rw [this.1, this.2]
noncomputable def setM (M : Nat → Nat → Bool) (i j : Nat) : Nat → Nat → Bool := fun a b => if a = i ∧ b = j then true else M a b
noncomputable def leadsOf (ns : List Int) : Nat → Nat → Bool := ns.foldl (fun M n => setM M (n % 5).toNat (n / 5 % 5).toNat) (fun _ _ => false)
noncomputable def wstep (M : Nat → Nat → Bool) (k i : Nat) : Nat → Nat → Bool := if M i k then fun a b => if a = i then (M i b || M k b) else M a b else M
noncomputable def wrow (M : Nat → Nat → Bool) (k : Nat) : Nat → (Nat → Nat → Bool)
  | 0 => M
  | i + 1 => wstep (wrow M k i) k i
noncomputable def wall (M : Nat → Nat → Bool) : Nat → (Nat → Nat → Bool)
  | 0 => M
  | k + 1 => wrow (wall M k) k 5
/-- a ledger whose object at d is another one now -/
theorem News.putAt {h₀ h h' : Heap} {L d : Addr} {o' : Obj} {news news' : List (Addr × Obj)} (N : News h₀ L h news) (hd : ∃ o, (d, o) ∈ news) (hs : Heap.SameBut d h h') (ho : h'.get? d = some o') (h1 : ∀ p ∈ news', p = (d, o') ∨ (p ∈ news ∧ p.1 ≠ d)) : News h₀ L h' news' := by
  intro p hp
  rcases h1 p hp with rfl | ⟨hm, hne⟩
  · obtain ⟨o, hm⟩ := hd
    exact ⟨ho, (N _ hm).2⟩
  · exact ⟨(hs.2 _ hne).trans (N p hm).1, (N p hm).2⟩
theorem setItem_led {prog : Program} {w : World} {A : Around} {E : Value → Shared → Prop} {s : Shared} {Q : Unit → Shared → Prop} {h₀ : Heap} {L a : Addr} {m : Str → Option Value} {o : Obj} {vs : List Value} {news : List (Addr × Obj)} {i : Nat} {k : Int} {t : Tok} {v : Value}
    (F : Fr h₀ L s.heap m) (N : News h₀ L s.heap news) (hm : (a, o) ∈ news) (ho : OL o vs) (hk : k = (i : Int)) (hi : i < vs.length) (hsz : vs.length ≤ 1000)
    (h : ∀ h' o', Fr h₀ L h' m → Heap.SameBut a s.heap h' → h'.get? a = some o' → OL o' (vs.set i v) → Q () { s with heap := h' }) : wpAny (model prog w) A (setItem (.ref a) (.int k t) v) Q E s := by
  subst hk
  have hN := N _ hm
  refine wpAny_setItem_list (ho.isList N hm) (by walk_at "lia") (by walk_at "lia") (by rw [List.size_toArray]; walk_at "lia") fun h' hl' hs => ?_
  obtain ⟨o', ho', hc', n', hd'⟩ := hl'
  refine h h' o' (F.change hs hN.2.1 hN.2.2) hs ho' ⟨hc', n', ?_⟩
  rw [hd', Int.toNat_natCast]
  simp
theorem rowV_set {M : Nat → Nat → Bool} {i j : Nat} : (rowV M i).set j (.bool true) = rowV (setM M i j) i := by
  refine List.ext_getElem? fun b => ?_
  rw [List.getElem?_set]
  by_cases hb : b < 5
  · rw [rowV_at hb, rowV_at hb]
    by_cases h : j = b
    · subst h; simp [setM, rowV, hb]
    · simp [h, setM, Ne.symm h]
  · have e1 : (rowV M i)[b]? = none := by simp [rowV]; walk_at "lia"
    have e2 : (rowV (setM M i j) i)[b]? = none := by simp [rowV]; walk_at "lia"
    rw [e1, e2]
    split <;> simp [rowV]; walk_at "lia"
theorem rowV_other {M : Nat → Nat → Bool} {i j a : Nat} (h : a ≠ i) : rowV (setM M i j) a = rowV M a := by simp [rowV, setM, h]
noncomputable abbrev led6 (L : Addr) (o1 o2 o3 o4 o5 o6 : Obj) (rest : List (Addr × Obj)) : List (Addr × Obj) :=
  (L + 1 + 1 + 1 + 1 + 1 + 1, o6) :: (L + 1 + 1 + 1 + 1 + 1, o5) :: (L + 1 + 1 + 1 + 1, o4) :: (L + 1 + 1 + 1, o3) :: (L + 1 + 1, o2) :: (L + 1, o1) :: rest
/-- rows are new, each apart -/
noncomputable def RowsNew (L n : Nat) (rs : Nat → Nat) : Prop := (∀ a, a < n → L + 6 < rs a) ∧ ∀ a b, a < n → b < n → rs a = rs b → a = b
inductive LeadsJ (L : Nat) (led : List (Addr × Obj)) (i : Nat) (ys : List Value) (n₁ : List (Addr × Obj)) : Prop where
  | mk : ∀ rs os, (ys = refsV rs i) → (n₁ = matRows rs os i ++ led) → ((∀ a, a < i → OL (os a) (rowV (fun _ _ => false) a))) → (RowsNew L i rs) → LeadsJ L led i ys n₁
theorem leadsJ_zero (L : Nat) (led : List (Addr × Obj)) : LeadsJ L led 0 [] led := ⟨fun _ => 0, fun _ => default, rfl, rfl, fun _ h => absurd h (Nat.not_lt_zero _), fun _ h => absurd h (Nat.not_lt_zero _), fun _ _ h => absurd h (Nat.not_lt_zero _)⟩
theorem leadsJ_step {L q i : Nat} {oq : Obj} {led n₁ : List (Addr × Obj)} {ys : List Value} (h : LeadsJ L led i ys n₁) (hq : OL oq (rowV (fun _ _ => false) i)) (h1 : L + 6 < q) (h2 : ∀ p ∈ n₁, @LT.lt Nat _ p.1 q) :
    ∃ n₂, (∀ p, p ∈ n₂ ↔ p = (q, oq) ∨ p ∈ n₁) ∧ LeadsJ L led (i + 1) (ys ++ [.ref q]) n₂ := by
  obtain ⟨rs, os, rfl, rfl, ho, hr, ha⟩ := h
  refine ⟨matRows (fun a => if a = i then q else rs a) (fun a => if a = i then oq else os a) (i + 1) ++ led, ?_, fun a => if a = i then q else rs a, fun a => if a = i then oq else os a, ?_, rfl, ?_, ?_, ?_⟩
  · intro p
    rw [matRows_succ, matRows_congr (rs' := rs) (os' := os) (n := i) fun a ha => by simp only [if_neg (Nat.ne_of_lt ha), and_self]]
    simp only [if_true, List.mem_append, List.mem_singleton]
    grind
  · unfold refsV
    rw [List.range_succ, List.map_append]
    congr 1
    · exact List.map_congr_left fun a ha => by simp only [if_neg (Nat.ne_of_lt (List.mem_range.mp ha))]
    · simp
  · intro a ha
    by_cases h : a = i
    · subst h; simpa using hq
    · simp only [if_neg h]; exact ho a (by walk_at "lia")
  · intro a ha
    by_cases h : a = i
    · simp only [if_pos h]; exact h1
    · simp only [if_neg h]; exact hr a (by walk_at "lia")
  · intro a b ha' hb' he
    have key : ∀ c, c < i → rs c ≠ q := fun c hc e => by
      have h3 := h2 (rs c, os c) (List.mem_append_left _ (matRows_mem hc))
      have h3 : rs c < q := h3
      walk_at "lia"
    by_cases h : a = i <;> by_cases h' : b = i
    · rw [h, h']
    · simp only [if_pos h, if_neg h'] at he; exact absurd he.symm (key b (by walk_at "lia"))
    · simp only [if_neg h, if_pos h'] at he; exact absurd he (key a (by walk_at "lia"))
    · simp only [if_neg h, if_neg h'] at he; exact ha a b (by walk_at "lia") (by walk_at "lia") he
theorem cend_new {h₀ h' : Heap} {L C D q : Addr} {m : Str → Option Value} {wr : List Addr} {own news₁ news₂ : List (Addr × Obj)} {oC oD oq : Obj} {J : List (Addr × Obj) → Prop} {s₁ : Shared} {tk : Nat} (F : Fr h₀ L h' m) (N : News h₀ L h' ((q, oq) :: (C, oC) :: (D, oD) :: (news₁ ++ own)))
    (lt : ∀ p ∈ (C, oC) :: (D, oD) :: (news₁ ++ own), @LT.lt Nat _ p.1 q) (off : ∀ p ∈ news₁, p.1 ∉ wr ∧ p.1 ≠ C ∧ p.1 ≠ D) (hwo : ∀ b ∈ wr, ∃ o, (b, o) ∈ own) (hm : ∀ p ∈ news₂, p = (q, oq) ∨ p ∈ news₁) (hJ : J news₂) :
    CEnd h₀ L m wr own C oC D oD J s₁ { s₁ with heap := h', toks := tk } := by
  refine ⟨h', tk, news₂, rfl, F, fun p hp => N p ?_, fun p hp => ?_, hJ⟩
  · simp only [List.mem_cons, List.mem_append] at hp ⊢
    rcases hp with h | h | h | h
    · simp [h]
    · simp [h]
    · rcases hm p h with h | h <;> simp [h]
    · simp [h]
  · rcases hm p hp with rfl | h
    · refine ⟨fun hw => ?_, ?_, ?_⟩
      · obtain ⟨o, ho⟩ := hwo _ hw
        exact Nat.lt_irrefl _ (lt (q, o) (by simp [ho]))
      · exact (Nat.ne_of_lt (lt (C, oC) (by walk_at "mem"))).symm
      · exact (Nat.ne_of_lt (lt (D, oD) (by walk_at "mem"))).symm
    · exact off p h
noncomputable abbrev rows5 (rs : Nat → Nat) (os : Nat → Obj) (rest : List (Addr × Obj)) : List (Addr × Obj) := (rs 0, os 0) :: (rs 1, os 1) :: (rs 2, os 2) :: (rs 3, os 3) :: (rs 4, os 4) :: rest
theorem matRows5 (rs : Nat → Nat) (os : Nat → Obj) (rest : List (Addr × Obj)) : matRows rs os 5 ++ rest = rows5 rs os rest := rfl
theorem rows5_mem {rs : Nat → Nat} {os : Nat → Obj} {rest : List (Addr × Obj)} {i : Nat} (hi : i < 5) : (rs i, os i) ∈ rows5 rs os rest := by
  rw [← matRows5]; exact List.mem_append_left _ (matRows_mem hi)
inductive LeadJ (M : Str → Option Value) (D : Nat) (oll : Obj) (rs : Nat → Nat) (rest : List (Addr × Obj)) (ns : List Int) (i : Nat) (m₁ : Str → Option Value) (n₁ : List (Addr × Obj)) : Prop where
  | mk : ((∃ ux, m₁ = fun z => if z = Str.ofString "x" then ux else M z)) → ∀ os, (MatOK oll rs os (leadsOf (ns.take i))) → (n₁ = (D, oll) :: rows5 rs os rest) → LeadJ M D oll rs rest ns i m₁ n₁
end
section
theorem rows5_iff {rs : Nat → Nat} {os : Nat → Obj} {rest : List (Addr × Obj)} {p : Addr × Obj} : p ∈ rows5 rs os rest ↔ (∃ a, a < 5 ∧ p = (rs a, os a)) ∨ p ∈ rest := by
  rw [← matRows5, List.mem_append]
  refine or_congr ?_ Iff.rfl
  unfold matRows
  simp only [List.mem_map, List.mem_range]
  exact ⟨fun ⟨a, h, e⟩ => ⟨a, h, e.symm⟩, fun ⟨a, h, e⟩ => ⟨a, h, e.symm⟩⟩
theorem matOK_set {oll o' : Obj} {rs : Nat → Nat} {os : Nat → Obj} {M : Nat → Nat → Bool} {aa bb : Nat} (h : MatOK oll rs os M) (ho : OL o' ((rowV M aa).set bb (.bool true))) : MatOK oll rs (fun a => if a = aa then o' else os a) (setM M aa bb) := by
  refine ⟨h.1, fun a ha => ?_⟩
  by_cases e : a = aa
  · subst e; simp only [if_true]; rw [← rowV_set]; exact ho
  · simp only [if_neg e]; rw [rowV_other e]; exact h.2 a ha
theorem lead_turn {h₀ h h' : Heap} {L D I nl : Addr} {M : Str → Option Value} {oll oI onl o' : Obj} {rs : Nat → Nat} {os : Nat → Obj} {rest : List (Addr × Obj)} {ns : List Int} {i aa bb : Nat} {v : Value} {s₁ : Shared} {tk : Nat}
    (F : Fr h₀ L h' (fun y => if y = Str.ofString "x" then some v else M y)) (N : News h₀ L h ((I, oI) :: (nl, onl) :: (D, oll) :: rows5 rs os rest)) (hs : Heap.SameBut (rs aa) h h') (ho' : h'.get? (rs aa) = some o') (hOL : OL o' ((rowV (leadsOf (ns.take i)) aa).set bb (.bool true)))
    (hM : MatOK oll rs os (leadsOf (ns.take i))) (ha : aa < 5) (hinj : ∀ a b, a < 5 → b < 5 → rs a = rs b → a = b) (hI : ∀ p ∈ (D, oll) :: rows5 rs os rest, p.1 ≠ I) (hnl : nl ≠ rs aa) (hD : D ≠ rs aa) (hrest : ∀ p ∈ rest, p.1 ≠ rs aa) (hst : leadsOf (ns.take (i + 1)) = setM (leadsOf (ns.take i)) aa bb) :
    TurnEnd h₀ L [(I, oI), (nl, onl)] I (LeadJ M D oll rs rest ns (i + 1)) s₁ { s₁ with heap := h', toks := tk } := by
  have hIa : rs aa ≠ I := hI (rs aa, os aa) (.tail _ (rows5_mem ha))
  refine ⟨h', tk, _, (D, oll) :: rows5 rs (fun a => if a = aa then o' else os a) rest, rfl, F, ?_, ?_, ⟨⟨some v, rfl⟩, _, hst ▸ matOK_set hM hOL, rfl⟩⟩
  · refine News.putAt N (d := rs aa) (o' := o') ⟨os aa, .tail _ (.tail _ (.tail _ (rows5_mem ha)))⟩ hs ho' fun p hp => ?_
    have hp : p ∈ (I, oI) :: (nl, onl) :: (D, oll) :: rows5 rs (fun a => if a = aa then o' else os a) rest := hp
    rcases List.mem_cons.mp hp with rfl | hp
    rotate_left
    rcases List.mem_cons.mp hp with rfl | hp
    rotate_left
    rcases List.mem_cons.mp hp with rfl | hp
    rotate_left
    rcases rows5_iff.mp hp with ⟨a, ha', rfl⟩ | hp
    rotate_right 3
    · exact .inr ⟨.head _, hIa.symm⟩
    · exact .inr ⟨.tail _ (.head _), hnl⟩
    · exact .inr ⟨.tail _ (.tail _ (.head _)), hD⟩
    · by_cases e : a = aa
      · subst e; exact .inl (by simp only [if_true])
      · exact .inr ⟨.tail _ (.tail _ (.tail _ (rows5_iff.mpr (.inl ⟨a, ha', by simp only [if_neg e]⟩)))), fun e' => e (hinj _ _ ha' ha e')⟩
    · exact .inr ⟨.tail _ (.tail _ (.tail _ (rows5_iff.mpr (.inr hp)))), hrest p hp⟩
  · intro p hp
    rcases List.mem_cons.mp hp with rfl | hp
    · exact hI (D, oll) (.head _)
    rcases rows5_iff.mp hp with ⟨a, ha', rfl⟩ | hp
    · exact hI (rs a, os a) (.tail _ (rows5_mem ha'))
    · exact hI p (.tail _ (rows5_iff.mpr (.inr hp)))
theorem led6_lt {L : Addr} {o1 o2 o3 o4 o5 o6 : Obj} {rest : List (Addr × Obj)} (h : ∀ q ∈ rest, @LT.lt Nat _ q.1 L) : ∀ p ∈ led6 L o1 o2 o3 o4 o5 o6 rest, @LT.lt Nat _ p.1 (L + 6 + 1) := by
  intro p hp
  simp only [List.mem_cons] at hp
  rcases hp with rfl | rfl | rfl | rfl | rfl | rfl | hp
  iterate 6 exact (by show @LT.lt Nat _ _ _; walk_at "lia")
  exact Nat.lt_trans (h p hp) (by walk_at "lia")
noncomputable def IsCell (o : Obj) : Prop := ∃ x, o.data = .cell x
/-- the row's address is none of the table's nor of the cells that are stored into -/
noncomputable def RowApart (L D q : Nat) : Prop := q ≠ D ∧ q ≠ L + 1 ∧ q ≠ L + 1 + 1 + 1 ∧ q ≠ L + 1 + 1 + 1 + 1 ∧ q ≠ L + 1 + 1 + 1 + 1 + 1 ∧ q ≠ L + 1 + 1 + 1 + 1 + 1 + 1
theorem off6 {L q k : Nat} (h : L + 6 < q) (e : k ≤ L + 6) : q ≠ k := Nat.ne_of_gt (Nat.lt_of_le_of_lt e h)
theorem rowApart_new {L D q : Nat} (h : L + 6 < q) (h2 : q ≠ D) : RowApart L D q :=
  ⟨h2, off6 h (Nat.add_le_add_left (m := 6) (n := 1) (by decide) L), off6 h (Nat.add_le_add_left (m := 6) (n := 3) (by decide) L), off6 h (Nat.add_le_add_left (m := 6) (n := 4) (by decide) L), off6 h (Nat.add_le_add_left (m := 6) (n := 5) (by decide) L), off6 h (Nat.le_refl (L + 6))⟩
inductive WallJ (m : Str → Option Value) (L D : Nat) (o6 o5 o4 o2 : Obj) (rest : List (Addr × Obj)) (Pk : Obj → Prop) (A : Nat → Prop) (M : Nat → Nat → Bool) : (Str → Option Value) → List (Addr × Obj) → Prop where
  | mk : ∀ oll rs os ok oi, (MatOK oll rs os M) → (Pk ok) → (IsCell oi) → ((∀ a, a < 5 → A (rs a))) → WallJ m L D o6 o5 o4 o2 rest Pk A M m ((D, oll) :: rows5 rs os (led6 L ok o2 oi o4 o5 o6 rest))
section
variable {prog : Program} {w : World} {A : Around} {E : Value → Shared → Prop} {s : Shared} {value slice : Expr} {Q : Value → Shared → Prop} {h₀ : Heap} {L D : Addr} {news : List (Addr × Obj)} {oll : Obj} {rs : Nat → Nat} {os : Nat → Obj} {M : Nat → Nat → Bool} {u : Tok}
theorem mat_item {i : Nat} (hM : MatOK oll rs os M) (N : News h₀ L s.heap news) (hD : (D, oll) ∈ news) (hi : i < 5) (h : Q (.ref (rs i)) s)
    (hs : subscripted slice false (.ref D) (.int (i : Int) u) = operate [.ref D, .int (i : Int) u] (getItem (.ref D) (.int (i : Int) u)) := by with_unfolding_all rfl) : wpAny (model prog w) A (subscriptTail value slice (.ref D) (.int (i : Int) u)) Q E s :=
  item_listR (hM.1.isList N hD) (by walk_at "lia") (by walk_at "lia") (by rw [Int.toNat_natCast]; simpa using refsV_at hi) h hs
theorem row_item {i j : Nat} (hM : MatOK oll rs os M) (N : News h₀ L s.heap news) (hi : i < 5) (hD : (rs i, os i) ∈ news) (hj : j < 5) (h : Q (.bool (M i j)) s)
    (hs : subscripted slice false (.ref (rs i)) (.int (j : Int) u) = operate [.ref (rs i), .int (j : Int) u] (getItem (.ref (rs i)) (.int (j : Int) u)) := by with_unfolding_all rfl) : wpAny (model prog w) A (subscriptTail value slice (.ref (rs i)) (.int (j : Int) u)) Q E s :=
  item_listR ((hM.2 i hi).isList N hD) (by walk_at "lia") (by walk_at "lia") (by rw [Int.toNat_natCast]; simpa using rowV_at hj) h hs
end
theorem off_map {l l' : List (Addr × Obj)} {P : Addr → Prop} (h : ∀ p ∈ l, P p.1) (e : l.map (·.1) = l'.map (·.1)) : ∀ p ∈ l', P p.1 := by
  intro p hp
  have h1 : p.1 ∈ l'.map (·.1) := List.mem_map.mpr ⟨p, hp, rfl⟩
  rw [← e] at h1
  obtain ⟨q, hq, hqe⟩ := List.mem_map.mp h1
  exact hqe ▸ h q hq
theorem refsV_set {rs : Nat → Nat} {n i q : Nat} : (refsV rs n).set i (.ref q) = refsV (fun a => if a = i then q else rs a) n := by
  refine List.ext_getElem? fun b => ?_
  rw [List.getElem?_set]
  by_cases hb : b < n
  · rw [refsV_at hb, refsV_at hb]
    by_cases h : i = b
    · subst h; simp [refsV, hb]
    · simp [h, Ne.symm h]
  · have e1 : (refsV rs n)[b]? = none := by simp [refsV]; walk_at "lia"
    have e2 : (refsV (fun a => if a = i then q else rs a) n)[b]? = none := by simp [refsV]; walk_at "lia"
    rw [e1, e2]
    split <;> simp [refsV]; walk_at "lia"
theorem wall_turn {h₀ h h' : Heap} {L q I D : Addr} {oI oll o' : Obj} {rs : Nat → Nat} {os : Nat → Obj} {rest : List (Addr × Obj)} {M : Nat → Nat → Bool} {k i n : Nat} {ys : List Value}
    (N : News h₀ L h ((q, lst ys n) :: (I, oI) :: (D, oll) :: rows5 rs os rest)) (hs : Heap.SameBut D h h') (ho' : h'.get? D = some o') (hOL : OL o' ((refsV rs 5).set i (.ref q))) (hM : MatOK oll rs os M) (hb : M i k = true)
    (hys : ys = (List.range 5).map (fun b => .bool (M i b || M k b))) (hqD : q ≠ D) (hID : I ≠ D) (hrD : ∀ a, a < 5 → rs a ≠ D) (hrest : ∀ p ∈ rest, p.1 ≠ D) :
    News h₀ L h' ((I, oI) :: (D, o') :: rows5 (fun a => if a = i then q else rs a) (fun a => if a = i then lst ys n else os a) rest) ∧ MatOK o' (fun a => if a = i then q else rs a) (fun a => if a = i then lst ys n else os a) (wstep M k i) := by
  refine ⟨News.putAt N (d := D) (o' := o') ⟨oll, .tail _ (.tail _ (.head _))⟩ hs ho' fun p hp => ?_, refsV_set ▸ hOL, fun a ha => ?_⟩
  · rcases List.mem_cons.mp hp with rfl | hp
    · exact .inr ⟨.tail _ (.head _), hID⟩
    rcases List.mem_cons.mp hp with rfl | hp
    · exact .inl rfl
    rcases rows5_iff.mp hp with ⟨a, ha', rfl⟩ | hp
    · by_cases e : a = i
      · simp only [if_pos e]; exact .inr ⟨.head _, hqD⟩
      · simp only [if_neg e]; exact .inr ⟨.tail _ (.tail _ (.tail _ (rows5_mem ha'))), hrD a ha'⟩
    · exact .inr ⟨.tail _ (.tail _ (.tail _ (rows5_iff.mpr (.inr hp)))), hrest p hp⟩
  · unfold wstep
    rw [hb]
    by_cases e : a = i
    · subst e
      simp only [if_true]
      rw [hys]
      have : rowV (fun a_1 b => if a_1 = a then M a b || M k b else M a_1 b) a = (List.range 5).map (fun b => Value.bool (M a b || M k b)) := by simp [rowV]
      rw [this]
      exact OL.lst _ _
    · simp only [if_neg e, if_true]
      have : rowV (fun a b => if a = i then M i b || M k b else M a b) a = rowV M a := by simp [rowV, e]
      rw [this]
      exact hM.2 a ha
noncomputable def keep (n : Nat) (p : Nat → Bool) : List Int := ((List.range n).filter p).map fun b : Nat => (b : Int)
theorem keep_yes {ys : List Value} {j : Nat} {p : Nat → Bool} {t : Tok} (h : IntsAre ys (keep j p)) (hp : p j = true) : IntsAre (ys ++ [.int (j : Int) t]) (keep (j + 1) p) := by
  unfold keep
  rw [List.range_succ, List.filter_append, List.map_append]
  have : List.map (fun b : Nat => (b : Int)) (List.filter p [j]) = [(j : Int)] := by simp [hp]
  rw [this]
  exact h.append (.cons _ _ .nil)
theorem keep_no {ys : List Value} {j : Nat} {p : Nat → Bool} (h : IntsAre ys (keep j p)) (hp : p j = false) : IntsAre ys (keep (j + 1) p) := by
  unfold keep
  rw [List.range_succ, List.filter_append, List.map_append]
  have : List.map (fun b : Nat => (b : Int)) (List.filter p [j]) = [] := by simp [hp]
  rw [this, List.append_nil]
  exact h
theorem keep_len {n : Nat} {p : Nat → Bool} : (keep n p).length ≤ n := by
  unfold keep
  rw [List.length_map]
  exact Nat.le_trans (List.length_filter_le _ _) (by walk_at "mem")
theorem keep_mem {n : Nat} {p : Nat → Bool} {x : Int} : x ∈ keep n p ↔ ∃ b : Nat, b < n ∧ p b = true ∧ x = (b : Int) := by
  unfold keep
  simp only [List.mem_map, List.mem_filter, List.mem_range]
  exact ⟨fun ⟨b, ⟨h1, h2⟩, h3⟩ => ⟨b, h1, h2, h3.symm⟩, fun ⟨b, h1, h2, h3⟩ => ⟨b, ⟨h1, h2⟩, h3.symm⟩⟩
/-- what the test of an inner list is -/
noncomputable def Hits (ys : List Value) (rg : List Int) (i : Nat) (q : Int → Bool) : Prop := IntsAre ys ((rg.take i).filter q)
theorem hits_zero (rg : List Int) (q : Int → Bool) : Hits [] rg 0 q := by unfold Hits; rw [List.take_zero]; exact .nil
theorem hits_yes {ys : List Value} {rg : List Int} {i : Nat} {q : Int → Bool} {x : Int} {t : Tok} (h : Hits ys rg i q) (hx : rg[i]? = some x) (hq : q x = true) : Hits (ys ++ [.int x t]) rg (i + 1) q := by
  unfold Hits at *
  rw [List.take_add_one, hx, List.filter_append]
  have : List.filter q (some x).toList = [x] := by simp [hq]
  rw [this]
  exact h.append (.cons _ _ .nil)
theorem hits_no {ys : List Value} {rg : List Int} {i : Nat} {q : Int → Bool} {x : Int} (h : Hits ys rg i q) (hx : rg[i]? = some x) (hq : q x = false) : Hits ys rg (i + 1) q := by
  unfold Hits at *
  rw [List.take_add_one, hx, List.filter_append]
  have : List.filter q (some x).toList = [] := by simp [hq]
  rw [this, List.append_nil]
  exact h
/-- is there one -/
noncomputable def hit (rg : List Int) (q : Int → Bool) : Bool := rg.any q
theorem hit_ne (rg : List Int) (q : Int → Bool) : (!decide (rg.filter q = [])) = hit rg q := by
  unfold hit
  induction rg with
  | nil => rfl
  | cons a l ih =>
    cases h : q a
    · rw [List.filter_cons_of_neg (by simp [h]), List.any_cons, h, Bool.false_or, ih]
    · rw [List.filter_cons_of_pos h, List.any_cons, h]; simp
end
section
/-- the ledger l' is l, but for the object x -/
noncomputable def Put (x : Addr × Obj) (l l' : List (Addr × Obj)) : Prop := ∀ p ∈ l', p = x ∨ (p ∈ l ∧ p.1 ≠ x.1)
noncomputable def Off (c : Nat) (l : List (Addr × Obj)) : Prop := ∀ p ∈ l, p.1 ≠ c
theorem Off.nil {c : Nat} : Off c [] := fun _ h => nomatch h
theorem Off.cons {c a : Nat} {o : Obj} {l : List (Addr × Obj)} (h : a ≠ c) (t : Off c l) : Off c ((a, o) :: l) := fun p hp => by
  rcases List.mem_cons.mp hp with rfl | hp
  · exact h
  · exact t p hp
theorem Off.lt {c : Nat} {l : List (Addr × Obj)} (h : ∀ p ∈ l, @LT.lt Nat _ p.1 c) : Off c l := fun p hp => Nat.ne_of_lt (h p hp)
theorem Put.cons {x : Addr × Obj} {l l' : List (Addr × Obj)} {a : Addr} {o : Obj} (h : a ≠ x.1) (t : Put x l l') : Put x ((a, o) :: l) ((a, o) :: l') := fun p hp => by
  rcases List.mem_cons.mp hp with rfl | hp
  · exact .inr ⟨.head _, h⟩
  · rcases t p hp with h | h
    · exact .inl h
    · exact .inr ⟨.tail _ h.1, h.2⟩
theorem Put.here {c : Addr} {o o' : Obj} {l : List (Addr × Obj)} (t : Off c l) : Put (c, o') ((c, o) :: l) ((c, o') :: l) := fun p hp => by
  rcases List.mem_cons.mp hp with rfl | hp
  · exact .inl rfl
  · exact .inr ⟨.tail _ hp, t p hp⟩
theorem Put.rows {x : Addr × Obj} {l l' : List (Addr × Obj)} {rs : Nat → Nat} {os : Nat → Obj} (h : ∀ a, a < 5 → rs a ≠ x.1) (t : Put x l l') : Put x (rows5 rs os l) (rows5 rs os l') :=
  (((((t.cons (h 4 (by decide))).cons (h 3 (by decide))).cons (h 2 (by decide))).cons (h 1 (by decide))).cons (h 0 (by decide)))
section
variable {L : Addr} {o1 o2 o3 o4 o5 o6 o' : Obj} {rest : List (Addr × Obj)}
theorem led_put1 (t : Off (L + 1) rest) : Put (L + 1, o') (led6 L o1 o2 o3 o4 o5 o6 rest) (led6 L o' o2 o3 o4 o5 o6 rest) := by
  iterate 5 refine Put.cons (by show @Ne Nat _ _; walk_at "lia") ?_
  exact Put.here t
theorem led_put2 (t : Off (L + 1 + 1) rest) : Put (L + 1 + 1, o') (led6 L o1 o2 o3 o4 o5 o6 rest) (led6 L o1 o' o3 o4 o5 o6 rest) := by
  iterate 4 refine Put.cons (by show @Ne Nat _ _; walk_at "lia") ?_
  exact Put.here (.cons (by walk_at "lia") t)
theorem led_put3 (t : Off (L + 1 + 1 + 1) rest) : Put (L + 1 + 1 + 1, o') (led6 L o1 o2 o3 o4 o5 o6 rest) (led6 L o1 o2 o' o4 o5 o6 rest) := by
  iterate 3 refine Put.cons (by show @Ne Nat _ _; walk_at "lia") ?_
  exact Put.here (.cons (by walk_at "lia") (.cons (by walk_at "lia") t))
theorem led_put4 (t : Off (L + 1 + 1 + 1 + 1) rest) : Put (L + 1 + 1 + 1 + 1, o') (led6 L o1 o2 o3 o4 o5 o6 rest) (led6 L o1 o2 o3 o' o5 o6 rest) := by
  iterate 2 refine Put.cons (by show @Ne Nat _ _; walk_at "lia") ?_
  exact Put.here (.cons (by walk_at "lia") (.cons (by walk_at "lia") (.cons (by walk_at "lia") t)))
theorem led_put5 (t : Off (L + 1 + 1 + 1 + 1 + 1) rest) : Put (L + 1 + 1 + 1 + 1 + 1, o') (led6 L o1 o2 o3 o4 o5 o6 rest) (led6 L o1 o2 o3 o4 o' o6 rest) := by
  refine Put.cons (by show @Ne Nat _ _; walk_at "lia") ?_
  exact Put.here (.cons (by walk_at "lia") (.cons (by walk_at "lia") (.cons (by walk_at "lia") (.cons (by walk_at "lia") t))))
theorem led_put6 (t : Off (L + 1 + 1 + 1 + 1 + 1 + 1) rest) : Put (L + 1 + 1 + 1 + 1 + 1 + 1, o') (led6 L o1 o2 o3 o4 o5 o6 rest) (led6 L o1 o2 o3 o4 o5 o' rest) :=
  Put.here (.cons (by walk_at "lia") (.cons (by walk_at "lia") (.cons (by walk_at "lia") (.cons (by walk_at "lia") (.cons (by walk_at "lia") t)))))
end
section
variable {M : Model} {A : Around} {E : Value → Shared → Prop} {s : Shared} {h₀ : Heap} {L : Addr} {m : Str → Option Value} {name : Str} {scope : Scope} {a : Addr} {cd : Value}
theorem st_cell {x : Str} {c : Addr} {o : Obj} {v₀ : Option Value} {v : Value} {news : List (Addr × Obj)} {Q : Unit → Shared → Prop} (g : Obj → List (Addr × Obj)) (F : Fr h₀ L s.heap m) (N : News h₀ L s.heap news)
    (hm : (c, o) ∈ news) (hd : o.data = .cell v₀) (hg : ∀ o', Put (c, o') news (g o'))
    (h : ∀ h' o', Fr h₀ L h' m → News h₀ L h' (g o') → o'.data = .cell (some v) → Q () { s with heap := h' })
    (hc : (cellsFrom (L + 1) scope.names []).lookup x = some c := by rfl) (hk : scope.kind = .function := by rfl) (hl : (envOfC name scope L a cd).kindOf x = some .cell := by rfl) :
    wpAny M A (storeName (envOfC name scope L a cd) x v) Q E s := by
  have hmem := N (c, o) hm
  refine wpAny_storeName_cell hk hl hc ⟨o, hmem.1, hd⟩ fun h' hv hs => ?_
  obtain ⟨o', ho', hd'⟩ := hv
  refine h h' o' ⟨F.ns.sameBut hs (Ne.symm hmem.2.1), fun b ob e => (hs.2 b (fun q => ?_)).trans (F.keep b ob e), F.above⟩ (News.putAt N ⟨o, hm⟩ hs ho' (hg o')) hd'
  rw [q, hmem.2.2] at e; cases e
end
theorem keep_any {n c : Nat} {p : Nat → Bool} (hc : c < n) : (keep n p).any (· == (c : Int)) = p c := by
  cases h : p c
  · rw [List.any_eq_false]
    intro x hx
    obtain ⟨b, h1, h2, rfl⟩ := keep_mem.mp hx
    intro he
    have e : b = c := by have := beq_iff_eq.mp he; walk_at "lia"
    subst e; rw [h] at h2; cases h2
  · rw [List.any_eq_true]
    exact ⟨(c : Int), keep_mem.mpr ⟨c, hc, h, rfl⟩, beq_self_eq_true _⟩
/-- by the numbers alone: does the row lie on a way from a ring to a ring -/
noncomputable def between (ns : List Int) (i : Nat) : Bool :=
  match ns[i]? with
  | none => false
  | some n => hit (keep 5 fun b => wall (leadsOf ns) 5 b b) (fun x => wall (leadsOf ns) 5 x.toNat (n % 5).toNat) && hit (keep 5 fun b => wall (leadsOf ns) 5 b b) (fun x => wall (leadsOf ns) 5 (n / 5 % 5).toNat x.toNat)
inductive RingsPost (nl : Addr) (o : Obj) (ns : List Int) (news : List (Addr × Obj)) : Value → List (Addr × Obj) → Prop where
  | mk : ∀ D vs, (IntsAre vs (keep ns.length (between ns))) → (Off D ((nl, o) :: news)) → RingsPost nl o ns news (.ref D) ((D, lst vs vs.length) :: (nl, o) :: news)
end
section
section
local macro_rules | `(tactic| walk_at $k:str) => do
  if ["eval ListComp", "exec For Name Name cons nil", "exec For Name Call cons nil", "subscriptTail", "setItem", "compareOp NotEq ref ref", "call type:enumerate", "compareOp In int ref", "storeName"].contains k.getString then `(tactic| walk_at "halt") else Lean.Macro.throwUnsupported
set_option maxRecDepth 100000 in
set_option maxHeartbeats 2000000 in
theorem rings_t {w : World} {nl : Addr} {vs : List Value} {ns : List Int} {k : Nat} {news : List (Addr × Obj)} (hi : IntsH vs ns) (hnd : ND ((nl, lst vs k) :: news)) (hlen : vs.length ≤ 100) :
   Calls w 261 [.ref nl] ((nl, lst vs k) :: news) 50 500 (RingsPost nl (lst vs k) ns news) := by
  unfold Calls
  intro dp un gd cn cs a ccd cl outer A₀ base h₀ L m s Q E loose mean mg mb B YB F X N T hk hdp hu hret
  refine wpAny_call ?_
  k_dflt (walk_at "enter")
  (with_reducible rename Fr _ _ _ _ => kF)
  replace kF : Fr _ _ _ (fun y => if y = Str.ofString "numbers" then some (Value.ref nl) else none) := kF
  rename_i g1 L1 hp1 tk1 FG1 B1 X1 T1 l1 o6 o5 o4 o3 o2 o1 c6 c5 c4 c3 c2 c1 N1
  replace c1 : o1.data = Data.cell none := c1
  replace c2 : o2.data = Data.cell none := c2
  replace c3 : o3.data = Data.cell none := c3
  replace c4 : o4.data = Data.cell none := c4
  replace c5 : o5.data = Data.cell none := c5
  replace c6 : o6.data = Data.cell none := c6
  refine body_cut (LeftR g1 L1 s (RingsPost nl (lst vs k) ns news)) (fun Q' hq => ?_) fun f s' hp => ?_
  rotate_left
  · clear kF N1
    cases hp with | mk r led h tk m hp kF N1 =>
    k_steps
    exact hret _ _ _ _ hp (by k_asm) (by k_asm)
  clear hret B F N
  refine name_run ?_
  intro en AA
  have hlt : ∀ p ∈ news, @LT.lt Nat _ p.1 L1 := of_allLt l1.2
  have hoff : ∀ c, @LE.le Nat _ L1 c → Off c ((nl, lst vs k) :: news) := fun c hc => .cons (by have h1 : @LT.lt Nat _ nl L1 := l1.1; walk_at "lia") (.lt fun p hp => Nat.lt_of_lt_of_le (hlt p hp) hc)
  k_steps
  refine Stop.go ?_
  refine ListComp_at (by with_unfolding_all rfl) (by rfl) (by decide) ?_
  k_steps
  refine Stop.go ?_
  (with_reducible rename IsRange _ _ _ _ _ _ _ _ => hR)
  (with_reducible rename Fr _ _ _ _ => kF)
  (with_reducible rename News _ _ _ _ => kN)
  refine comp_range (n := 5) (LeadsJ L1 (led6 L1 o1 o2 o3 o4 o5 o6 ((nl, lst vs k) :: news))) rfl hR (by decide) (by decide) (by decide) kF kN (leadsJ_zero _ _) ?_ (finE ?_)
  · clear kF kN hR
    rintro wr i ys m₅ C oC D own news₁ h tk E' hi5 hyl ⟨v, ⟨t, rfl⟩, hm⟩ hoC hJ off hwo F3 N3
    refine wpAny_tests_nil ?_
    k_steps
    (with_reducible rename Fr _ _ _ _ => kF)
    (with_reducible rename News _ _ _ _ => kN)
    rename_i l2
    have l3 : ∀ p ∈ (C, oC) :: (D, lst ys ys.length) :: (news₁ ++ own), @LT.lt Nat _ p.1 _ := of_allLt l2
    have h16 := l3 (L1 + 1 + 1 + 1 + 1 + 1 + 1, o6) (by obtain ⟨_, _, _, e, _⟩ := hJ; subst e; simp)
    obtain ⟨n₂, h1, h2⟩ := leadsJ_step hJ (OL.lst (rowV (fun _ _ => false) i) 0) h16 (fun p hp => l3 p (.tail _ (.tail _ (List.mem_append_left _ hp))))
    exact cend_new kF kN l3 off hwo (fun p hp => (h1 p).mp hp) h2
  · intro D h tk ys news' hyl F3 N3 off hJ
    clear kF kN
    obtain ⟨rs, os, rfl, rfl, hos, hrs⟩ := hJ
    rw [matRows5] at N3 off
    generalize holl : lst (refsV rs 5) (refsV rs 5).length = oll at N3
    have hol : OL oll (refsV rs 5) := holl ▸ OL.lst _ _
    have hD1 : @Ne Nat (L1 + 1) D := off (L1 + 1, o1) (by walk_at "mem")
    have hD2 : @Ne Nat (L1 + 1 + 1) D := off (L1 + 1 + 1, o2) (by walk_at "mem")
    have hD3 : @Ne Nat (L1 + 1 + 1 + 1) D := off (L1 + 1 + 1 + 1, o3) (by walk_at "mem")
    have hD4 : @Ne Nat (L1 + 1 + 1 + 1 + 1) D := off (L1 + 1 + 1 + 1 + 1, o4) (by walk_at "mem")
    have hD5 : @Ne Nat (L1 + 1 + 1 + 1 + 1 + 1) D := off (L1 + 1 + 1 + 1 + 1 + 1, o5) (by walk_at "mem")
    have hD6 : @Ne Nat (L1 + 1 + 1 + 1 + 1 + 1 + 1) D := off (L1 + 1 + 1 + 1 + 1 + 1 + 1, o6) (by walk_at "mem")
    k_steps
    refine Stop.go ?_
    refine st_cell (fun o => (D, oll) :: rows5 rs os (led6 L1 o1 o o3 o4 o5 o6 ((nl, lst vs k) :: news))) F3 N3 (.tail _ (rows5_iff.mpr (.inr (by walk_at "mem")))) c2 (fun o' => Put.cons hD2.symm (Put.rows (fun a ha => off6 (hrs.1 a ha) (Nat.add_le_add_left (m := 6) (n := 2) (by decide) L1)) (led_put2 (hoff _ (by walk_at "lia"))))) ?_
    intro hh oo kF kN dd
    k_steps
    (with_reducible rename Fr _ _ _ _ => kF)
    (with_reducible rename News _ _ _ _ => kN)
    refine Stop.go ?_
    with_unfolding_all refine' For_invVF kF (by rfl) (by rfl) ?_
    k_steps
    refine Stop.go ?_
    refine with_fr kF fun M hM kF => ?_
    refine for_list (vs := vs) (e := k) (news := (D, oll) :: rows5 rs os (led6 L1 o1 oo o3 o4 o5 o6 news)) (LeadJ M D oll rs (led6 L1 o1 oo o3 o4 o5 o6 news) ns) rfl kF (fun p hp => kN p ?_) ?_ ?_ ?_
    · first | (refine sub_of ?_ hp; walk_at "sub"; done) | (simp only [List.mem_cons] at hp ⊢; grind)
    · refine ⟨⟨M (Str.ofString "x"), ?_⟩, os, ⟨hol, hos⟩, rfl⟩
      funext z
      by_cases h1 : z = Str.ofString "x"
      · subst h1; rw [if_pos rfl]
      · rw [if_neg h1]
    · rintro i v m₁ n₁ h tk I oI hv ⟨⟨ux, rfl⟩, os, hM5, rfl⟩ hI hpl F₁ N₁
      obtain ⟨n, tn, hn⟩ := int_at hi.h hv
      have e2 : (fun y => if y = Str.ofString "x" then some (.int n tn) else (fun z => if z = Str.ofString "x" then ux else M z) y) = fun y => if y = Str.ofString "x" then some (Value.int n tn) else M y := by
        funext y
        by_cases h1 : y = Str.ofString "x"
        · rw [if_pos h1, if_pos h1]
        · rw [if_neg h1, if_neg h1]; dsimp only; rw [if_neg h1]
      have F' := e2 ▸ F₁
      have N' := N₁
      clear F₁ N₁ kF kN
      subst hM
      clear e2
      dsimp +zetaDelta only [envOfC] at F' N'
      k_steps
      refine Stop.go ?_
      have q5 := fmod_A n
      have q6 := fmod_B n
      have ha5 := (mod5 n).2
      have hb5 := (div5 n).2
      have hst : leadsOf (ns.take (i + 1)) = setM (leadsOf (ns.take i)) (n % 5).toNat (n / 5 % 5).toNat := by
        rw [List.take_add_one, hn]; simp [leadsOf, List.foldl_append]
      rw [q5]
      generalize (n % 5).toNat = aa at ha5 hst q5 ⊢
      generalize (n / 5 % 5).toNat = bb at hb5 hst q6 ⊢
      (with_reducible rename News _ _ _ _ => kN)
      refine PyProof.Rows.item_listL (hM5.1.isList kN (by walk_at "mem")) (by walk_at "lia") (by walk_at "lia") (by rw [Int.toNat_natCast]; exact refsV_at ha5) ?_
      k_steps
      (with_reducible rename Fr _ _ _ _ => kF)
      refine Stop.go ?_
      rw [q6]
      refine setItem_led kF kN (a := rs aa) (o := os aa) (vs := rowV (leadsOf (ns.take i)) aa) ?_ (hM5.2 aa ha5) rfl (by simpa [rowV] using hb5) (by simp [rowV]) fun h' o' F2 hs ho' hOL => ?_
      · exact .tail _ (.tail _ (.tail _ (rows5_mem ha5)))
      k_steps
      refine lead_turn (s₁ := { s with heap := h, toks := _ }) F2 kN hs ho' hOL hM5 ha5 hrs.2 hI (fun e => ?_) (fun e => off _ (rows5_mem ha5) e.symm) (fun p hp e => ?_) hst
      · have h1 : rs aa < L1 := e ▸ l1.1
        have h2 := hrs.1 aa ha5
        walk_at "lia"
      · have h1 : rs aa < L1 + 6 + 1 := e ▸ led6_lt hlt p hp
        have h2 := hrs.1 aa ha5
        walk_at "lia"
    · rintro m₁ n₁ h tk ⟨⟨ux, rfl⟩, os, hM5, rfl⟩ F₁ N₁
      clear kF kN
      subst hM
      dsimp +zetaDelta only [envOfC] at F₁ N₁
      rw [show vs.length = ns.length from hi.h.length, List.take_length] at hM5
      k_steps
      refine Stop.go ?_
      (with_reducible rename Fr _ _ _ _ => kF)
      with_unfolding_all refine' For_turns kF ?_
      k_steps
      refine Stop.go ?_
      (with_reducible rename Fr _ _ _ _ => kF)
      (with_reducible rename News _ _ _ _ => kN)
      (with_reducible rename IsRange _ _ _ _ _ _ _ _ => hR)
      replace kN : News g1 L1 _ ((D, oll) :: rows5 rs os (led6 L1 o1 oo o3 o4 o5 o6 ((nl, lst vs k) :: news))) := fun p hp => kN p (by first | exact sub_cat [[_], [_], [_], [_], [_], [_], [_], [_], [_], [_], [_], [_], [_], news] [1, 2, 3, 4, 5, 6, 7, 8, 9, 10, 11, 12, 0, 13] [0, 1, 2, 3, 4, 5, 6, 7, 8, 9, 10, 11, 12, 13] (by decide) p hp | exact sub_cat [[_], [_], [_], [_], [_], [_], [_], [_], [_], [_], [_], [_], [_], [_], news] [2, 3, 4, 5, 6, 7, 8, 9, 10, 11, 12, 13, 1, 14] [0, 1, 2, 3, 4, 5, 6, 7, 8, 9, 10, 11, 12, 13, 14] (by decide) p hp)
      refine with_fr kF fun m hm kF => ?_
      refine for_range (n := 5) (fun k' => WallJ m L1 D o6 o5 o4 oo ((nl, lst vs k) :: news) IsCell (RowApart L1 D) (wall (leadsOf ns) k')) (by intro _ _; rfl) rfl hR (by decide) (by decide) kF kN ?_ ?_ ?_
      · refine ⟨oll, rs, os, o1, o3, hM5, ⟨_, c1⟩, ⟨_, c3⟩, fun a ha => ?_⟩
        exact rowApart_new (hrs.1 a ha) (off _ (rows5_mem ha))
      · clear kF kN hR
        rintro k1 tk1 m₁ n₁ h tk I oI hk5 ⟨oll, rs, os, ok, oi, hM, ⟨xk, hxk⟩, ⟨xi, hxi⟩, hro⟩ hI F₁ N₁
        subst hm
        dsimp +zetaDelta only [envOfC] at F₁ N₁
        have hI1 : @Ne Nat (L1 + 1) I := hI (L1 + 1, ok) (by walk_at "mem")
        have hID : @Ne Nat D I := hI (D, oll) (by walk_at "mem")
        k_steps
        refine Stop.go ?_
        refine st_cell (fun o => (I, oI) :: (D, oll) :: rows5 rs os (led6 L1 o oo oi o4 o5 o6 ((nl, lst vs k) :: news))) F₁ N₁ (.tail _ (.tail _ (rows5_iff.mpr (.inr (by walk_at "mem"))))) hxk (fun o' => Put.cons hI1.symm (Put.cons hD1.symm (Put.rows (fun a ha => (hro a ha).2.1) (led_put1 (hoff _ (by walk_at "lia")))))) ?_
        intro hk ok' kF kN dk
        clear F₁ N₁
        k_steps
        refine Stop.go ?_
        (with_reducible rename Fr _ _ _ _ => kF)
        with_unfolding_all refine' For_turns kF ?_
        k_steps
        refine Stop.go ?_
        (with_reducible rename Fr _ _ _ _ => kF)
        (with_reducible rename News _ _ _ _ => kN)
        (with_reducible rename IsRange _ _ _ _ _ _ _ _ => hR)
        refine with_fr kF fun m hm kF => ?_
        refine for_range (n := 5) (news := (D, oll) :: rows5 rs os (led6 L1 ok' oo oi o4 o5 o6 ((I, oI) :: (nl, lst vs k) :: news))) (fun i' => WallJ m L1 D o6 o5 o4 oo ((I, oI) :: (nl, lst vs k) :: news) (fun o => o = ok') (fun q => RowApart L1 D q ∧ q ≠ I) (wrow (wall (leadsOf ns) k1) k1 i')) (by intro _ _; rfl) rfl hR (by decide) (by decide) kF (fun p hp => kN p ?_) ?_ ?_ ?_
        · first | (refine sub_of ?_ hp; walk_at "sub"; done) | (simp only [List.mem_cons] at hp ⊢; grind)
        · exact ⟨oll, rs, os, ok', oi, hM, rfl, ⟨xi, hxi⟩, fun a ha => ⟨hro a ha, hI (rs a, os a) (.tail _ (rows5_mem ha))⟩⟩
        · have hI0 : ∀ p ∈ led6 L1 ok oo oi o4 o5 o6 ((nl, lst vs k) :: news), p.1 ≠ I := fun p hp => hI p (.tail _ (rows5_iff.mpr (.inr hp)))
          have hII3 : I ≠ L1 + 1 + 1 + 1 := fun e => hI0 (L1 + 1 + 1 + 1, oi) (by walk_at "mem") e.symm
          clear hI0 kF kN hR hM hro hI hxi
          rintro i1 tki m₁ n₁ h tk I2 oI2 hi5 ⟨oll, rs, os, ok, oi, hM, rfl, ⟨xi, hxi⟩, hro⟩ hI F₁ N₁
          subst hm
          dsimp +zetaDelta only [envOfC] at F₁ N₁
          have hI3 : @Ne Nat (L1 + 1 + 1 + 1) I2 := hI (L1 + 1 + 1 + 1, oi) (by walk_at "mem")
          have hID0 := hID
          have hID : @Ne Nat D I2 := hI (D, oll) (by walk_at "mem")
          have hI' : ∀ p ∈ (D, oll) :: rows5 rs os (led6 L1 ok oo oi o4 o5 o6 ((I, oI) :: (nl, lst vs k) :: news)), p.1 ≠ I2 := hI
          k_steps
          refine Stop.go ?_
          refine st_cell (fun o => (I2, oI2) :: (D, oll) :: rows5 rs os (led6 L1 ok oo o o4 o5 o6 ((I, oI) :: (nl, lst vs k) :: news))) F₁ N₁ (.tail _ (.tail _ (rows5_iff.mpr (.inr (by walk_at "mem"))))) hxi (fun o' => Put.cons hI3.symm (Put.cons hD3.symm (Put.rows (fun a ha => (hro a ha).1.2.2.1) (led_put3 (.cons hII3 (hoff _ (by walk_at "lia"))))))) ?_
          intro hh oi' kF kN dd2
          clear F₁ N₁
          k_steps
          refine Stop.go ?_
          have hMd : wrow (wall (leadsOf ns) k1) k1 (i1 + 1) = wstep (wrow (wall (leadsOf ns) k1) k1 i1) k1 i1 := rfl
          generalize wrow (wall (leadsOf ns) k1) k1 i1 = M at hM hMd
          refine mat_item hM kN (by walk_at "mem") hi5 ?_
          k_steps
          refine Stop.go ?_
          refine row_item hM kN hi5 (.tail _ (.tail _ (rows5_mem hi5))) hk5 ?_
          cases hb : M i1 k1
          · k_steps
            refine ⟨hh, _, _, (D, oll) :: rows5 rs os (led6 L1 ok oo oi' o4 o5 o6 ((I, oI) :: (nl, lst vs k) :: news)), rfl, kF, kN, off_map (P := fun a => a ≠ I2) hI' rfl, oll, rs, os, ok, oi', ?_, rfl, ⟨_, dd2⟩, hro⟩
            rw [hMd]; unfold wstep; rw [hb]; exact hM
          · k_steps
            refine Stop.go ?_
            refine ListComp_at (by with_unfolding_all rfl) (by rfl) (by decide) ?_
            k_steps
            refine Stop.go ?_
            (with_reducible rename IsRange _ _ _ _ _ _ _ _ => hR)
            (with_reducible rename Fr _ _ _ _ => kF)
            (with_reducible rename News _ _ _ _ => kN)
            refine comp_range (n := 5) (fun j ys n₁ => n₁ = (I2, oI2) :: (D, oll) :: rows5 rs os (led6 L1 ok oo oi' o4 o5 o6 ((I, oI) :: (nl, lst vs k) :: news)) ∧ ys = (List.range j).map (fun b => Value.bool (M i1 b || M k1 b))) rfl hR (by decide) (by decide) (by decide) kF kN ⟨rfl, rfl⟩ (turn_range ?_) (finF ?_)
            · clear kF kN hR
              intro wr j ys m₅ C oC D' own h tk E' t hj5 hyl hm hoC hys off' hwo F3 N3
              refine wpAny_tests_nil ?_
              k_steps
              refine Stop.go ?_
              refine mat_item hM N3 (.tail _ (.tail _ (.tail _ (.head _)))) hi5 ?_
              k_steps
              refine Stop.go ?_
              refine row_item hM N3 hi5 (.tail _ (.tail _ (.tail _ (.tail _ (List.mem_append_left _ (rows5_mem hi5)))))) hj5 ?_
              have hnx : List.map (fun b => Value.bool (M i1 b || M k1 b)) (List.range (j + 1)) = ys ++ [.bool (M i1 j || M k1 j)] := by rw [List.range_succ, List.map_append, hys]; rfl
              cases hb1 : M i1 j
              · rw [hb1, Bool.false_or] at hnx
                k_steps
                refine Stop.go ?_
                refine mat_item hM N3 (.tail _ (.tail _ (.tail _ (.head _)))) hk5 ?_
                k_steps
                refine Stop.go ?_
                refine row_item hM N3 hk5 (.tail _ (.tail _ (.tail _ (.tail _ (List.mem_append_left _ (rows5_mem hk5)))))) hj5 ?_
                k_steps
                exact ⟨h, _, _, rfl, F3, N3, off', rfl, hnx.symm⟩
              · rw [hb1, Bool.true_or] at hnx
                k_steps
                exact ⟨h, _, _, rfl, F3, N3, off', rfl, hnx.symm⟩
            · intro D' h tk ys hyl F3 N3 off' hys
              clear kF kN
              k_steps
              refine Stop.go ?_
              have hqD : @Ne Nat D' D := (off' (D, oll) (by walk_at "mem")).symm
              refine setItem_led F3 N3 (a := D) (o := oll) (vs := refsV rs 5) (by walk_at "mem") hM.1 rfl (by simpa [refsV] using hi5) (by simp [refsV]) fun h' o' F4 hs ho' hOL => ?_
              k_steps
              have hof : ∀ p ∈ led6 L1 ok oo oi' o4 o5 o6 ((I, oI) :: (nl, lst vs k) :: news), p.1 ≠ D := by
                intro p hp
                simp only [List.mem_cons] at hp
                rcases hp with rfl | rfl | rfl | rfl | rfl | rfl | rfl | hp
                · exact hD6
                · exact hD5
                · exact hD4
                · exact hD3
                · exact hD2
                · exact hD1
                · exact hID0.symm
                · exact off p (mem_skip 11 (List.mem_cons.mpr hp))
              obtain ⟨N5, hM5⟩ := wall_turn N3 hs ho' hOL hM hb hys hqD hID.symm (fun a ha => (hro a ha).1.1) hof
              refine ⟨h', _, _, (D, o') :: rows5 (fun a => if a = i1 then D' else rs a) (fun a => if a = i1 then lst ys ys.length else os a) (led6 L1 ok oo oi' o4 o5 o6 ((I, oI) :: (nl, lst vs k) :: news)), rfl, F4, N5, ?_, o', _, _, ok, oi', hMd ▸ hM5, rfl, ⟨_, dd2⟩, ?_⟩
              · have hI2 : ∀ p ∈ (D, oll) :: rows5 rs os (led6 L1 ok oo oi' o4 o5 o6 ((I, oI) :: (nl, lst vs k) :: news)), p.1 ≠ I2 := off_map (P := fun a => a ≠ I2) hI' rfl
                intro p hp
                rcases List.mem_cons.mp hp with rfl | hp
                · exact hID
                rcases rows5_iff.mp hp with ⟨a, ha, rfl⟩ | hp
                · by_cases e : a = i1
                  · simp only [if_pos e]; exact (off' (I2, oI2) (by walk_at "mem")).symm
                  · simp only [if_neg e]; exact hI _ (.tail _ (rows5_mem ha))
                · exact hI2 p (.tail _ (rows5_iff.mpr (.inr hp)))
              · intro a ha
                by_cases e : a = i1
                · simp only [if_pos e]
                  refine ⟨?_, (off' (I, oI) (by walk_at "mem")).symm⟩
                  exact ⟨hqD, (off' (L1 + 1, ok) (by walk_at "mem")).symm, (off' (L1 + 1 + 1 + 1, oi') (by walk_at "mem")).symm, (off' (L1 + 1 + 1 + 1 + 1, o4) (by walk_at "mem")).symm, (off' (L1 + 1 + 1 + 1 + 1 + 1, o5) (by walk_at "mem")).symm, (off' (L1 + 1 + 1 + 1 + 1 + 1 + 1, o6) (by walk_at "mem")).symm⟩
                · simp only [if_neg e]; exact hro a ha
        · clear kF kN hR hM hro hxi
          have hI' : ∀ p ∈ led6 L1 ok' oo oi o4 o5 o6 ((nl, lst vs k) :: news), p.1 ≠ I := fun p hp => off_map (P := fun a => a ≠ I) (l' := (D, oll) :: rows5 rs os (led6 L1 ok' oo oi o4 o5 o6 ((nl, lst vs k) :: news))) hI rfl p (.tail _ (rows5_iff.mpr (.inr hp)))
          clear hI
          rintro m₁ n₁ h tk ⟨oll', rs, os, ok, oi', hM, rfl, ⟨xi, hxi⟩, hro⟩ F₁ N₁
          subst hm
          dsimp +zetaDelta only [envOfC] at F₁ N₁
          k_steps
          refine ⟨h, _, _, (D, oll') :: rows5 rs os (led6 L1 ok oo oi' o4 o5 o6 ((nl, lst vs k) :: news)), rfl, F₁, fun p hp => N₁ p ?_, ?_, oll', rs, os, ok, oi', hM, ⟨_, dk⟩, ⟨xi, hxi⟩, fun a ha => (hro a ha).1⟩
          · first | (refine sub_of ?_ hp; walk_at "sub"; done) | (simp only [List.cons_append, List.nil_append, List.mem_cons] at hp ⊢; grind)
          · intro p hp
            rcases List.mem_cons.mp hp with rfl | hp
            · exact hID
            rcases rows5_iff.mp hp with ⟨a, ha, rfl⟩ | hp
            · exact (hro a ha).2
            · exact off_map (P := fun a => a ≠ I) (l' := led6 L1 ok oo oi' o4 o5 o6 ((nl, lst vs k) :: news)) hI' rfl p hp
      · clear kF kN hR
        rintro m₁ n₁ h tk ⟨oll, rs, os, ok, oi, hM, ⟨xk, hxk⟩, ⟨xi, hxi⟩, hro⟩ F₁ N₁
        subst hm
        dsimp +zetaDelta only [envOfC] at F₁ N₁
        generalize hMM : wall (leadsOf ns) 5 = M at hM
        have hnl : @LT.lt Nat _ nl L1 := l1.1
        k_steps
        refine Stop.go ?_
        refine ListComp_at (by with_unfolding_all rfl) (by rfl) (by decide) ?_
        k_steps
        refine Stop.go ?_
        (with_reducible rename IsRange _ _ _ _ _ _ _ _ => hR)
        (with_reducible rename Fr _ _ _ _ => kF)
        (with_reducible rename News _ _ _ _ => kN)
        refine comp_range (n := 5) (fun j ys n₁ => n₁ = (D, oll) :: rows5 rs os (led6 L1 ok oo oi o4 o5 o6 ((nl, lst vs k) :: news)) ∧ IntsAre ys (keep j fun b => M b b)) rfl hR (by decide) (by decide) (by decide) kF kN ⟨rfl, .nil⟩ (turn_range ?_) (finF ?_)
        · clear kF kN hR
          intro wr j ys m₅ C oC D' own h tk E' t hj5 hyl hm hoC hys off' hwo F3 N3
          have hDm : (D, oll) ∈ (C, oC) :: (D', lst ys ys.length) :: ((D, oll) :: rows5 rs os (led6 L1 ok oo oi o4 o5 o6 ((nl, lst vs k) :: news)) ++ own) := .tail _ (.tail _ (.head _))
          have hRm : ∀ a, a < 5 → (rs a, os a) ∈ (C, oC) :: (D', lst ys ys.length) :: ((D, oll) :: rows5 rs os (led6 L1 ok oo oi o4 o5 o6 ((nl, lst vs k) :: news)) ++ own) := fun a ha => .tail _ (.tail _ (.tail _ (List.mem_append_left _ (rows5_mem ha))))
          refine wpAny_tests_one (cut_eq F3 N3 (M j j) (fun Q' hQ' => ?_) ?_)
          · k_steps
            refine Stop.go ?_
            refine mat_item hM N3 hDm hj5 ?_
            k_steps
            refine Stop.go ?_
            refine row_item hM N3 hj5 (hRm j hj5) hj5 ?_
            k_steps
            exact hQ' _ _ _ rfl (by k_asm) (by k_asm)
          · intro h' tk' F4 N4
            cases hb : M j j
            · simp only [Bool.false_eq_true, if_false]
              exact ⟨h', tk', _, rfl, F4, N4, off', rfl, keep_no hys hb⟩
            · simp only [if_true]
              k_steps
              exact ⟨h', tk', _, rfl, F4, N4, off', rfl, keep_yes hys hb⟩
        · intro D' h tk ys hyl F3 N3 off' hys
          clear kF kN
          have hE1 : @Ne Nat (L1 + 1 + 1 + 1 + 1) D' := off' (L1 + 1 + 1 + 1 + 1, o4) (by walk_at "mem")
          have hE2 : @Ne Nat (L1 + 1 + 1 + 1 + 1 + 1) D' := off' (L1 + 1 + 1 + 1 + 1 + 1, o5) (by walk_at "mem")
          have hE3 : @Ne Nat (L1 + 1 + 1 + 1 + 1 + 1 + 1) D' := off' (L1 + 1 + 1 + 1 + 1 + 1 + 1, o6) (by walk_at "mem")
          k_steps
          refine Stop.go ?_
          refine st_cell (fun o => (D', lst ys ys.length) :: (D, oll) :: rows5 rs os (led6 L1 ok oo oi o o5 o6 ((nl, lst vs k) :: news))) F3 N3 (.tail _ (.tail _ (rows5_iff.mpr (.inr (by walk_at "mem"))))) c4 (fun o' => Put.cons hE1.symm (Put.cons hD4.symm (Put.rows (fun a ha => (hro a ha).2.2.2.1) (led_put4 (hoff _ (by walk_at "lia")))))) ?_
          intro hq4 o4' kF kN dq4
          clear F3 N3
          k_steps
          refine Stop.go ?_
          have hrg : ∀ x ∈ keep 5 (fun b => M b b), ∃ b : Nat, b < 5 ∧ x = (b : Int) := fun x hx => by obtain ⟨b, h1, _, h2⟩ := keep_mem.mp hx; exact ⟨b, h1, h2⟩
          generalize hrgd : keep 5 (fun b => M b b) = rg at hys hrg
          refine ListComp_at (by with_unfolding_all rfl) (by rfl) (by decide) ?_
          k_steps
          refine Stop.go ?_
          (with_reducible rename IsRange _ _ _ _ _ _ _ _ => hR)
          (with_reducible rename Fr _ _ _ _ => kF)
          (with_reducible rename News _ _ _ _ => kN)
          refine comp_range_c (n := 5) (fun j zs n₁ => n₁ = (D', lst ys ys.length) :: (D, oll) :: rows5 rs os (led6 L1 ok oo oi o4' o5 o6 ((nl, lst vs k) :: news)) ∧ IntsAre zs (keep j fun b => hit rg (fun x => M b x.toNat))) rfl hR (by decide) (by decide) (by decide) kF kN ⟨rfl, .nil⟩ (turn_range_c ?_) (finF ?_)
          · clear kF kN hR
            intro wr j t zs m₅ C oC D2 K oK own h tk E' hj5 hzl hoC hoK hzs off2 hwo F3 N3
            refine wpAny_tests_one (cut_eq F3 N3 (hit rg (fun x => M j x.toNat)) (fun Q' hQ' => ?_) ?_)
            · k_steps
              refine Stop.go ?_
              refine ListComp_at (by with_unfolding_all rfl) (by rfl) (by decide) ?_
              k_steps
              refine Stop.go ?_
              refine comp_list (vs := ys) (fun i ws n₁ => n₁ = (C, oC) :: (D2, lst zs zs.length) :: (K, oK) :: ((D', lst ys ys.length) :: (D, oll) :: rows5 rs os (led6 L1 ok oo oi o4' o5 o6 ((nl, lst vs k) :: news)) ++ own) ∧ Hits ws rg i (fun x => M j x.toNat)) rfl (OL.isList (OL.lst ys ys.length) N3 (by walk_at "mem")) (N3 (D', lst ys ys.length) (by walk_at "mem")).2.1 (by walk_at "lia") F3 N3 ⟨rfl, hits_zero _ _⟩ (turn_list ?_) (finF ?_)
              · intro wr2 i ws m₆ C2 oC2 D3 own2 h tk E' v hi hwl hv hm hoC2 hws off3 hwo2 F4 N4
                obtain ⟨x, tx, hx⟩ := int_at hys hv
                obtain ⟨b, hb5, rfl⟩ := hrg x (List.mem_of_getElem? hx)
                clear hQ' F3 N3
                refine wpAny_tests_one (cut_eq F4 N4 ((fun x : Int => M j x.toNat) (b : Int)) (fun Q' hQ' => ?_) ?_)
                · k_steps
                  refine Stop.go ?_
                  refine mat_item hM N4 (by walk_at "mem") hj5 ?_
                  k_steps
                  refine Stop.go ?_
                  refine row_item hM N4 hj5 (.tail _ (.tail _ (.tail _ (.tail _ (.tail _ (List.mem_append_left _ (List.mem_append_left _ (.tail _ <| .tail _ <| (rows5_mem hj5)))))))))  hb5 ?_
                  k_steps
                  exact hQ' _ _ _ (by simp only [Int.toNat_natCast]) (by k_asm) (by k_asm)
                · intro h' tk' F5 N5
                  cases hb : (fun x : Int => M j x.toNat) (b : Int)
                  · simp only [Bool.false_eq_true, if_false]
                    exact ⟨h', tk', _, rfl, F5, N5, off3, rfl, hits_no hws hx hb⟩
                  · simp only [if_true]
                    k_steps
                    exact ⟨h', tk', _, rfl, F5, N5, off3, rfl, hits_yes hws hx hb⟩
              · intro D3 h tk ws hwl F4 N4 off3 hws
                clear F3 N3
                k_steps
                refine Stop.go ?_
                (with_reducible rename News _ _ _ _ => kN)
                have hws' : IntsAre ws (rg.filter fun x => M j x.toNat) := by
                  have h1 := hws
                  unfold Hits at h1
                  rwa [hys.length, List.take_length] at h1
                refine ne_intsK (ms := []) (us := []) (OL.isList (OL.lst ws ws.length) kN (by walk_at "mem")) hws' (News.isList kN (.head _)) .nil (by show _ < (9900 : Nat); walk_at "side") ?_
                rw [hit_ne]
                k_steps
                exact hQ' _ _ _ rfl (by k_asm) (fun q hq => kN q (.tail _ (.tail _ hq)))
            · intro h' tk' F4 N4
              cases hb : hit rg (fun x => M j x.toNat)
              · simp only [Bool.false_eq_true, if_false]
                exact ⟨h', tk', _, rfl, F4, N4, off2, rfl, keep_no hzs hb⟩
              · simp only [if_true]
                k_steps
                exact ⟨h', tk', _, rfl, F4, N4, off2, rfl, keep_yes hzs hb⟩

          · intro DO h tk os_ hol_ F3 N3 off2 hos_
            clear kF kN
            have hO1 : @Ne Nat (L1 + 1 + 1 + 1 + 1 + 1) DO := off2 (L1 + 1 + 1 + 1 + 1 + 1, o5) (by walk_at "mem")
            have hO2 : @Ne Nat (L1 + 1 + 1 + 1 + 1 + 1 + 1) DO := off2 (L1 + 1 + 1 + 1 + 1 + 1 + 1, o6) (by walk_at "mem")
            k_steps
            refine Stop.go ?_
            refine st_cell (fun o => (DO, lst os_ os_.length) :: (D', lst ys ys.length) :: (D, oll) :: rows5 rs os (led6 L1 ok oo oi o4' o o6 ((nl, lst vs k) :: news))) F3 N3 (.tail _ (.tail _ (.tail _ (rows5_iff.mpr (.inr (by walk_at "mem")))))) c5 (fun o' => Put.cons hO1.symm (Put.cons hE2.symm (Put.cons hD5.symm (Put.rows (fun a ha => (hro a ha).2.2.2.2.1) (led_put5 (hoff _ (by walk_at "lia"))))))) ?_
            intro hq5 o5' kF kN dq5
            clear F3 N3
            k_steps
            refine Stop.go ?_
            refine ListComp_at (by with_unfolding_all rfl) (by rfl) (by decide) ?_
            k_steps
            refine Stop.go ?_
            (with_reducible rename IsRange _ _ _ _ _ _ _ _ => hR)
            (with_reducible rename Fr _ _ _ _ => kF)
            (with_reducible rename News _ _ _ _ => kN)
            refine comp_range_c (n := 5) (fun j zs n₁ => n₁ = (DO, lst os_ os_.length) :: (D', lst ys ys.length) :: (D, oll) :: rows5 rs os (led6 L1 ok oo oi o4' o5' o6 ((nl, lst vs k) :: news)) ∧ IntsAre zs (keep j fun b => hit rg (fun x => M x.toNat b))) rfl hR (by decide) (by decide) (by decide) kF kN ⟨rfl, .nil⟩ (turn_range_c ?_) (finF ?_)
            · clear kF kN hR
              intro wr j t zs m₅ C oC D2 K oK own h tk E' hj5 hzl hoC hoK hzs off2 hwo F3 N3
              refine wpAny_tests_one (cut_eq F3 N3 (hit rg (fun x => M x.toNat j)) (fun Q' hQ' => ?_) ?_)
              · k_steps
                refine Stop.go ?_
                refine ListComp_at (by with_unfolding_all rfl) (by rfl) (by decide) ?_
                k_steps
                refine Stop.go ?_
                refine comp_list (vs := ys) (fun i ws n₁ => n₁ = (C, oC) :: (D2, lst zs zs.length) :: (K, oK) :: ((DO, lst os_ os_.length) :: (D', lst ys ys.length) :: (D, oll) :: rows5 rs os (led6 L1 ok oo oi o4' o5' o6 ((nl, lst vs k) :: news)) ++ own) ∧ Hits ws rg i (fun x => M x.toNat j)) rfl (OL.isList (OL.lst ys ys.length) N3 (by walk_at "mem")) (N3 (D', lst ys ys.length) (by walk_at "mem")).2.1 (by walk_at "lia") F3 N3 ⟨rfl, hits_zero _ _⟩ (turn_list ?_) (finF ?_)
                · intro wr2 i ws m₆ C2 oC2 D3 own2 h tk E' v hi hwl hv hm hoC2 hws off3 hwo2 F4 N4
                  obtain ⟨x, tx, hx⟩ := int_at hys hv
                  obtain ⟨b, hb5, rfl⟩ := hrg x (List.mem_of_getElem? hx)
                  clear hQ' F3 N3
                  refine wpAny_tests_one (cut_eq F4 N4 ((fun x : Int => M x.toNat j) (b : Int)) (fun Q' hQ' => ?_) ?_)
                  · k_steps
                    refine Stop.go ?_
                    refine mat_item hM N4 (by walk_at "mem") hb5 ?_
                    k_steps
                    refine Stop.go ?_
                    refine row_item hM N4 hb5 (.tail _ (.tail _ (.tail _ (.tail _ (.tail _ (List.mem_append_left _ (List.mem_append_left _ (.tail _ <| .tail _ <| .tail _ <| (rows5_mem hb5)))))))))  hj5 ?_
                    k_steps
                    exact hQ' _ _ _ (by simp only [Int.toNat_natCast]) (by k_asm) (by k_asm)
                  · intro h' tk' F5 N5
                    cases hb : (fun x : Int => M x.toNat j) (b : Int)
                    · simp only [Bool.false_eq_true, if_false]
                      exact ⟨h', tk', _, rfl, F5, N5, off3, rfl, hits_no hws hx hb⟩
                    · simp only [if_true]
                      k_steps
                      exact ⟨h', tk', _, rfl, F5, N5, off3, rfl, hits_yes hws hx hb⟩
                · intro D3 h tk ws hwl F4 N4 off3 hws
                  clear F3 N3
                  k_steps
                  refine Stop.go ?_
                  (with_reducible rename News _ _ _ _ => kN)
                  have hws' : IntsAre ws (rg.filter fun x => M x.toNat j) := by
                    have h1 := hws
                    unfold Hits at h1
                    rwa [hys.length, List.take_length] at h1
                  refine ne_intsK (ms := []) (us := []) (OL.isList (OL.lst ws ws.length) kN (by walk_at "mem")) hws' (News.isList kN (.head _)) .nil (by show _ < (9900 : Nat); walk_at "side") ?_
                  rw [hit_ne]
                  k_steps
                  exact hQ' _ _ _ rfl (by k_asm) (fun q hq => kN q (.tail _ (.tail _ hq)))
              · intro h' tk' F4 N4
                cases hb : hit rg (fun x => M x.toNat j)
                · simp only [Bool.false_eq_true, if_false]
                  exact ⟨h', tk', _, rfl, F4, N4, off2, rfl, keep_no hzs hb⟩
                · simp only [if_true]
                  k_steps
                  exact ⟨h', tk', _, rfl, F4, N4, off2, rfl, keep_yes hzs hb⟩

            · intro DI h tk is_ hil_ F3 N3 off3 his_
              (try clear kF kN)
              have hP1 : @Ne Nat (L1 + 1 + 1 + 1 + 1 + 1 + 1) DI := off3 (L1 + 1 + 1 + 1 + 1 + 1 + 1, o6) (by walk_at "mem")
              k_steps
              refine Stop.go ?_
              refine st_cell (fun o => (DI, lst is_ is_.length) :: (DO, lst os_ os_.length) :: (D', lst ys ys.length) :: (D, oll) :: rows5 rs os (led6 L1 ok oo oi o4' o5' o ((nl, lst vs k) :: news))) F3 N3 (.tail _ (.tail _ (.tail _ (.tail _ (rows5_iff.mpr (.inr (by walk_at "mem"))))))) c6 (fun o' => Put.cons hP1.symm (Put.cons hO2.symm (Put.cons hE3.symm (Put.cons hD6.symm (Put.rows (fun a ha => (hro a ha).2.2.2.2.2) (led_put6 (hoff _ (by walk_at "lia")))))))) ?_
              intro hq6 o6' kF kN dq6
              clear F3 N3
              k_steps
              refine Stop.go ?_
              refine ListComp_at (by with_unfolding_all rfl) (by rfl) (by decide) ?_
              k_steps
              refine Stop.go ?_
              have hnlm : (nl, lst vs k) ∈ (DI, lst is_ is_.length) :: (DO, lst os_ os_.length) :: (D', lst ys ys.length) :: (D, oll) :: rows5 rs os (led6 L1 ok oo oi o4' o5' o6' ((nl, lst vs k) :: news)) := .tail _ (.tail _ (.tail _ (.tail _ (rows5_iff.mpr (.inr (by walk_at "mem"))))))
              refine comp_enum (vs := vs) (fun j zs n₁ => n₁ = (DI, lst is_ is_.length) :: (DO, lst os_ os_.length) :: (D', lst ys ys.length) :: (D, oll) :: rows5 rs os (led6 L1 ok oo oi o4' o5' o6' ((nl, lst vs k) :: news)) ∧ IntsAre zs (keep j (between ns))) rfl (OL.isList (OL.lst vs k) kN hnlm) (kN (nl, lst vs k) hnlm).2.1 (by walk_at "lia") kF kN ⟨rfl, .nil⟩ (turn_enum ?_) (finF ?_)
              · clear kF kN
                intro wr j zs m₅ C oC D2 own h tk E' t1 b hj hzl hb hma hmb hoC hzs off4 hwo F3 N3
                obtain ⟨n, tn, hn⟩ := int_at hi.h hb
                have q5 := fmod_A n
                have q6 := fmod_B n
                have ha5 := (mod5 n).2
                have hb5 := (div5 n).2
                have hbt : between ns j = (hit rg (fun x => M x.toNat (n % 5).toNat) && hit rg (fun x => M (n / 5 % 5).toNat x.toNat)) := by
                  unfold between; rw [hn, hMM, hrgd]
                refine wpAny_tests_one (cut_eq F3 N3 (between ns j) (fun Q' hQ' => ?_) ?_)
                · k_steps
                  refine Stop.go ?_
                  rw [q5]
                  refine in_list_ints (OL.isList (OL.lst is_ is_.length) N3 (.tail _ (.tail _ (.head _)))) his_ ?_
                  rw [keep_any ha5]
                  cases h1 : hit rg (fun x => M x.toNat (n % 5).toNat)
                  · rw [h1, Bool.false_and] at hbt
                    k_steps
                    exact hQ' _ _ _ hbt.symm (by k_asm) (by k_asm)
                  · rw [h1, Bool.true_and] at hbt
                    k_steps
                    refine Stop.go ?_
                    rw [q6]
                    refine in_list_ints (OL.isList (OL.lst os_ os_.length) N3 (.tail _ (.tail _ (.tail _ (.head _))))) hos_ ?_
                    rw [keep_any hb5]
                    cases h2 : hit rg (fun x => M (n / 5 % 5).toNat x.toNat)
                    · rw [h2] at hbt
                      k_steps
                      exact hQ' _ _ _ hbt.symm (by k_asm) (by k_asm)
                    · rw [h2] at hbt
                      k_steps
                      exact hQ' _ _ _ hbt.symm (by k_asm) (by k_asm)
                · intro h' tk' F4 N4
                  cases hb : between ns j
                  · simp only [Bool.false_eq_true, if_false]
                    exact ⟨h', tk', _, rfl, F4, N4, off4, rfl, keep_no hzs hb⟩
                  · simp only [if_true]
                    k_steps
                    exact ⟨h', tk', _, rfl, F4, N4, off4, rfl, keep_yes hzs hb⟩
              · intro DR h tk zs hzl F3 N3 off4 hzs
                clear kF kN
                k_steps
                (with_reducible rename News _ _ _ _ => kN)
                refine hq _ _ (.mk _ _ _ _ _ ⟨DR, zs, by rw [← show vs.length = ns.length from hi.h.length]; exact hzs, fun p hp => off4 p (.tail _ (.tail _ (.tail _ (.tail _ (rows5_iff.mpr (.inr ?_))))))⟩ (by k_asm) (fun q hq => kN q ?_))
                · exact .tail _ (.tail _ (.tail _ (.tail _ (.tail _ (.tail _ hp)))))
                · rcases List.mem_cons.mp hq with rfl | hq
                  · exact .head _
                  · exact .tail _ (.tail _ (.tail _ (.tail _ (.tail _ (rows5_iff.mpr (.inr (.tail _ (.tail _ (.tail _ (.tail _ (.tail _ (.tail _ hq))))))))))))
end
end
section
noncomputable def look (G : List (Str × List Str)) (x : Str) : List Str := match G.find? (fun p => p.1 == x) with | some p => p.2 | none => []
/-- a frozen book that tells these groups -/
inductive BookIs (w : World) (nt b : Addr) (G : List (Str × List Str)) (led : List (Addr × Obj)) : Prop where
  | mk : ∀ bx lam n its g hs ft kk sup, ((b, bookO bx lam ((its.map (·.1)).map ent) n) ∈ led) → ((bx, frzO g hs ft kk) ∈ led) → ((∀ t ∈ its, itobj t ∈ led)) → (All2 ItIs its G) → ((∀ x t, Fac w 25 g nt [.str x t] sup)) → ((∀ p ∈ sup, p ∈ led)) → ((b == sysModules) = false) → BookIs w nt b G led
theorem BookIs.mono {w : World} {nt b : Addr} {G : List (Str × List Str)} {led led' : List (Addr × Obj)} (h : BookIs w nt b G led) (hs : ∀ p ∈ led, p ∈ led') : BookIs w nt b G led' := by
  obtain ⟨bx, lam, n, its, g, hs', ft, kk, sup, h1, h2, h3, h4, h5, h6, h7⟩ := h
  exact ⟨bx, lam, n, its, g, hs', ft, kk, sup, hs _ h1, hs _ h2, fun t ht => hs _ (h3 t ht), h4, h5, fun p hp => hs _ (h6 p hp), h7⟩
theorem its_find {x : Str} : ∀ {its : List It} {G : List (Str × List Str)}, All2 ItIs its G → match (its.map (·.1)).find? (fun e => e.2.1 == x) with
    | some en => ∃ t ∈ its, t.1 = en ∧ StrsAre t.2.1 (look G x)
    | none => look G x = [] := by
  intro its G h
  induction h with
  | nil => rfl
  | @cons t p its G h hs ih =>
    obtain ⟨hk, hv⟩ := h
    rw [List.map_cons, List.find?_cons]
    unfold look
    rw [List.find?_cons, ← hk]
    cases hx : t.1.2.1 == x
    · simp only
      unfold look at ih
      cases hf : (its.map (·.1)).find? (fun e => e.2.1 == x) with
      | none => rw [hf] at ih; exact ih
      | some en =>
        rw [hf] at ih
        obtain ⟨t', h1, h2, h3⟩ := ih
        exact ⟨t', .tail _ h1, h2, h3⟩
    · exact ⟨t, .head _, rfl, hv⟩
theorem book_read {w : World} {dp un : Nat} {gd : Option (List Code)} {cn : Str} {cs : Scope} {a : Addr} {ccd : Value} {cl : List (Str × Addr)} {outer : List Env} {A₀ : Around} {base h₀ : Heap} {L : Addr} {m : Str → Option Value} {s : Shared} {Q E : Value → Shared → Prop} {loose : List Str} {mean : ExcName → Option Value} {mg mb : Str → Option Value}
    {nt b : Addr} {ns : List Value} {e : Nat} {G : List (Str × List Str)} {x : Str} {t : Tok} {led led₀ : List (Addr × Obj)} {value slice : PySem.Expr}
    (F : Fr h₀ L s.heap m) (B : Below A₀ base outer h₀) (YB : (KY w.params).In base) (X : (mkk.heap_1 w.params).In h₀) (N : News h₀ L s.heap ((nt, lst ns e) :: led)) (T : Top topProg loose mean mg mb h₀) (hk : cs.kind = .function) (hd : dp + 60 ≤ 800) (hu : un + 600 ≤ 6000)
    (hB : BookIs w nt b G led₀) (hsub : ∀ p ∈ led₀, p ∈ led) (hnt : ∀ p ∈ led, p.1 ≠ nt) (hl : ns.length ≤ 100000)
    (k : ∀ q us e₂ ns' e' h' tk' ex, StrsAre us (look G x) → (ex = [] ∨ ex = [(q, lst [] 0)] ∧ @Ne Nat q nt ∧ ∀ p ∈ led, @LT.lt Nat _ p.1 q) → (q, lst us e₂) ∈ ex ++ led₀ → ns.length ≤ ns'.length → ns'.length ≤ ns.length + 1 → Fr h₀ L h' m → News h₀ L h' ((nt, lst ns' e') :: (ex ++ led)) → Q (.ref q) { s with heap := h', toks := tk' })
    (hs : subscripted slice false (.ref b) (.str x t) = operate [.ref b, .str x t] (getItem (.ref b) (.str x t)) := by with_unfolding_all rfl) (ht : ∀ r, letTemporaryGo value (.ref b) r = pure () := by intro _; with_unfolding_all rfl) :
    wpAny (model PR w) (ktrTop dp un gd cn cs L a ccd cl outer) (subscriptTail value slice (.ref b) (.str x t)) Q E s := by
  have Y := yin F B YB
  obtain ⟨bx, lam, n, its, g, hs', ft, kk, sup, h1, h2, h3, h4, h5, h6, h7⟩ := hB
  have hb := (N _ (.tail _ (hsub _ h1))).1
  refine book_sub Y hb ?_ hs ht
  have hfi := its_find (x := x) h4
  cases hf : (its.map (·.1)).find? fun e => e.2.1 == x with
  | some en =>
    rw [hf] at hfi
    obtain ⟨tt, h8, rfl, h9⟩ := hfi
    refine book_hit Y hb hf ?_
    exact k _ tt.2.1 tt.2.2 ns e s.heap _ [] h9 (.inl rfl) (h3 tt h8) (Nat.le_refl _) (by walk_at "lia") F N
  | none =>
    rw [hf] at hfi
    refine book_miss Y hb h7 hf ?_
    have n1 : bx ≠ nt := hnt _ (hsub _ h2)
    have n2 : b ≠ nt := hnt _ (hsub _ h1)
    have N' : News h₀ L s.heap ((nt, lst ns e) :: (b, bookO bx lam ((its.map (·.1)).map ent) n) :: (bx, frzO g hs' ft kk) :: led) := fun p hp => by
      refine N p ?_
      simp only [List.mem_cons] at hp ⊢
      rcases hp with h | h | h | h
      · exact .inl h
      · exact .inr (h ▸ hsub _ h1)
      · exact .inr (h ▸ hsub _ h2)
      · exact .inr h
    refine Calls.use (missing_f (news := led) (h5 x t) (fun p hp => .tail _ (.tail _ (hsub _ (h6 p hp)))) hnt ⟨n1, n2⟩ hl) (dp := dp) (un := un + 1) (s := { s with toks := s.toks + 1 }) F B YB X N' T hk (by walk_at "lia") (by walk_at "lia") ?_
    rintro r led' h' tk' ⟨q, tk, e', hq, hlt⟩ F' N'
    refine k q [] 0 (ns ++ [.int ns.length tk]) e' h' tk' [(q, lst [] 0)] (hfi ▸ .nil) (.inr ⟨rfl, hq, fun p hp => hlt p (.tail _ (.tail _ hp))⟩) (.head _) (by walk_at "mem") (by walk_at "mem") F' (fun p hp => N' p ?_)
    simp only [List.mem_cons, List.cons_append, List.nil_append] at hp ⊢
    rcases hp with h | h | h
    · exact .inr (.inl h)
    · exact .inl h
    · exact .inr (.inr (.inr (.inr h)))
end
section
/-- a fact put away, so that no search looks at it -/
structure Hide (p : Prop) : Prop where
  out : p
noncomputable def stepS (nxt : Nat → List Nat) (S : List Nat) : List Nat := (List.range 5).filter fun j => decide (j ∈ S.flatMap nxt)
noncomputable def stepN (nxt : Nat → List Nat) : Nat → List Nat → List Nat
  | 0, S => S
  | n + 1, S => stepS nxt (stepN nxt n S)
noncomputable def dead (nxt : Nat → List Nat) (k : Nat) : Bool := decide (stepN nxt 5 [k] = [])
noncomputable def goingL (nxt : Nat → List Nat) (n : Nat) : List Nat := (List.range n).filter fun k => !dead nxt k
theorem stepN_lt {nxt : Nat → List Nat} {k : Nat} (hk : k < 5) : ∀ n, ∀ j ∈ stepN nxt n [k], j < 5
  | 0, j, h => by rw [List.mem_singleton.mp h]; exact hk
  | n + 1, j, h => List.mem_range.mp (List.mem_filter.mp h).1
theorem stepN_len {nxt : Nat → List Nat} {k : Nat} : ∀ n, (stepN nxt n [k]).length ≤ 5
  | 0 => by show (1 : Nat) ≤ 5; decide
  | n + 1 => Nat.le_trans (List.length_filter_le _ _) (by walk_at "mem")
theorem flat_len {nxt : Nat → List Nat} : ∀ {S : List Nat}, (∀ k ∈ S, (nxt k).length ≤ 100) → (S.flatMap nxt).length ≤ 100 * S.length
  | [], _ => Nat.le_refl _
  | k :: S, h => by
    have h1 := h k (.head _)
    have h2 := flat_len fun q hq => h q (.tail _ hq)
    rw [List.flatMap_cons, List.length_append, List.length_cons]
    walk_at "lia"
/-- what the inner walk has told -/
inductive ThereJ (nt : Addr) (c : Nat) (nxt : Nat → List Nat) (S : List Nat) (base : List (Addr × Obj)) (i : Nat) (ys : List Value) : List (Addr × Obj) → Prop where
  | mk : ∀ ns e ex, (StrsAre ys (((S.take i).flatMap nxt).map wd)) → (c ≤ ns.length) → (ns.length ≤ c + i) → ThereJ nt c nxt S base i ys (ex ++ (nt, lst ns e) :: base)
theorem StrsAre_append {vs ws : List Value} {xs ys : List Str} (h : StrsAre vs xs) (h' : StrsAre ws ys) : StrsAre (vs ++ ws) (xs ++ ys) := by
  induction h with
  | nil => exact h'
  | cons v t _ ih => exact .cons v t ih
theorem goingL_succ {nxt : Nat → List Nat} {k : Nat} {S : List Nat} (h : stepN nxt 5 [k] = S) : goingL nxt (k + 1) = goingL nxt k ++ (if decide (S = []) then [] else [k]) := by
  have hd : decide (S = []) = dead nxt k := by subst h; rfl
  rw [hd]
  unfold goingL
  have key : List.filter (fun k => !dead nxt k) [k] = if dead nxt k = true then [] else [k] := by
    generalize hq : dead nxt k = b
    cases b <;> simp only [List.filter_cons, hq, List.filter_nil, Bool.not_true, Bool.not_false, if_true, Bool.false_eq_true, if_false]
  rw [List.range_succ, List.filter_append, key]
theorem words_strs (t1 t2 t3 t4 t5 : Tok) : StrsAre [.str "B" t1, .str "a" t2, .str "a b" t3, .str "c" t4, .str "d" t5] ((List.range 5).map wd) := .cons _ _ (.cons _ _ (.cons _ _ (.cons _ _ (.cons _ _ .nil))))
theorem fr3 {f M : Str → Option Value} {n1 n2 n3 : Str} (h : ∀ z, z ≠ n1 → z ≠ n2 → z ≠ n3 → f z = M z) : f = fun z => if z = n1 then f n1 else if z = n2 then f n2 else if z = n3 then f n3 else M z := by
  funext z
  by_cases h1 : z = n1
  · subst h1; rw [if_pos rfl]
  by_cases h2 : z = n2
  · subst h2; rw [if_neg h1, if_pos rfl]
  by_cases h3 : z = n3
  · subst h3; rw [if_neg h1, if_neg h2, if_pos rfl]
  rw [if_neg h1, if_neg h2, if_neg h3]; exact h z h1 h2 h3
noncomputable abbrev Fm (M : Str → Option Value) (a b c : Option Value) : Str → Option Value := fun z => if z = Str.ofString "word" then a else if z = Str.ofString "here" then b else if z = Str.ofString "turn" then c else M z
noncomputable abbrev wordsV (t1 t2 t3 t4 t5 : Tok) : List Value := [.str "B" t1, .str "a" t2, .str "a b" t3, .str "c" t4, .str "d" t5]
/-- the words that are told so far -/
inductive GoJ (M : Str → Option Value) (L gl nt : Addr) (o1 : Obj) (c : Nat) (nxt : Nat → List Nat) (led : List (Addr × Obj)) (i : Nat) (m₁ : Str → Option Value) : List (Addr × Obj) → Prop where
  | mk : ∀ a b d, (m₁ = Fm M a b d) → ∀ ys e1 ns e o2, (StrsAre ys ((goingL nxt i).map wd)) → (IsCell o2) → (c ≤ ns.length) → (ns.length ≤ c + 25 * i) → GoJ M L gl nt o1 c nxt led i m₁ ((gl, lst ys e1) :: (L + 1 + 1, o2) :: (L + 1, o1) :: (nt, lst ns e) :: led)
/-- the words that one has come to -/
inductive HereJ (M : Str → Option Value) (L nt : Addr) (o1 : Obj) (c k : Nat) (tk : Tok) (nxt : Nat → List Nat) (led : List (Addr × Obj)) (i : Nat) (m₁ : Str → Option Value) : List (Addr × Obj) → Prop where
  | mk : ∀ d hl hs e1 ns e o2, (m₁ = Fm M (some (.str (wd k) tk)) (some (.ref hl)) d) → (StrsAre hs ((stepN nxt i [k]).map wd)) → (IsCell o2) → (c ≤ ns.length) → (ns.length ≤ c + 5 * i) → (Off hl ((L + 1 + 1, o2) :: (L + 1, o1) :: (nt, lst ns e) :: led)) → HereJ M L nt o1 c k tk nxt led i m₁ ((hl, lst hs e1) :: (L + 1 + 1, o2) :: (L + 1, o1) :: (nt, lst ns e) :: led)
inductive GoingPost (nt : Addr) (ns : List Value) (nxt : Nat → List Nat) (led : List (Addr × Obj)) : Value → List (Addr × Obj) → Prop where
  | mk : ∀ D vs k ns' e', (StrsAre vs ((goingL nxt 5).map wd)) → (ns.length ≤ ns'.length) → (ns'.length ≤ ns.length + 125) → (Off D ((nt, lst ns' e') :: led)) → GoingPost nt ns nxt led (.ref D) ((D, lst vs k) :: (nt, lst ns' e') :: led)
section
local macro_rules | `(tactic| walk_at $k:str) => do
  if ["eval ListComp", "exec For Name Call cons nil", "exec For Name Name cons nil", "subscriptTail", "compareOp NotEq ref ref", "compareOp In str ref"].contains k.getString then `(tactic| walk_at "halt") else Lean.Macro.throwUnsupported
local macro_rules | `(tactic| walk_at "exec Assign cons ListComp") => `(tactic| (k_here; (with_reducible show wpAny _ _ (PySem.exec (Stmt.Assign [Expr.Name (Str.ofString "here") _] _ _) _) _ _ _); walk_at "halt"))
local macro_rules | `(tactic| walk_at "storeName") => `(tactic| (k_here; (with_reducible show wpAny _ _ (storeName _ (Str.ofString "there") _) _ _ _); walk_at "halt"))
set_option maxRecDepth 100000 in
set_option maxHeartbeats 2000000 in
theorem going_t {w : World} {nt b : Addr} {ns : List Value} {e : Nat} {G : List (Str × List Str)} {nxt : Nat → List Nat} {led : List (Addr × Obj)} (hB : BookIs w nt b G led) (hnt : Off nt led) (hl : ns.length ≤ 1000) (hG : ∀ k, k < 5 → look G (wd k) = (nxt k).map wd) (hn5 : ∀ k, k < 5 → ∀ j ∈ nxt k, j < 5) (hnl : ∀ k, k < 5 → (nxt k).length ≤ 100) :
   Calls w 256 [.ref b] ((nt, lst ns e) :: led) 100 1000 (GoingPost nt ns nxt led) := by
  replace hG := Hide.mk hG
  replace hn5 := Hide.mk hn5
  replace hnl := Hide.mk hnl
  unfold Calls
  intro dp un gd cn cs a ccd cl outer A₀ base h₀ L m s Q E loose mean mg mb B YB F X N T hk hdp hu hret
  refine wpAny_call ?_
  k_dflt (walk_at "enter")
  (with_reducible rename Fr _ _ _ _ => kF)
  replace kF : Fr _ _ _ (fun _ => none) := kF
  rename_i g1 L1 hp1 tk1 FG1 B1 X1 T1 l1 o2 o1 c2 c1 N1
  replace c1 : o1.data = Data.cell (some (.ref b)) := c1
  replace c2 : o2.data = Data.cell none := c2
  refine body_cut (LeftR g1 L1 s (GoingPost nt ns nxt led)) (fun Q' hq => ?_) fun f s' hp => ?_
  rotate_left
  · clear kF N1
    cases hp with | mk r led h tk m hp kF N1 =>
    k_steps
    exact hret _ _ _ _ hp (by k_asm) (by k_asm)
  clear hret B F N
  refine name_run ?_
  intro en AA
  k_steps
  refine Stop.go ?_
  rename_i gl hp' l2 hg F2 N2
  with_unfolding_all refine' For_invVF F2 (by rfl) (by rfl) ?_
  k_steps
  refine Stop.go ?_
  refine Calls.use words_t (by k_asm) (by k_asm) (by k_asm) (by k_asm) (by k_asm) (by k_asm) (by rfl) (by walk_at "side") (by walk_at "side") ?_
  rintro r led' h' tk' ⟨wl, t1, t2, t3, t4, t5, hwl⟩ F' N'
  k_steps
  refine Stop.go ?_
  clear F2 N2
  refine with_fr F' fun M hM F' => ?_
  refine for_list (vs := wordsV t1 t2 t3 t4 t5) (e := 0) (news := (gl, lst [] 0) :: (L1 + 1 + 1, o2) :: (L1 + 1, o1) :: (nt, lst ns e) :: led) (GoJ M L1 gl nt o1 ns.length nxt led) rfl F' N' ?_ ?_ ?_
  · exact ⟨_, _, _, fr3 fun z _ _ _ => rfl, [], 0, ns, e, o2, .nil, ⟨_, c2⟩, Nat.le_refl _, Nat.le_refl _⟩
  · rintro k v m₁ n₁ h tk I oI hv ⟨ua, ub, ud, rfl, ys, e1, ns', e', o2', hys, ⟨x2, hx2⟩, hc1, hc2⟩ hI hwI F₁ N₁
    obtain ⟨k0, t, hk0⟩ := word_at (words_strs t1 t2 t3 t4 t5) hv
    have hk5 : k0 < 5 ∧ k0 = k := by
      have h1 : k < 5 := by have := (List.getElem?_eq_some_iff.mp hv).1; simpa using this
      rw [List.getElem?_range h1] at hk0
      cases hk0; exact ⟨h1, rfl⟩
    obtain ⟨hk5, rfl⟩ := hk5
    subst hM
    dsimp +zetaDelta only [envOfC] at F₁ N₁
    have e2 : (fun y => if y = Str.ofString "word" then some (Value.str (wd k0) t) else Fm (fun y => if y = Str.ofString "going" then some (Value.ref gl) else none) ua ub ud y) = Fm (fun y => if y = Str.ofString "going" then some (Value.ref gl) else none) (some (Value.str (wd k0) t)) ub ud := by
      funext y
      by_cases h1 : y = Str.ofString "word"
      · rw [if_pos h1]; unfold Fm; rw [if_pos h1]
      · rw [if_neg h1]; unfold Fm; rw [if_neg h1, if_neg h1]
    rw [e2] at F₁
    clear e2 N'
    k_steps
    refine Stop.go ?_
    rename_i hl0 hp2 l3 h3 F3 N3
    with_unfolding_all refine' For_turns F3 ?_
    k_steps
    refine Stop.go ?_
    (with_reducible rename IsRange _ _ _ _ _ _ _ _ => hR)
    (with_reducible rename Fr _ _ _ _ => kF)
    (with_reducible rename News _ _ _ _ => kN)
    have e3 : (fun y => if y = Str.ofString "here" then some (Value.ref hl0) else Fm (fun y => if y = Str.ofString "going" then some (Value.ref gl) else none) (some (Value.str (wd k0) t)) ub ud y) = Fm (fun y => if y = Str.ofString "going" then some (Value.ref gl) else none) (some (Value.str (wd k0) t)) (some (Value.ref hl0)) ud := by
      funext y
      by_cases h1 : y = Str.ofString "here"
      · subst h1; rfl
      · unfold Fm; simp only [if_neg h1]
    rw [e3] at kF
    clear e3
    refine with_fr kF fun M2 hM2 kF => ?_
    have hoff0 : Off hl0 ((L1 + 1 + 1, o2') :: (L1 + 1, o1) :: (nt, lst ns' e') :: (I, oI) :: (wl, lst (wordsV t1 t2 t3 t4 t5) 0) :: (gl, lst ys e1) :: led) := by
      obtain ⟨l31, l32, l33, l34, l35, l36, l37⟩ := l3
      exact .cons (Nat.ne_of_lt l34) (.cons (Nat.ne_of_lt l35) (.cons (Nat.ne_of_lt l36) (.cons (Nat.ne_of_lt l31) (.cons (Nat.ne_of_lt l32) (.cons (Nat.ne_of_lt l33) (.lt (of_allLt l37)))))))
    refine for_range (n := 5) (news := (hl0, lst [.str (wd k0) t] 0) :: (L1 + 1 + 1, o2') :: (L1 + 1, o1) :: (nt, lst ns' e') :: (I, oI) :: (wl, lst (wordsV t1 t2 t3 t4 t5) 0) :: (gl, lst ys e1) :: led)
      (HereJ (fun y => if y = Str.ofString "going" then some (Value.ref gl) else none) L1 nt o1 ns'.length k0 t nxt ((I, oI) :: (wl, lst (wordsV t1 t2 t3 t4 t5) 0) :: (gl, lst ys e1) :: led)) (by intro _ _; rfl) rfl hR (by decide) (by decide) kF (fun p hp => kN p ?_) ?_ ?_ ?_
    · first | (refine sub_of ?_ hp; walk_at "sub"; done) | (simp only [List.mem_cons] at hp ⊢; grind)
    · exact ⟨ud, hl0, _, 0, ns', e', o2', hM2, .cons _ _ .nil, ⟨x2, hx2⟩, Nat.le_refl _, Nat.le_refl _, hoff0⟩
    · clear kF kN hR hM2 hoff0 l3
      rintro tn tkt m₁ n₁ h tk I2 oI2 ht5 ⟨d, hl1, hs, eh, ns2, e2', o2'', rfl, hhs, ⟨x3, hx3⟩, q1, q2, hoff⟩ hI2 F₁ N₁
      dsimp +zetaDelta only [envOfC] at F₁ N₁
      k_steps
      refine Stop.go ?_
      (with_reducible rename Fr _ _ _ _ => kF)
      (with_reducible rename News _ _ _ _ => kN)
      have hntL : @LT.lt Nat _ nt L1 := l1.1
      have hntI2 : nt ≠ I2 := hI2 (nt, lst ns2 e2') (by walk_at "mem")
      have hnthl : nt ≠ hl1 := hoff (nt, lst ns2 e2') (by walk_at "mem")
      have hntI : nt ≠ I := hI (nt, lst ns' e') (by walk_at "mem")
      have hntw : nt ≠ wl := Nat.ne_of_lt (hwl (nt, lst ns e) (by walk_at "mem"))
      have hntg : nt ≠ gl := by obtain ⟨_, _, l23, _⟩ := l2; exact Nat.ne_of_lt l23
      have hSl := stepN_len (nxt := nxt) (k := k0) tn
      have hS5 := stepN_lt (nxt := nxt) hk5 tn
      generalize hSe : stepN nxt tn [k0] = S at hhs hSl hS5
      have hhl : hs.length ≤ 5 := by have h1 := hhs.length; rw [List.length_map] at h1; walk_at "lia"
      refine ListComp2_at (by with_unfolding_all rfl) (by rfl) (by decide) ?_
      k_steps
      refine Stop.go ?_
      refine comp_two (vs := hs) 500 (ThereJ nt ns2.length nxt S ((I2, oI2) :: (hl1, lst hs eh) :: (L1 + 1 + 1, o2'') :: (L1 + 1, o1) :: (I, oI) :: (wl, lst (wordsV t1 t2 t3 t4 t5) 0) :: (gl, lst ys e1) :: led)) rfl (OL.isList (OL.lst hs eh) kN (by walk_at "mem")) (kN (hl1, lst hs eh) (by walk_at "mem")).2.1 (by decide) kF (news := (nt, lst ns2 e2') :: (I2, oI2) :: (hl1, lst hs eh) :: (L1 + 1 + 1, o2'') :: (L1 + 1, o1) :: (I, oI) :: (wl, lst (wordsV t1 t2 t3 t4 t5) 0) :: (gl, lst ys e1) :: led) (fun p hp => kN p ?_) ⟨ns2, e2', [], .nil, Nat.le_refl _, Nat.le_refl _⟩ ?_ (finE2 ?_)
      · first | (refine sub_of ?_ hp; walk_at "sub"; done) | (simp only [List.mem_cons] at hp ⊢; grind)
      · clear kF kN
        rintro wr i ys2 m₅ C oC D2 own news₁ h tk E' hi hyl ⟨v, hv', hm⟩ hoC ⟨ns3, e3, ex, hys2, q3, q4⟩ off hwo hown F3 N3
        obtain ⟨x, tx, hx⟩ := word_at hhs hv'
        have hx5 := hS5 x (List.mem_of_getElem? hx)
        have off0 : ∀ p ∈ (nt, lst ns3 e3) :: (I2, oI2) :: (hl1, lst hs eh) :: (L1 + 1 + 1, o2'') :: (L1 + 1, o1) :: (I, oI) :: (wl, lst (wordsV t1 t2 t3 t4 t5) 0) :: (gl, lst ys e1) :: led, p.1 ∉ wr ∧ p.1 ≠ C ∧ p.1 ≠ D2 := fun p hp => off p (List.mem_append_right _ hp)
        replace N3 : News g1 L1 h ((nt, lst ns3 e3) :: (C, oC) :: (D2, lst ys2 ys2.length) :: ((I2, oI2) :: (hl1, lst hs eh) :: (L1 + 1 + 1, o2'') :: (L1 + 1, o1) :: (I, oI) :: (wl, lst (wordsV t1 t2 t3 t4 t5) 0) :: (gl, lst ys e1) :: led ++ own)) := fun p hp => N3 p (by
          rw [List.append_assoc]
          exact sub_cat [[_], [_], _, [_], [_], [_], [_], [_], [_], [_], [_], _, _] [3, 0, 1, 4, 5, 6, 7, 8, 9, 10, 11, 12] [0, 1, 2, 3, 4, 5, 6, 7, 8, 9, 10, 11, 12] (by decide) p hp)
        clear off
        k_steps
        refine Stop.go ?_
        have hof1 : Off nt ((C, oC) :: (D2, lst ys2 ys2.length) :: ((I2, oI2) :: (hl1, lst hs eh) :: (L1 + 1 + 1, o2'') :: (L1 + 1, o1) :: (I, oI) :: (wl, lst (wordsV t1 t2 t3 t4 t5) 0) :: (gl, lst ys e1) :: led ++ own)) := by
          obtain ⟨z1, z2, z3⟩ := off0 (nt, lst ns3 e3) (.head _)
          refine .cons z2.symm (.cons z3.symm (.cons hntI2.symm (.cons hnthl.symm (.cons ?_ (.cons ?_ (.cons hntI.symm (.cons hntw.symm (.cons hntg.symm ?_))))))))
          · show @Ne Nat _ _; walk_at "lia"
          · show @Ne Nat _ _; walk_at "lia"
          · intro p hp
            rcases List.mem_append.mp hp with hp | hp
            · exact hnt p hp
            · rcases hown p hp with h1 | h1
              · exact fun e => z1 (e ▸ h1)
              · exact fun e => hnthl (e ▸ h1)
        refine book_read F3 (by k_asm) (by k_asm) (by k_asm) N3 (by k_asm) (by rfl) (by walk_at "side") (by walk_at "side") hB (fun p hp => ?_) hof1 (by walk_at "lia") ?_
        · exact mem_skip 9 (List.mem_append_left _ hp)
        intro q us e₄ ns4 e4' h' tk' ex' hus hex hqm r1 r2 F4 N4
        have hlook := hG.out x hx5
        rw [hlook] at hus
        refine ⟨q, us, e₄, h', tk', ex' ++ (nt, lst ns4 e4') :: (I2, oI2) :: (hl1, lst hs eh) :: (L1 + 1 + 1, o2'') :: (L1 + 1, o1) :: (I, oI) :: (wl, lst (wordsV t1 t2 t3 t4 t5) 0) :: (gl, lst ys e1) :: led, rfl, rfl, F4, fun p hp => N4 p ?_, fun p hp => ?_, ?_, ?_, ns4, e4', ex', ?_, by walk_at "lia", by walk_at "lia"⟩
        · rw [List.append_assoc] at hp
          exact sub_cat [ex', [_], [_], [_], [_], [_], [_], [_], [_], [_], [_], led, own] [2, 3, 0, 1, 4, 5, 6, 7, 8, 9, 10, 11, 12] [1, 0, 2, 3, 4, 5, 6, 7, 8, 9, 10, 11, 12] (by decide) p hp
        · rcases List.mem_append.mp hp with hp | hp
          · rcases hex with rfl | ⟨rfl, hq1, hq2⟩
            · cases hp
            · cases List.mem_singleton.mp hp
              refine ⟨fun hw => ?_, Ne.symm (Nat.ne_of_lt (hq2 (C, oC) (.head _))), Ne.symm (Nat.ne_of_lt (hq2 (D2, lst ys2 ys2.length) (.tail _ (.head _))))⟩
              obtain ⟨o, ho⟩ := hwo _ hw
              exact Nat.lt_irrefl _ (hq2 (q, o) (.tail _ (.tail _ (List.mem_append_right _ ho))))
          · rcases List.mem_cons.mp hp with rfl | hp
            · exact off0 (nt, lst ns3 e3) (.head _)
            · exact off0 p (.tail _ hp)
        · rcases List.mem_append.mp hqm with h1 | h1
          · exact List.mem_append_left _ h1
          · exact List.mem_append_right _ (by simp [h1])
        · have h1 := hys2.length
          have h2 := hus.length
          rw [List.length_map] at h1 h2
          have h3 := flat_len (nxt := nxt) (S := S.take i) (fun k hk => hnl.out k (hS5 k (List.mem_of_mem_take hk)))
          have h4 := hnl.out x hx5
          rw [List.length_append]
          have h5 : (S.take i).length ≤ 4 := by rw [List.length_take]; walk_at "lia"
          walk_at "lia"
        · rw [List.take_add_one, hx, List.flatMap_append, List.map_append]
          refine StrsAre_append hys2 ?_
          simpa using hus
      · rintro D2 h tk ys2 news' hyl F3 N3 off2 ⟨ns3, e3, ex, hys2, q3, q4⟩
        clear kF kN
        have hoD : Off D2 ((L1 + 1 + 1, o2'') :: (L1 + 1, o1) :: (nt, lst ns3 e3) :: (I, oI) :: (wl, lst (wordsV t1 t2 t3 t4 t5) 0) :: (gl, lst ys e1) :: led) := fun p hp => off2 p (List.mem_append_right _ (sub_cat [[_], [_], [_], [_], [_], [_], [_], [_], led] [3, 4, 0, 5, 6, 7, 8] [0, 1, 2, 3, 4, 5, 6, 7, 8] (by decide) p hp))
        have hof2 : Off (L1 + 1 + 1) ((L1 + 1, o1) :: (nt, lst ns3 e3) :: (I2, oI2) :: (hl1, lst hs eh) :: (I, oI) :: (wl, lst (wordsV t1 t2 t3 t4 t5) 0) :: (gl, lst ys e1) :: led) := by
          refine .cons (by show @Ne Nat _ _; walk_at "lia") (.cons (by show @Ne Nat _ _; walk_at "lia") (.cons (fun e => hI2 (L1 + 1 + 1, o2'') (by walk_at "mem") e.symm) (.cons (fun e => hoff (L1 + 1 + 1, o2'') (.head _) e.symm) (.cons (fun e => hI (L1 + 1 + 1, o2') (by walk_at "mem") e.symm) (.cons (Nat.ne_of_gt (hwl (L1 + 1 + 1, o2) (by walk_at "mem"))) (.cons ?_ ?_))))))
          · obtain ⟨l21, _⟩ := l2; exact Nat.ne_of_gt l21
          · exact .lt fun p hp => by have h1 : @LT.lt Nat _ p.1 L1 := of_allLt l1.2 p hp; walk_at "lia"
        k_steps
        refine Stop.go ?_
        refine st_cell (fun o => (D2, lst ys2 ys2.length) :: (L1 + 1 + 1, o) :: (L1 + 1, o1) :: (nt, lst ns3 e3) :: (I2, oI2) :: (hl1, lst hs eh) :: (I, oI) :: (wl, lst (wordsV t1 t2 t3 t4 t5) 0) :: (gl, lst ys e1) :: led)
          F3 (news := (D2, lst ys2 ys2.length) :: (L1 + 1 + 1, o2'') :: (L1 + 1, o1) :: (nt, lst ns3 e3) :: (I2, oI2) :: (hl1, lst hs eh) :: (I, oI) :: (wl, lst (wordsV t1 t2 t3 t4 t5) 0) :: (gl, lst ys e1) :: led) (fun p hp => N3 p ?_) (.tail _ (.head _)) hx3 (fun o' => Put.cons (hoD (L1 + 1 + 1, o2'') (.head _)).symm (Put.here hof2)) ?_
        · exact sub_cat [[_], ex, [_], [_], [_], [_], [_], [_], [_], [_], led] [0, 5, 6, 2, 3, 4, 7, 8, 9, 10] [0, 1, 2, 3, 4, 5, 6, 7, 8, 9, 10] (by decide) p hp
        intro hq2 o2n kF kN dq2
        clear F3 N3 off2
        k_steps
        refine Stop.go ?_
        have hT : StrsAre ys2 ((S.flatMap nxt).map wd) := by
          have h1 := hys2
          have h2 := hhs.length
          rw [List.length_map] at h2
          rwa [h2, List.take_length] at h1
        have hT5 : ∀ q ∈ S.flatMap nxt, q < 5 := fun q hq => by
          obtain ⟨x, hx, hq⟩ := List.mem_flatMap.mp hq
          exact hn5.out x (hS5 x hx) q hq
        have hstep : stepN nxt (tn + 1) [k0] = (List.range 5).filter fun q => decide (q ∈ S.flatMap nxt) := by rw [← hSe]; rfl
        generalize S.flatMap nxt = T at hT hT5 hstep
        refine Assign_at (by with_unfolding_all rfl) (by with_unfolding_all rfl) (by rfl) (by decide) ?_
        k_steps
        refine Stop.go ?_
        refine Calls.use words_t (by k_asm) (by k_asm) (by k_asm) (by k_asm) (by k_asm) (by k_asm) (by rfl) (by walk_at "side") (by walk_at "side") ?_
        rintro r led' h' tk' ⟨wl2, u1, u2, u3, u4, u5, hwl2⟩ F4 N4
        clear kF kN
        k_steps
        refine Stop.go ?_
        refine comp_list (vs := wordsV u1 u2 u3 u4 u5) (fun j zs n₁ => n₁ = (wl2, lst (wordsV u1 u2 u3 u4 u5) 0) :: (D2, lst ys2 ys2.length) :: (L1 + 1 + 1, o2n) :: (L1 + 1, o1) :: (nt, lst ns3 e3) :: (I2, oI2) :: (hl1, lst hs eh) :: (I, oI) :: (wl, lst (wordsV t1 t2 t3 t4 t5) 0) :: (gl, lst ys e1) :: led ∧ StrsAre zs (((List.range j).filter fun q => decide (q ∈ T)).map wd))
          rfl (OL.isList (OL.lst (wordsV u1 u2 u3 u4 u5) 0) N4 (.head _)) (N4 _ (.head _)).2.1 (by show (5 : Nat) ≤ 100000; decide) F4 N4 ⟨rfl, .nil⟩ (turn_list ?_) ?_
        · intro wr j zs m₅ C oC D3 own h tk E' v hj hzl hv' hm hoC hzs off hwo F3 N3
          clear F4 N4
          obtain ⟨x, tx, hx⟩ := word_at (words_strs u1 u2 u3 u4 u5) hv'
          have hj5 : j < 5 := hj
          rw [List.getElem?_range hj5] at hx
          cases hx
          refine wpAny_tests_one (cut_eq F3 N3 (decide (j ∈ T)) (fun Q' hQ' => ?_) ?_)
          · k_steps
            refine Stop.go ?_
            refine w_in (OL.isList (OL.lst ys2 ys2.length) N3 (by walk_at "mem")) hT hT5 hj5 (by walk_at "side") ?_
            k_steps
            exact hQ' _ _ _ rfl (by k_asm) (by k_asm)
          · intro h' tk' F5 N5
            cases hb : decide (j ∈ T)
            · simp only [Bool.false_eq_true, if_false]
              exact ⟨h', tk', _, rfl, F5, N5, off, rfl, by rw [List.range_succ, List.filter_append]; simpa [hb] using hzs⟩
            · simp only [if_true]
              k_steps
              refine ⟨h', tk', _, rfl, F5, N5, off, rfl, ?_⟩
              rw [List.range_succ, List.filter_append, List.map_append]
              refine StrsAre_append hzs ?_
              have h1 : List.filter (fun q => decide (q ∈ T)) [j] = [j] := by simp only [List.filter_cons, hb, if_true, List.filter_nil]
              rw [h1]
              exact .cons _ _ .nil
        · refine finV rfl (by rfl) (by rfl) ?_
          rintro D3 h tk zs news' hzl F5 N5 off5 ⟨rfl, hzs⟩
          clear F4 N4
          k_steps
          (with_reducible rename Fr _ _ _ _ => kF)
          (with_reducible rename News _ _ _ _ => kN)
          have e4 : (fun z => if z = Str.ofString "here" then some (Value.ref D3) else (fun y => if y = Str.ofString "turn" then some (Value.int (tn : Int) tkt) else Fm (fun y => if y = Str.ofString "going" then some (Value.ref gl) else none) (some (Value.str (wd k0) t)) (some (Value.ref hl1)) d y) z) = Fm (fun y => if y = Str.ofString "going" then some (Value.ref gl) else none) (some (Value.str (wd k0) t)) (some (Value.ref D3)) (some (Value.int (tn : Int) tkt)) := by
            funext z
            by_cases h1 : z = Str.ofString "here"
            · subst h1; rfl
            by_cases h2 : z = Str.ofString "turn"
            · subst h2; rfl
            unfold Fm; simp only [if_neg h1, if_neg h2]
          rw [e4] at kF
          refine ⟨h, _, _, (D3, lst zs zs.length) :: (L1 + 1 + 1, o2n) :: (L1 + 1, o1) :: (nt, lst ns3 e3) :: (I, oI) :: (wl, lst (wordsV t1 t2 t3 t4 t5) 0) :: (gl, lst ys e1) :: led, rfl, kF, fun p hp => kN p ?_, ?_, ?_⟩
          · exact sub_cat [[_], [_], [_], [_], [_], [_], [_], [_], [_], [_], [_], _] [6, 0, 3, 4, 5, 8, 9, 10, 11] [0, 1, 2, 3, 4, 5, 6, 7, 8, 9, 10, 11] (by decide) _ hp
          · intro p hp
            rcases List.mem_cons.mp hp with rfl | hp
            · exact (off5 (I2, oI2) (by walk_at "mem")).symm
            · exact off_map (P := fun a => a ≠ I2) (l := (L1 + 1 + 1, o2'') :: (L1 + 1, o1) :: (nt, lst ns2 e2') :: (I, oI) :: (wl, lst (wordsV t1 t2 t3 t4 t5) 0) :: (gl, lst ys e1) :: led) (l' := (L1 + 1 + 1, o2n) :: (L1 + 1, o1) :: (nt, lst ns3 e3) :: (I, oI) :: (wl, lst (wordsV t1 t2 t3 t4 t5) 0) :: (gl, lst ys e1) :: led) (fun p hp => hI2 p (.tail _ hp)) rfl p hp
          · refine ⟨_, D3, zs, _, ns3, e3, o2n, rfl, by rw [hstep]; exact hzs, ⟨_, dq2⟩, by walk_at "lia", by walk_at "lia", fun p hp => off5 p ?_⟩
            exact sub_cat [[_], [_], [_], [_], [_], [_], [_], [_], [_], [_], _] [2, 3, 4, 7, 8, 9, 10] [0, 1, 2, 3, 4, 5, 6, 7, 8, 9, 10] (by decide) _ hp
    · clear kF kN hR hM2 hoff0
      rintro m₁ n₁ h tk ⟨d, hl1, hs, eh, ns2, e2', o2'', rfl, hhs, ⟨x3, hx3⟩, q1, q2, hoff⟩ F₁ N₁
      dsimp +zetaDelta only [envOfC] at F₁ N₁
      replace hhs := Hide.mk hhs
      have hc3 : IsCell o2'' := ⟨x3, hx3⟩
      clear hx3
      have hoffgl : Off gl ((L1 + 1 + 1, o2'') :: (L1 + 1, o1) :: (nt, lst ns2 e2') :: (I, oI) :: (wl, lst (wordsV t1 t2 t3 t4 t5) 0) :: led) := by
        obtain ⟨z1, z2, z3, z4⟩ := l2
        exact .cons (Nat.ne_of_lt z1) (.cons (Nat.ne_of_lt z2) (.cons (Nat.ne_of_lt z3) (.cons (hI (gl, lst ys e1) (.head _)).symm (.cons (Nat.ne_of_gt (hwl (gl, W.listOf #[] 0) (.head _))) (.lt (of_allLt z4))))))
      have hIo : ∀ p ∈ (gl, lst ys e1) :: (L1 + 1 + 1, o2'') :: (L1 + 1, o1) :: (nt, lst ns2 e2') :: led, p.1 ≠ I := off_map (P := fun a => a ≠ I) hI rfl
      replace hoffgl := Hide.mk hoffgl
      replace hIo := Hide.mk hIo
      k_steps
      refine Stop.go ?_
      (with_reducible rename News _ _ _ _ => kN)
      replace hhs := hhs.out
      have hS5 := stepN_lt (nxt := nxt) hk5 5
      generalize hSe : stepN nxt 5 [k0] = S at hhs hS5
      refine w_ne (js := []) (us := []) (OL.isList (OL.lst hs eh) kN (by walk_at "mem")) hhs (News.isList kN (.head _)) .nil hS5 (fun _ h => nomatch h) (by walk_at "side") ?_
      replace hhs := Hide.mk hhs
      replace hS5 := Hide.mk hS5
      replace hSe := Hide.mk hSe
      have hgo : goingL nxt (k0 + 1) = goingL nxt k0 ++ (if decide (S = []) then [] else [k0]) := goingL_succ hSe.out
      replace hgo := Hide.mk hgo
      cases hS0 : decide (S = []) with
      | true =>
        simp only [Bool.not_true]
        k_steps
        (with_reducible rename News _ _ _ _ => kN)
        (with_reducible rename Fr _ _ _ _ => kF)
        refine ⟨_, _, _, (gl, lst ys e1) :: (L1 + 1 + 1, o2'') :: (L1 + 1, o1) :: (nt, lst ns2 e2') :: led, rfl, kF, fun p hp => kN p ?_, hIo.out, _, _, _, rfl, ys, e1, ns2, e2', o2'', ?_, hc3, by walk_at "lia", by walk_at "lia"⟩
        · exact sub_cat [[_], [_], [_], [_], [_], [_], [_], [_], _] [5, 6, 7, 2, 3, 4, 8] [0, 1, 2, 3, 4, 5, 6, 7, 8] (by decide) _ hp
        · rw [hgo.out, hS0, if_pos rfl, List.append_nil]; exact hys
      | false =>
        simp only [Bool.not_false]
        k_steps
        (with_reducible rename News _ _ _ _ => kN)
        (with_reducible rename Fr _ _ _ _ => kF)
        have hyl : ys.length ≤ 100000 := by
          have h1 := hys.length
          rw [List.length_map] at h1
          have h2 : (goingL nxt k0).length ≤ k0 := Nat.le_trans (List.length_filter_le _ _) (by walk_at "mem")
          walk_at "lia"
        refine append_led (xs := ys) (e := e1) (rest := (L1 + 1 + 1, o2'') :: (L1 + 1, o1) :: (nt, lst ns2 e2') :: (I, oI) :: (wl, lst (wordsV t1 t2 t3 t4 t5) 0) :: led) kF (fun p hp => kN p ?_) hoffgl.out hyl ?_
        · exact sub_cat [[_], [_], [_], [_], [_], [_], [_], [_], _] [7, 2, 3, 4, 5, 6, 8] [0, 1, 2, 3, 4, 5, 6, 7, 8] (by decide) _ hp
        intro h2 F2 N2
        clear kF kN
        k_steps
        refine ⟨_, _, _, (gl, lst (ys ++ [.str (wd k0) t]) (e1 + 1)) :: (L1 + 1 + 1, o2'') :: (L1 + 1, o1) :: (nt, lst ns2 e2') :: led, rfl, F2, fun p hp => N2 p ?_, off_map (P := fun a => a ≠ I) hIo.out rfl, _, _, _, rfl, _, e1 + 1, ns2, e2', o2'', ?_, hc3, by walk_at "lia", by walk_at "lia"⟩
        · exact sub_cat [[_], [_], [_], [_], [_], [_], _] [4, 5, 0, 1, 2, 3, 6] [0, 1, 2, 3, 4, 5, 6] (by decide) _ hp
        · rw [hgo.out, hS0, if_neg (by decide), List.map_append]; exact StrsAre_append hys (.cons _ _ .nil)
  · rintro m₁ n₁ h tk ⟨ua, ub, ud, rfl, ys, e1, ns', e', o2', hys, ⟨x2, hx2⟩, hc1, hc2⟩ F₁ N₁
    subst hM
    dsimp +zetaDelta only [envOfC] at F₁ N₁
    k_steps
    (with_reducible rename News _ _ _ _ => kN)
    obtain ⟨z1, z2, z3, z4⟩ := l2
    refine hq _ _ (.mk _ _ _ _ _ ⟨gl, ys, e1, ns', e', hys, hc1, by simp only [List.length_cons, List.length_nil] at hc2; walk_at "lia", .cons (Nat.ne_of_lt z3) (.lt (of_allLt z4))⟩ (by k_asm) (fun q hq => kN q ?_))
    exact sub_cat [[_], [_], [_], [_], [_], _] [1, 4, 5] [0, 1, 2, 3, 4, 5] (by decide) _ hq
end
end
section
/-- one round of the table: what leads to k leads on to all that k leads to -/
theorem wstep_get (M : Nat → Nat → Bool) (k i a b : Nat) : wstep M k i a b = if a = i then (M a b || (M i k && M k b)) else M a b := by
  unfold wstep
  cases h : M i k
  · by_cases e : a = i <;> simp [e]
  · by_cases e : a = i
    · subst e; simp
    · simp [e]
/-- the rows of a round that are done -/
theorem wrow_get (M : Nat → Nat → Bool) (k : Nat) : ∀ n a b, wrow M k n a b = (M a b || (decide (a < n) && M a k && M k b))
  | 0, a, b => by simp [wrow]
  | n + 1, a, b => by
    have ih := wrow_get M k n
    show wstep (wrow M k n) k n a b = _
    rw [wstep_get, ih, ih, ih]
    by_cases e : a = n
    · subst e
      have e1 : decide (a < a) = false := by simp
      have e2 : decide (a < a + 1) = true := by simp
      simp only [if_true, e1, e2, Bool.false_and, Bool.or_false, Bool.true_and]
      cases M a b <;> cases M a k <;> cases M k b <;> simp
    · have e1 : decide (a < n + 1) = decide (a < n) := by
        by_cases h : a < n
        · simp [h, Nat.lt_succ_of_lt h]
        · have : ¬ a < n + 1 := by walk_at "lia"
          simp [h, this]
      rw [if_neg e, e1]
theorem wall_succ (M : Nat → Nat → Bool) (k : Nat) {a b : Nat} (ha : a < 5) : wall M (k + 1) a b = (wall M k a b || (wall M k a k && wall M k k b)) := by
  show wrow (wall M k) k 5 a b = _
  rw [wrow_get]; simp [ha]
theorem wall_mono (M : Nat → Nat → Bool) {a b : Nat} (ha : a < 5) (h : M a b = true) : ∀ k, wall M k a b = true
  | 0 => h
  | k + 1 => by rw [wall_succ M k ha, wall_mono M ha h k]; rfl
/-- leads on through what is below k -/
theorem wall_trans (M : Nat → Nat → Bool) : ∀ k, k ≤ 5 → ∀ i a j, i < 5 → a < k → wall M k i a = true → wall M k a j = true → wall M k i j = true
  | 0, _, _, _, _, _, h, _, _ => absurd h (Nat.not_lt_zero _)
  | k + 1, hk, i, a, j, hi, ha, h1, h2 => by
    have ih := wall_trans M k (by walk_at "lia")
    have ha5 : a < 5 := by walk_at "lia"
    rw [wall_succ M k hi] at h1 ⊢
    rw [wall_succ M k ha5] at h2
    simp only [Bool.or_eq_true, Bool.and_eq_true] at h1 h2 ⊢
    by_cases e : a = k
    · subst e
      have g1 : wall M a i a = true := h1.elim id And.left
      have g2 : wall M a a j = true := h2.elim id And.right
      exact .inr ⟨g1, g2⟩
    · have hak : a < k := by walk_at "lia"
      rcases h1 with h1 | ⟨h1, h1'⟩ <;> rcases h2 with h2 | ⟨h2, h2'⟩
      · exact .inl (ih i a j hi hak h1 h2)
      · exact .inr ⟨ih i a k hi hak h1 h2, h2'⟩
      · exact .inr ⟨h1, ih k a j (by walk_at "lia") hak h1' h2⟩
      · exact .inr ⟨h1, h2'⟩
/-- the first step of a way -/
theorem wall_first (M : Nat → Nat → Bool) : ∀ k, k ≤ 5 → ∀ i j, i < 5 → wall M k i j = true → M i j = true ∨ ∃ a, a < 5 ∧ M i a = true ∧ wall M k a j = true
  | 0, _, i, j, _, h => .inl h
  | k + 1, hk, i, j, hi, h => by
    have ih := wall_first M k (by walk_at "lia")
    rw [wall_succ M k hi] at h
    simp only [Bool.or_eq_true, Bool.and_eq_true] at h
    rcases h with h | ⟨h, h'⟩
    · rcases ih i j hi h with h | ⟨a, h1, h2, h3⟩
      · exact .inl h
      · exact .inr ⟨a, h1, h2, by rw [wall_succ M k h1, h3]; rfl⟩
    · rcases ih i k hi h with g | ⟨a, h1, h2, h3⟩
      · exact .inr ⟨k, by walk_at "lia", g, by rw [wall_succ M k (by walk_at "lia"), h']; rfl⟩
      · exact .inr ⟨a, h1, h2, by rw [wall_succ M k h1, h3, h']; simp⟩
/-- the last step of a way -/
theorem wall_last (M : Nat → Nat → Bool) : ∀ k, k ≤ 5 → ∀ i j, i < 5 → wall M k i j = true → M i j = true ∨ ∃ a, a < 5 ∧ wall M k i a = true ∧ M a j = true
  | 0, _, i, j, _, h => .inl h
  | k + 1, hk, i, j, hi, h => by
    have ih := wall_last M k (by walk_at "lia")
    rw [wall_succ M k hi] at h
    simp only [Bool.or_eq_true, Bool.and_eq_true] at h
    rcases h with h | ⟨h, h'⟩
    · rcases ih i j hi h with h | ⟨a, h1, h2, h3⟩
      · exact .inl h
      · exact .inr ⟨a, h1, by rw [wall_succ M k hi, h2]; rfl, h3⟩
    · rcases ih k j (by walk_at "lia") h' with g | ⟨a, h1, h2, h3⟩
      · exact .inr ⟨k, by walk_at "lia", by rw [wall_succ M k hi, h]; rfl, g⟩
      · exact .inr ⟨a, h1, by rw [wall_succ M k hi, h, h2]; simp, h3⟩
/-- the words that a ring is reached from -/
noncomputable def toRing (M : Nat → Nat → Bool) (k : Nat) : Prop := ∃ r, r < 5 ∧ wall M 5 r r = true ∧ wall M 5 k r = true
noncomputable def fromRing (M : Nat → Nat → Bool) (k : Nat) : Prop := ∃ r, r < 5 ∧ wall M 5 r r = true ∧ wall M 5 r k = true
theorem toRing_next {M : Nat → Nat → Bool} {k : Nat} (hk : k < 5) (h : toRing M k) : ∃ a, a < 5 ∧ M k a = true ∧ toRing M a := by
  obtain ⟨r, hr, h1, h2⟩ := h
  rcases wall_first M 5 (Nat.le_refl _) k r hk h2 with h3 | ⟨a, h3, h4, h5⟩
  · exact ⟨r, hr, h3, r, hr, h1, h1⟩
  · exact ⟨a, h3, h4, r, hr, h1, h5⟩
theorem fromRing_prev {M : Nat → Nat → Bool} {k : Nat} (h : fromRing M k) : ∃ a, a < 5 ∧ M a k = true ∧ fromRing M a := by
  obtain ⟨r, hr, h1, h2⟩ := h
  rcases wall_last M 5 (Nat.le_refl _) r k hr h2 with h3 | ⟨a, h3, h4, h5⟩
  · exact ⟨r, hr, h3, r, hr, h1, h1⟩
  · exact ⟨a, h3, h5, r, hr, h1, h4⟩
theorem toRing_step {M : Nat → Nat → Bool} {k a : Nat} (hk : k < 5) (ha : a < 5) (h : M k a = true) (t : toRing M a) : toRing M k := by
  obtain ⟨r, hr, h1, h2⟩ := t
  exact ⟨r, hr, h1, wall_trans M 5 (Nat.le_refl _) k a r hk ha (wall_mono M hk h 5) h2⟩
theorem fromRing_step {M : Nat → Nat → Bool} {k a : Nat} (ha : a < 5) (h : M a k = true) (t : fromRing M a) : fromRing M k := by
  obtain ⟨r, hr, h1, h2⟩ := t
  exact ⟨r, hr, h1, wall_trans M 5 (Nat.le_refl _) r a k hr ha h2 (wall_mono M ha h 5)⟩
theorem six : ∀ a b c d e f : Fin 5, a = b ∨ a = c ∨ a = d ∨ a = e ∨ a = f ∨ b = c ∨ b = d ∨ b = e ∨ b = f ∨ c = d ∨ c = e ∨ c = f ∨ d = e ∨ d = f ∨ e = f := by decide +kernel
end
section
theorem walk_ring {M : Nat → Nat → Bool} {a b c d e f : Nat} (ha : a < 5) (hb : b < 5) (hc : c < 5) (hd : d < 5) (he : e < 5) (hf : f < 5)
    (h1 : M a b = true) (h2 : M b c = true) (h3 : M c d = true) (h4 : M d e = true) (h5 : M e f = true) : toRing M a := by
  have T : ∀ i x j, i < 5 → x < 5 → wall M 5 i x = true → wall M 5 x j = true → wall M 5 i j = true := fun i x j hi hx => wall_trans M 5 (Nat.le_refl _) i x j hi hx
  have ab := wall_mono M ha h1 5
  have bc := wall_mono M hb h2 5
  have cd := wall_mono M hc h3 5
  have de := wall_mono M hd h4 5
  have ef := wall_mono M he h5 5
  have ac := T _ _ _ ha hb ab bc
  have ad := T _ _ _ ha hc ac cd
  have ae := T _ _ _ ha hd ad de
  have af := T _ _ _ ha he ae ef
  have bd := T _ _ _ hb hc bc cd
  have be := T _ _ _ hb hd bd de
  have bf := T _ _ _ hb he be ef
  have ce := T _ _ _ hc hd cd de
  have cf := T _ _ _ hc he ce ef
  have df := T _ _ _ hd he de ef
  have q := six ⟨a, ha⟩ ⟨b, hb⟩ ⟨c, hc⟩ ⟨d, hd⟩ ⟨e, he⟩ ⟨f, hf⟩
  simp only [Fin.mk.injEq] at q
  rcases q with q | q | q | q | q | q | q | q | q | q | q | q | q | q | q
  · exact ⟨a, ha, by rw [← q] at ab; exact ab, by rw [← q] at ab; exact ab⟩
  · exact ⟨a, ha, by rw [← q] at ac; exact ac, by rw [← q] at ac; exact ac⟩
  · exact ⟨a, ha, by rw [← q] at ad; exact ad, by rw [← q] at ad; exact ad⟩
  · exact ⟨a, ha, by rw [← q] at ae; exact ae, by rw [← q] at ae; exact ae⟩
  · exact ⟨a, ha, by rw [← q] at af; exact af, by rw [← q] at af; exact af⟩
  · exact ⟨b, hb, by rw [← q] at bc; exact bc, ab⟩
  · exact ⟨b, hb, by rw [← q] at bd; exact bd, ab⟩
  · exact ⟨b, hb, by rw [← q] at be; exact be, ab⟩
  · exact ⟨b, hb, by rw [← q] at bf; exact bf, ab⟩
  · exact ⟨c, hc, by rw [← q] at cd; exact cd, ac⟩
  · exact ⟨c, hc, by rw [← q] at ce; exact ce, ac⟩
  · exact ⟨c, hc, by rw [← q] at cf; exact cf, ac⟩
  · exact ⟨d, hd, by rw [← q] at de; exact de, ad⟩
  · exact ⟨d, hd, by rw [← q] at df; exact df, ad⟩
  · exact ⟨e, he, by rw [← q] at ef; exact ef, ae⟩
theorem mem_stepS {nxt : Nat → List Nat} {S : List Nat} {j : Nat} : j ∈ stepS nxt S ↔ j < 5 ∧ ∃ a, a ∈ S ∧ j ∈ nxt a := by
  unfold stepS
  rw [List.mem_filter, List.mem_range, decide_eq_true_iff, List.mem_flatMap]
/-- five steps are there just from where a ring is reached -/
theorem dead_iff {nxt : Nat → List Nat} {M : Nat → Nat → Bool} (hM : ∀ k j, k < 5 → j < 5 → (j ∈ nxt k ↔ M k j = true)) {k : Nat} (hk : k < 5) : dead nxt k = false ↔ toRing M k := by
  unfold dead
  rw [decide_eq_false_iff_not]
  constructor
  · intro h
    obtain ⟨f, hf⟩ := List.exists_mem_of_ne_nil _ h
    obtain ⟨hf5, e, he, h5⟩ := mem_stepS.mp hf
    obtain ⟨he5, d, hd, h4⟩ := mem_stepS.mp he
    obtain ⟨hd5, c, hc, h3⟩ := mem_stepS.mp hd
    obtain ⟨hc5, b, hb, h2⟩ := mem_stepS.mp hc
    obtain ⟨hb5, a, ha, h1⟩ := mem_stepS.mp hb
    have ha : a = k := List.mem_singleton.mp ha
    subst ha
    exact walk_ring hk hb5 hc5 hd5 he5 hf5 ((hM _ _ hk hb5).mp h1) ((hM _ _ hb5 hc5).mp h2) ((hM _ _ hc5 hd5).mp h3) ((hM _ _ hd5 he5).mp h4) ((hM _ _ he5 hf5).mp h5)
  · intro h
    have key : ∀ n, ∃ a, a ∈ stepN nxt n [k] ∧ a < 5 ∧ toRing M a := by
      intro n
      induction n with
      | zero => exact ⟨k, List.mem_singleton.mpr rfl, hk, h⟩
      | succ n ih =>
        obtain ⟨a, h1, h2, h3⟩ := ih
        obtain ⟨b, h4, h5, h6⟩ := toRing_next h2 h3
        exact ⟨b, mem_stepS.mpr ⟨h4, a, h1, (hM _ _ h2 h4).mpr h5⟩, h4, h6⟩
    obtain ⟨a, h1, _⟩ := key 5
    intro e
    rw [e] at h1
    cases h1
end
section
theorem hit_keep {p : Nat → Bool} {q : Int → Bool} : hit (keep 5 p) q = true ↔ ∃ r, r < 5 ∧ p r = true ∧ q (r : Int) = true := by
  unfold hit
  rw [List.any_eq_true]
  constructor
  · rintro ⟨x, hx, hq⟩
    obtain ⟨b, h1, h2, rfl⟩ := keep_mem.mp hx
    exact ⟨b, h1, h2, hq⟩
  · rintro ⟨r, h1, h2, h3⟩
    exact ⟨r, keep_mem.mpr ⟨r, h1, h2, rfl⟩, h3⟩
/-- the ends of a row, as words -/
noncomputable def endA (n : Int) : Nat := (n % 5).toNat
noncomputable def endB (n : Int) : Nat := (n / 5 % 5).toNat
theorem endA_lt (n : Int) : endA n < 5 := (mod5 n).2
theorem endB_lt (n : Int) : endB n < 5 := (div5 n).2
theorem between_iff {ns : List Int} {i : Nat} {n : Int} (h : ns[i]? = some n) : between ns i = true ↔ fromRing (leadsOf ns) (endA n) ∧ toRing (leadsOf ns) (endB n) := by
  unfold between
  rw [h]
  simp only [Bool.and_eq_true]
  rw [hit_keep, hit_keep]
  simp only [Int.toNat_natCast]
  exact Iff.rfl
theorem leadsOf_iff : ∀ (ns : List Int) (a b : Nat), leadsOf ns a b = true ↔ ∃ n ∈ ns, endA n = a ∧ endB n = b := by
  have key : ∀ (ns : List Int) (M : Nat → Nat → Bool) (a b : Nat), ns.foldl (fun M n => setM M (n % 5).toNat (n / 5 % 5).toNat) M a b = true ↔ M a b = true ∨ ∃ n ∈ ns, endA n = a ∧ endB n = b := by
    intro ns
    induction ns with
    | nil => intro M a b; simp
    | cons n ns ih =>
      intro M a b
      rw [List.foldl_cons, ih]
      unfold setM
      constructor
      · rintro (h | ⟨x, hx, h⟩)
        · by_cases e : a = (n % 5).toNat ∧ b = (n / 5 % 5).toNat
          · exact .inr ⟨n, .head _, e.1.symm, e.2.symm⟩
          · rw [if_neg e] at h; exact .inl h
        · exact .inr ⟨x, .tail _ hx, h⟩
      · rintro (h | ⟨x, hx, h1, h2⟩)
        · left
          by_cases e : a = (n % 5).toNat ∧ b = (n / 5 % 5).toNat
          · rw [if_pos e]
          · rw [if_neg e]; exact h
        · rcases List.mem_cons.mp hx with rfl | hx
          · left
            rw [if_pos ⟨h1.symm, h2.symm⟩]
          · exact .inr ⟨x, hx, h1, h2⟩
  intro ns a b
  unfold leadsOf
  rw [key]
  simp
end
section
theorem walk_ring_back {M : Nat → Nat → Bool} {a b c d e f : Nat} (ha : a < 5) (hb : b < 5) (hc : c < 5) (hd : d < 5) (he : e < 5) (hf : f < 5)
    (h1 : M a b = true) (h2 : M b c = true) (h3 : M c d = true) (h4 : M d e = true) (h5 : M e f = true) : fromRing M f := by
  have T : ∀ i x j, i < 5 → x < 5 → wall M 5 i x = true → wall M 5 x j = true → wall M 5 i j = true := fun i x j hi hx => wall_trans M 5 (Nat.le_refl _) i x j hi hx
  have ab := wall_mono M ha h1 5
  have bc := wall_mono M hb h2 5
  have cd := wall_mono M hc h3 5
  have de := wall_mono M hd h4 5
  have ef := wall_mono M he h5 5
  have ac := T _ _ _ ha hb ab bc
  have ad := T _ _ _ ha hc ac cd
  have ae := T _ _ _ ha hd ad de
  have af := T _ _ _ ha he ae ef
  have bd := T _ _ _ hb hc bc cd
  have be := T _ _ _ hb hd bd de
  have bf := T _ _ _ hb he be ef
  have ce := T _ _ _ hc hd cd de
  have cf := T _ _ _ hc he ce ef
  have df := T _ _ _ hd he de ef
  have q := six ⟨a, ha⟩ ⟨b, hb⟩ ⟨c, hc⟩ ⟨d, hd⟩ ⟨e, he⟩ ⟨f, hf⟩
  simp only [Fin.mk.injEq] at q
  rcases q with q | q | q | q | q | q | q | q | q | q | q | q | q | q | q
  · exact ⟨a, ha, by rw [← q] at ab; exact ab, af⟩
  · exact ⟨a, ha, by rw [← q] at ac; exact ac, af⟩
  · exact ⟨a, ha, by rw [← q] at ad; exact ad, af⟩
  · exact ⟨a, ha, by rw [← q] at ae; exact ae, af⟩
  · exact ⟨a, ha, by rw [← q] at af; exact af, af⟩
  · exact ⟨b, hb, by rw [← q] at bc; exact bc, bf⟩
  · exact ⟨b, hb, by rw [← q] at bd; exact bd, bf⟩
  · exact ⟨b, hb, by rw [← q] at be; exact be, bf⟩
  · exact ⟨b, hb, by rw [← q] at bf; exact bf, bf⟩
  · exact ⟨c, hc, by rw [← q] at cd; exact cd, cf⟩
  · exact ⟨c, hc, by rw [← q] at ce; exact ce, cf⟩
  · exact ⟨c, hc, by rw [← q] at cf; exact cf, cf⟩
  · exact ⟨d, hd, by rw [← q] at de; exact de, df⟩
  · exact ⟨d, hd, by rw [← q] at df; exact df, df⟩
  · exact ⟨e, he, by rw [← q] at ef; exact ef, ef⟩
section
variable {α : Type} {fa fb : α → Nat} {M : Nat → Nat → Bool} {L : List α}
/-- what is left of a list of rows when those go that have a name that is no value or a value that is no name -/
noncomputable def peel (fa fb : α → Nat) (l : List α) : List α := l.filter fun p => (l.map fb).contains (fa p) && (l.map fa).contains (fb p)
theorem mem_peel {l : List α} {p : α} : p ∈ peel fa fb l ↔ p ∈ l ∧ (∃ q, q ∈ l ∧ fb q = fa p) ∧ ∃ q, q ∈ l ∧ fa q = fb p := by
  unfold peel
  rw [List.mem_filter]
  simp only [Bool.and_eq_true, List.contains_iff_mem, List.mem_map]
/-- rows that lie on a way from a ring to a ring stay -/
theorem peel_good {l : List α} (h5 : ∀ p ∈ L, fa p < 5 ∧ fb p < 5) (hM : ∀ a b, M a b = true ↔ ∃ q, q ∈ L ∧ fa q = a ∧ fb q = b)
    (inv : ∀ p ∈ L, fromRing M (fa p) → toRing M (fb p) → p ∈ l) {p : α} (hp : p ∈ L) (h1 : fromRing M (fa p)) (h2 : toRing M (fb p)) : p ∈ peel fa fb l := by
  have hpM : M (fa p) (fb p) = true := (hM _ _).mpr ⟨p, hp, rfl, rfl⟩
  refine mem_peel.mpr ⟨inv p hp h1 h2, ?_, ?_⟩
  · obtain ⟨c, hc, h3, h4⟩ := fromRing_prev h1
    obtain ⟨q, hq, rfl, hb⟩ := (hM _ _).mp h3
    exact ⟨q, inv q hq h4 (hb ▸ toRing_step (h5 p hp).1 (h5 p hp).2 hpM h2), hb⟩
  · obtain ⟨c, hc, h3, h4⟩ := toRing_next (h5 p hp).2 h2
    obtain ⟨q, hq, ha, rfl⟩ := (hM _ _).mp h3
    exact ⟨q, inv q hq (ha ▸ fromRing_step (h5 p hp).1 hpM h1) h4, ha⟩
/-- what outlives all lies on such a way -/
theorem fix_good {l : List α} (h5 : ∀ p ∈ L, fa p < 5 ∧ fb p < 5) (hM : ∀ a b, M a b = true ↔ ∃ q, q ∈ L ∧ fa q = a ∧ fb q = b) (hsub : ∀ p ∈ l, p ∈ L)
    (hf : ∀ p ∈ l, (∃ q, q ∈ l ∧ fb q = fa p) ∧ ∃ q, q ∈ l ∧ fa q = fb p) {p : α} (hp : p ∈ l) : fromRing M (fa p) ∧ toRing M (fb p) := by
  have m : ∀ q ∈ l, M (fa q) (fb q) = true := fun q hq => (hM _ _).mpr ⟨q, hsub q hq, rfl, rfl⟩
  constructor
  · obtain ⟨q1, h1, e1⟩ := (hf p hp).1
    obtain ⟨q2, h2, e2⟩ := (hf q1 h1).1
    obtain ⟨q3, h3, e3⟩ := (hf q2 h2).1
    obtain ⟨q4, h4, e4⟩ := (hf q3 h3).1
    obtain ⟨q5, h5', e5⟩ := (hf q4 h4).1
    have g := fun q hq => h5 q (hsub q hq)
    have w5 := m q5 h5'
    have w4 := m q4 h4
    have w3 := m q3 h3
    have w2 := m q2 h2
    have w1 := m q1 h1
    rw [e5] at w5
    rw [e4] at w4
    rw [e3] at w3
    rw [e2] at w2
    rw [e1] at w1
    exact walk_ring_back (g q5 h5').1 (g q4 h4).1 (g q3 h3).1 (g q2 h2).1 (g q1 h1).1 (g p hp).1 w5 w4 w3 w2 w1
  · obtain ⟨q1, h1, e1⟩ := (hf p hp).2
    obtain ⟨q2, h2, e2⟩ := (hf q1 h1).2
    obtain ⟨q3, h3, e3⟩ := (hf q2 h2).2
    obtain ⟨q4, h4, e4⟩ := (hf q3 h3).2
    obtain ⟨q5, h5', e5⟩ := (hf q4 h4).2
    have g := fun q hq => h5 q (hsub q hq)
    have w5 := m q5 h5'
    have w4 := m q4 h4
    have w3 := m q3 h3
    have w2 := m q2 h2
    have w1 := m q1 h1
    rw [e5] at w5
    rw [e4] at w4
    rw [e3] at w3
    rw [e2] at w2
    rw [e1] at w1
    exact walk_ring (g p hp).2 (g q1 h1).2 (g q2 h2).2 (g q3 h3).2 (g q4 h4).2 (g q5 h5').2 w1 w2 w3 w4 w5
end
end
section
theorem filter_keeps {α : Type} {g c : α → Bool} {l : List α} (h : ∀ p ∈ l, g p = true → c p = true) : (l.filter c).filter g = l.filter g := by
  induction l with
  | nil => rfl
  | cons p l ih =>
    have ih := ih fun q hq => h q (.tail _ hq)
    cases hc : c p
    · have hg : g p = false := by
        cases hg : g p
        · rfl
        · rw [h p (.head _) hg] at hc; cases hc
      simp only [List.filter_cons, hc, hg, Bool.false_eq_true, if_false, ih]
    · cases hg : g p <;> simp only [List.filter_cons, hc, hg, if_true, Bool.false_eq_true, if_false, ih]
theorem filter_short {α : Type} {c : α → Bool} {l : List α} (h : l.filter c ≠ l) : (l.filter c).length < l.length := by
  refine Nat.lt_of_le_of_ne (List.length_filter_le _ _) fun e => h ?_
  exact List.filter_eq_self.mpr (List.length_filter_eq_length_iff.mp e)
section
variable {α : Type} {fa fb : α → Nat} {M : Nat → Nat → Bool} {L : List α} {g : α → Bool}
/-- one turn of the peeling keeps the good rows -/
theorem peel_keeps (h5 : ∀ p ∈ L, fa p < 5 ∧ fb p < 5) (hM : ∀ a b, M a b = true ↔ ∃ q, q ∈ L ∧ fa q = a ∧ fb q = b) (hg : ∀ p ∈ L, g p = true ↔ fromRing M (fa p) ∧ toRing M (fb p))
    {l : List α} (hsub : ∀ p ∈ l, p ∈ L) (inv : l.filter g = L.filter g) : (∀ p ∈ peel fa fb l, p ∈ L) ∧ (peel fa fb l).filter g = L.filter g := by
  have hin : ∀ p ∈ L, fromRing M (fa p) → toRing M (fb p) → p ∈ l := fun p hp h1 h2 => by
    have h3 : p ∈ L.filter g := List.mem_filter.mpr ⟨hp, (hg p hp).mpr ⟨h1, h2⟩⟩
    rw [← inv] at h3
    exact (List.mem_filter.mp h3).1
  refine ⟨fun p hp => hsub p (mem_peel.mp hp).1, ?_⟩
  rw [← inv]
  refine filter_keeps fun p hp h => ?_
  have h1 := (hg p (hsub p hp)).mp h
  have h2 := peel_good h5 hM hin (hsub p hp) h1.1 h1.2
  exact (List.mem_filter.mp h2).2
/-- what is left when nothing goes are the good rows -/
theorem peel_end (h5 : ∀ p ∈ L, fa p < 5 ∧ fb p < 5) (hM : ∀ a b, M a b = true ↔ ∃ q, q ∈ L ∧ fa q = a ∧ fb q = b) (hg : ∀ p ∈ L, g p = true ↔ fromRing M (fa p) ∧ toRing M (fb p))
    {l : List α} (hsub : ∀ p ∈ l, p ∈ L) (inv : l.filter g = L.filter g) (hf : peel fa fb l = l) : l = L.filter g := by
  rw [← inv]
  symm
  refine List.filter_eq_self.mpr fun p hp => ?_
  refine (hg p (hsub p hp)).mpr (fix_good h5 hM hsub (fun q hq => ?_) hp)
  rw [← hf] at hq
  exact (mem_peel.mp hq).2
end
end
section
theorem wall_flip (M : Nat → Nat → Bool) : ∀ k, k ≤ 5 → ∀ a b, a < 5 → b < 5 → wall (fun x y => M y x) k a b = wall M k b a
  | 0, _, _, _, _, _ => rfl
  | k + 1, hk, a, b, ha, hb => by
    have ih := wall_flip M k (by walk_at "lia")
    rw [wall_succ _ k ha, wall_succ _ k hb, ih a b ha hb, ih a k ha (by walk_at "lia"), ih k b (by walk_at "lia") hb, Bool.and_comm]
theorem toRing_flip {M : Nat → Nat → Bool} {k : Nat} (hk : k < 5) : toRing (fun x y => M y x) k ↔ fromRing M k := by
  unfold toRing fromRing
  constructor
  · rintro ⟨r, hr, h1, h2⟩
    rw [wall_flip M 5 (Nat.le_refl _) r r hr hr] at h1
    rw [wall_flip M 5 (Nat.le_refl _) k r hk hr] at h2
    exact ⟨r, hr, h1, h2⟩
  · rintro ⟨r, hr, h1, h2⟩
    refine ⟨r, hr, ?_, ?_⟩
    · rw [wall_flip M 5 (Nat.le_refl _) r r hr hr]; exact h1
    · rw [wall_flip M 5 (Nat.le_refl _) k r hk hr]; exact h2
theorem mem_goingL {nxt : Nat → List Nat} {n k : Nat} : k ∈ goingL nxt n ↔ k < n ∧ dead nxt k = false := by
  unfold goingL
  rw [List.mem_filter, List.mem_range]
  cases dead nxt k <;> simp
/-- the words from which one goes five times on, by rows read forward -/
theorem going_ahead {nxt : Nat → List Nat} {ns : List Int} (h : ∀ k j, k < 5 → (j ∈ nxt k ↔ ∃ n, n ∈ ns ∧ endA n = k ∧ endB n = j)) {k : Nat} (hk : k < 5) : k ∈ goingL nxt 5 ↔ toRing (leadsOf ns) k := by
  rw [mem_goingL]
  have h1 := dead_iff (nxt := nxt) (M := leadsOf ns) (fun a b ha hb => by rw [h a b ha, leadsOf_iff]) hk
  rw [h1]
  exact ⟨And.right, fun x => ⟨hk, x⟩⟩
/-- and back -/
theorem going_back {nxt : Nat → List Nat} {ns : List Int} (h : ∀ k j, k < 5 → (j ∈ nxt k ↔ ∃ n, n ∈ ns ∧ endB n = k ∧ endA n = j)) {k : Nat} (hk : k < 5) : k ∈ goingL nxt 5 ↔ fromRing (leadsOf ns) k := by
  rw [mem_goingL]
  have h1 := dead_iff (nxt := nxt) (M := fun x y => leadsOf ns y x) (fun a b ha hb => by
    rw [h a b ha, leadsOf_iff]
    exact ⟨fun ⟨n, h1, h2, h3⟩ => ⟨n, h1, h3, h2⟩, fun ⟨n, h1, h2, h3⟩ => ⟨n, h1, h3, h2⟩⟩) hk
  rw [h1, toRing_flip hk]
  exact ⟨And.right, fun x => ⟨hk, x⟩⟩
end
section
/-- the pure text of sorted_list_difference: the one's own, the other's own -/
noncomputable def sld : Nat → List Str → List Str → List Str × List Str
  | 0, es, as => (es, as)
  | n + 1, [], as => ([], as)
  | n + 1, e :: es, [] => (e :: es, [])
  | n + 1, e :: es, a :: as =>
    if decide (e.cps.toList < a.cps.toList) then (e :: (sld n (es.dropWhile (· == e)) (a :: as)).1, (sld n (es.dropWhile (· == e)) (a :: as)).2)
    else if decide (a.cps.toList < e.cps.toList) then ((sld n (e :: es) (as.dropWhile (· == a))).1, a :: (sld n (e :: es) (as.dropWhile (· == a))).2)
    else sld n (es.dropWhile (· == e)) (as.dropWhile (· == a))
noncomputable def keepX (seen js : List Nat) (x : Nat) : Bool := !decide (x ∈ js) && (!decide (x ∈ seen) || (match js.getLast? with | none => true | some j => decide (j < x)))
/-- what the other one hasn't, element by element -/
noncomputable def al (js : List Nat) : List Nat → List Nat → List Nat
  | _, [] => []
  | seen, x :: ks => if keepX seen js x then x :: al js (seen ++ [x]) ks else al js (seen ++ [x]) ks
theorem al_cons (js seen : List Nat) (x : Nat) (ks : List Nat) : al js seen (x :: ks) = if keepX seen js x then x :: al js (seen ++ [x]) ks else al js (seen ++ [x]) ks := rfl
theorem aloneTo_al {js : List Nat} : ∀ (ks seen : List Nat), aloneTo (seen ++ ks) js (seen.length + ks.length) = aloneTo (seen ++ ks) js seen.length ++ al js seen ks
  | [], seen => by simp [al]
  | x :: ks, seen => by
    have ih := aloneTo_al (js := js) ks (seen ++ [x])
    have e1 : seen ++ [x] ++ ks = seen ++ x :: ks := by simp
    have e2 : (seen ++ [x]).length + ks.length = seen.length + (x :: ks).length := by simp; omega
    have e3 : (seen ++ [x]).length = seen.length + 1 := by simp
    rw [e1, e2, e3] at ih
    rw [ih]
    have e4 : (seen ++ x :: ks)[seen.length]? = some x := by simp
    have e5 : keepIt (seen ++ x :: ks) js seen.length x = keepX seen js x := by
      unfold keepIt keepX
      have e0 : (seen ++ x :: ks).take seen.length = seen := by simp
      rw [e0]
      all_goals rfl
    have e6 : aloneTo (seen ++ x :: ks) js (seen.length + 1) = if keepX seen js x then aloneTo (seen ++ x :: ks) js seen.length ++ [x] else aloneTo (seen ++ x :: ks) js seen.length := by
      rw [← e5]
      show (match (seen ++ x :: ks)[seen.length]? with | some x' => if keepIt (seen ++ x :: ks) js seen.length x' then aloneTo (seen ++ x :: ks) js seen.length ++ [x'] else aloneTo (seen ++ x :: ks) js seen.length | none => aloneTo (seen ++ x :: ks) js seen.length) = _
      rw [e4]
    rw [e6]
    rw [al_cons]
    cases keepX seen js x <;> simp
theorem alone_al (ks js : List Nat) : alone ks js = al js [] ks := by
  have h := aloneTo_al (js := js) ks []
  simpa [alone, aloneTo] using h
/-- of what stands in the list, the other one hasn't it -/
theorem mem_al {js : List Nat} {x : Nat} : ∀ {ks seen : List Nat}, x ∉ seen → (x ∈ al js seen ks ↔ x ∈ ks ∧ x ∉ js)
  | [], _, _ => by simp [al]
  | y :: ks, seen, hs => by
    rw [al_cons]
    by_cases e : x = y
    · subst e
      by_cases hj : x ∈ js
      · have hk : keepX seen js x = false := by simp [keepX, hj]
        rw [hk]
        simp only [Bool.false_eq_true, if_false]
        constructor
        · intro h
          exact absurd h (not_mem_al hj)
        · rintro ⟨_, h⟩; exact absurd hj h
      · have hk : keepX seen js x = true := by simp [keepX, hj, hs]
        rw [hk]; simp [hj]
    · have ih := mem_al (js := js) (ks := ks) (seen := seen ++ [y]) (x := x) (by simp [hs, e])
      cases keepX seen js y
      · simp only [Bool.false_eq_true, if_false]; rw [ih]; simp [e]
      · simp only [if_true, List.mem_cons]; rw [ih]; simp [e]
where
  not_mem_al {js : List Nat} {x : Nat} (hj : x ∈ js) : ∀ {ks seen : List Nat}, x ∉ al js seen ks := by
    intro ks
    induction ks with
    | nil => intro seen; simp [al]
    | cons y ks ih =>
      intro seen
      rw [al_cons]
      by_cases e : x = y
      · subst e
        have hk : keepX seen js x = false := by simp [keepX, hj]
        rw [hk]; exact ih
      · cases keepX seen js y
        · exact ih
        · simp only [if_true, List.mem_cons, not_or]; exact ⟨e, ih⟩
theorem mem_alone {ks js : List Nat} {x : Nat} : x ∈ alone ks js ↔ x ∈ ks ∧ x ∉ js := by
  rw [alone_al]; exact mem_al (fun h => nomatch h)
end
section
/-- sorted_list_difference over the places of the words -/
noncomputable def sldN : Nat → List Nat → List Nat → List Nat × List Nat
  | 0, es, as => (es, as)
  | n + 1, [], as => ([], as)
  | n + 1, e :: es, [] => (e :: es, [])
  | n + 1, e :: es, a :: as =>
    if decide (e < a) then (e :: (sldN n (es.dropWhile (· == e)) (a :: as)).1, (sldN n (es.dropWhile (· == e)) (a :: as)).2)
    else if decide (a < e) then ((sldN n (e :: es) (as.dropWhile (· == a))).1, a :: (sldN n (e :: es) (as.dropWhile (· == a))).2)
    else sldN n (es.dropWhile (· == e)) (as.dropWhile (· == a))
theorem drop_map {e : Nat} (he : e < 5) : ∀ {ks : List Nat}, (∀ k ∈ ks, k < 5) → (ks.map wd).dropWhile (· == wd e) = (ks.dropWhile (· == e)).map wd
  | [], _ => rfl
  | k :: ks, h => by
    have h1 : (wd k == wd e) = (k == e) := by
      rw [Bool.eq_iff_iff, beq_iff_eq, beq_iff_eq]; exact wd_eq (h k (.head _)) he
    rw [List.map_cons, List.dropWhile_cons, List.dropWhile_cons, h1]
    cases k == e
    · simp
    · simp only [if_true]; exact drop_map he fun q hq => h q (.tail _ hq)
theorem drop_lt {p : Nat → Bool} {ks : List Nat} (h : ∀ k ∈ ks, k < 5) : ∀ k ∈ ks.dropWhile p, k < 5 := fun k hk => h k ((List.dropWhile_sublist p).mem hk)
theorem sld_map : ∀ (n : Nat) (ks js : List Nat), (∀ k ∈ ks, k < 5) → (∀ k ∈ js, k < 5) → sld n (ks.map wd) (js.map wd) = ((sldN n ks js).1.map wd, (sldN n ks js).2.map wd)
  | 0, ks, js, _, _ => rfl
  | n + 1, [], js, _, _ => rfl
  | n + 1, e :: es, [], _, _ => rfl
  | n + 1, e :: es, a :: as, h, h' => by
    have he := h e (.head _)
    have ha := h' a (.head _)
    have hes : ∀ k ∈ es, k < 5 := fun k hk => h k (.tail _ hk)
    have has : ∀ k ∈ as, k < 5 := fun k hk => h' k (.tail _ hk)
    have i1 := sld_map n (es.dropWhile (· == e)) (a :: as) (drop_lt hes) h'
    have i2 := sld_map n (e :: es) (as.dropWhile (· == a)) h (drop_lt has)
    have i3 := sld_map n (es.dropWhile (· == e)) (as.dropWhile (· == a)) (drop_lt hes) (drop_lt has)
    rw [List.map_cons] at i1 i2
    rw [List.map_cons, List.map_cons]
    unfold sld sldN
    rw [wd_lt he ha, wd_lt ha he, drop_map he hes, drop_map ha has]
    by_cases c1 : decide (e < a) = true
    · rw [if_pos c1, if_pos c1, i1]; rfl
    · rw [if_neg c1, if_neg c1]
      by_cases c2 : decide (a < e) = true
      · rw [if_pos c2, if_pos c2, i2]; rfl
      · rw [if_neg c2, if_neg c2, i3]
end
section
noncomputable def lastUp (js : List Nat) (x : Nat) : Bool := match js.getLast? with | none => true | some j => decide (j < x)
theorem keepX_eq (seen js : List Nat) (x : Nat) : keepX seen js x = (!decide (x ∈ js) && (!decide (x ∈ seen) || lastUp js x)) := rfl
/-- only what is asked of the other list counts -/
theorem al_congr {js js' : List Nat} : ∀ {ks seen seen' : List Nat}, (∀ y ∈ ks, (y ∈ seen ↔ y ∈ seen') ∧ (y ∈ js ↔ y ∈ js') ∧ lastUp js y = lastUp js' y) → al js seen ks = al js' seen' ks
  | [], _, _, _ => rfl
  | x :: ks, seen, seen', h => by
    obtain ⟨h1, h2, h3⟩ := h x (.head _)
    have hk : keepX seen js x = keepX seen' js' x := by rw [keepX_eq, keepX_eq, h3, decide_eq_decide.mpr h1, decide_eq_decide.mpr h2]
    rw [al_cons, al_cons, hk]
    have ih := al_congr (ks := ks) (seen := seen ++ [x]) (seen' := seen' ++ [x]) (js := js) (js' := js') fun y hy => by
      obtain ⟨g1, g2, g3⟩ := h y (.tail _ hy)
      exact ⟨by simp [g1], g2, g3⟩
    rw [ih]
/-- words that were seen fall out, where the other one has a later word -/
theorem al_drop {js : List Nat} {e : Nat} (hl : lastUp js e = false ∨ e ∈ js) : ∀ {ks seen : List Nat}, e ∈ seen → al js seen ks = al js seen (ks.dropWhile (· == e))
  | [], _, _ => rfl
  | x :: ks, seen, hs => by
    rw [List.dropWhile_cons]
    by_cases c : x = e
    · subst c
      have hk : keepX seen js x = false := by
        rw [keepX_eq]
        rcases hl with hl | hl
        · simp [hs, hl]
        · simp [hl]
      rw [al_cons, hk]
      simp only [beq_self_eq_true, if_true, Bool.false_eq_true, if_false]
      have ih := al_drop hl (ks := ks) (seen := seen ++ [x]) (by simp)
      rw [ih]
      refine al_congr fun y hy => ⟨?_, Iff.rfl, rfl⟩
      simp only [List.mem_append, List.mem_singleton]
      exact ⟨fun h => h.elim id fun h => h ▸ hs, .inl⟩
    · have hb : (x == e) = false := by simp [c]
      rw [hb]; rfl
end
section
theorem drop_same {e y : Nat} (hy : e < y) : ∀ es : List Nat, (y ∈ e :: es ↔ y ∈ es.dropWhile (· == e)) ∧ lastUp (e :: es) y = lastUp (es.dropWhile (· == e)) y
  | [] => by
    refine ⟨by simp; walk_at "lia", ?_⟩
    show decide (e < y) = true
    simp [hy]
  | x :: es => by
    rw [List.dropWhile_cons]
    by_cases c : x = e
    · subst c
      simp only [beq_self_eq_true, if_true]
      obtain ⟨h1, h2⟩ := drop_same hy es
      refine ⟨?_, ?_⟩
      · rw [← h1]; simp
      · rw [← h2]; unfold lastUp; rw [List.getLast?_cons_cons]
    · have hb : (x == e) = false := by simp [c]
      rw [hb]
      simp only [Bool.false_eq_true, if_false]
      refine ⟨?_, ?_⟩
      · have : y ≠ e := by walk_at "lia"
        simp [this]
      · unfold lastUp; rw [List.getLast?_cons_cons]
theorem drop_up {e : Nat} : ∀ {es : List Nat}, (e :: es).Pairwise (· ≤ ·) → ∀ y ∈ es.dropWhile (· == e), e < y
  | [], _, y, hy => by simp at hy
  | x :: es, h, y, hy => by
    rw [List.dropWhile_cons] at hy
    rw [List.pairwise_cons] at h
    have hx := h.1 x (.head _)
    by_cases c : x = e
    · subst c
      simp only [beq_self_eq_true, if_true] at hy
      exact drop_up h.2 y hy
    · have hb : (x == e) = false := by simp [c]
      rw [hb] at hy
      simp only [Bool.false_eq_true, if_false] at hy
      rcases List.mem_cons.mp hy with rfl | hy
      · walk_at "lia"
      · have := (List.pairwise_cons.mp h.2).1 y hy
        walk_at "lia"
theorem al_nil : ∀ (js seen : List Nat), al [] seen js = js
  | [], _ => rfl
  | x :: js, seen => by
    have hk : keepX seen [] x = true := by rw [keepX_eq]; simp [lastUp]
    rw [al_cons, hk, if_pos rfl, al_nil js]
/-- a word is less than all of the other list -/
theorem al_less {e a : Nat} {es as : List Nat} (h : (e :: es).Pairwise (· ≤ ·)) (h' : (a :: as).Pairwise (· ≤ ·)) (hl : e < a) :
    al (a :: as) [] (e :: es) = e :: al (a :: as) [] (es.dropWhile (· == e)) ∧ al (e :: es) [] (a :: as) = al (es.dropWhile (· == e)) [] (a :: as) := by
  have hall : ∀ y ∈ a :: as, e < y := fun y hy => by
    rcases List.mem_cons.mp hy with rfl | hy
    · exact hl
    · have := (List.pairwise_cons.mp h').1 y hy; walk_at "lia"
  have hne : e ∉ a :: as := fun hm => Nat.lt_irrefl _ (hall e hm)
  have hup : lastUp (a :: as) e = false := by
    unfold lastUp
    cases hg : (a :: as).getLast? with
    | none => simp at hg
    | some j =>
      have := hall j (List.mem_of_getLast? hg)
      simp; walk_at "lia"
  constructor
  · have hk : keepX [] (a :: as) e = true := by rw [keepX_eq]; simp [hne]
    rw [al_cons, hk, if_pos rfl, List.nil_append, al_drop (.inl hup) (by simp)]
    congr 1
    refine al_congr fun y hy => ⟨?_, Iff.rfl, rfl⟩
    have := drop_up h y hy
    simp; walk_at "lia"
  · refine al_congr fun y hy => ⟨Iff.rfl, ?_⟩
    exact drop_same (hall y hy) es
theorem al_same {e : Nat} {es as : List Nat} (h : (e :: es).Pairwise (· ≤ ·)) : al (e :: as) [] (e :: es) = al (as.dropWhile (· == e)) [] (es.dropWhile (· == e)) := by
  have hk : keepX [] (e :: as) e = false := by rw [keepX_eq]; simp
  rw [al_cons, hk, if_neg (by decide), List.nil_append, al_drop (.inr (.head _)) (by simp)]
  refine al_congr fun y hy => ?_
  have hu := drop_up h y hy
  exact ⟨by simp; walk_at "lia", drop_same hu as⟩
end
section
theorem drop_len {p : Nat → Bool} (l : List Nat) : (l.dropWhile p).length ≤ l.length := (List.dropWhile_sublist p).length_le
theorem sldN_al : ∀ (n : Nat) (ks js : List Nat), ks.length + js.length ≤ n → ks.Pairwise (· ≤ ·) → js.Pairwise (· ≤ ·) → sldN n ks js = (al js [] ks, al ks [] js)
  | 0, ks, js, hn, _, _ => by
    have h1 : ks = [] := List.eq_nil_of_length_eq_zero (by walk_at "lia")
    have h2 : js = [] := List.eq_nil_of_length_eq_zero (by walk_at "lia")
    subst h1 h2; rfl
  | n + 1, [], js, _, _, _ => by
    show ([], js) = _
    rw [al_nil]; rfl
  | n + 1, e :: es, [], _, _, _ => by
    show (e :: es, []) = _
    rw [al_nil]; rfl
  | n + 1, e :: es, a :: as, hn, h, h' => by
    have hes := (List.pairwise_cons.mp h).2
    have has := (List.pairwise_cons.mp h').2
    have d1 := hes.sublist (List.dropWhile_sublist (· == e))
    have d2 := has.sublist (List.dropWhile_sublist (· == a))
    have l1 := drop_len (p := (· == e)) es
    have l2 := drop_len (p := (· == a)) as
    simp only [List.length_cons] at hn
    unfold sldN
    by_cases c1 : e < a
    · rw [if_pos (by simp [c1]), sldN_al n _ (a :: as) (by simp only [List.length_cons]; walk_at "lia") d1 h']
      obtain ⟨g1, g2⟩ := al_less h h' c1
      rw [g1, g2]
    · rw [if_neg (by simp [c1])]
      by_cases c2 : a < e
      · rw [if_pos (by simp [c2]), sldN_al n (e :: es) _ (by simp only [List.length_cons]; walk_at "lia") h d2]
        obtain ⟨g1, g2⟩ := al_less h' h c2
        rw [g1, g2]
      · have e1 : a = e := by walk_at "lia"
        subst e1
        rw [if_neg (by simp), sldN_al n _ _ (by walk_at "lia") d1 d2, al_same h, al_same h']
theorem sld_alone {n : Nat} {ks js : List Nat} (h5 : ∀ k ∈ ks, k < 5) (h5' : ∀ k ∈ js, k < 5) (hn : ks.length + js.length ≤ n) (h : ks.Pairwise (· ≤ ·)) (h' : js.Pairwise (· ≤ ·)) :
    sld n (ks.map wd) (js.map wd) = ((alone ks js).map wd, (alone js ks).map wd) := by
  rw [sld_map n ks js h5 h5', sldN_al n ks js hn h h', alone_al, alone_al]
end
section
section
variable {α : Type} {fa fb : α → Nat} {l : List α} {ks js : List Nat}
/-- the rows that stay by what is told -/
theorem told_peel (hk : ∀ x, x ∈ ks ↔ x ∈ l.map fa) (hj : ∀ x, x ∈ js ↔ x ∈ l.map fb) : l.filter (fun p => !decide (fa p ∈ alone ks js) && !decide (fb p ∈ alone js ks)) = peel fa fb l := by
  unfold peel
  refine List.filter_congr fun p hp => ?_
  have h1 : fa p ∈ ks := (hk _).mpr (List.mem_map_of_mem hp)
  have h2 : fb p ∈ js := (hj _).mpr (List.mem_map_of_mem hp)
  have e1 : decide (fa p ∈ alone ks js) = !(l.map fb).contains (fa p) := by
    rw [Bool.eq_iff_iff, decide_eq_true_iff, mem_alone, Bool.not_eq_true', ← Bool.not_eq_true, List.contains_iff_mem, ← hj]
    exact ⟨And.right, fun h => ⟨h1, h⟩⟩
  have e2 : decide (fb p ∈ alone js ks) = !(l.map fa).contains (fb p) := by
    rw [Bool.eq_iff_iff, decide_eq_true_iff, mem_alone, Bool.not_eq_true', ← Bool.not_eq_true, List.contains_iff_mem, ← hk]
    exact ⟨And.right, fun h => ⟨h2, h⟩⟩
  rw [e1, e2, Bool.not_not, Bool.not_not]
/-- nothing is told just when nothing goes -/
theorem told_nil (hk : ∀ x, x ∈ ks ↔ x ∈ l.map fa) (hj : ∀ x, x ∈ js ↔ x ∈ l.map fb) : (alone ks js = [] ∧ alone js ks = []) ↔ peel fa fb l = l := by
  rw [← told_peel hk hj, List.filter_eq_self]
  constructor
  · rintro ⟨h1, h2⟩ p _
    rw [h1, h2]; simp
  · intro h
    constructor
    · refine List.eq_nil_iff_forall_not_mem.mpr fun x hx => ?_
      obtain ⟨p, hp, rfl⟩ := List.mem_map.mp ((hk x).mp (mem_alone.mp hx).1)
      have := h p hp
      simp [hx] at this
    · refine List.eq_nil_iff_forall_not_mem.mpr fun x hx => ?_
      obtain ⟨p, hp, rfl⟩ := List.mem_map.mp ((hj x).mp (mem_alone.mp hx).1)
      have := h p hp
      simp [hx] at this
end
end
section
theorem look_put (x v y : Str) : ∀ g : List (Str × List Str), look (putKV g x v) y = if x = y then look g y ++ [v] else look g y
  | [] => by
    unfold look putKV
    by_cases h : x = y
    · subst h; simp
    · have hb : (x == y) = false := by simp [h]
      simp [List.find?_cons, hb, h]
  | (z, vs) :: g => by
    have ih := look_put x v y g
    unfold putKV
    by_cases hz : z = x
    · subst hz
      rw [if_pos rfl]
      unfold look
      by_cases h : z = y
      · subst h; simp [List.find?_cons]
      · have hb : (z == y) = false := by simp [h]
        simp [List.find?_cons, hb, h]
    · rw [if_neg hz]
      unfold look at ih ⊢
      by_cases h : z = y
      · subst h
        have hx : ¬ x = z := fun e => hz e.symm
        simp [List.find?_cons, hx]
      · have hb : (z == y) = false := by simp [h]
        rw [List.find?_cons, hb, List.find?_cons, hb]
        exact ih
theorem look_groups (y : Str) : ∀ (rows : List (Str × Str)), look (groups rows) y = (rows.filter fun r => r.1 == y).map (·.2) := by
  have key : ∀ (rows : List (Str × Str)) (g : List (Str × List Str)), look (rows.foldl (fun g r => putKV g r.1 r.2) g) y = look g y ++ (rows.filter fun r => r.1 == y).map (·.2) := by
    intro rows
    induction rows with
    | nil => intro g; simp
    | cons r rows ih =>
      intro g
      rw [List.foldl_cons, ih, look_put]
      by_cases h : r.1 = y
      · have hb : (r.1 == y) = true := by simp [h]
        rw [if_pos h]; simp only [List.filter_cons, hb, if_true, List.map_cons]; simp
      · have hb : (r.1 == y) = false := by simp [h]
        rw [if_neg h]; simp only [List.filter_cons, hb, Bool.false_eq_true, if_false]
  intro rows
  unfold groups
  rw [key]
  rfl
end
section
theorem keys_put (x v : Str) : ∀ g : List (Str × List Str), (putKV g x v).map (·.1) = if x ∈ g.map (·.1) then g.map (·.1) else g.map (·.1) ++ [x]
  | [] => by simp [putKV]
  | (z, vs) :: g => by
    have ih := keys_put x v g
    unfold putKV
    by_cases hz : z = x
    · subst hz; simp
    · have hx : ¬ x = z := fun e => hz e.symm
      rw [if_neg hz, List.map_cons, ih]
      by_cases hm : x ∈ g.map (·.1)
      · rw [if_pos hm, if_pos (by rw [List.map_cons]; exact .tail _ hm), List.map_cons]
      · rw [if_neg hm, if_neg (by rw [List.map_cons, List.mem_cons]; exact fun h => h.elim hx hm), List.map_cons]; rfl
/-- words as they first come -/
noncomputable def firsts (xs : List Str) : List Str := xs.foldl (fun l x => if x ∈ l then l else l ++ [x]) []
theorem keys_groups (rows : List (Str × Str)) : (groups rows).map (·.1) = firsts (rows.map (·.1)) := by
  have key : ∀ (rows : List (Str × Str)) (g : List (Str × List Str)) (l : List Str), g.map (·.1) = l → (rows.foldl (fun g r => putKV g r.1 r.2) g).map (·.1) = (rows.map (·.1)).foldl (fun l x => if x ∈ l then l else l ++ [x]) l := by
    intro rows
    induction rows with
    | nil => intro g l h; exact h
    | cons r rows ih =>
      intro g l h
      rw [List.foldl_cons, List.map_cons, List.foldl_cons]
      exact ih _ _ (by rw [keys_put, h])
  exact key rows [] [] rfl
end
section
section
variable {M : Model} {A : Around} {E : Value → Shared → Prop} {s : Shared}
/-- a frame that an exception has come by already -/
noncomputable def Ready (h : Heap) (L : Addr) : Prop := ∃ o, h.get? L = some o ∧ (o.slots.getD 3 none).isSome = true
theorem ready_nil {Q : Unit → Shared → Prop} (h : Q () s) : wpAny M A (readyFrames []) Q E s := by
  simp only [readyFrames]; exact wpAny_pure h
theorem ready_stop {env : Env} {outer : List Env} {L : Addr} {Q : Unit → Shared → Prop} (hf : env.frame = some L) (hr : Ready s.heap L) (h : Q () s) : wpAny M A (readyFrames (env :: outer)) Q E s := by
  obtain ⟨o, ho, hrd⟩ := hr
  simp only [readyFrames, hf]
  refine wpAny_bind (wpAny_load ho ?_)
  rw [if_pos hrd]; exact wpAny_pure h
theorem ready_go {env : Env} {outer : List Env} {L : Addr} {o : Obj} {Q : Unit → Shared → Prop} (hk : env.scope.kind ≠ .module) (hf : env.frame = some L) (ho : s.heap.get? L = some o)
    (h0 : (o.slots.getD 3 none).isSome = true → Q () s)
    (h : ∀ h', Heap.SlotsOnly [L] s.heap h' → Ready h' L → wpAny M A (readyFrames outer) Q E { s with heap := h' }) : wpAny M A (readyFrames (env :: outer)) Q E s := by
  simp only [readyFrames, hf]
  refine wpAny_bind (wpAny_load ho ?_)
  by_cases hrd : ((o.slots.getD 3 none).isSome) = true
  · rw [if_pos hrd]; exact wpAny_pure (h0 hrd)
  · rw [if_neg hrd]
    refine wpAny_bind (wpAny_of_eq (a := false) (by simp [behindIsImport, hk]) ?_)
    refine wpAny_bind (wpAny_keptBack_false fun back => ?_)
    refine wpAny_bind (wpAny_update ho ?_)
    have hu := Heap.SlotsOnly.update ho fun o => #[some env.code, some (.ref env.globals), o.slots.getD 2 none, some back, o.slots.getD 4 none, env.func.map Value.ref, some (.ref env.builtins)]
      ++ (env.cells.map fun c => some (.ref c.2)).toArray
    refine h _ hu ?_
    obtain ⟨sl, e⟩ := hu.2.2 L o ho
    refine ⟨_, Heap.get?_update_self _ ho ?_, ?_⟩
    · have hx := (Heap.get?_some_iff.mp ho).2
      obtain ⟨c, d, dt, s0⟩ := o
      cases dt <;> first | rfl | (simp [Obj.isFreed] at hx)
    · simp
end
end
section
noncomputable abbrev fsOf (l : List Env) : List Addr := l.filterMap (·.frame)
noncomputable abbrev excD (tt tb c : Value) : Data := .fields #[tt, tb, c, .none, .bool false, .none]
/-- a new exception, of a context or of none -/
structure NewExcC (h h' : Heap) (e : Addr) (X : String) (c : Value) : Prop where
  keeps : ∀ b o, h.get? b = some o → h'.get? b = some o
  new : h.get? e = none
  there : ∃ ob t, h'.get? e = some ob ∧ ob.cls = .type X ∧ ob.data = excD t .none c
theorem NewExcC.of {h h' : Heap} {e : Addr} {X : String} (x : Heap.NewExc h h' e X) : NewExcC h h' e X .none :=
  ⟨x.keeps, x.new, x.there⟩
theorem none_keep {g h : Heap} (k : ∀ b o, g.get? b = some o → h.get? b = some o) {b : Addr} (e : h.get? b = none) : g.get? b = none := by
  cases q : g.get? b with
  | none => rfl
  | some o => rw [k b o q] at e; cases e
theorem NewExcC.news {g h h' : Heap} {L e : Addr} {m : Str → Option Value} {news : List (Addr × Obj)} {X : String} {c : Value} (F : Fr g L h m) (N : News g L h news) (x : NewExcC h h' e X c) :
    ∃ oe tt, oe.cls = .type X ∧ oe.data = excD tt .none c ∧ Fr g L h' m ∧ News g L h' ((e, oe) :: news) ∧ ∀ p ∈ news, p.1 ≠ e := by
  obtain ⟨ob, t, he, hc, hd⟩ := x.there
  obtain ⟨oL, es, ep, hL, hLd, hLk, hLf⟩ := F.ns
  refine ⟨ob, t, hc, hd, F.keeps x.keeps, fun p hp => ?_, fun p hp q => ?_⟩
  · rcases List.mem_cons.mp hp with rfl | hp
    · refine ⟨he, fun q => ?_, none_keep F.keep x.new⟩
      have q' : e = L := q
      have := x.new; rw [q', hL] at this; cases this
    · exact ⟨x.keeps _ _ (N p hp).1, (N p hp).2⟩
  · have := (N p hp).1; rw [q, x.new] at this; cases this
section
variable {prog : Program} {w : World} {A₀ : Around} {E : Value → Shared → Prop} {s : Shared} {base g : Heap} {outer : List Env} {L a e : Addr} {m : Str → Option Value} {name : Str} {scope : Scope} {cd : Value}
  {news : List (Addr × Obj)} {oe : Obj} {tt c : Value} {Q : Unit → Shared → Prop}
theorem note_fresh (K : Below A₀ base outer g) (F : Fr g L s.heap m) (N : News g L s.heap ((e, oe) :: news)) (hd : oe.data = excD tt .none c) (hne : ∀ p ∈ news, p.1 ≠ e)
    (k : ∀ h' g' tb oe' ot tvs, KtsTurn (fsOf outer) g g' → Below A₀ base outer g' → Fr g' L h' m → News g' L h' ((e, oe') :: (tb, ot) :: news) → tb ≠ e → (∀ p ∈ news, p.1 ≠ tb) → oe'.cls = oe.cls → oe'.data = excD tt (.ref tb) c →
      ot.data = .fields tvs → tvs[3]? = some (rawInt L) → Q () { s with heap := h' })
    (hk : scope.kind = .function := by rfl) :
    wpAny (model prog w) (A₀.deeper (envOf name scope L a cd)) (noteFrame (.ref e) (envOf name scope L a cd)) Q E s := by
  have he := (N _ (.head _)).1
  have heL : e ≠ L := (N _ (.head _)).2.1
  have heg := (N _ (.head _)).2.2
  have K' := K.push (name := name) (a := a) (cd := cd) F hk
  have hl := K'.frames
  have hnf : ∀ p ∈ (e, oe) :: news, p.1 ∉ fsOf (envOf name scope L a cd :: outer) := fun p hp hm => by
    rcases kts_mem hm with q | hm
    · exact (N p hp).2.1 q
    · obtain ⟨_, o, ho, _⟩ := K.frames.mem hm
      rw [(N p hp).2.2] at ho; cases ho
  unfold noteFrame
  simp only [show (envOf name scope L a cd).frame = some L from rfl]
  refine wpAny_bind (wpAny_field he hd (x := .none) rfl ?_)
  first | refine wpAny_ite_false rfl ?_ | rw [if_neg (by decide)]
  refine wpAny_bind (wpAny_frameOf_fun K'.stack hl rfl fun h₁ hs₁ => ?_)
  refine wpAny_bind (wpAny_entryPlaceOf fun pl hpl => ?_)
  unfold EntryCells.newEntry newFields
  refine wpAny_bind (wpAny_newObj_type ?_ (hpl.sizeOk5 _ _ _ _ _))
  have he₁ : h₁.get? e = some oe := (hs₁.2.1 e (hnf _ (.head _))).trans he
  have he₂ := Heap.get?_push_of_some (h := h₁) { cls := .type "traceback", dict := none, data := .fields ([Value.none, .ref L, .none, rawInt L, .none] ++ (if pl.isEmpty then List.replicate 6 Value.none else pl)).toArray } he₁
  refine wpAny_setField he₂ hd (by walk_at "mem") ?_
  have hTe : h₁.objs.size ≠ e := Nat.ne_of_gt (Heap.lt_size he₁)
  have hd₃ := Obj.data_mapFields hd (·.setIfInBounds 1 (Value.ref h₁.objs.size))
  have he₃ := Heap.get?_update_self (Obj.mapFields (·.setIfInBounds 1 (Value.ref h₁.objs.size))) he₂ (Obj.isFreed_of_fields hd₃)
  have hT₃ := (Heap.get?_update_other (h₁.push { cls := .type "traceback", dict := none, data := .fields ([Value.none, .ref L, .none, rawInt L, .none] ++ (if pl.isEmpty then List.replicate 6 Value.none else pl)).toArray })
    (Obj.mapFields (·.setIfInBounds 1 (Value.ref h₁.objs.size))) (Ne.symm hTe)).trans (Heap.get?_push_size h₁ rfl)
  have keep : ∀ b o, b ≠ e → h₁.get? b = some o →
      ((h₁.push { cls := .type "traceback", dict := none, data := .fields ([Value.none, .ref L, .none, rawInt L, .none] ++ (if pl.isEmpty then List.replicate 6 Value.none else pl)).toArray }).update e (Obj.mapFields (·.setIfInBounds 1 (Value.ref h₁.objs.size)))).get? b = some o :=
    fun b o hbe hb => by
      rw [Heap.get?_update_other _ _ (Ne.symm hbe)]
      exact Heap.get?_push_of_some _ hb
  obtain ⟨T, S⟩ := kts_turn_at (h := h₁) (fs := fsOf outer) (g := g)
    (fun b hb => by
      obtain ⟨_, o, ho, _⟩ := K.frames.mem hb
      exact ⟨o, ho⟩)
    (fun b o eb nm => (hs₁.2.1 b (fun hm => by
      rcases kts_mem hm with z | z
      · rw [z, kts_self F] at eb
        cases eb
      · exact nm z)).trans (F.keep b o eb))
    (fun b o eb _ => hs₁.2.2 b o (F.keep b o eb))
  have hLsz : h₁.objs.size ≠ L := by
    obtain ⟨oL, es, ep, hL, _⟩ := F.ns
    obtain ⟨sl, hs⟩ := hs₁.2.2 L _ hL
    exact Nat.ne_of_gt (Heap.lt_size hs)
  have eg' : ∀ b o, (ktsHeap h₁ (fsOf outer) g).get? b = some o → b ≠ e := fun b o eb q => by
    rw [q, T.none_ e heg] at eb; cases eb
  have tn : (ktsHeap h₁ (fsOf outer) g).get? h₁.objs.size = none := none_keep S (Heap.get?_none_of_le (Nat.le_refl _))
  have h3 : (([Value.none, .ref L, .none, rawInt L, .none] ++ (if pl.isEmpty then List.replicate 6 Value.none else pl)).toArray : Array Value)[3]? = some (rawInt L) := by simp
  refine k _ (ktsHeap h₁ (fsOf outer) g) h₁.objs.size (oe.mapFields (·.setIfInBounds 1 (Value.ref h₁.objs.size))) { cls := .type "traceback", dict := none, data := .fields ([Value.none, .ref L, .none, rawInt L, .none] ++ (if pl.isEmpty then List.replicate 6 Value.none else pl)).toArray } _ T ?_ ?_ ?_ hTe ?_ (Obj.cls_mapFields _ _) ?_ (Eq.refl (Data.fields _)) h3
  · exact ⟨K.stack, fun b o e => T.other b o (K.stays b o e) (fun hm => by
      rw [(K.frames.mem hm).1] at e
      cases e), K.frames.of_keeps fun b o e _ => by
      obtain ⟨sl, hs⟩ := T.up e
      exact ⟨_, hs, rfl⟩⟩
  · refine ⟨?_, fun b o eb => keep b o (eg' b o eb) (S b o eb), by rw [T.size]; exact F.above⟩
    obtain ⟨oL, es, ep, hL, hLd, hLk, hLf⟩ := F.ns
    obtain ⟨sl, hs⟩ := hs₁.2.2 L _ hL
    exact ⟨_, es, ep, keep L _ (Ne.symm heL) hs, hLd, hLk, hLf⟩
  · intro p hp
    rcases List.mem_cons.mp hp with rfl | hp
    · exact ⟨he₃, heL, T.none_ _ heg⟩
    rcases List.mem_cons.mp hp with rfl | hp
    · exact ⟨hT₃, hLsz, tn⟩
    · exact ⟨keep _ _ (hne p hp) ((hs₁.2.1 p.1 (hnf p (.tail _ hp))).trans (N p (.tail _ hp)).1), (N p (.tail _ hp)).2.1, T.none_ _ (N p (.tail _ hp)).2.2⟩
  · intro p hp q
    have := (hs₁.2.1 p.1 (hnf p (.tail _ hp))).trans (N p (.tail _ hp)).1
    rw [q] at this
    exact absurd (Heap.lt_size this) (Nat.lt_irrefl _)
  · exact hd₃.trans rfl
end
section
variable {M : Model} {A : Around} {E : Value → Shared → Prop} {s : Shared} {g : Heap} {L e tb : Addr} {m : Str → Option Value} {env : Env}
  {news : List (Addr × Obj)} {oe ot : Obj} {tt c x : Value} {tvs : Array Value} {Q : Unit → Shared → Prop}
/-- a frame notes an exception that it has in flight: nothing -/
theorem note_again (hf : env.frame = some L) (N : News g L s.heap ((e, oe) :: (tb, ot) :: news)) (hd : oe.data = excD tt (.ref tb) c) (ht : ot.data = .fields tvs) (h3 : tvs[3]? = some (rawInt L)) (k : Q () s) :
    wpAny M A (noteFrame (.ref e) env) Q E s := by
  unfold noteFrame
  simp only [hf]
  refine wpAny_bind (wpAny_field (N _ (.head _)).1 hd (x := .ref tb) rfl ?_)
  first | refine wi_pos (by walk_at "mem") ?_ | rw [if_pos (by walk_at "mem")]
  refine wpAny_bind (wpAny_field (N _ (.tail _ (.head _))).1 ht h3 ?_)
  first | refine wi_pos (by walk_at "mem") ?_ | rw [if_pos (by walk_at "mem")]
  exact wpAny_pure k
/-- the flight of an exception is told -/
theorem flight_to {fr : Option Addr} (F : Fr g L s.heap m) (N : News g L s.heap ((e, oe) :: (tb, ot) :: news)) (hd : oe.data = excD tt (.ref tb) c) (ht : ot.data = .fields tvs) (h3 : tvs[3]? = some x) (hte : tb ≠ e) (hne : ∀ p ∈ news, p.1 ≠ tb)
    (k : ∀ h' ot' tvs', Fr g L h' m → News g L h' ((e, oe) :: (tb, ot') :: news) → ot'.data = .fields tvs' → tvs'[3]? = some (fr.elim .none fun f => rawInt f) → Q () { s with heap := h' }) :
    wpAny M A (setFlight (.ref e) fr) Q E s := by
  have hsz : 3 < tvs.size := (Array.getElem?_eq_some_iff.mp h3).1
  have hT := (N _ (.tail _ (.head _))).1
  have hTL : tb ≠ L := (N _ (.tail _ (.head _))).2.1
  have hTg := (N _ (.tail _ (.head _))).2.2
  unfold setFlight
  refine wpAny_bind (wpAny_field (N _ (.head _)).1 hd (x := .ref tb) rfl ?_)
  first | refine wi_pos (by walk_at "mem") ?_ | rw [if_pos (by walk_at "mem")]
  refine wpAny_setField hT ht hsz ?_
  have ht₃ := Obj.data_mapFields ht (·.setIfInBounds 3 (fr.elim .none fun f => rawInt f))
  refine k _ _ _ ⟨?_, fun b o eb => ?_, F.above⟩ (fun p hp => ?_) ht₃ (by simp [Array.getElem?_setIfInBounds, hsz])
  · obtain ⟨oL, es, ep, hL, r⟩ := F.ns
    exact ⟨oL, es, ep, (Heap.get?_update_other _ _ hTL).trans hL, r⟩
  · exact (Heap.get?_update_other _ _ (fun q => by rw [← q, hTg] at eb; cases eb)).trans (F.keep b o eb)
  · rcases List.mem_cons.mp hp with rfl | hp
    · exact ⟨(Heap.get?_update_other _ _ hte).trans (N _ (.head _)).1, (N _ (.head _)).2⟩
    rcases List.mem_cons.mp hp with rfl | hp
    · exact ⟨Heap.get?_update_self _ hT (Obj.isFreed_of_fields ht₃), hTL, hTg⟩
    · exact ⟨(Heap.get?_update_other _ _ (Ne.symm (hne p hp))).trans (N p (.tail _ (.tail _ hp))).1, (N p (.tail _ (.tail _ hp))).2⟩
/-- passed on behind a finally -/
theorem pass_on {β : Type} {what : String} {Q' : β → Shared → Prop} (hf : env.frame = some L) (F : Fr g L s.heap m) (N : News g L s.heap ((e, oe) :: (tb, ot) :: news)) (hd : oe.data = excD tt (.ref tb) c) (ht : ot.data = .fields tvs) (h3 : tvs[3]? = some x) (hte : tb ≠ e) (hne : ∀ p ∈ news, p.1 ≠ tb)
    (k : ∀ h' ot' tvs', Fr g L h' m → News g L h' ((e, oe) :: (tb, ot') :: news) → ot'.data = .fields tvs' → tvs'[3]? = some (rawInt L) → E (.ref e) { s with heap := h' }) :
    wpAny M A (PySem.passOn what (.ref e) env : Sem β) Q' E s := by
  unfold PySem.passOn
  refine wpAny_bind (wpAny_field (N _ (.head _)).1 hd (x := .ref tb) rfl ?_)
  first | refine wi_neg (by walk_at "mem") ?_ | rw [if_neg (by walk_at "mem")]
  rw [hf]
  refine wpAny_bind (flight_to F N hd ht h3 hte hne fun h' ot' tvs' F' N' ht' h3' => ?_)
  exact wpAny_throw (k h' ot' tvs' F' N' ht' h3')
end
end
section
/-- what the frames beyond were, but for what is told of them, is what they are -/
theorem turned_ground {A₀ : Around} {base h₀ h : Heap} {outer : List Env} {L : Addr} {m : Str → Option Value} (B : Below A₀ base outer h₀) (hns : h.Ns L m) (ab : h₀.objs.size ≤ L)
    (ho : ∀ b o, h₀.get? b = some o → b ∉ fsOf outer → h.get? b = some o) (hf : ∀ b o, h₀.get? b = some o → b ∈ fsOf outer → ∃ sl, h.get? b = some { o with slots := sl }) :
    ∃ h₀', KtsTurn (fsOf outer) h₀ h₀' ∧ Below A₀ base outer h₀' ∧ Fr h₀' L h m := by
  obtain ⟨T, S⟩ := kts_turn_at (h := h) (fs := fsOf outer) (g := h₀) (fun b hb => by
      obtain ⟨_, o, e, _⟩ := B.frames.mem hb
      exact ⟨o, e⟩) ho hf
  refine ⟨_, T, ⟨B.stack, fun b o e => T.other b o (B.stays b o e) (fun hm => ?_), B.frames.of_keeps fun b o e _ => ?_⟩, hns, S, by rw [T.size]; exact ab⟩
  · rw [(B.frames.mem hm).1] at e; cases e
  · obtain ⟨sl, hs⟩ := T.up e
    exact ⟨_, hs, rfl⟩
/-- out of a function whose frames beyond may be turned -/
inductive LeaveT (A₀ : Around) (base : Heap) (env : Env) (outer : List Env) (h₀ : Heap) (L : Addr) (m : Str → Option Value) (g : Heap) (R : Result → Shared → Prop) (v : Value) (s' : Shared) : Prop where
  | mk : ∀ g' L' m' news', (KtsTurn (fsOf (env :: outer)) g g') → (Fr g' L' s'.heap m') → (News g' L' s'.heap news') → ((∀ h₀', KtsTurn (fsOf outer) h₀ h₀' → Below A₀ base outer h₀' → Fr h₀' L s'.heap m → News h₀' L s'.heap news' → R (.ok (.ret v)) s')) → LeaveT A₀ base env outer h₀ L m g R v s'
section
variable {prog : Program} {w : World} {A₀ A : Around} {s : Shared} {base h₀ : Heap} {outer : List Env} {L : Addr} {m : Str → Option Value} {env : Env} {news : List (Addr × Obj)} {K : Frag} {p : Program} {loose : List Str} {mean : ExcName → Option Value} {mg mb : Str → Option Value}
  {R : Result → Shared → Prop} {name qual : Str} {params : Arguments} {body : List Stmt} {scope : Scope} {dV kV doc pm cdv ct oc : Value} {an od : Option Addr} {osl : Array (Option Value)} {f : Addr} {args : Args} {binds : List (Str × Value)}
theorem code_T (B : Below A₀ base outer h₀) (F : Fr h₀ L s.heap m) (X₀ : K.In h₀) (N : News h₀ L s.heap news) (T : Top p loose mean mg mb h₀) (hA : A.frames = some (env :: outer)) (hf : env.frame = some L) (hke : env.scope.kind = .function)
    (ho : K.lookup f = some ⟨oc, od, .func (fnOf name qual params body scope dV kV doc pm an cdv ct), osl⟩) (hcd : codeIn K cdv qual = true) (hroom : A.depth < recursionLimit)
    (hbind : BindsTo s (fnOf name qual params body scope dV kV doc pm an cdv ct) args binds) (hloc : ∀ y ∈ binds, scope.names.lookup y.1 = some .local)
    (h : ∀ g L' h₁, Fr g L' h₁ (fun y => binds.reverse.lookup y) → News g L' h₁ news → Below A base (env :: outer) g → (∀ p ∈ news, p.1 < L') →
      wpAny (model prog w) (A.deeper (envOf qual scope L' f cdv)) (execs body (envOf qual scope L' f cdv))
        (fun fl s' => LeaveT A₀ base env outer h₀ L m g R (match fl with | .ret v => v | _ => .none) s') (fun _ _ => False)
        { s with heap := h₁, toks := s.toks + binds.length })
    (hco : scope.isCoroutine = false := by rfl) (hgen : scope.isGenerator = false := by rfl) (hk : scope.kind = .function := by rfl)
    (hcell : ∀ x ∈ scope.names, x.2 ≠ .cell := by decide) : codeAny (model prog w) A (.call (.ref f) args) R s := by
  have X := X₀.keeps F.keep
  obtain ⟨FG, BG, st, _⟩ := groundX (R := R) B F N hA hf hke
  refine codeAny_call_def (fd := fnOf name qual params body scope dV kV doc pm an cdv ct) (body := body) (binds := binds) hroom (X _ _ ho) rfl (T.nolimit.keeps F.keep) (codeRec_of X hcd) rfl hbind hcell hloc (fun h₁ hns hk₁ => ?_) hco hgen hk
  refine wpAny_mono (h _ s.heap.objs.size h₁ ⟨hns, fun b o e => hk₁ b o (of_hideAll _ e), Nat.le_of_eq (hideAll_size _ _)⟩
    (fun p hp => ⟨hk₁ _ _ (N p hp).1, Nat.ne_of_lt (Heap.lt_size (N p hp).1), hideAll_none _ (List.mem_map_of_mem hp)⟩) BG (fun p hp => Heap.lt_size (N p hp).1)) (fun fl s' hl => ?_) fun _ _ y => y.elim
  obtain ⟨g', L', m', news', T', F', N', k⟩ := hl
  have nL₀ : h₀.get? L = none := kts_self F
  have hL : L ∈ fsOf (env :: outer) := List.mem_filterMap.mpr ⟨env, .head _, hf⟩
  have inE : ∀ b, b ∈ fsOf (env :: outer) → b = L ∨ b ∈ fsOf outer := fun b hb => by
    obtain ⟨e, he, hf'⟩ := List.mem_filterMap.mp hb
    rcases List.mem_cons.mp he with rfl | he
    · rw [hf] at hf'; exact .inl (Option.some.inj hf').symm
    · exact .inr (List.mem_filterMap.mpr ⟨e, he, hf'⟩)
  obtain ⟨oL, es, ep, hLg, hLd, hLk, hLf⟩ := FG.ns
  obtain ⟨slL, hsL⟩ := T'.up hLg
  obtain ⟨h₀', T₁, B₁, F₁⟩ := turned_ground (h := s'.heap) B (L := L) (m := m) ⟨_, es, ep, F'.keep _ _ hsL, hLd, hLk, hLf⟩ F.above
    (fun b o e nm => F'.keep b o (T'.other b o (st b o e) (fun q => by
      rcases inE b q with z | z
      · rw [z, nL₀] at e; cases e
      · exact nm z)))
    (fun b o e hm => by
      obtain ⟨sl', hs'⟩ := T'.up (st b o e)
      exact ⟨sl', F'.keep _ _ hs'⟩)
  refine k h₀' T₁ B₁ F₁ fun p hp => ⟨(N' p hp).1, fun q => ?_, T₁.none_ _ ?_⟩
  · have := (N' p hp).2.2; rw [q, hsL] at this; cases this
  · cases q : h₀.get? p.1 with
    | none => rfl
    | some o =>
      obtain ⟨sl', hs'⟩ := T'.up (st _ _ q)
      have := (N' p hp).2.2
      rw [hs'] at this
      cases this
end
/-- the contract of a call that may turn the frames beyond -/
noncomputable def CallsT (w : World) (f : Addr) (vs : List Value) (led : List (Addr × Obj)) (dd uu : Nat) (Post : Value → List (Addr × Obj) → Prop) : Prop :=
  ∀ (dp un : Nat) (gd : Option (List Code)) (cn : Str) (cs : Scope) (a : Addr) (ccd : Value) (cl : List (Str × Addr)) (outer : List Env) (A₀ : Around) (base h₀ : Heap) (L : Addr) (m : Str → Option Value) (s : Shared) (Q E : Value → Shared → Prop) (loose : List Str) (mean : ExcName → Option Value) (mg mb : Str → Option Value),
    Below A₀ base outer h₀ → (mkk.heap_1 w.params).In base → Top topProg loose mean mg mb base → Fr h₀ L s.heap m → News h₀ L s.heap led → cs.kind = .function → dp + dd ≤ 800 → un + uu ≤ 6000 →
    (∀ r led' h' tk' h₀', Post r led' → KtsTurn (fsOf outer) h₀ h₀' → Below A₀ base outer h₀' → Fr h₀' L h' m → News h₀' L h' led' → Q r { s with heap := h', toks := tk' }) →
    wpAny (model PySem.Challenge.rw_ik0001_01.row.prog w) (ktrTop dp un gd cn cs L a ccd cl outer) (call (.ref f) vs) Q E s
theorem CallsT.use {w : World} {f : Addr} {vs : List Value} {led : List (Addr × Obj)} {dd uu : Nat} {Post : Value → List (Addr × Obj) → Prop} (C : CallsT w f vs led dd uu Post)
    {dp un : Nat} {gd : Option (List Code)} {cn : Str} {cs : Scope} {a : Addr} {ccd : Value} {cl : List (Str × Addr)} {outer : List Env} {A₀ : Around} {base h₀ : Heap} {L : Addr} {m : Str → Option Value} {s : Shared} {Q E : Value → Shared → Prop} {loose : List Str} {mean : ExcName → Option Value} {mg mb : Str → Option Value}
    (F : Fr h₀ L s.heap m) (B : Below A₀ base outer h₀) (XB : (mkk.heap_1 w.params).In base) (TB : Top topProg loose mean mg mb base) (N : News h₀ L s.heap led) (hk : cs.kind = .function) (hd : dp + dd ≤ 800) (hu : un + uu ≤ 6000)
    (k : ∀ r led' h' tk' h₀', Post r led' → KtsTurn (fsOf outer) h₀ h₀' → Below A₀ base outer h₀' → Fr h₀' L h' m → News h₀' L h' led' → Q r { s with heap := h', toks := tk' }) :
    wpAny (model PySem.Challenge.rw_ik0001_01.row.prog w) (ktrTop dp un gd cn cs L a ccd cl outer) (call (.ref f) vs) Q E s :=
  C _ _ _ _ _ _ _ _ _ _ _ _ _ _ _ _ _ _ _ _ _ B XB TB F N hk hd hu k
/-- with no frame beyond the ground stands -/
theorem CallsT.use0 {w : World} {f : Addr} {vs : List Value} {led : List (Addr × Obj)} {dd uu : Nat} {Post : Value → List (Addr × Obj) → Prop} (C : CallsT w f vs led dd uu Post)
    {dp un : Nat} {gd : Option (List Code)} {cn : Str} {cs : Scope} {a : Addr} {ccd : Value} {cl : List (Str × Addr)} {A₀ : Around} {base h₀ : Heap} {L : Addr} {m : Str → Option Value} {s : Shared} {Q E : Value → Shared → Prop} {loose : List Str} {mean : ExcName → Option Value} {mg mb : Str → Option Value}
    (F : Fr h₀ L s.heap m) (B : Below A₀ base [] h₀) (XB : (mkk.heap_1 w.params).In base) (TB : Top topProg loose mean mg mb base) (N : News h₀ L s.heap led) (hk : cs.kind = .function) (hd : dp + dd ≤ 800) (hu : un + uu ≤ 6000)
    (k : ∀ r led' h' tk', Post r led' → Fr h₀ L h' m → News h₀ L h' led' → Q r { s with heap := h', toks := tk' }) :
    wpAny (model PySem.Challenge.rw_ik0001_01.row.prog w) (ktrTop dp un gd cn cs L a ccd cl []) (call (.ref f) vs) Q E s := by
  refine C.use F B XB TB N hk hd hu fun r led' h' tk' h₀' hP T B' F' N' => ?_
  have same : ∀ b o, h₀.get? b = some o → h₀'.get? b = some o := fun b o e => T.other b o e (by walk_at "mem")
  exact k r led' h' tk' hP ⟨F'.ns, fun b o e => F'.keep b o (same b o e), by rw [← T.size]; exact F'.above⟩ fun p hp => ⟨(N' p hp).1, (N' p hp).2.1, none_keep same (N' p hp).2.2⟩
end
section
section
variable {prog : Program} {w : World} {A : Around} {E : Value → Shared → Prop} {s : Shared}
theorem entry_unchain : entryFor table "proto.unchain" = some Builtin.«proto.unchain» := entryFor_of_fast (by kernel_rfl)
theorem raise_held {α : Type} {cls msg : String} {c : Addr} {oc : Obj} {t' tb : Value} {Q : α → Shared → Prop} (hp : PlainExc cls) (hh : A.handled = some (.ref c)) (hc : s.heap.get? c = some oc) (hcd : oc.data = excD t' tb .none)
    (h : ∀ h' tk e, NewExcC s.heap h' e cls (.ref c) → E (.ref e) { s with heap := h', toks := tk }) :
    wpAny (model prog w) A (raiseErrorWords cls msg : Sem α) Q E s := by
  unfold raiseErrorWords
  refine wpAny_bind (wpAny_mkText (wpAny_bind ?_))
  unfold newExc newTuple
  refine wpAny_bind (wpAny_newObj_type ?_)
  refine wpAny_bind (m := firstArgMember _ _) (wpAny_of_eq (a := Value.none) (by simp only [firstArgMember, hp.first]; rfl) ?_)
  rw [hp.own]
  refine wpAny_newObj_type ?_
  unfold raiseNew
  refine wpAny_bind (wpAny_handled ?_)
  rw [hh]
  dsimp only
  generalize hH : s.heap.push { cls := Value.type "tuple", data := Data.seq #[Value.str (Str.ofString msg) s.toks] } = h1
  have k1 : ∀ b o, s.heap.get? b = some o → h1.get? b = some o := fun b o e => hH ▸ Heap.get?_push_of_some _ e
  have hne : c ≠ h1.objs.size := Nat.ne_of_lt (Heap.lt_size (k1 _ _ hc))
  have k2 : ∀ b o, s.heap.get? b = some o → b ≠ h1.objs.size := fun b o e => Nat.ne_of_lt (Heap.lt_size (k1 _ _ e))
  first | refine wi_pos (by simp [hne]) ?_ | rw [if_pos (by simp [hne])]
  have go : ∀ (h2 : Heap) (oe : Obj), h2.get? h1.objs.size = some oe → oe.cls = .type cls → oe.data = excD (.ref s.heap.objs.size) .none .none → (∀ b o, s.heap.get? b = some o → h2.get? b = some o) →
      wpAny (model prog w) A (do
        let _ ← holding [Value.ref h1.objs.size] (runValue (Code.builtin "proto.unchain" { pos := [Value.ref h1.objs.size, Value.ref c, Value.ref c, Value.bool false] }))
        updateField h1.objs.size 2 (Value.ref c)
        throw (Value.ref h1.objs.size) : Sem α) Q E { s with heap := h2, toks := s.toks + 1 } := by
    intro h2 oe h2e hcls hed h2k
    refine wpAny_bind (wpAny_holding (wpAny_runValue (codeAny_builtin entry_unchain ?_)))
    unfold Builtin.«proto.unchain»
    dsimp only
    refine wpAny_bind (wpAny_field (h2k _ _ hc) hcd (x := .none) rfl ?_)
    first | refine wpAny_ite_true rfl ?_ | rw [if_pos (by decide)]
    refine wpAny_bind (wpAny_pure ?_)
    refine wpAny_pure ?_
    refine wpAny_bind ?_
    show wpAny _ _ (setField (.ref h1.objs.size) 2 (.ref c)) _ _ _
    refine wpAny_setField h2e hed (by walk_at "mem") ?_
    refine wpAny_throw (h _ _ _ ⟨fun b o e => ?_, ?_, ?_⟩)
    · exact (Heap.get?_update_other _ _ (Ne.symm (k2 _ _ e))).trans (h2k _ _ e)
    · refine Heap.get?_none_of_le ?_
      rw [← hH]; simp
    · have hd3 := Obj.data_mapFields hed (·.setIfInBounds 2 (Value.ref c))
      exact ⟨_, _, Heap.get?_update_self _ h2e (Obj.isFreed_of_fields hd3), (Obj.cls_mapFields _ _).trans hcls, hd3.trans rfl⟩
  exact go _ _ (Heap.get?_push_size _ rfl) rfl (by walk_at "mem") fun b o e => Heap.get?_push_of_some _ (k1 _ _ e)
end
end
section
/-- nothing is handled, or an exception without a context -/
noncomputable def Free (A : Around) (h : Heap) : Prop := A.handled = none ∨ ∃ c oc t tb, A.handled = some (.ref c) ∧ h.get? c = some oc ∧ oc.data = excD t tb .none
section
variable {prog : Program} {w : World} {A : Around} {E : Value → Shared → Prop} {s : Shared}
theorem raise_free {α : Type} {cls msg : String} {Q : α → Shared → Prop} (hp : PlainExc cls) (hh : Free A s.heap)
    (h : ∀ h' tk e c, (A.handled = none → c = .none) → NewExcC s.heap h' e cls c → E (.ref e) { s with heap := h', toks := tk }) :
    wpAny (model prog w) A (raiseErrorWords cls msg : Sem α) Q E s := by
  rcases hh with hh | ⟨c, oc, t, tb, hh, hc, hd⟩
  · exact wpAny_raiseErrorWords hp hh fun h' tk e x => h h' tk e _ (fun _ => rfl) (NewExcC.of x)
  · exact raise_held hp hh hc hd fun h' tk e x => h h' tk e _ (fun q => by rw [hh] at q; cases q) x
set_option maxRecDepth 100000 in
theorem getItem_out {l : Addr} {items : Array Value} {j : Nat} {k : Int} {t : Tok} {Q : Value → Shared → Prop} (hA : ∀ A' : Around, A'.handled = A.handled → Free A' s.heap) (hl : s.heap.IsList l items)
    (hk : k = Int.ofNat j) (hout : items.size ≤ j) (hhi : k < 2 ^ 63)
    (hE : ∀ h' tk e c, (A.handled = none → c = .none) → NewExcC s.heap h' e "IndexError" c → E (.ref e) { s with heap := h', toks := tk }) :
    wpAny (model prog w) A (getItem (.ref l) (.int k t)) Q E s := by
  obtain ⟨o, ho, hc, ne, hd⟩ := id hl
  have hfit : Builtin.List.listFitsIndex k = true := fitsIndex_both (by rw [hk]; simp only [Int.ofNat_eq_natCast]; walk_at "lia") hhi
  unfold getItem
  try with_reducible refine wpAny_holding ?_
  first | refine wpAny_bind (wpAny_pure ?_) | skip
  refine wpAny_bind (wpAny_sequenceKey hl.typeIs (by decide) ?_)
  refine wpAny_bind (wpAny_callSpecial?_slot (name := Str.ofString "__getitem__") hl.typeIs slot_list_getitem
    (wpAny_call_entry slot_list_getitem hl.typeIs entry_list_getitem ?_ (args_list_getitem _ _)))
  show wpAny _ _ (Builtin.List.listSubscript? (.int k t) >>= _) _ _ s
  refine wpAny_bind (wpAny_listSubscript_int hfit ?_)
  clear hhi hfit
  subst hk
  have hx : items[j]? = none := Array.getElem?_eq_none hout
  show wpAny _ _ ((seqItemAt l j >>= fun r => pure (r.map (j, ·))) >>= _) _ _ s
  refine wpAny_bind (wpAny_bind (wpAny_seqItemAt ho hd (wpAny_pure ?_)))
  rw [hx]
  have hF := fun α (Q' : α → Shared → Prop) (A' : Around) (e : A'.handled = A.handled) => raise_free (α := α) (prog := prog) (w := w) (A := A') (msg := "list index out of range") (Q := Q') plainExc_IndexError (hA A' e) fun h' tk e' c q => hE h' tk e' c fun q' => q (e.trans q')
  first
    | exact wpAny_bind (wpAny_rule (hF _ _ _ rfl))
    | exact wpAny_bind (wpAny_rule (wpAny_bind (hF _ _ _ rfl)))
    | exact wpAny_bind (wpAny_bind (wpAny_rule (hF _ _ _ rfl)))
    | exact wpAny_rule (hF _ _ _ rfl)
set_option maxRecDepth 100000 in
theorem strs_item {value slice : Expr} {a : Addr} {l : List Value} {ys : List Str} {j : Nat} {u : Tok} {Q : Value → Shared → Prop} (hA : Free A s.heap) (hl : s.heap.IsList a l.toArray) (hi : StrsAre l ys) (hj : (j : Int) < 2 ^ 63)
    (h0 : ys.length ≤ j → ∀ h' tk e c, (A.handled = none → c = .none) → NewExcC s.heap h' e "IndexError" c → E (.ref e) { s with heap := h', toks := tk })
    (h1 : ∀ y, ys[j]? = some y → ∀ t', Q (.str y t') s)
    (hs : subscripted slice false (.ref a) (.int (j : Int) u) = operate [.ref a, .int (j : Int) u] (getItem (.ref a) (.int (j : Int) u)) := by with_unfolding_all rfl) (hg : ∀ r, letTemporaryGo value (.ref a) r = pure () := by intro _; with_unfolding_all rfl) :
    wpAny (model prog w) A (subscriptTail value slice (.ref a) (.int (j : Int) u)) Q E s := by
  by_cases hin : j < ys.length
  · obtain ⟨t, ht⟩ := hi.at (List.getElem?_eq_getElem hin)
    exact item_list hl (by walk_at "lia") hj (by simpa using ht) (h1 _ (List.getElem?_eq_getElem hin) t) hs hg
  · have hsz : l.toArray.size = ys.length := by rw [List.size_toArray]; exact hi.len_eq
    refine subscriptTail_builtin hl.typeIs slot_list_getitem.lookup (getItem_out (fun A' e => ?_) hl rfl (by rw [hsz]; walk_at "lia") hj (h0 (by walk_at "lia"))) hs hg
    rcases hA with h | ⟨c, oc, t, tb, h, r⟩
    · exact .inl (e.trans h)
    · exact .inr ⟨c, oc, t, tb, e.trans h, r⟩
end
end
section
section
variable {prog : Program} {w : World} {A : Around} {E : Value → Shared → Prop} {s : Shared} {g : Heap} {L a : Addr} {cn : Str} {cs : Scope} {ccd : Value} {cl : List (Str × Addr)} {led : List (Addr × Obj)}
  {ln ix ex x : Str} {p1 p2 p3 p4 p5 p6 p7 p8 p9 : Pos} {kk : Nat} {Q : Flow → Shared → Prop} {el : Addr} {vs : List Value} {es : List Str} {e1 i : Nat} {ti tx : Tok} {M : Str → Option Value}
set_option maxRecDepth 100000 in
/-- while xs[i] == e: i += 1 -/
theorem skip (hc : cs.kind = .function) (kl : (envX cn cs L a ccd cl).kindOf ln = some .local) (ki : (envX cn cs L a ccd cl).kindOf ix = some .local) (ke : (envX cn cs L a ccd cl).kindOf ex = some .local)
    (dl : (ln == ("__debug__" : Str)) = false) (di : (ix == ("__debug__" : Str)) = false) (de : (ex == ("__debug__" : Str)) = false) (nl : ln ≠ ix) (ne : ex ≠ ix)
    (hfree : ∀ h', News g L h' led → Free A h') (hMl : M ln = some (.ref el)) (hMe : M ex = some (.str x tx)) (hel : (el, lst vs e1) ∈ led) (hv : StrsAre vs es) (hlen : es.length ≤ 100) (hi : i ≤ es.length)
    (F : Fr g L s.heap (fun y => if y = ix then some (.int (i : Int) ti) else M y)) (N : News g L s.heap led)
    (done : ∀ (i' : Nat) t' h' tk', i' ≤ es.length → es.drop i' = (es.drop i).dropWhile (· == x) → Fr g L h' (fun y => if y = ix then some (.int (i' : Int) t') else M y) → News g L h' led → Q .next { s with heap := h', toks := tk' })
    (fell : ∀ (i' : Nat) t' h' , i' ≤ es.length → es.drop i' = [] → (es.drop i).dropWhile (· == x) = [] → Fr g L h' (fun y => if y = ix then some (.int (i' : Int) t') else M y) → News g L h' led →
      ∀ h'' tk'' e c, (A.handled = none → c = .none) → NewExcC h' h'' e "IndexError" c → E (.ref e) { s with heap := h'', toks := tk'' })
    (hE : PassesOwn (model prog w) A (envX cn cs L a ccd cl) E) :
    wpAny (model prog w) A (PySem.exec (.While (.Compare (.Subscript (.Name ln p1) (.Name ix p2) p3) [.Eq] [.Name ex p4] p5) [.AugAssign (.Name ix p6) .Add (.Constant (.int 1) kk p7) p8] [] p9) (envX cn cs L a ccd cl)) Q E s := by
  refine While_inv (fun n m₁ n₁ => ∃ (i' : Nat) (t' : Tok), m₁ = (fun y => if y = ix then some (.int (i' : Int) t') else M y) ∧ n₁ = led ∧ i' ≤ es.length ∧ (es.drop i').dropWhile (· == x) = (es.drop i).dropWhile (· == x) ∧ n = es.length - i')
    (n₀ := es.length - i) F N ⟨i, ti, rfl, rfl, hi, rfl, rfl⟩ ?_ hE
  rintro n m₁ n₁ h₁ tk₁ F₁ N₁ ⟨i', t', rfl, rfl, hi', hdr, rfl⟩
  refine wpAny_isTrue_Compare1 ?_
  refine Subscript_ ?_
  refine nameX_L F₁ (by rw [if_neg nl]; exact hMl) ?_ hc kl dl
  refine nameX_L F₁ (if_pos rfl) ?_ hc ki di
  refine strs_item (hfree _ N₁) (News.isList N₁ hel) hv (by walk_at "lia") (fun ho h' tk e c hc0 hx => ?_) (fun y hy ty => ?_)
  · have hd : es.drop i' = [] := List.drop_eq_nil_of_le ho
    refine fell i' t' h₁ hi' hd ?_ F₁ N₁ h' tk e c hc0 hx
    rw [← hdr, hd]; rfl
  · refine nameX_L F₁ (by rw [if_neg ne]; exact hMe) ?_ hc ke de
    refine eq_str ?_
    have hlt : i' < es.length := (List.getElem?_eq_some_iff.mp hy).1
    have hds : es.drop i' = y :: es.drop (i' + 1) := by
      rw [List.drop_eq_getElem_cons hlt]
      rw [(List.getElem?_eq_some_iff.mp hy).2]
    cases hyx : (y == x) with
    | false =>
      refine wpAny_truthy_bool ?_
      first | refine wpAny_ite_false rfl ?_ | rw [if_neg (by decide)]
      refine done i' t' h₁ tk₁ hi' ?_ F₁ N₁
      rw [← hdr, hds, List.dropWhile_cons, hyx]
      rfl
    | true =>
      refine wpAny_truthy_bool ?_
      first | refine wpAny_ite_true rfl ?_ | rw [if_pos rfl]
      refine wpAny_execs_cons ?_
      refine wpAny_AugAssign_Name ?_
      refine wpAny_loadName_local hc ki F₁.ns (if_pos rfl) ?_
      refine wpAny_Constant_int ?_
      refine iadd_int ?_
      refine storeX_L F₁ N₁ (fun h' F₂ N₂ => ?_) hc ki
      refine wpAny_execs_nil ?_
      refine WhileStep.intro (n' := es.length - (i' + 1)) F₂ N₂ (by walk_at "lia") ⟨i' + 1, tk₁ + 1, ?_, rfl, hlt, ?_, rfl⟩
      · funext z
        by_cases hz : z = ix
        · subst hz; rw [if_pos rfl, if_pos rfl]; rfl
        · rw [if_neg hz, if_neg hz, if_neg hz]
      · rw [← hdr, hds, List.dropWhile_cons, hyx]
        rfl
end
end
section
/-- an IndexError that a frame has noted -/
structure Heldx (g : Heap) (L : Addr) (h : Heap) (m : Str → Option Value) (news : List (Addr × Obj)) (e tb : Addr) (oe ot : Obj) (c fl : Value) : Prop where
  F : Fr g L h m
  N : News g L h ((e, oe) :: (tb, ot) :: news)
  cls : oe.cls = .type "IndexError"
  dat : ∃ tt, oe.data = excD tt (.ref tb) c
  tvs : ∃ tvs, ot.data = .fields tvs ∧ tvs[3]? = some fl
  ne1 : tb ≠ e
  ne2 : ∀ p ∈ news, p.1 ≠ tb
  ne3 : ∀ p ∈ news, p.1 ≠ e
theorem Heldx.rest {g h : Heap} {L : Addr} {m : Str → Option Value} {news : List (Addr × Obj)} {e tb : Addr} {oe ot : Obj} {c fl : Value} (H : Heldx g L h m news e tb oe ot c fl) : News g L h news := fun p hp => H.N p (.tail _ (.tail _ hp))
theorem Heldx.step {g h h' : Heap} {L : Addr} {m m' : Str → Option Value} {news news' : List (Addr × Obj)} {e tb : Addr} {oe ot : Obj} {c fl : Value} (H : Heldx g L h m news e tb oe ot c fl) (F : Fr g L h' m') (N : News g L h' ((e, oe) :: (tb, ot) :: news'))
    (h2 : ∀ p ∈ news', p.1 ≠ tb) (h3 : ∀ p ∈ news', p.1 ≠ e) : Heldx g L h' m' news' e tb oe ot c fl := ⟨F, N, H.cls, H.dat, H.tvs, H.ne1, h2, h3⟩
section
variable {prog : Program} {w : World} {A₀ A : Around} {E : Value → Shared → Prop} {s : Shared} {base g : Heap} {outer : List Env} {L a e tb : Addr} {m : Str → Option Value} {name : Str} {scope : Scope} {cd : Value}
  {news : List (Addr × Obj)} {oe ot : Obj} {c fl : Value} {Q : Unit → Shared → Prop}
theorem noted_x (K : Below A₀ base outer g) {h : Heap} (F : Fr g L h m) (N : News g L h news) (hx : NewExcC h s.heap e "IndexError" c)
    (k : ∀ h' g' tb oe ot, KtsTurn (fsOf outer) g g' → Below A₀ base outer g' → Heldx g' L h' m news e tb oe ot c (rawInt L) → Q () { s with heap := h' }) (hk : scope.kind = .function := by rfl) :
    wpAny (model prog w) (A₀.deeper (envOf name scope L a cd)) (noteFrame (.ref e) (envOf name scope L a cd)) Q E s := by
  obtain ⟨oe, tt, hc, hd, F', N', hne⟩ := hx.news F N
  exact note_fresh K F' N' hd hne (fun h' g' tb oe' ot tvs T B F2 N2 h1 h2 h3 h4 h5 h6 => k h' g' tb oe' ot T B ⟨F2, N2, h3.trans hc, ⟨tt, h4⟩, ⟨tvs, h5, h6⟩, h1, h2, hne⟩) hk
theorem Heldx.again {M : Model} {env : Env} (H : Heldx g L s.heap m news e tb oe ot c (rawInt L)) (hf : env.frame = some L) (k : Q () s) : wpAny M A (noteFrame (.ref e) env) Q E s := by
  obtain ⟨tt, hd⟩ := H.dat
  obtain ⟨tvs, ht, h3⟩ := H.tvs
  exact note_again hf H.N hd ht h3 k
theorem Heldx.land {M : Model} (H : Heldx g L s.heap m news e tb oe ot c fl) (k : ∀ h' ot', Heldx g L h' m news e tb oe ot' c .none → Q () { s with heap := h' }) : wpAny M A (setFlight (.ref e) none) Q E s := by
  obtain ⟨tt, hd⟩ := H.dat
  obtain ⟨tvs, ht, h3⟩ := H.tvs
  exact flight_to H.F H.N hd ht h3 H.ne1 H.ne2 fun h' ot' tvs' F' N' ht' h3' => k h' ot' ⟨F', N', H.cls, ⟨tt, hd⟩, ⟨tvs', ht', h3'⟩, H.ne1, H.ne2, H.ne3⟩
theorem Heldx.pass {M : Model} {β : Type} {what : String} {env : Env} {Q' : β → Shared → Prop} (H : Heldx g L s.heap m news e tb oe ot c fl) (hf : env.frame = some L)
    (k : ∀ h' ot', Heldx g L h' m news e tb oe ot' c (rawInt L) → E (.ref e) { s with heap := h' }) : wpAny M A (PySem.passOn what (.ref e) env : Sem β) Q' E s := by
  obtain ⟨tt, hd⟩ := H.dat
  obtain ⟨tvs, ht, h3⟩ := H.tvs
  exact pass_on hf H.F H.N hd ht h3 H.ne1 H.ne2 fun h' ot' tvs' F' N' ht' h3' => k h' ot' ⟨F', N', H.cls, ⟨tt, hd⟩, ⟨tvs', ht', h3'⟩, H.ne1, H.ne2, H.ne3⟩
set_option maxRecDepth 100000 in
theorem Heldx.clause {p : Program} {loose : List Str} {mean : ExcName → Option Value} {mg mb : Str → Option Value} {K : Frag} {b₀ : Stmt} {suite : List Stmt} {pos np : Pos} {rest : List ExceptHandler} {Q : Flow → Shared → Prop}
    (H : Heldx g L s.heap m news e tb oe ot c fl) (X : K.In g) (T : Top p loose mean mg mb g) (hn : nsIn K mainGlobals (Str.ofString "IndexError") = some none)
    (k : ∀ h', Fr g L h' m → News g L h' news → wpAny (model prog w) ((A₀.deeper (envOf name scope L a cd)).mark (some (.ref e))) (execs (b₀ :: suite) (envOf name scope L a cd)) Q (fun _ _ => False) { s with heap := h' })
    (hk : scope.kind = .function := by rfl) (hxk : (envOf name scope L a cd).kindOf (Str.ofString "IndexError") = some .globalImplicit := by rfl) :
    wpAny (model prog w) (A₀.deeper (envOf name scope L a cd)) (handleBy (.ref e) (envOf name scope L a cd) (.ExceptHandler (some (.Name (Str.ofString "IndexError") np)) none (b₀ :: suite) pos :: rest)) Q (fun _ _ => False) s := by
  refine wpAny_handleBy_builtin (X := "IndexError") (T := "IndexError") (b := true) PySem.F.isExc_IndexError PySem.F.notTuple_IndexError (by rw [isSubtype_type]; kernel_rfl) (wpAny_passesOwnAt PassesOwnAt.never ?_)
  refine nameX_B (cl := []) H.F X (topRead_of T) hn PyProof.Rows.Boot.«IndexError» (by decide) ⟨rfl, ⟨oe, (H.N _ (.head _)).1, H.cls⟩, ?_⟩ hk hxk (by decide)
  first | refine wpAny_ite_true rfl ?_ | rw [if_pos rfl]
  exact H.land fun h' ot' H' => wpAny_passesOwnAt PassesOwnAt.never (k h' H'.F H'.rest)
end
section
variable {prog : Program} {w : World} {A : Around} {E : Value → Shared → Prop} {s : Shared} {env : Env}
/-- a try: what it catches is a word of its own -/
theorem Try_x {body orelse : List Stmt} {h₀ : ExceptHandler} {hs : List ExceptHandler} {pos : Pos} {Q : Flow → Shared → Prop}
    (h : ∀ Et : Value → Shared → Prop, (∀ e s₁, wpAny (model prog w) A (noteFrame e env) (fun _ s₂ => wpAny (model prog w) A (setFlight e none) (fun _ s₃ => wpAny (model prog w) A (handleBy e env (h₀ :: hs)) Q E s₃) E s₂) E s₁ → Et e s₁) →
      (∀ A' A'', SameStack A' A → PassesOwnAt (model prog w) A' A'' env Et) →
      wpAny (model prog w) A (execs body env) (fun f s₁ => match f with | .next => wpAny (model prog w) A (execs orelse env) Q E s₁ | f => Q f s₁) Et s) :
    wpAny (model prog w) A (PySem.exec (.Try body (h₀ :: hs) orelse [] pos) env) Q E s :=
  wpAny_Try_except (wpAny_mono (h _ (fun _ _ x => x) fun _ _ hs => PassesOwnAt.lookingOf hs) (fun f _ x => by cases f <;> exact x) fun _ _ x => x)
end
end
section
structure Vars (m : Str → Option Value) (el al ml ul : Addr) (i j : Nat) : Prop where
  ex : m (Str.ofString "expected") = some (.ref el)
  ac : m (Str.ofString "actual") = some (.ref al)
  mi : m (Str.ofString "missing") = some (.ref ml)
  un : m (Str.ofString "unexpected") = some (.ref ul)
  vi : ∃ t, m (Str.ofString "i") = some (.int (i : Int) t)
  vj : ∃ t, m (Str.ofString "j") = some (.int (j : Int) t)
noncomputable abbrev chainV (m : Str → Option Value) (el al ml ul : Addr) (i j : Nat) (ti tj : Tok) : Str → Option Value := fun y =>
  if y = Str.ofString "i" then some (.int (i : Int) ti) else if y = Str.ofString "j" then some (.int (j : Int) tj) else
  if y = Str.ofString "unexpected" then some (.ref ul) else if y = Str.ofString "missing" then some (.ref ml) else if y = Str.ofString "actual" then some (.ref al) else if y = Str.ofString "expected" then some (.ref el) else m y
theorem Vars.chain {m : Str → Option Value} {el al ml ul : Addr} {i j : Nat} (V : Vars m el al ml ul i j) : ∃ ti tj, m = chainV m el al ml ul i j ti tj := by
  obtain ⟨h1, h2, h3, h4, ⟨ti, h5⟩, ⟨tj, h6⟩⟩ := V
  refine ⟨ti, tj, funext fun y => ?_⟩
  unfold chainV
  split
  · rename_i e; rw [e]; exact h5
  split
  · rename_i e; rw [e]; exact h6
  split
  · rename_i e; rw [e]; exact h4
  split
  · rename_i e; rw [e]; exact h3
  split
  · rename_i e; rw [e]; exact h2
  split
  · rename_i e; rw [e]; exact h1
  rfl
set_option linter.all false in
noncomputable abbrev sldScope : Scope := { kind := ScopeKind.function, names := [(Str.ofString "expected", NameKind.local), (Str.ofString "actual", NameKind.local), (Str.ofString "i", NameKind.local), (Str.ofString "j", NameKind.local),
  (Str.ofString "missing", NameKind.local), (Str.ofString "unexpected", NameKind.local), (Str.ofString "e", NameKind.local), (Str.ofString "a", NameKind.local), (Str.ofString "IndexError", NameKind.globalImplicit)], isGenerator := false, isCoroutine := false }
noncomputable abbrev sldEnv (L : Addr) : Env := envOf (Str.ofString "sorted_list_difference") sldScope L 46 (.ref 45)
/-- between the turns -/
structure SldJ (el al ml ul : Addr) (vs us : List Value) (es as X Y : List Str) (e1 e2 : Nat) (news : List (Addr × Obj)) (n : Nat) (m : Str → Option Value) (led : List (Addr × Obj)) (i j : Nat) (xs ys : List Value) (M U : List Str) (em eu : Nat) : Prop where
  vars : Vars m el al ml ul i j
  led : led = (ul, lst ys eu) :: (ml, lst xs em) :: (el, lst vs e1) :: (al, lst us e2) :: news
  hx : StrsAre xs M
  hy : StrsAre ys U
  le : M.length ≤ i ∧ U.length ≤ j
  hi : i ≤ es.length
  hj : j ≤ as.length
  fuel : (es.drop i).length + (as.drop j).length ≤ n
  one : M ++ (sld n (es.drop i) (as.drop j)).1 = X
  two : U ++ (sld n (es.drop i) (as.drop j)).2 = Y
theorem sld_nil1 : ∀ (n : Nat) (as : List Str), sld n [] as = ([], as)
  | 0, _ => rfl
  | _ + 1, _ => rfl
theorem sld_nil2 : ∀ (n : Nat) (es : List Str), sld n es [] = (es, [])
  | 0, _ => rfl
  | _ + 1, [] => rfl
  | _ + 1, _ :: _ => rfl
theorem pick_from (items : Array Value) (x : Nat) : slicePick items (some (x : Int)) none none = (items.toList.drop x).toArray := by
  have e : sliceBounds (some (x : Int)) none none items.size = (((min x items.size : Nat) : Int), ((items.size : Nat) : Int), 1) := by
    simp only [sliceBounds, Option.getD_none, show (1 : Int) > 0 by decide, if_true, if_neg (show ¬ ((x : Int) < 0) by walk_at "lia")]
    congr 1
    walk_at "lia"
  rw [kmk_pick_nat _ e]
  congr 1
  have h1 : (items.toList.drop (min x items.size)).take (items.size - min x items.size) = items.toList.drop (min x items.size) := List.take_of_length_le (by rw [List.length_drop, Array.length_toList]; walk_at "lia")
  rw [h1]
  by_cases h : x ≤ items.size
  · rw [Nat.min_eq_left h]
  · rw [Nat.min_eq_right (by walk_at "lia"), List.drop_of_length_le (by simp), List.drop_of_length_le (by rw [Array.length_toList]; walk_at "lia")]
theorem w_from {prog : Program} {w : World} {A : Around} {E : Value → Shared → Prop} {h₀ : Heap} {L : Addr} {m : Str → Option Value} {news : List (Addr × Obj)} {s : Shared} {value slice : PySem.Expr} {l : Addr} {vs : List Value} {i : Nat} {t : Tok} {ops : List Value} {Q : Value → Shared → Prop}
    (F : Fr h₀ L s.heap m) (N : News h₀ L s.heap news) (hl : s.heap.IsList l vs.toArray) (hsz : vs.length ≤ 100000)
    (h : ∀ q h', Fr h₀ L h' m → News h₀ L h' ((q, lst (vs.drop i) 0) :: news) → (∀ p ∈ news, p.1 < q) → Q (.ref q) { s with heap := h' })
    (hs : subscripted slice false (.ref l) (.ref s.heap.objs.size) = operate ops (getItem (.ref l) (.ref s.heap.objs.size)) := by with_unfolding_all rfl)
    (ht : ∀ r, letTemporaryGo value (.ref l) r = pure () := by intro _; with_unfolding_all rfl) :
    wpAny (model prog w) A (subscriptTail value slice (.ref l) (.ref s.heap.objs.size)) Q E { s with heap := s.heap.push { cls := .type "slice", data := .fields #[.int (i : Int) t, .none, .none] } } := by
  refine slice_list3 (lo := some (i : Int)) (hi := none) (st := none) F N hl (.int _ _) .none .none (by decide) ?_ hs ht (by rw [List.size_toArray, sizeLine_eq]; walk_at "lia")
  intro h' F' N'
  refine h _ h' F' ?_ fun p hp => Nat.lt_succ_of_lt (Heap.lt_size (N p hp).1)
  rw [pick_from] at N'
  exact N'

theorem apart_m {el al ml : Addr} {news : List (Addr × Obj)} {o1 o2 : Obj} (h : el < ml ∧ al < ml ∧ AllLt ml news) : ∀ p ∈ (el, o1) :: (al, o2) :: news, p.1 ≠ ml := fun p hp => by
  rcases List.mem_cons.mp hp with rfl | hp
  · exact Nat.ne_of_lt h.1
  rcases List.mem_cons.mp hp with rfl | hp
  · exact Nat.ne_of_lt h.2.1
  · exact Nat.ne_of_lt (of_allLt h.2.2 p hp)
theorem apart_u {el al ml ul : Addr} {news : List (Addr × Obj)} {o0 o1 o2 : Obj} (h : ml < ul ∧ el < ul ∧ al < ul ∧ AllLt ul news) : ∀ p ∈ (ml, o0) :: (el, o1) :: (al, o2) :: news, p.1 ≠ ul := fun p hp => by
  rcases List.mem_cons.mp hp with rfl | hp
  · exact Nat.ne_of_lt h.1
  · exact apart_m h.2 p hp
theorem Vars.ofChain {m : Str → Option Value} {el al ml ul : Addr} {i j : Nat} {ti tj : Tok} : Vars (chainV m el al ml ul i j ti tj) el al ml ul i j := by
  unfold chainV
  refine ⟨?_, ?_, ?_, ?_, ⟨ti, ?_⟩, ⟨tj, ?_⟩⟩
  · rw [if_neg (by decide), if_neg (by decide), if_neg (by decide), if_neg (by decide), if_neg (by decide), if_pos rfl]
  · rw [if_neg (by decide), if_neg (by decide), if_neg (by decide), if_neg (by decide), if_pos rfl]
  · rw [if_neg (by decide), if_neg (by decide), if_neg (by decide), if_pos rfl]
  · rw [if_neg (by decide), if_neg (by decide), if_pos rfl]
  · rw [if_pos rfl]
  · rw [if_neg (by decide), if_pos rfl]
theorem Vars.set {m : Str → Option Value} {el al ml ul : Addr} {i j : Nat} (V : Vars m el al ml ul i j) {x : Str} {v : Option Value}
    (hx : ∀ y ∈ [Str.ofString "expected", Str.ofString "actual", Str.ofString "missing", Str.ofString "unexpected", Str.ofString "i", Str.ofString "j"], y ≠ x := by decide) : Vars (fun y => if y = x then v else m y) el al ml ul i j := by
  have h : ∀ y ∈ [Str.ofString "expected", Str.ofString "actual", Str.ofString "missing", Str.ofString "unexpected", Str.ofString "i", Str.ofString "j"], (fun y => if y = x then v else m y) y = m y := fun y hy => if_neg (hx y hy)
  exact ⟨(h _ (by simp)).trans V.ex, (h _ (by simp)).trans V.ac, (h _ (by simp)).trans V.mi, (h _ (by simp)).trans V.un, V.vi.imp fun t e => (h _ (by simp)).trans e, V.vj.imp fun t e => (h _ (by simp)).trans e⟩
theorem Vars.setI {m : Str → Option Value} {el al ml ul : Addr} {i j : Nat} (V : Vars m el al ml ul i j) {i' : Nat} {t : Tok} : Vars (fun y => if y = Str.ofString "i" then some (.int (i' : Int) t) else m y) el al ml ul i' j := by
  refine ⟨?_, ?_, ?_, ?_, ⟨t, if_pos rfl⟩, ?_⟩
  · exact (if_neg (by decide)).trans V.ex
  · exact (if_neg (by decide)).trans V.ac
  · exact (if_neg (by decide)).trans V.mi
  · exact (if_neg (by decide)).trans V.un
  · exact V.vj.imp fun t e => (if_neg (by decide)).trans e
theorem Vars.setJ {m : Str → Option Value} {el al ml ul : Addr} {i j : Nat} (V : Vars m el al ml ul i j) {j' : Nat} {t : Tok} : Vars (fun y => if y = Str.ofString "j" then some (.int (j' : Int) t) else m y) el al ml ul i j' := by
  refine ⟨?_, ?_, ?_, ?_, ?_, ⟨t, if_pos rfl⟩⟩
  · exact (if_neg (by decide)).trans V.ex
  · exact (if_neg (by decide)).trans V.ac
  · exact (if_neg (by decide)).trans V.mi
  · exact (if_neg (by decide)).trans V.un
  · exact V.vi.imp fun t e => (if_neg (by decide)).trans e
inductive SldPost (n : Nat) (es as : List Str) (led : List (Addr × Obj)) : Value → List (Addr × Obj) → Prop where
  | mk : ∀ D ml ul xs ys c1 c2, (StrsAre xs (sld n es as).1) → (StrsAre ys (sld n es as).2) → (ml < ul) → (ul < D) → (∀ p ∈ led, p.1 < ml) → SldPost n es as led (.ref D) ((D, { cls := .type "tuple", data := .seq #[.ref ml, .ref ul] }) :: (ul, lst ys c2) :: (ml, lst xs c1) :: led)
theorem news_cut2 {g h : Heap} {L : Addr} {d q q₂ : Addr × Obj} {rest : List (Addr × Obj)} (N : News g L h (d :: q₂ :: q :: rest)) : News g L h (d :: rest) := fun p hp => by
  rcases List.mem_cons.mp hp with rfl | hp
  · exact N _ (.head _)
  · exact N p (.tail _ (.tail _ (.tail _ hp)))
theorem news_swap {g h : Heap} {L : Addr} {a b : Addr × Obj} {rest : List (Addr × Obj)} (N : News g L h (a :: b :: rest)) : News g L h (b :: a :: rest) := fun p hp => by
  rcases List.mem_cons.mp hp with rfl | hp
  · exact N _ (.tail _ (.head _))
  rcases List.mem_cons.mp hp with rfl | hp
  · exact N _ (.head _)
  · exact N p (.tail _ (.tail _ hp))
theorem drop_at {es : List Str} {i : Nat} {y : Str} (h : es[i]? = some y) : i < es.length ∧ es.drop i = y :: es.drop (i + 1) := by
  have hlt : i < es.length := (List.getElem?_eq_some_iff.mp h).1
  exact ⟨hlt, by rw [List.drop_eq_getElem_cons hlt, (List.getElem?_eq_some_iff.mp h).2]⟩
theorem drop_le {p : Str → Bool} (l : List Str) : (l.dropWhile p).length ≤ l.length := (List.dropWhile_sublist p).length_le
theorem sld_lt {n : Nat} {e a : Str} {es as : List Str} (h : e.cps.toList < a.cps.toList) : sld (n + 1) (e :: es) (a :: as) = (e :: (sld n (es.dropWhile (· == e)) (a :: as)).1, (sld n (es.dropWhile (· == e)) (a :: as)).2) := by
  rw [sld, if_pos (by simpa using h)]
theorem sld_gt {n : Nat} {e a : Str} {es as : List Str} (h : ¬ e.cps.toList < a.cps.toList) (h' : a.cps.toList < e.cps.toList) : sld (n + 1) (e :: es) (a :: as) = ((sld n (e :: es) (as.dropWhile (· == a))).1, a :: (sld n (e :: es) (as.dropWhile (· == a))).2) := by
  rw [sld, if_neg (by simpa using h), if_pos (by simpa using h')]
theorem sld_eq {n : Nat} {e a : Str} {es as : List Str} (h : ¬ e.cps.toList < a.cps.toList) (h' : ¬ a.cps.toList < e.cps.toList) : sld (n + 1) (e :: es) (a :: as) = sld n (es.dropWhile (· == e)) (as.dropWhile (· == a)) := by
  rw [sld, if_neg (by simpa using h), if_neg (by simpa using h')]
theorem Vars.start {el al ml ul : Addr} {t : Tok} : Vars (fun y => if y = Str.ofString "unexpected" then some (Value.ref ul) else if y = Str.ofString "missing" then some (Value.ref ml) else if y = Str.ofString "j" then some (Value.int 0 t) else
    if y = Str.ofString "i" then some (Value.int 0 t) else List.lookup y [(Str.ofString "actual", Value.ref al), (Str.ofString "expected", Value.ref el)]) el al ml ul 0 0 :=
  ⟨rfl, rfl, (if_neg (by decide)).trans (if_pos rfl), if_pos rfl, ⟨t, (if_neg (by decide)).trans ((if_neg (by decide)).trans ((if_neg (by decide)).trans (if_pos rfl)))⟩, ⟨t, (if_neg (by decide)).trans ((if_neg (by decide)).trans (if_pos rfl))⟩⟩
end
section
section
variable {prog : Program} {w : World} {A₀ A : Around} {s : Shared} {base h₀ : Heap} {outer : List Env} {L : Addr} {m : Str → Option Value} {env : Env} {news : List (Addr × Obj)} {K : Frag} {p : Program} {loose : List Str} {mean : ExcName → Option Value} {mg mb : Str → Option Value}
  {R : Result → Shared → Prop} {name qual : Str} {params : Arguments} {body : List Stmt} {scope : Scope} {dV kV doc pm cdv ct oc : Value} {an od : Option Addr} {osl : Array (Option Value)} {f : Addr} {args : Args} {binds : List (Str × Value)}
/-- out of a function whose frames beyond may be turned: the caller's frame and ledger -/
theorem leaveT_back (B : Below A₀ base outer h₀) (F : Fr h₀ L s.heap m) (N : News h₀ L s.heap news) (hA : A.frames = some (env :: outer)) (hf : env.frame = some L) (hke : env.scope.kind = .function) {v : Value} {s' : Shared}
    (hl : LeaveT A₀ base env outer h₀ L m (hideAll s.heap (news.map (·.1))) R v s') : R (.ok (.ret v)) s' := by
  obtain ⟨FG, BG, st, _⟩ := groundX (R := R) B F N hA hf hke
  obtain ⟨g', L', m', news', T', F', N', k⟩ := hl
  have nL₀ : h₀.get? L = none := kts_self F
  have inE : ∀ b, b ∈ fsOf (env :: outer) → b = L ∨ b ∈ fsOf outer := fun b hb => by
    obtain ⟨e, he, hf'⟩ := List.mem_filterMap.mp hb
    rcases List.mem_cons.mp he with rfl | he
    · rw [hf] at hf'; exact .inl (Option.some.inj hf').symm
    · exact .inr (List.mem_filterMap.mpr ⟨e, he, hf'⟩)
  obtain ⟨oL, es, ep, hLg, hLd, hLk, hLf⟩ := FG.ns
  obtain ⟨slL, hsL⟩ := T'.up hLg
  obtain ⟨h₀', T₁, B₁, F₁⟩ := turned_ground (h := s'.heap) B (L := L) (m := m) ⟨_, es, ep, F'.keep _ _ hsL, hLd, hLk, hLf⟩ F.above
    (fun b o e nm => F'.keep b o (T'.other b o (st b o e) (fun q => by
      rcases inE b q with z | z
      · rw [z, nL₀] at e; cases e
      · exact nm z)))
    (fun b o e hm => by
      obtain ⟨sl', hs'⟩ := T'.up (st b o e)
      exact ⟨sl', F'.keep _ _ hs'⟩)
  refine k h₀' T₁ B₁ F₁ fun p hp => ⟨(N' p hp).1, fun q => ?_, T₁.none_ _ ?_⟩
  · have := (N' p hp).2.2; rw [q, hsL] at this; cases this
  · cases q : h₀.get? p.1 with
    | none => rfl
    | some o =>
      obtain ⟨sl', hs'⟩ := T'.up (st _ _ q)
      have := (N' p hp).2.2
      rw [hs'] at this
      cases this
theorem code_TC (B : Below A₀ base outer h₀) (F : Fr h₀ L s.heap m) (X₀ : K.In h₀) (N : News h₀ L s.heap news) (T : Top p loose mean mg mb h₀) (hA : A.frames = some (env :: outer)) (hf : env.frame = some L) (hke : env.scope.kind = .function)
    (ho : K.lookup f = some ⟨oc, od, .func (fnOf name qual params body scope dV kV doc pm an cdv ct), osl⟩) (hcd : codeIn K cdv qual = true) (hroom : A.depth < recursionLimit)
    (hbind : BindsTo s (fnOf name qual params body scope dV kV doc pm an cdv ct) args binds) (hkind : (binds.all fun y => scope.names.lookup y.1 == some .local || scope.names.lookup y.1 == some .cell) = true)
    (hnd : ((cellsFrom 0 scope.names []).map (·.1)).Nodup)
    (h : ∀ g L' h₁ tk cells, Fr g L' h₁ (bindL (envOfC qual scope L' f cdv).kindOf binds fun _ => none) → News g L' h₁ (cells ++ news) →
      CellsAre (bindC (envOfC qual scope L' f cdv).kindOf binds fun _ => none) (cellsFrom (L' + 1) scope.names []) cells → Below A base (env :: outer) g → (∀ p ∈ news, p.1 < L') →
      wpAny (model prog w) (A.deeper (envOfC qual scope L' f cdv)) (execs body (envOfC qual scope L' f cdv))
        (fun fl s' => LeaveT A₀ base env outer h₀ L m g R (match fl with | .ret v => v | _ => .none) s') (fun _ _ => False)
        { s with heap := h₁, toks := tk })
    (hco : scope.isCoroutine = false := by rfl) (hgen : scope.isGenerator = false := by rfl) (hk : scope.kind = .function := by rfl) : codeAny (model prog w) A (.call (.ref f) args) R s := by
  have X := X₀.keeps F.keep
  obtain ⟨FG, BG, st, _⟩ := groundX (R := R) B F N hA hf hke
  refine codeAny_call_function hroom (X _ _ ho) rfl hco hgen rfl (codeRec_of X hcd) (hbind _ _ _ _ ?_)
  refine wpAny_newFunctionEnv_cells hk (kindsX hkind _) fun env' he s₁ x => ?_
  subst he
  refine ⟨(T.nolimit.keeps F.keep).keeps x.toInCall.keep, codeAny_func ?_⟩
  obtain ⟨h₁, tk, rfl, _⟩ := x.done
  have hk₁ := x.toInCall.keep
  obtain ⟨cells, NC, Y⟩ := Cl.news (h₀ := s.heap) (Nat.le_refl _) fun n c hm => ⟨x.cell n c (lookup_of_mem_nodup (cellsFrom_names scope.names 0 (s.heap.objs.size + 1) [] [] rfl ▸ hnd) hm), x.above n c hm⟩
  refine wpAny_mono (h _ s.heap.objs.size h₁ tk cells ⟨x.toInCall.ns, fun b o e => hk₁ b o (of_hideAll _ e), Nat.le_of_eq (hideAll_size _ _)⟩ (fun p hp => ?_) Y BG (fun p hp => Heap.lt_size (N p hp).1)) (fun fl s' hl => leaveT_back B F N hA hf hke hl) fun _ _ y => y.elim
  rcases List.mem_append.mp hp with hp | hp
  · refine ⟨(NC p hp).1, (NC p hp).2.1, ?_⟩
    cases q : (hideAll s.heap (news.map (·.1))).get? p.1 with
    | none => rfl
    | some o => have := of_hideAll _ q; rw [(NC p hp).2.2] at this; cases this
  · exact ⟨hk₁ _ _ (N p hp).1, Nat.ne_of_lt (Heap.lt_size (N p hp).1), hideAll_none _ (List.mem_map_of_mem hp)⟩
end
end
section
theorem same_strs0 : ∀ {ks js : List Nat}, (∀ k ∈ ks, k < 5) → (∀ k ∈ js, k < 5) → ks.map wd = js.map wd → ks = js
  | [], [], _, _, _ => rfl
  | [], _ :: _, _, _, q => by simp at q
  | _ :: _, [], _, _, q => by simp at q
  | k :: ks, j :: js, h, h', q => by
    simp only [List.map_cons, List.cons.injEq] at q
    rw [(wd_eq (h k (.head _)) (h' j (.head _))).mp q.1, same_strs0 (fun q hq => h q (.tail _ hq)) (fun q hq => h' q (.tail _ hq)) q.2]
theorem wds_eq {ks js : List Nat} (h : ∀ k ∈ ks, k < 5) (h' : ∀ k ∈ js, k < 5) : (ks.map wd = js.map wd) = (ks = js) := by
  have e := same_strs0 h h'
  exact propext ⟨fun q => e q, fun q => q ▸ rfl⟩
/-- two lists of texts in a tuple -/
noncomputable def sdata (xs : List Str) : PyData := .list (xs.map PyData.str)
noncomputable def tdata (xs ys : List Str) : PyData := .tuple [sdata xs, sdata ys]
theorem sreads {h : Heap} {a : Addr} {vs : List Value} {xs : List Str} (hl : h.IsList a vs.toArray) (hi : StrsAre vs xs) : Reads h (.ref a) (sdata xs) [a] := by
  obtain ⟨o, ho, hc, n, hd⟩ := hl
  exact .list ho hc hd (strs_readAll h hi)
theorem treads {h : Heap} {t a b : Addr} {vs us : List Value} {xs ys : List Str} {e : Nat} (ht : h.get? t = some { cls := .type "tuple", data := .seq #[.ref a, .ref b] e }) (hl : h.IsList a vs.toArray) (hi : StrsAre vs xs) (hl' : h.IsList b us.toArray) (hi' : StrsAre us ys) :
    Reads h (.ref t) (tdata xs ys) [a, b] := .tuple ht rfl rfl (.cons (sreads hl hi) (.cons (sreads hl' hi') .nil))
theorem same_strs : ∀ xs ys : List Str, PySem.Spec.sameAll (xs.map PyData.str) (ys.map PyData.str) = decide (xs = ys)
  | [], [] => by simp [PySem.Spec.sameAll]
  | [], _ :: _ => by simp [PySem.Spec.sameAll]
  | _ :: _, [] => by simp [PySem.Spec.sameAll]
  | x :: xs, y :: ys => by
    have ih := same_strs xs ys
    simp only [List.map_cons, PySem.Spec.sameAll, PySem.Spec.same]
    rw [ih]
    by_cases h1 : x = y <;> by_cases h2 : xs = ys <;> simp [h1, h2]
theorem same_tdata (xs ys us vs : List Str) : PySem.Spec.same (tdata xs ys) (tdata us vs) = decide (xs = us ∧ ys = vs) := by
  simp only [tdata, sdata, PySem.Spec.same, PySem.Spec.sameAll, same_strs]
  by_cases h1 : xs = us <;> by_cases h2 : ys = vs <;> simp [h1, h2]
theorem tmix (xs ys us vs : List Str) : SeqAt.noMix (tdata xs ys) (tdata us vs) = true :=
  SeqAt.noMix_of_shape (.tuple [.list .str, .list .str]) rfl _ _ (by simp [tdata, sdata, Shape.has, Shape.hasAll]) (by simp [tdata, sdata, Shape.has, Shape.hasAll])
theorem sdata_wd (ks : List Nat) : sdata (ks.map wd) = .list (wdata ks) := rfl
theorem tshaped {ks js : List Nat} (h : ∀ k ∈ ks, k < 5) (h' : ∀ k ∈ js, k < 5) : SeqAt.shaped (tdata (ks.map wd) (js.map wd)) = true := by
  unfold tdata
  rw [sdata_wd, sdata_wd]
  simp only [SeqAt.shaped, PyData.canLay0, PyData.canLayAll0, PyData.depth, PyData.depthAll, wdata_ok h, wdata_ok h', wdata_depth]
  rfl
section
variable {prog : Program} {w : World} {A : Around} {E : Value → Shared → Prop} {s : Shared} {Q : Value → Shared → Prop} {t t' a b c d : Addr} {e e' : Nat} {vs us vs' us' : List Value} {ks js ks' js' : List Nat}
theorem w_ne2 (ht : s.heap.get? t = some { cls := .type "tuple", data := .seq #[.ref a, .ref b] e }) (hl : s.heap.IsList a vs.toArray) (hi : StrsAre vs (ks.map wd)) (hl' : s.heap.IsList b us.toArray) (hi' : StrsAre us (js.map wd))
    (ht2 : s.heap.get? t' = some { cls := .type "tuple", data := .seq #[.ref c, .ref d] e' }) (hl2 : s.heap.IsList c vs'.toArray) (hi2 : StrsAre vs' (ks'.map wd)) (hl2' : s.heap.IsList d us'.toArray) (hi2' : StrsAre us' (js'.map wd))
    (h5 : ∀ k ∈ ks, k < 5) (h5' : ∀ k ∈ js, k < 5) (h5a : ∀ k ∈ ks', k < 5) (h5b : ∀ k ∈ js', k < 5) (hu : A.units ≤ 7000) (h : Q (.bool (!decide (ks = ks' ∧ js = js'))) s) : wpAny (model prog w) A (compareOp .NotEq (.ref t) (.ref t')) Q E s := by
  refine ne_dataH_same (treads ht hl hi hl' hi') (treads ht2 hl2 hi2 hl2' hi2') (tshaped h5 h5') (tshaped h5a h5b) (by show A.units + 64 < cLine; have : cLine = 9900 := rfl; walk_at "lia") (tmix _ _ _ _) ?_
  rw [same_tdata]
  rw [show decide (ks.map wd = ks'.map wd ∧ js.map wd = js'.map wd) = decide (ks = ks' ∧ js = js') from by simp only [wds_eq h5 h5a, wds_eq h5' h5b]]
  exact h
theorem w_eq2 (ht : s.heap.get? t = some { cls := .type "tuple", data := .seq #[.ref a, .ref b] e }) (hl : s.heap.IsList a vs.toArray) (hi : StrsAre vs (ks.map wd)) (hl' : s.heap.IsList b us.toArray) (hi' : StrsAre us (js.map wd))
    (ht2 : s.heap.get? t' = some { cls := .type "tuple", data := .seq #[.ref c, .ref d] e' }) (hl2 : s.heap.IsList c vs'.toArray) (hi2 : StrsAre vs' (ks'.map wd)) (hl2' : s.heap.IsList d us'.toArray) (hi2' : StrsAre us' (js'.map wd))
    (h5 : ∀ k ∈ ks, k < 5) (h5' : ∀ k ∈ js, k < 5) (h5a : ∀ k ∈ ks', k < 5) (h5b : ∀ k ∈ js', k < 5) (hu : A.units ≤ 7000) (h : Q (.bool (decide (ks = ks' ∧ js = js'))) s) : wpAny (model prog w) A (compareOp .Eq (.ref t) (.ref t')) Q E s := by
  refine eq_dataH_same (treads ht hl hi hl' hi') (treads ht2 hl2 hi2 hl2' hi2') (tshaped h5 h5') (tshaped h5a h5b) (by show A.units + 64 < cLine; have : cLine = 9900 := rfl; walk_at "lia") (tmix _ _ _ _) ?_
  rw [same_tdata]
  rw [show decide (ks.map wd = ks'.map wd ∧ js.map wd = js'.map wd) = decide (ks = ks' ∧ js = js') from by simp only [wds_eq h5 h5a, wds_eq h5' h5b]]
  exact h
end
/-- the place of a word -/
noncomputable def ix (x : Str) : Nat := wordL.idxOf x
theorem ix_wd0 : ∀ i : Fin 5, ix (wd i.1) = i.1 := by decide +kernel
theorem ix_wd {k : Nat} (h : k < 5) : ix (wd k) = k := ix_wd0 ⟨k, h⟩
theorem rising_lt : ∀ {ss : List Str} {p : Str}, risingS p ss = true → (∀ s ∈ p :: ss, ∃ k, k < 5 ∧ s = wd k) → ((p :: ss).map ix).Pairwise (· ≤ ·)
  | [], p, _, _ => by simp
  | x :: r, p, h, hw => by
    simp only [risingS, Bool.and_eq_true, Bool.not_eq_true'] at h
    have ih := rising_lt h.2 fun s hs => hw s (.tail _ hs)
    obtain ⟨k, hk, rfl⟩ := hw p (.head _)
    obtain ⟨j, hj, rfl⟩ := hw x (.tail _ (.head _))
    have h1 : k ≤ j := by
      have e := wd_lt hj hk
      have e2 : ltCps (wd j).cps.toList (wd k).cps.toList = decide (j < k) := by rw [← e]; exact ltCps_eq _ _
      rw [e2] at h
      have := of_decide_eq_false h.1
      walk_at "lia"
    rw [List.map_cons, List.pairwise_cons]
    refine ⟨fun y hy => ?_, ih⟩
    rw [ix_wd hk]
    rw [List.map_cons, List.pairwise_cons] at ih
    rw [List.map_cons, ix_wd hj] at hy
    rcases List.mem_cons.mp hy with rfl | hy
    · exact h1
    · have := ih.1 y hy
      rw [ix_wd hj] at this
      walk_at "lia"
theorem words_perm {ss : List Str} {ks : List Nat} (h5 : ∀ k ∈ ks, k < 5) (hp : ss.Perm (ks.map wd)) (hs : sortedS ss = true) : ∃ ks' : List Nat, ss = ks'.map wd ∧ ks'.Perm ks ∧ ks'.Pairwise (· ≤ ·) ∧ ∀ k ∈ ks', k < 5 := by
  have hw : ∀ s ∈ ss, ∃ k, k < 5 ∧ s = wd k := fun s hs => by
    obtain ⟨k, hk, rfl⟩ := List.mem_map.mp (hp.mem_iff.mp hs)
    exact ⟨k, h5 k hk, rfl⟩
  refine ⟨ss.map ix, ?_, ?_, ?_, ?_⟩
  · rw [List.map_map]
    have : ∀ s ∈ ss, (wd ∘ ix) s = s := fun s hs => by
      obtain ⟨k, hk, rfl⟩ := hw s hs
      show wd (ix (wd k)) = wd k
      rw [ix_wd hk]
    rw [List.map_congr_left this, List.map_id']
  · have h1 := hp.map ix
    rw [List.map_map] at h1
    have : ∀ k ∈ ks, (ix ∘ wd) k = k := fun k hk => ix_wd (h5 k hk)
    rw [List.map_congr_left this, List.map_id'] at h1
    exact h1
  · cases ss with
    | nil => exact .nil
    | cons x r => exact rising_lt hs hw
  · intro k hk
    obtain ⟨s, hs', rfl⟩ := List.mem_map.mp hk
    obtain ⟨j, hj, rfl⟩ := hw s hs'
    rw [ix_wd hj]; exact hj
theorem w_sorted {prog : Program} {w : World} {A : Around} {E : Value → Shared → Prop} {s : Shared} {h₀ : Heap} {L : Addr} {m : Str → Option Value} {news : List (Addr × Obj)} {l : Addr} {vs : List Value} {ks : List Nat} {Q : Value → Shared → Prop}
    (F : Fr h₀ L s.heap m) (N : News h₀ L s.heap news) (hl : s.heap.IsList l vs.toArray) (hS : StrsAre vs (ks.map wd)) (h5 : ∀ k ∈ ks, k < 5) (h64 : vs.length < 64)
    (h : ∀ (q : Addr) (h' : Heap) (vs' : List Value) (ks' : List Nat) (e : Nat), Fr h₀ L h' m → News h₀ L h' ((q, lst vs' e) :: news) → (∀ p ∈ news, p.1 < q) →
      StrsAre vs' (ks'.map wd) → ks'.Perm ks → ks'.Pairwise (· ≤ ·) → (∀ k ∈ ks', k < 5) → Q (.ref q) { s with heap := h' }) :
    wpAny (model prog w) A (call (.builtin "sorted") [.ref l]) Q E s := by
  refine sorted_N_str F N hl hS h64 fun h' vs' ss' e F' N' hS' hp hs => ?_
  obtain ⟨ks', rfl, h1, h2, h3⟩ := words_perm h5 hp hs
  exact h _ h' vs' ks' e F' N' (fun p hp => Nat.lt_succ_of_lt (Heap.lt_size (N p hp).1)) hS' h1 h2 h3
end
section
section
variable {g g₁ h base : Heap} {L L' : Addr} {oL : Obj} {m : Str → Option Value} {rest : List (Addr × Obj)} {sl : Array (Option Value)} {A : Around} {env : Env}
/-- a frame beyond is put into the ledger -/
theorem turned_hide (T : KtsTurn [L] g g₁) (F : Fr g₁ L' h m) (N : News g₁ L' h rest) (hL : g.get? L = some oL) :
    ∃ sl, Fr (hideAll g [L]) L' h m ∧ News (hideAll g [L]) L' h ((L, { oL with slots := sl }) :: rest) ∧ ∀ p ∈ rest, p.1 ≠ L := by
  obtain ⟨sl, hs⟩ := T.up hL
  have hn : L ≠ L' := fun q => by have := kts_self F; rw [← q, hs] at this; cases this
  have up : ∀ b o, (hideAll g [L]).get? b = some o → h.get? b = some o := fun b o e => by
    have h1 := of_hideAll _ e
    have h2 : b ∉ [L] := fun q => by rw [hideAll_none _ q] at e; cases e
    exact F.keep b o (T.other b o h1 h2)
  refine ⟨sl, ⟨F.ns, up, by rw [hideAll_size]; rw [← T.size]; exact F.above⟩, fun p hp => ?_, fun p hp q => ?_⟩
  · rcases List.mem_cons.mp hp with rfl | hp
    · exact ⟨F.keep _ _ hs, hn, hideAll_none _ (.head _)⟩
    · refine ⟨(N p hp).1, (N p hp).2.1, ?_⟩
      cases e : (hideAll g [L]).get? p.1 with
      | none => rfl
      | some o =>
        obtain ⟨sl', e'⟩ := T.up (of_hideAll _ e)
        rw [(N p hp).2.2] at e'; cases e'
  · have := (N p hp).2.2; rw [q, hs] at this; cases this
theorem frame_hide (F : Fr g L' h m) (N : News g L' h rest) (hL : g.get? L = some oL) :
    ∃ sl, Fr (hideAll g [L]) L' h m ∧ News (hideAll g [L]) L' h ((L, { oL with slots := sl }) :: rest) ∧ ∀ p ∈ rest, p.1 ≠ L := turned_hide .refl F N hL
/-- and taken out of it -/
theorem turned_back (B : Below A base [env] g) (hf : env.frame = some L) (hL : g.get? L = some oL) (F : Fr (hideAll g [L]) L' h m) (N : News (hideAll g [L]) L' h ((L, { oL with slots := sl }) :: rest)) (hne : ∀ p ∈ rest, p.1 ≠ L) :
    ∃ g₁, KtsTurn (fsOf [env]) g g₁ ∧ Below A base [env] g₁ ∧ Fr g₁ L' h m ∧ News g₁ L' h rest := by
  have hfs : fsOf [env] = [L] := by simp [fsOf, hf]
  obtain ⟨g₁, T, B₁, F₁⟩ := turned_ground (h := h) B (L := L') (m := m) F.ns (by have := F.above; rwa [hideAll_size] at this)
    (fun b o e nm => F.keep b o (hideAll_get _ e (hfs ▸ nm)))
    (fun b o e hm => by
      rw [hfs] at hm
      have q := List.mem_singleton.mp hm
      rw [q] at e ⊢
      rw [hL] at e
      cases e
      exact ⟨sl, (N _ (.head _)).1⟩)
  refine ⟨g₁, T, B₁, F₁, fun p hp => ⟨(N p (.tail _ hp)).1, (N p (.tail _ hp)).2.1, T.none_ _ ?_⟩⟩
  cases e : g.get? p.1 with
  | none => rfl
  | some o =>
    have := (N p (.tail _ hp)).2.2
    rw [hideAll_get _ e (fun q => hne p hp (List.mem_singleton.mp q))] at this
    cases this
theorem base_hide (B : Below A base [env] g) (hf : env.frame = some L) : base.StaysIn (hideAll g [L]) := fun b o e =>
  hideAll_get _ (B.stays b o e) fun q => by
    have h1 := (B.frames.mem (b := L) (List.mem_filterMap.mpr ⟨env, .head _, hf⟩)).1
    rw [List.mem_singleton.mp q, h1] at e; cases e
end
/-- the contract of a call out of the law's own frame -/
noncomputable def Calls0 (w : World) (f : Addr) (vs : List Value) (led : List (Addr × Obj)) (dd uu : Nat) (Post : Value → List (Addr × Obj) → Prop) : Prop :=
  ∀ (dp un : Nat) (gd : Option (List Code)) (cn : Str) (cs : Scope) (a : Addr) (ccd : Value) (cl : List (Str × Addr)) (A₀ : Around) (base h₀ : Heap) (L : Addr) (m : Str → Option Value) (s : Shared) (Q E : Value → Shared → Prop) (loose : List Str) (mean : ExcName → Option Value) (mg mb : Str → Option Value),
    Below A₀ base [] h₀ → (KY w.params).In base → (mkk.heap_1 w.params).In base → Top topProg loose mean mg mb base → Fr h₀ L s.heap m → News h₀ L s.heap led → cs.kind = .function → dp + dd ≤ 800 → un + uu ≤ 6000 →
    (∀ r led' h' tk', Post r led' → Fr h₀ L h' m → News h₀ L h' led' → Q r { s with heap := h', toks := tk' }) →
    wpAny (model PySem.Challenge.rw_ik0001_01.row.prog w) (ktrTop dp un gd cn cs L a ccd cl []) (call (.ref f) vs) Q E s
/-- the places of a pair's two words -/
noncomputable def fa (p : PRec) : Nat := ix p.2.2.1
noncomputable def fb (p : PRec) : Nat := ix p.2.2.2.1
noncomputable def WPair (p : PRec) : Prop := p.2.2.1 = wd (fa p) ∧ fa p < 5 ∧ p.2.2.2.1 = wd (fb p) ∧ fb p < 5
structure PeelJ (L L1 : Addr) (oL : Obj) (prs : List PRec) (g : PRec → Bool) (rest : List (Addr × Obj)) (i : Nat) (m : Str → Option Value) (news : List (Addr × Obj)) (l : List PRec) (D : Addr) (e : Nat) (o : Obj) (sl : Array (Option Value)) : Prop where
  pairs : m (Str.ofString "pairs") = some (.ref D)
  led : news = (L, { oL with slots := sl }) :: (L1 + 1, o) :: (D, lst (l.map pval) e) :: rest
  cell : ∃ v, o.data = .cell v
  apart : ∀ p ∈ (L1 + 1, o) :: (D, lst (l.map pval) e) :: rest, p.1 ≠ L
  off : Off (L1 + 1) ((D, lst (l.map pval) e) :: rest)
  sub : ∀ p ∈ l, p ∈ prs
  keeps : l.filter g = prs.filter g
  short : l.length + i ≤ prs.length
theorem set_pairs {m : Str → Option Value} {v : Value} (h : m (Str.ofString "pairs") = some v) : m = fun y => if y = Str.ofString "pairs" then some v else m y := by
  funext y
  split
  · rename_i e; rw [e]; exact h
  · rfl
theorem range_small : ∀ n : Fin 64, Builtin.Range.small 0 n.1 1 = true ∧ Builtin.Range.rangeSize 0 n.1 1 = ((n.1 : Nat) : Int) := by decide +kernel
inductive PvalAt (l : List PRec) (i : Nat) : Value → Prop
  | mk : ∀ p, l[i]? = some p → p ∈ l → l.take (i + 1) = l.take i ++ [p] → PvalAt l i (.ref p.1)
theorem pval_in {l : List PRec} {i : Nat} {v : Value} (h : (l.map pval)[i]? = some v) : PvalAt l i v := by
  rw [List.getElem?_map] at h
  cases hp : l[i]? with
  | none => rw [hp] at h; cases h
  | some p =>
    rw [hp] at h
    cases h
    exact .mk p hp (List.mem_of_getElem? hp) (by rw [List.take_add_one, hp]; rfl)
theorem ex5 {τ0 τ1 τ2 τ3 τ4 : Type} {p : τ0 → τ1 → τ2 → τ3 → τ4 → Prop} {P : Prop} (h : ∃ a b c d e, p a b c d e) (k : ∀ a b c d e, p a b c d e → P) : P := by
  obtain ⟨a, b, c, d, e, h⟩ := h
  exact k a b c d e h
theorem str_snoc {ys : List Value} {l : List PRec} {f : PRec → Nat} {i : Nat} {p : PRec} {x : Str} {t : Tok} (hys : StrsAre ys ((l.take i).map fun p => wd (f p))) (e : l.take (i + 1) = l.take i ++ [p]) (hx : x = wd (f p)) : StrsAre (ys ++ [.str x t]) ((l.take (i + 1)).map fun p => wd (f p)) := by
  rw [e, List.map_append, hx]
  exact strsAre_append hys (.cons _ _ .nil)
theorem strs_map {ys : List Value} {l : List PRec} {f : PRec → Nat} (h : StrsAre ys (l.map fun p => wd (f p))) : StrsAre ys ((l.map f).map wd) := by
  rw [List.map_map]; exact h
theorem map_lt5 {l : List PRec} {f : PRec → Nat} (h : ∀ p ∈ l, f p < 5) : ∀ k ∈ l.map f, k < 5 := fun k hk => by
  obtain ⟨p, hp, rfl⟩ := List.mem_map.mp hk
  exact h p hp
theorem alone_lt {ks js : List Nat} (h : ∀ k ∈ ks, k < 5) : ∀ k ∈ alone ks js, k < 5 := fun k hk => h k (mem_alone.mp hk).1
theorem same_ground {h₀ h₀' h : Heap} {L : Addr} {m : Str → Option Value} {led : List (Addr × Obj)} (T : KtsTurn (fsOf []) h₀ h₀') (F' : Fr h₀' L h m) (N' : News h₀' L h led) : Fr h₀ L h m ∧ News h₀ L h led := by
  have same : ∀ b o, h₀.get? b = some o → h₀'.get? b = some o := fun b o e => T.other b o e (by walk_at "mem")
  exact ⟨⟨F'.ns, fun b o e => F'.keep b o (same b o e), by rw [← T.size]; exact F'.above⟩, fun p hp => ⟨(N' p hp).1, (N' p hp).2.1, none_keep same (N' p hp).2.2⟩⟩
inductive PeelPost (res : List PRec) (led : List (Addr × Obj)) : Value → List (Addr × Obj) → Prop where
  | mk : ∀ D e, PeelPost res led (.ref D) ((D, lst (res.map pval) e) :: led)
/-- a pair stays by what is told -/
noncomputable def stays (ks js : List Nat) (p : PRec) : Bool := !decide (fa p ∈ alone ks js) && !decide (fb p ∈ alone js ks)


theorem turn_news {g h : Heap} {L : Addr} {i x c d : Addr × Obj} {rest : List (Addr × Obj)} (N : News g L h (i :: x :: c :: d :: rest)) : News g L h (x :: c :: d :: i :: rest) := fun p hp => by
  rcases List.mem_cons.mp hp with rfl | hp
  · exact N _ (.tail _ (.head _))
  rcases List.mem_cons.mp hp with rfl | hp
  · exact N _ (.tail _ (.tail _ (.head _)))
  rcases List.mem_cons.mp hp with rfl | hp
  · exact N _ (.tail _ (.tail _ (.tail _ (.head _))))
  rcases List.mem_cons.mp hp with rfl | hp
  · exact N _ (.head _)
  · exact N p (.tail _ (.tail _ (.tail _ (.tail _ hp))))
theorem turn_apart {L : Addr} {i c d : Addr × Obj} {rest : List (Addr × Obj)} (h : ∀ p ∈ c :: d :: rest, p.1 ≠ L) (hi : i.1 ≠ L) : ∀ p ∈ c :: d :: i :: rest, p.1 ≠ L := fun p hp => by
  rcases List.mem_cons.mp hp with rfl | hp
  · exact h _ (.head _)
  rcases List.mem_cons.mp hp with rfl | hp
  · exact h _ (.tail _ (.head _))
  rcases List.mem_cons.mp hp with rfl | hp
  · exact hi
  · exact h p (.tail _ (.tail _ hp))
theorem turn_apart2 {L : Nat} {i d : Addr × Obj} {rest : List (Addr × Obj)} (h : Off L (d :: rest)) (hi : i.1 ≠ L) : Off L (d :: i :: rest) := fun p hp => by
  rcases List.mem_cons.mp hp with rfl | hp
  · exact h _ (.head _)
  rcases List.mem_cons.mp hp with rfl | hp
  · exact hi
  · exact h p (.tail _ hp)

theorem mem_in {α : Type} {a b p : α} {l : List α} (h : p ∈ a :: l) : p ∈ a :: b :: l := by
  rcases List.mem_cons.mp h with rfl | h
  · exact .head _
  · exact .tail _ (.tail _ h)

theorem mem_dup {α : Type} {a b c p : α} {l : List α} (h : p ∈ a :: b :: c :: c :: l) : p ∈ a :: b :: c :: l := by
  simp only [List.mem_cons] at h ⊢
  rcases h with h | h | h | h | h <;> simp [h]
end
section
section
local macro_rules | `(tactic| walk_at $k:str) => do
  if ["exec While", "exec While Compare", "exec Try", "subscriptTail", "call builtin:list.extend", "call builtin:list.append"].contains k.getString then `(tactic| walk_at "halt") else Lean.Macro.throwUnsupported
local macro_rules | `(tactic| walk_at "exec") => `(tactic| (k_here; (with_reducible show wpAny _ _ (PySem.exec (Stmt.While _ _ _ _) _) _ _ _); walk_at "halt"))
/-- between the turns of the loop -/
inductive SldL (g' : Heap) (L' : Addr) (s : Shared) (el al ml ul : Addr) (vs us : List Value) (es as X Y : List Str) (e1 e2 : Nat) (news : List (Addr × Obj)) (n' : Nat) : Shared → Prop
  | mk : ∀ h tk i j ti tj m xs ys M U em eu, Fr g' L' h (chainV m el al ml ul i j ti tj) → News g' L' h ((ul, lst ys eu) :: (ml, lst xs em) :: (el, lst vs e1) :: (al, lst us e2) :: news) →
      SldJ el al ml ul vs us es as X Y e1 e2 news n' (chainV m el al ml ul i j ti tj) ((ul, lst ys eu) :: (ml, lst xs em) :: (el, lst vs e1) :: (al, lst us e2) :: news) i j xs ys M U em eu → SldL g' L' s el al ml ul vs us es as X Y e1 e2 news n' { s with heap := h, toks := tk }
theorem SldL.of {g' : Heap} {L' : Addr} {s : Shared} {el al ml ul : Addr} {vs us : List Value} {es as X Y : List Str} {e1 e2 : Nat} {news : List (Addr × Obj)} {n' : Nat} {h : Heap} {tk : Nat} {m : Str → Option Value} {led : List (Addr × Obj)} {i j : Nat} {xs ys : List Value} {M U : List Str} {em eu : Nat}
    (F : Fr g' L' h m) (N : News g' L' h led) (J : SldJ el al ml ul vs us es as X Y e1 e2 news n' m led i j xs ys M U em eu) : SldL g' L' s el al ml ul vs us es as X Y e1 e2 news n' { s with heap := h, toks := tk } := by
  obtain ⟨ti, tj, hm⟩ := J.vars.chain
  have hl := J.led
  subst hl
  rw [hm] at F J
  exact .mk h tk i j ti tj m xs ys M U em eu F N J
theorem sl1 {i i' e d : Nat} (h : i < e) (hd : d ≤ e - (i + 1)) (he : e - i' = d) : i + 1 ≤ i' := by omega
theorem sl9 {es D : List Str} {i i' : Nat} (hd : es.drop i' = D) (hi : i < es.length) (hD : D.length ≤ es.length - (i + 1)) : i + 1 ≤ i' :=
  sl1 hi hD (by rw [← hd, List.length_drop])
theorem sl8 {y : Str} {M es D : List Str} {i i' : Nat} (hM : M.length ≤ i) (hi : i < es.length) (hd : es.drop i' = D) (hD : D.length ≤ es.length - (i + 1)) : (M ++ [y]).length ≤ i' := by
  rw [List.length_append]; exact Nat.le_trans (Nat.succ_le_succ hM) (sl9 hd hi hD)
theorem sl7 {x : Value} {l : List Value} {e M i : Nat} (h : l.length = M) (hM : M ≤ i) (hi : i < e) : (l ++ [x]).length ≤ e := by
  rw [List.length_append, h]; exact Nat.le_trans (Nat.succ_le_succ hM) hi
theorem sl2 {e a i j k d : Nat} (h : e - (i + 1) + 1 + (a - (j + 1) + 1) ≤ k + 1) (hd : d ≤ e - (i + 1)) (hj : j < a) : d + (a - j) ≤ k := by omega
theorem sl3 {e a i j k d : Nat} (h : e - (i + 1) + 1 + (a - (j + 1) + 1) ≤ k + 1) (hd : d ≤ a - (j + 1)) (hi : i < e) : e - i + d ≤ k := by
  rw [Nat.add_comm] at h ⊢; exact sl2 h hd hi
theorem sl4 {a b c d k : Nat} (h : a + 1 + (b + 1) ≤ k + 1) (hc : c ≤ a) (hd : d ≤ b) : c + d ≤ k := by omega
theorem sl5 {x v e i : Nat} (h : x ≤ e) (he : e ≤ 100) (hv : v ≤ 100) : x + (v - i) ≤ 16777216 :=
  p0 (Nat.add_le_add (Nat.le_trans h he) (Nat.le_trans (Nat.sub_le _ _) hv))
theorem sl6 {a b n : Nat} (h : a + 1 + b ≤ n) : ∃ k, n = k + 1 := by
  cases n with
  | zero => rw [Nat.add_right_comm] at h; cases h
  | succ k => exact ⟨k, rfl⟩
set_option maxRecDepth 100000 in
set_option maxHeartbeats 2000000 in
theorem sld_t {w : World} {el al : Addr} {vs us : List Value} {es as : List Str} {e1 e2 : Nat} {news : List (Addr × Obj)} (hv : StrsAre vs es) (hw : StrsAre us as) (hlen : vs.length ≤ 100 ∧ us.length ≤ 100) {n : Nat} (hn : es.length + as.length ≤ n) :
   CallsT w 46 [.ref el, .ref al] ((el, lst vs e1) :: (al, lst us e2) :: news) 20 200 (SldPost n es as ((el, lst vs e1) :: (al, lst us e2) :: news)) := by
  unfold CallsT
  intro dp un gd cn cs a ccd cl outer A₀ base h₀ L m s Q E loose mean mg mb B XB TB F N hk hdp hu hret
  have X : (mkk.heap_1 w.params).In h₀ := XB.keeps B.stays
  have T := TB.keeps B.stays
  refine wpAny_call ?_
  refine' code_T B F X N T rfl rfl hk ?k6 ?k7 ?k8 ?k9 ?kB ?_ ?c2 ?c3 ?c4 ?c5
  case k6 => k_is
  case k7 => k_is
  case k8 => walk_at "room"
  case k9 => first | exact BindsTo.of_eq rfl | exact binds_K (by k_in) rfl (by k_is) rfl rfl rfl
  case kB => exact locs rfl
  case c2 => exact rfl
  case c3 => exact rfl
  case c4 => exact rfl
  case c5 => decide
  k_whole
  intro g' L' h' F' N' B' l1
  have X' : (mkk.heap_1 w.params).In g' := XB.keeps B'.stays
  have T' := TB.keeps B'.stays
  try dsimp only
  try k_fold
  (with_reducible rename Fr _ _ _ (fun _ => _) => kF)
  replace kF : Fr _ _ _ (fun y => List.lookup y [(Str.ofString "actual", .ref al), (Str.ofString "expected", .ref el)]) := kF
  have hve := hv.length
  have hwe := hw.length
  have hes : es.length ≤ 100 := hve ▸ hlen.1
  have has : as.length ≤ 100 := hwe ▸ hlen.2
  replace hv := Hide.mk hv
  replace hw := Hide.mk hw
  refine name_run ?_
  intro en AA
  k_steps
  refine Stop.go ?_
  (with_reducible rename Fr _ _ _ _ => kF); (with_reducible rename News _ _ _ _ => kN)
  rename_i tk0
  refine with_head kN fun ul hul kN => ?_
  refine with_head (fun p hp => kN p (.tail _ hp)) fun ml hml kN' => ?_
  subst hul hml
  have lm : el < ml ∧ al < ml ∧ AllLt ml news := by assumption
  have lu : ml < ul ∧ el < ul ∧ al < ul ∧ AllLt ul news := by assumption
  refine wpAny_While (codeAny_whileLoop (SldL g' L' s el al ml ul vs us es as (sld n es as).1 (sld n es as).2 e1 e2 news) ?_ n ?_)
  · clear kF kN kN'
    rintro n' s' ⟨h, tk, i, j, ti, tj, m, xs, ys, M, U, em, eu, kF, kN, J⟩
    replace J := Hide.mk J
    refine wpAny_noRaise ?_
    k_steps
    refine Stop.go ?_
    refine wpAny_noRaise ?_
    refine Try_x fun Et hEt hPa => ?_
    have hend : ∀ (m₂ : Str → Option Value) (i' j' : Nat) (xs' ys' : List Value) (M' U' : List Str) (em' eu' : Nat) (e : Addr) (h₂ : Heap) (tk₂ : Nat),
        (∀ Q' : Unit → Shared → Prop, (∀ g₃ h₃ tb oe ot c, KtsTurn (fsOf (envX cn cs L a ccd cl :: outer)) g' g₃ → Below (ktrTop dp un gd cn cs L a ccd cl outer) base (envX cn cs L a ccd cl :: outer) g₃ →
            Heldx g₃ L' h₃ m₂ ((ul, lst ys' eu') :: (ml, lst xs' em') :: (el, lst vs e1) :: (al, lst us e2) :: news) e tb oe ot c (rawInt L') → Q' () { heap := h₃, gens := s.gens, drawn := s.drawn, toks := tk₂, os := s.os }) →
          wpAny (model PySem.Challenge.rw_ik0001_01.row.prog w) ((ktrTop dp un gd cn cs L a ccd cl outer).deeper (sldEnv L')) (noteFrame (.ref e) (sldEnv L')) Q' (fun _ _ => False) { heap := h₂, gens := s.gens, drawn := s.drawn, toks := tk₂, os := s.os }) →
        Vars m₂ el al ml ul i' j' → StrsAre xs' M' → StrsAre ys' U' → i' ≤ es.length → j' ≤ as.length → xs'.length ≤ es.length → ys'.length ≤ as.length →
        M' ++ es.drop i' = (sld n es as).1 → U' ++ as.drop j' = (sld n es as).2 → Et (.ref e) { heap := h₂, gens := s.gens, drawn := s.drawn, toks := tk₂, os := s.os } := by
      clear kF kN J hPa
      intro m₂ i' j' xs' ys' M' U' em' eu' e h₂ tk₂ hnote V hx' hy' hi' hj' hlx hly h1 h2
      refine hEt _ _ ?_
      refine hnote _ fun g₃ h₃ tb oe ot c hT hB H => ?_
      refine H.land fun h₄ ot' H => ?_
      have X₂ : (mkk.heap_1 w.params).In g₃ := XB.keeps hB.stays
      have T₂ := TB.keeps hB.stays
      obtain ⟨ti', tj', hm'⟩ := V.chain
      refine Heldx.clause H X₂ T₂ (by k_is) (fun h₅ F₃ N₃ => ?_)
      rw [hm'] at F₃
      replace hx' := Hide.mk hx'
      replace hy' := Hide.mk hy'
      clear hm' V H X X' T T' hEt hnote B' TB XB
      k_steps
      refine Stop.go ?_
      refine w_from (s := ⟨h₅, _, _, _, _⟩) F₃ N₃ (News.isList N₃ (by k_mem)) (by walk_at "lia") ?_
      intro q h₆ F₄ N₄ l4
      clear F₃ N₃
      k_steps
      refine Stop.go ?_
      refine extend_in (own := [(q, _), (ul, _)]) (rest := (el, _) :: (al, _) :: news) F₄ N₄ (apart2 (Nat.ne_of_gt (l4 (ml, _) (.tail _ (.head _)))) (Nat.ne_of_gt lu.1)) (apart_m lm) (N₄ _ (.head _)).1 (fun h₇ n₇ F₅ N₅ => ?_) (by rw [sizeLine_eq]; simp only [List.size_toArray, List.length_drop]; exact sl5 hlx hes hlen.1)
      clear F₄ N₄
      simp only [List.cons_append, List.nil_append] at N₅
      k_steps
      refine Stop.go ?_
      refine w_from (s := ⟨h₇, _, _, _, _⟩) F₅ N₅ (News.isList N₅ (by k_mem)) (by walk_at "lia") ?_
      intro q₂ h₈ F₆ N₆ l6
      clear F₅ N₅
      k_steps
      refine Stop.go ?_
      refine extend_in (own := [(q₂, _), (q, _)]) (rest := (ml, _) :: (el, _) :: (al, _) :: news) F₆ N₆ (apart2 (Nat.ne_of_gt (l6 (ul, _) (.tail _ (.head _)))) (Nat.ne_of_gt (l4 (ul, _) (.head _)))) (apart_u lu) (N₆ _ (.head _)).1 (fun h₉ n₉ F₇ N₇ => ?_) (by rw [sizeLine_eq]; simp only [List.size_toArray, List.length_drop]; exact sl5 hly has hlen.2)
      clear F₆ N₆
      simp only [List.cons_append, List.nil_append] at N₇
      k_steps
      (with_reducible rename Fr _ _ _ _ => kF); (with_reducible rename News _ _ _ _ => kN)
      rename_i hD
      refine ⟨g₃, L', _, _, hT, kF, news_cut2 kN, fun h₀' T₀ B₀ F₀ N₀ => ?_⟩
      refine hret _ _ _ _ h₀' ⟨_, ml, ul, _, _, _, _, ?_, ?_, lu.1, hD.2.2.1, ?_⟩ T₀ B₀ F₀ N₀
      · rw [← h1]; exact strsAre_append hx'.out (StrsAre_drop _ hv.out)
      · rw [← h2]; exact strsAre_append hy'.out (StrsAre_drop _ hw.out)
      · intro p hp
        rcases List.mem_cons.mp hp with rfl | hp
        · exact lm.1
        rcases List.mem_cons.mp hp with rfl | hp
        · exact lm.2.1
        · exact of_allLt lm.2.2 p hp
    k_steps
    refine Stop.go ?_
    have V0 := (Vars.ofChain (m := m) (el := el) (al := al) (ml := ml) (ul := ul) (i := i) (j := j) (ti := ti) (tj := tj))
    replace V0 := Hide.mk V0
    have hxl := J.out.hx.length
    have hyl := J.out.hy.length
    have hle := J.out.le
    have hi := J.out.hi
    have hj := J.out.hj
    have hxe := Nat.le_trans (Nat.le_of_eq hxl) (Nat.le_trans hle.1 hi)
    have hye := Nat.le_trans (Nat.le_of_eq hyl) (Nat.le_trans hle.2 hj)
    refine strs_item (.inl rfl) (News.isList kN (by k_mem)) hv.out (i0 (Nat.le_trans hi hes)) (fun ho h' tk e c _ hx => ?_) (fun y hy ty => ?_)
    · refine hend _ i j xs ys M U em eu e h' tk (fun Q' k => noted_x B' kF kN hx fun h₃ g₃ tb oe ot T B H => k g₃ h₃ tb oe ot c T B H) V0.out J.out.hx J.out.hy hi hj hxe hye ?_ ?_
      · have := J.out.one; rw [List.drop_eq_nil_of_le ho, sld_nil1] at this; rw [List.drop_eq_nil_of_le ho]; exact this
      · have := J.out.two; rw [List.drop_eq_nil_of_le ho, sld_nil1] at this; exact this
    k_steps
    refine Stop.go ?_
    try clear kF
    try clear kN
    (with_reducible rename Fr _ _ _ _ => kF); (with_reducible rename News _ _ _ _ => kN)
    have V1 := Hide.mk (V0.out.set (x := Str.ofString "e") (v := some (.str y ty)))
    refine strs_item (.inl rfl) (News.isList kN (by k_mem)) hw.out (i0 (Nat.le_trans hj has)) (fun ho h' tk e c _ hx => ?_) (fun z hz tz => ?_)
    · refine hend _ i j xs ys M U em eu e h' tk (fun Q' k => noted_x B' kF kN hx fun h₃ g₃ tb oe ot T B H => k g₃ h₃ tb oe ot c T B H) V1.out J.out.hx J.out.hy hi hj hxe hye ?_ ?_
      · have := J.out.one; rw [List.drop_eq_nil_of_le ho, sld_nil2] at this; exact this
      · have := J.out.two; rw [List.drop_eq_nil_of_le ho, sld_nil2] at this; rw [List.drop_eq_nil_of_le ho]; exact this
    have V2 := Hide.mk (V1.out.set (x := Str.ofString "a") (v := some (.str z tz)))
    clear V0 V1
    obtain ⟨hil, hid⟩ := drop_at hy
    obtain ⟨hjl, hjd⟩ := drop_at hz
    have hfu := J.out.fuel
    have hone := J.out.one
    have htwo := J.out.two
    rw [hid, hjd] at hfu hone htwo
    obtain ⟨k, rfl⟩ : ∃ k, n' = k + 1 := sl6 hfu
    simp only [List.length_cons] at hfu
    have hdl1 : ((es.drop (i + 1)).dropWhile (· == y)).length ≤ es.length - (i + 1) := by have := drop_le (p := (· == y)) (es.drop (i + 1)); rwa [List.length_drop] at this
    have hdl2 : ((as.drop (j + 1)).dropWhile (· == z)).length ≤ as.length - (j + 1) := by have := drop_le (p := (· == z)) (as.drop (j + 1)); rwa [List.length_drop] at this
    rw [List.length_drop, List.length_drop] at hfu
    replace hone := Hide.mk hone
    replace htwo := Hide.mk htwo
    replace hid := Hide.mk hid
    replace hjd := Hide.mk hjd
    k_steps
    · refine Stop.go ?_
      rename_i hlt
      (with_reducible rename Fr _ _ _ _ => kF); (with_reducible rename News _ _ _ _ => kN)
      have h1 := hone.out
      have h2 := htwo.out
      rw [sld_lt hlt] at h1 h2
      refine append_led kF (news_swap kN) (fun p hp => ?_) (t0 hxe hes) (fun h₃ F₃ N₃ => ?_)
      · rcases List.mem_cons.mp hp with rfl | hp
        · exact Nat.ne_of_gt lu.1
        · exact apart_m lm p hp
      try clear kF
      try clear kN
      replace N₃ := news_swap N₃
      k_steps
      refine Stop.go ?_
      (with_reducible rename Fr _ _ _ _ => kF); (with_reducible rename News _ _ _ _ => kN)
      refine skip (i := i + 1) (hc := rfl) (kl := rfl) (ki := rfl) (ke := rfl) (dl := by decide) (di := by decide) (de := by decide) (nl := by decide) (ne := by decide) (hfree := fun _ _ => .inl rfl) (hMl := V2.out.ex) (hMe := (if_neg (by decide)).trans (if_pos rfl)) (hel := by k_mem) (hv := hv.out) (hlen := by walk_at "lia") (hi := hil) (F := kF) (N := kN) (done := ?_) (fell := ?_) (hE := hPa _ _ (SameStack.refl _))
      · intro i' t' h₄ tk₄ hi' hd F₄ N₄
        repeat (refine wpAny_execs_nil ?_)
        refine ⟨k, Nat.lt_succ_self _, SldL.of (i := i') (j := j) F₄ N₄ ⟨V2.out.setI, rfl, strsAre_append J.out.hx (.cons _ _ .nil), J.out.hy, ?_, hi', hj, ?_, ?_, ?_⟩⟩
        · exact ⟨sl8 hle.1 hil hd hdl1, hle.2⟩
        · rw [hd, List.length_drop]; exact sl2 hfu hdl1 hjl
        · rw [hd, hjd.out, List.append_assoc]; exact h1
        · rw [hd, hjd.out]; exact h2
      · intro i' t' h₄ hi' hd0 hd F₄ N₄ h₅ tk₅ e c _ hx
        rw [hd, sld_nil1] at h1 h2
        refine hend _ i' j (xs ++ [.str y ty]) ys (M ++ [y]) U _ _ e h₅ tk₅ (fun Q' k => noted_x B' F₄ N₄ hx fun h₃ g₃ tb oe ot T B H => k g₃ h₃ tb oe ot c T B H) V2.out.setI (strsAre_append J.out.hx (.cons _ _ .nil)) J.out.hy hi' hj (sl7 hxl hle.1 hil) hye ?_ ?_
        · rw [hd0, List.append_assoc]; exact h1
        · rw [hjd.out]; exact h2
    · refine Stop.go ?_
      rename_i hnl hgt
      (with_reducible rename Fr _ _ _ _ => kF); (with_reducible rename News _ _ _ _ => kN)
      have h1 := hone.out
      have h2 := htwo.out
      rw [sld_gt hnl hgt] at h1 h2
      refine append_led kF kN (apart_u lu) (t0 hye has) (fun h₃ F₃ N₃ => ?_)
      try clear kF
      try clear kN
      k_steps
      refine Stop.go ?_
      (with_reducible rename Fr _ _ _ _ => kF); (with_reducible rename News _ _ _ _ => kN)
      refine skip (i := j + 1) (hc := rfl) (kl := rfl) (ki := rfl) (ke := rfl) (dl := by decide) (di := by decide) (de := by decide) (nl := by decide) (ne := by decide) (hfree := fun _ _ => .inl rfl) (hMl := V2.out.ac) (hMe := if_pos rfl) (hel := by k_mem) (hv := hw.out) (hlen := by walk_at "lia") (hi := hjl) (F := kF) (N := kN) (done := ?_) (fell := ?_) (hE := hPa _ _ (SameStack.refl _))
      · intro j' t' h₄ tk₄ hj' hd F₄ N₄
        repeat (refine wpAny_execs_nil ?_)
        refine ⟨k, Nat.lt_succ_self _, SldL.of (i := i) (j := j') F₄ N₄ ⟨V2.out.setJ, rfl, J.out.hx, strsAre_append J.out.hy (.cons _ _ .nil), ?_, hi, hj', ?_, ?_, ?_⟩⟩
        · exact ⟨hle.1, sl8 hle.2 hjl hd hdl2⟩
        · rw [hd, List.length_drop]; exact sl3 hfu hdl2 hil
        · rw [hd, hid.out]; exact h1
        · rw [hd, hid.out, List.append_assoc]; exact h2
      · intro j' t' h₄ hj' hd0 hd F₄ N₄ h₅ tk₅ e c _ hx
        rw [hd, sld_nil2] at h1 h2
        refine hend _ i j' xs (ys ++ [.str z tz]) M (U ++ [z]) _ _ e h₅ tk₅ (fun Q' k => noted_x B' F₄ N₄ hx fun h₃ g₃ tb oe ot T B H => k g₃ h₃ tb oe ot c T B H) V2.out.setJ J.out.hx (strsAre_append J.out.hy (.cons _ _ .nil)) hi hj' hxe (sl7 hyl hle.2 hjl) ?_ ?_
        · rw [hid.out]; exact h1
        · rw [hd0, List.append_assoc]; exact h2
    · refine Stop.go ?_
      rename_i hnl hng _ _ _
      (with_reducible rename Fr _ _ _ _ => kF); (with_reducible rename News _ _ _ _ => kN)
      have h1 := hone.out
      have h2 := htwo.out
      rw [sld_eq hnl hng] at h1 h2
      refine skip (i := i + 1) (hc := rfl) (kl := rfl) (ki := rfl) (ke := rfl) (dl := by decide) (di := by decide) (de := by decide) (nl := by decide) (ne := by decide) (hfree := fun _ _ => .inl rfl) (hMl := V2.out.ex) (hMe := (if_neg (by decide)).trans (if_pos rfl)) (hel := by k_mem) (hv := hv.out) (hlen := by walk_at "lia") (hi := hil) (F := kF) (N := kN) (done := ?_) (fell := ?_) (hE := by passes_own)
      · intro i' t' h₄ tk₄ hi' hd F₄ N₄
        clear kF kN
        have V3 := Hide.mk (V2.out.setI (i' := i') (t := t'))
        repeat (refine wpAny_execs_nil ?_)
        refine wpAny_passesOwnAt (hPa _ _ (SameStack.refl _)) ?_
        k_steps
        refine Stop.go ?_
        (with_reducible rename Fr _ _ _ _ => kF); (with_reducible rename News _ _ _ _ => kN)
        refine skip (i := j + 1) (hc := rfl) (kl := rfl) (ki := rfl) (ke := rfl) (dl := by decide) (di := by decide) (de := by decide) (nl := by decide) (ne := by decide) (hfree := fun _ _ => .inl rfl) (hMl := V3.out.ac) (hMe := (if_neg (by decide)).trans (if_pos rfl)) (hel := by k_mem) (hv := hw.out) (hlen := by walk_at "lia") (hi := hjl) (F := kF) (N := kN) (done := ?_) (fell := ?_) (hE := hPa _ _ (SameStack.refl _))
        · intro j' t' h₆ tk₆ hj' hd' F₆ N₆
          repeat (refine wpAny_execs_nil ?_)
          refine ⟨k, Nat.lt_succ_self _, SldL.of (i := i') (j := j') F₆ N₆ ⟨V3.out.setJ, rfl, J.out.hx, J.out.hy, ?_, hi', hj', ?_, ?_, ?_⟩⟩
          · exact ⟨Nat.le_trans hle.1 (Nat.le_of_succ_le (sl9 hd hil hdl1)), Nat.le_trans hle.2 (Nat.le_of_succ_le (sl9 hd' hjl hdl2))⟩
          · rw [hd, hd']; exact sl4 hfu hdl1 hdl2
          · rw [hd, hd']; exact h1
          · rw [hd, hd']; exact h2
        · intro j' t' h₆ hj' hd0 hd' F₆ N₆ h₅ tk₅ e c _ hx
          rw [hd', sld_nil2] at h1 h2
          refine hend _ i' j' xs ys M U _ _ e h₅ tk₅ (fun Q' k => noted_x B' F₆ N₆ hx fun h₃ g₃ tb oe ot T B H => k g₃ h₃ tb oe ot c T B H) V3.out.setJ J.out.hx J.out.hy hi' hj' hxe hye ?_ ?_
          · rw [hd]; exact h1
          · rw [hd0]; exact h2
      · intro i' t' h₄ hi' hd0 hd F₄ N₄ h₅ tk₅ e c hc0 hx
        have V3 := Hide.mk (V2.out.setI (i' := i') (t := t'))
        obtain rfl := hc0 rfl
        rw [hd, sld_nil1] at h1 h2
        clear kF kN
        refine noted_x B' F₄ N₄ hx fun h₆ g₃ tb oe ot TT BB H => ⟨ref_ne_byPass _, H.again rfl (H.land fun h₇ ot' H => ?_)⟩
        clear F₄ N₄ hx
        refine wpAny_passesOwnAt (hPa _ _ (SameStack.mark _ _)) ?_
        have X₃ : (mkk.heap_1 w.params).In g₃ := XB.keeps BB.stays
        have T₃ := TB.keeps BB.stays
        clear X' T' B'
        have kF := H.F
        have kN := H.N
        replace H := Hide.mk H
        k_steps
        refine Stop.go ?_
        try clear kF
        try clear kN
        (with_reducible rename Fr _ _ _ _ => kF); (with_reducible rename News _ _ _ _ => kN)
        obtain ⟨tt, hdt⟩ := H.out.dat
        refine skip (i := j + 1) (hc := rfl) (kl := rfl) (ki := rfl) (ke := rfl) (dl := by decide) (di := by decide) (de := by decide) (nl := by decide) (ne := by decide) (hfree := fun _ N' => .inr ⟨e, oe, tt, .ref tb, rfl, (N' _ (.head _)).1, hdt⟩) (hMl := V3.out.ac) (hMe := (if_neg (by decide)).trans (if_pos rfl)) (hel := by k_mem) (hv := hw.out) (hlen := by walk_at "lia") (hi := hjl) (F := kF) (N := kN) (done := ?_) (fell := ?_) (hE := hPa _ _ (SameStack.mark _ _))
        · intro j' t₂ h₈ tk₈ hj' hd' F₈ N₈
          repeat (refine wpAny_execs_nil ?_)
          refine (H.out.step F₈ N₈ H.out.ne2 H.out.ne3).pass rfl fun h₉ ot₂ H' => ?_
          refine hend _ i' j' xs ys M U _ _ e h₉ tk₈ (fun Q' k => H'.again rfl (k g₃ h₉ tb oe ot₂ .none TT BB H')) V3.out.setJ J.out.hx J.out.hy hi' hj' hxe hye ?_ ?_
          · rw [hd0]; exact h1
          · rw [hd']; exact h2
        · intro j' t₂ h₈ hj' hd1 hd' F₈ N₈ h₉ tk₉ e₂ c₂ _ hx₂
          rw [hd'] at h1 h2
          refine hend _ i' j' xs ys M U _ _ e₂ h₉ tk₉ (fun Q' k => noted_x BB F₈ (fun p hp => N₈ p (.tail _ (.tail _ hp))) hx₂ fun h₃ g₄ tb₂ oe₂ ot₂ T₂ B₂ H₂ => k g₄ h₃ tb₂ oe₂ ot₂ c₂ (TT.trans T₂) B₂ H₂) V3.out.setJ J.out.hx J.out.hy hi' hj' hxe hye ?_ ?_
          · rw [hd0]; exact h1
          · rw [hd1]; exact h2
  · refine SldL.of (i := 0) (j := 0) (xs := []) (ys := []) (M := []) (U := []) (em := 0) (eu := 0) kF kN ⟨?_, rfl, .nil, .nil, ⟨Nat.le_refl _, Nat.le_refl _⟩, Nat.zero_le _, Nat.zero_le _, by simpa using hn, rfl, rfl⟩
    exact Vars.start
end
end
section
section
local macro_rules | `(tactic| walk_at $k:str) => do
  if ["exec For Name Call cons nil", "eval ListComp", "call builtin:sorted", "compareOp NotEq ref ref", "compareOp Eq ref ref", "compareOp NotIn str ref", "getAttr ref"].contains k.getString then `(tactic| walk_at "halt") else Lean.Macro.throwUnsupported
local macro_rules | `(tactic| walk_at "storeName") => `(tactic| (k_here; (with_reducible show wpAny _ _ (storeName _ (Str.ofString "told") _) _ _ _); walk_at "halt"))
local macro_rules | `(tactic| walk_at "exec Assign cons ListComp") => `(tactic| (k_here; (with_reducible show wpAny _ _ (PySem.exec (Stmt.Assign [Expr.Name (Str.ofString "pairs") _] _ _) _) _ _ _); walk_at "halt"))
set_option maxRecDepth 100000 in
set_option maxHeartbeats 2000000 in
theorem peeled_t {w : World} {pl : Addr} {prs : List PRec} {e0 : Nat} {rest : List (Addr × Obj)} {gd' : PRec → Bool} {MM : Nat → Nat → Bool} (hM : ∀ a b, MM a b = true ↔ ∃ q, q ∈ prs ∧ fa q = a ∧ fb q = b) (hg : ∀ p ∈ prs, gd' p = true ↔ fromRing MM (fa p) ∧ toRing MM (fb p)) (hin : ∀ p ∈ prs, ∀ q ∈ pobjs p, q ∈ rest) (hw : ∀ p ∈ prs, WPair p) (hlen : prs.length ≤ 20) :
   Calls0 w 244 [.ref pl] ((pl, lst (prs.map pval) e0) :: rest) 100 1000 (PeelPost (prs.filter gd') ((pl, lst (prs.map pval) e0) :: rest)) := by
  replace hM := Hide.mk hM
  replace hg := Hide.mk hg
  unfold Calls0
  intro dp un gd cn cs a ccd cl A₀ base h₀ L m s Q E loose mean mg mb B YB XB TB F N hk hdp hu hret
  have X : (mkk.heap_1 w.params).In h₀ := XB.keeps B.stays
  have T := TB.keeps B.stays
  refine wpAny_call ?_
  refine' code_TC B F X N T rfl rfl hk ?k6 ?k7 ?k8 ?k9 ?kB ?kD ?_ ?c2 ?c3 ?c4
  case k6 => k_is
  case k7 => k_is
  case k8 => walk_at "room"
  case k9 => first | exact BindsTo.of_eq rfl | exact binds_K (by k_in) rfl (by k_is) rfl rfl rfl
  case kB => exact rfl
  case kD => decide +kernel
  case c2 => exact rfl
  case c3 => exact rfl
  case c4 => exact rfl
  k_whole
  intro g' L' h' tk' cells' F' N' Y' B' l1
  try k_lt l1
  k_cells Y'
  try simp only [List.cons_append, List.nil_append] at N'
  try dsimp only
  try k_fold
  (with_reducible rename Fr _ _ _ _ => kF)
  rename_i o1 c1
  replace c1 : o1.data = Data.cell none := c1
  replace kF : Fr _ _ _ (fun y => if y = Str.ofString "pairs" then some (Value.ref pl) else none) := kF
  obtain ⟨oL, hL⟩ : ∃ oL, g'.get? L = some oL := by
    obtain ⟨_, o, ho, _⟩ := B'.frames.mem (b := L) (List.mem_filterMap.mpr ⟨_, .head _, rfl⟩)
    exact ⟨o, ho⟩
  obtain ⟨sl0, kF2, kN2, hne0⟩ := frame_hide kF N' hL
  have Xb : (mkk.heap_1 w.params).In (hideAll g' [L]) := XB.keeps (base_hide B' rfl)
  have Tb := TB.keeps (base_hide B' (L := L) rfl)
  clear kF N' X T
  clear N F
  refine name_run ?_
  intro en AA
  k_steps
  refine Stop.go ?_
  (with_reducible rename Fr _ _ _ _ => kF)
  with_unfolding_all refine' For_turns kF ?_
  k_steps
  refine Stop.go ?_
  (with_reducible rename Fr _ _ _ _ => kF); (with_reducible rename News _ _ _ _ => kN); (with_reducible rename IsRange _ _ _ _ _ _ _ _ => hR)
  have hq : (List.map pval prs).toArray.size = prs.length := by simp
  rw [hq] at hR
  replace hR : IsRange _ _ 0 ((prs.length + 1 : Nat) : Int) 1 _ _ _ := hR
  have hsm := range_small ⟨prs.length + 1, by walk_at "lia"⟩
  have hLL : @LT.lt Nat _ L L' := Nat.lt_of_lt_of_le (Heap.lt_size hL) (by have := kF.above; rwa [hideAll_size] at this)
  refine for_range (n := prs.length + 1) (fun i m news => ∃ l D e o sl, PeelJ L L' oL prs gd' ((pl, lst (prs.map pval) e0) :: rest) i m news l D e o sl) (by intro _ _; rfl) rfl hR hsm.1 hsm.2 kF (news := (L, { oL with slots := sl0 }) :: (L' + 1, o1) :: (pl, lst (prs.map pval) e0) :: (pl, lst (prs.map pval) e0) :: rest) (fun p hp => kN p (mem_dup hp)) ⟨prs, pl, e0, o1, sl0, if_pos rfl, rfl, ⟨_, c1⟩, ?_, ?_, fun _ h => h, rfl, by walk_at "lia"⟩ ?_ ?_
  · intro p hp
    rcases List.mem_cons.mp hp with rfl | hp
    · exact hne0 _ (.head _)
    rcases List.mem_cons.mp hp with rfl | hp
    · exact hne0 _ (.tail _ (.head _))
    · exact hne0 p (.tail _ hp)
  · have h1 : ∀ p ∈ (pl, lst (prs.map pval) e0) :: rest, @LT.lt Nat _ p.1 (L' + 1) := fun p hp => by
      rcases List.mem_cons.mp hp with rfl | hp
      · exact Nat.lt_succ_of_lt l1.1
      · exact Nat.lt_succ_of_lt (of_allLt l1.2 p hp)
    exact Off.lt fun p hp => by
      rcases List.mem_cons.mp hp with rfl | hp
      · exact h1 _ (.head _)
      · exact h1 p hp
  · clear kF kN hR
    refine fun i t m₁ n₁ h tk I oI hi hJ0 hI F₁ N₁ => ex5 hJ0 fun l D e o sl J => ?_
    clear hJ0
    have hJl := J.led
    subst hJl
    obtain ⟨g₁, TT, BB, kF, kN⟩ := turned_back (rest := (L' + 1, o) :: (D, lst (l.map pval) e) :: (I, oI) :: (pl, lst (prs.map pval) e0) :: rest) B' rfl hL F₁ (turn_news N₁) (turn_apart J.apart (Ne.symm (hI _ (.head _))))
    have hoffI : Off (L' + 1) ((D, lst (l.map pval) e) :: (I, oI) :: (pl, lst (prs.map pval) e0) :: rest) := turn_apart2 J.off (Ne.symm (hI _ (.tail _ (.head _))))
    replace hoffI := Hide.mk hoffI
    rw [set_pairs J.pairs] at kF
    have X₁ : (mkk.heap_1 w.params).In g₁ := XB.keeps BB.stays
    have T₁ := TB.keeps BB.stays
    clear F₁ N₁ Xb Tb
    replace J := Hide.mk J
    replace hin := Hide.mk hin
    replace hw := Hide.mk hw
    dsimp +zetaDelta only [envOfC] at kF kN
    k_steps
    refine Stop.go ?_
    refine ListComp_at (by with_unfolding_all rfl) (by rfl) (by decide) ?_
    k_steps
    refine Stop.go ?_
    (with_reducible rename Fr _ _ _ _ => kF); (with_reducible rename News _ _ _ _ => kN)
    have hl20 : l.length ≤ 20 := by have := J.out.short; walk_at "lia"
    refine comp_list (vs := l.map pval) (fun i ys n₁ => n₁ = (L' + 1, o) :: (D, lst (l.map pval) e) :: (I, oI) :: (pl, lst (prs.map pval) e0) :: rest ∧ StrsAre ys ((l.take i).map fun p => wd (fa p))) rfl (News.isList kN (by k_dflt k_mem)) ((kN (D, lst (l.map pval) e) (by k_mem)).2.1) (by rw [List.length_map]; walk_at "lia") kF kN ⟨rfl, .nil⟩ (turn_list ?_) (finF ?_)
    · clear kF kN hret
      intro wr i' ys m₅ C oC D' own h tk E' v hi' hyl hv hma hoC hys off hwo F3 N3
      refine wpAny_tests_nil ?_
      k_steps
      obtain ⟨p, hp, hpl, htk⟩ := pval_in hv
      have hpp := J.out.sub p hpl
      have hpo := hin.out p hpp
      refine pair_name F3 BB YB X₁ N3 T₁ (by rfl) (by walk_at "side") (by walk_at "side") (.tail _ (.tail _ (List.mem_append_left _ (mem_skip 4 (hpo _ (.head _)))))) (.tail _ (.tail _ (List.mem_append_left _ (mem_skip 4 (hpo _ (.tail _ (.head _))))))) ?_
      intro h4 tk4 F4 N4
      exact ⟨h4, tk4, _, rfl, F4, N4, off, rfl, str_snoc hys htk (hw.out p hpp).1⟩
    intro D1 h2 tk2 ys1 hyl F3 N3 off1 hys1
    rw [List.length_map, List.take_length] at hys1
    clear kF kN
    k_steps
    refine Stop.go ?_
    have h5a : ∀ k ∈ l.map fa, k < 5 := map_lt5 fun p hp => (hw.out p (J.out.sub p hp)).2.1
    have h5b : ∀ k ∈ l.map fb, k < 5 := map_lt5 fun p hp => (hw.out p (J.out.sub p hp)).2.2.2
    rw [List.length_map] at hyl
    refine w_sorted F3 N3 (News.isList N3 (by k_mem)) (strs_map hys1) h5a (by walk_at "lia") ?_
    intro q1 h3 vs1 ks eq1 F4 N4 lt1 hvs1 hk1 hk2 hk3
    have hks : ks.length = l.length := by rw [hk1.length_eq, List.length_map]
    have hvl1 := hvs1.length
    rw [List.length_map] at hvl1
    replace hvs1 := Hide.mk hvs1
    replace hk1 := Hide.mk hk1
    replace hk2 := Hide.mk hk2
    replace hk3 := Hide.mk hk3
    replace h5a := Hide.mk h5a
    replace h5b := Hide.mk h5b
    replace lt1 := Hide.mk lt1
    clear hys1 off1 F3 N3 hyl
    k_steps
    refine Stop.go ?_
    refine ListComp_at (by with_unfolding_all rfl) (by rfl) (by decide) ?_
    k_steps
    refine Stop.go ?_
    (with_reducible rename Fr _ _ _ _ => kF); (with_reducible rename News _ _ _ _ => kN)
    refine comp_list (vs := l.map pval) (fun i ys n₁ => n₁ = (q1, lst vs1 eq1) :: (D1, lst ys1 ys1.length) :: (L' + 1, o) :: (D, lst (l.map pval) e) :: (I, oI) :: (pl, lst (prs.map pval) e0) :: rest ∧ StrsAre ys ((l.take i).map fun p => wd (fb p))) rfl (News.isList kN (by k_dflt k_mem)) ((kN (D, lst (l.map pval) e) (by k_mem)).2.1) (by rw [List.length_map]; walk_at "lia") kF kN ⟨rfl, .nil⟩ (turn_list ?_) (finF ?_)
    · clear kF kN hret
      intro wr i' ys m₅ C oC D' own h tk E' v hi' hyl hv hma hoC hys off hwo F3 N3
      refine wpAny_tests_nil ?_
      k_steps
      obtain ⟨p, hp, hpl, htk⟩ := pval_in hv
      have hpp := J.out.sub p hpl
      have hpo := hin.out p hpp
      refine pair_value F3 BB YB X₁ N3 T₁ (by rfl) (by walk_at "side") (by walk_at "side") (.tail _ (.tail _ (List.mem_append_left _ (mem_skip 6 (hpo _ (.head _)))))) (.tail _ (.tail _ (List.mem_append_left _ (mem_skip 6 (hpo _ (.tail _ (.head _))))))) ?_
      intro h4 tk4 F4 N4
      exact ⟨h4, tk4, _, rfl, F4, N4, off, rfl, str_snoc hys htk (hw.out p hpp).2.2.1⟩
    intro D2 h4 tk4 ys2 hyl F5 N5 off2 hys2
    rw [List.length_map, List.take_length] at hys2
    rw [List.length_map] at hyl
    clear kF kN
    k_steps
    refine Stop.go ?_
    refine w_sorted F5 N5 (News.isList N5 (by k_mem)) (strs_map hys2) h5b.out (by walk_at "lia") ?_
    intro q2 h5 vs2 js eq2 F6 N6 lt2 hvs2 hj1 hj2 hj3
    have hjs : js.length = l.length := by rw [hj1.length_eq, List.length_map]
    have hvl2 := hvs2.length
    rw [List.length_map] at hvl2
    replace hvs2 := Hide.mk hvs2
    replace hj1 := Hide.mk hj1
    replace hj2 := Hide.mk hj2
    replace hj3 := Hide.mk hj3
    replace lt2 := Hide.mk lt2
    clear hys2 off2 F5 N5 hyl
    k_steps
    refine Stop.go ?_
    (with_reducible rename Fr _ _ _ _ => kF); (with_reducible rename News _ _ _ _ => kN)
    refine Calls.use (alone_t (ks := ks) (js := js) (e1 := eq1) (e2 := eq2) (news := (L' + 1, o) :: (D, lst (l.map pval) e) :: (I, oI) :: (pl, lst (prs.map pval) e0) :: rest) hvs1.out hvs2.out hk3.out hj3.out ⟨by walk_at "lia", by walk_at "lia"⟩) kF BB YB X₁ (fun p hp => kN p (by
      rcases List.mem_cons.mp hp with rfl | hp
      · exact .tail _ (.tail _ (.head _))
      rcases List.mem_cons.mp hp with rfl | hp
      · exact .head _
      · exact .tail _ (.tail _ (.tail _ (.tail _ hp))))) T₁ (by rfl) (by walk_at "side") (by walk_at "side") ?_
    rintro r led h6 tk6 ⟨a1, zs1, ez1, hzs1, offa⟩ F7 N7
    clear kF kN
    replace hzs1 := Hide.mk hzs1
    replace offa := Hide.mk offa
    k_steps
    refine Stop.go ?_
    (with_reducible rename Fr _ _ _ _ => kF); (with_reducible rename News _ _ _ _ => kN)
    refine Calls.use (alone_t (ks := js) (js := ks) (e1 := eq2) (e2 := eq1) (news := (a1, lst zs1 ez1) :: (L' + 1, o) :: (D, lst (l.map pval) e) :: (I, oI) :: (pl, lst (prs.map pval) e0) :: rest) hvs2.out hvs1.out hj3.out hk3.out ⟨by walk_at "lia", by walk_at "lia"⟩) kF BB YB X₁ (fun p hp => kN p (by
      rcases List.mem_cons.mp hp with rfl | hp
      · exact .tail _ (.tail _ (.head _))
      rcases List.mem_cons.mp hp with rfl | hp
      · exact .tail _ (.head _)
      rcases List.mem_cons.mp hp with rfl | hp
      · exact .head _
      · exact .tail _ (.tail _ (.tail _ hp)))) T₁ (by rfl) (by walk_at "side") (by walk_at "side") ?_
    rintro r led h7 tk7 ⟨a2, zs2, ez2, hzs2, offb⟩ F8 N8
    clear kF kN
    replace hzs2 := Hide.mk hzs2
    replace offb := Hide.mk offb
    k_steps
    refine Stop.go ?_
    (with_reducible rename Fr _ _ _ _ => kF); (with_reducible rename News _ _ _ _ => kN)
    rename_i dU _ l1u _
    have n1 : @LT.lt Nat _ (L' + 1) q1 := lt1.out (L' + 1, o) (by k_mem)
    have n2 : @LT.lt Nat _ (L' + 1) q2 := lt2.out (L' + 1, o) (by k_mem)
    have n6 : @LT.lt Nat _ (L' + 1) dU := l1u.2.2.2.2.1
    have n3 : L' + 1 ≠ a1 := offa.out (L' + 1, o) (by k_mem)
    have n4 : L' + 1 ≠ a2 := offb.out (L' + 1, o) (by k_mem)
    refine CallsT.use (sld_t (n := ks.length + js.length) (es := ks.map wd) (as := js.map wd) (e1 := eq1) (e2 := eq2) (news := (dU, { cls := .type "tuple", data := .seq #[.ref a1, .ref a2] }) :: (a2, lst zs2 ez2) :: (a1, lst zs1 ez1) :: (L' + 1, o) :: (D, lst (l.map pval) e) :: (I, oI) :: (pl, lst (prs.map pval) e0) :: rest) hvs1.out hvs2.out ⟨by walk_at "lia", by walk_at "lia"⟩ (by rw [List.length_map, List.length_map]; exact Nat.le_refl _)) kF BB XB TB (fun p hp => kN p (by
      rcases List.mem_cons.mp hp with rfl | hp
      · exact .tail _ (.tail _ (.tail _ (.head _)))
      rcases List.mem_cons.mp hp with rfl | hp
      · exact .tail _ (.tail _ (.head _))
      rcases List.mem_cons.mp hp with rfl | hp
      · exact .head _
      rcases List.mem_cons.mp hp with rfl | hp
      · exact .tail _ (.head _)
      · exact .tail _ (.tail _ (.tail _ (.tail _ hp))))) (by rfl) (by walk_at "side") (by walk_at "side") ?_
    rintro r led h8 tk8 g₂ ⟨tt, ml, ul, xs, ys, c1, c2, hxs, hys, hmu, hut, hml⟩ T2 B2 F9 N9
    have n7 : @LT.lt Nat _ ml ul := hmu
    have n8 : @LT.lt Nat _ ul tt := hut
    rw [sld_alone hk3.out hj3.out (Nat.le_refl _) hk2.out hj2.out] at hxs hys
    have n5 : @LT.lt Nat _ (L' + 1) ml := hml (L' + 1, o) (by k_mem)
    have hTT := TT.trans T2
    have X₂ : (mkk.heap_1 w.params).In g₂ := XB.keeps B2.stays
    have T₂ := TB.keeps B2.stays
    clear kF kN X₁ T₁ TT T2 BB
    replace hxs := Hide.mk hxs
    replace hys := Hide.mk hys
    replace hml := Hide.mk hml
    k_steps
    refine Stop.go ?_
    obtain ⟨cv, hcv⟩ := J.out.cell
    refine st_cell (fun o => (tt, { cls := .type "tuple", data := .seq #[.ref ml, .ref ul] }) :: (ul, lst ys c2) :: (ml, lst xs c1) :: (q1, lst vs1 eq1) :: (q2, lst vs2 eq2) :: (dU, { cls := .type "tuple", data := .seq #[.ref a1, .ref a2] }) :: (a2, lst zs2 ez2) :: (a1, lst zs1 ez1) :: (L' + 1, o) :: (D, lst (l.map pval) e) :: (I, oI) :: (pl, lst (prs.map pval) e0) :: rest) F9 N9 (by k_mem) hcv
      (fun o' => .cons (by show @Ne Nat _ _; walk_at "lia") (.cons (by show @Ne Nat _ _; walk_at "lia") (.cons (by show @Ne Nat _ _; walk_at "lia") (.cons (by show @Ne Nat _ _; walk_at "lia") (.cons (by show @Ne Nat _ _; walk_at "lia") (.cons (by show @Ne Nat _ _; walk_at "lia") (.cons (Ne.symm n4) (.cons (Ne.symm n3) (.here hoffI.out)))))))))  ?_
    intro h9 o2 F10 N10 ho2
    clear F9 N9
    k_steps
    refine Stop.go ?_
    refine w_ne2 (ks := alone ks js) (js := alone js ks) (ks' := alone ks js) (js' := alone js ks) (N10.get (by k_mem)) (News.isList N10 (by k_mem)) hxs.out (News.isList N10 (by k_mem)) hys.out (N10.get (by k_mem)) (News.isList N10 (by k_mem)) hzs1.out (News.isList N10 (by k_mem)) hzs2.out
      (alone_lt hk3.out) (alone_lt hj3.out) (alone_lt hk3.out) (alone_lt hj3.out) (by walk_at "side") ?_
    rw [show decide (alone ks js = alone ks js ∧ alone js ks = alone js ks) = true from decide_eq_true ⟨rfl, rfl⟩]
    k_steps
    · exfalso
      rename_i hne
      rw [List.size_toArray, List.size_toArray, List.size_toArray, List.length_map] at hne
      walk_at "lia"
    refine Stop.go ?_
    (with_reducible rename Fr _ _ _ _ => kF); (with_reducible rename News _ _ _ _ => kN)
    rename_i E1 _ _ _ _ E2 _ _ l6 DE _ l7 _
    refine w_eq2 (ks := alone ks js) (js := alone js ks) (ks' := []) (js' := []) (vs' := []) (us' := []) (kN.get (.tail _ (.tail _ (.tail _ (.head _))))) (News.isList kN (by k_mem)) hxs.out (News.isList kN (by k_mem)) hys.out (kN.get (.head _)) (News.isList kN (.tail _ (.tail _ (.head _)))) .nil (News.isList kN (.tail _ (.head _))) .nil
      (alone_lt hk3.out) (alone_lt hj3.out) (fun _ h => nomatch h) (fun _ h => nomatch h) (by walk_at "side") ?_
    by_cases hnil : alone ks js = [] ∧ alone js ks = []
    · rw [decide_eq_true hnil]
      k_steps
      have h5 : ∀ p ∈ prs, fa p < 5 ∧ fb p < 5 := fun p hp => ⟨(hw.out p hp).2.1, (hw.out p hp).2.2.2⟩
      have hend := peel_end h5 hM.out hg.out J.out.sub J.out.keeps ((told_nil (fun x => hk1.out.mem_iff) (fun x => hj1.out.mem_iff)).mp hnil)
      dsimp only [TurnPost]
      refine ⟨g₂, L', _, (D, lst (l.map pval) e) :: (pl, lst (prs.map pval) e0) :: rest, hTT, kF, fun p hp => kN p (mem_skip 12 (mem_in hp)), fun h₀' T₀ B₀ F₀ N₀ => ?_⟩
      obtain ⟨F₀, N₀⟩ := same_ground T₀ F₀ N₀
      exact hret _ _ _ _ (by rw [← hend]; exact ⟨D, e⟩) F₀ N₀
    · rw [decide_eq_false hnil]
      k_steps
      refine Stop.go ?_
      refine Assign_at (by with_unfolding_all rfl) (by with_unfolding_all rfl) (by rfl) (by decide) ?_
      k_steps
      refine Stop.go ?_
      have kN' : News g₂ L' l7 ((tt, { cls := .type "tuple", data := .seq #[.ref ml, .ref ul] }) :: (ul, lst ys c2) :: (ml, lst xs c1) :: (L' + 1, o2) :: (D, lst (l.map pval) e) :: (I, oI) :: (pl, lst (prs.map pval) e0) :: rest) := fun p hp => by
        rcases List.mem_cons.mp hp with rfl | hp
        · exact kN _ (mem_skip 3 (.head _))
        rcases List.mem_cons.mp hp with rfl | hp
        · exact kN _ (mem_skip 4 (.head _))
        rcases List.mem_cons.mp hp with rfl | hp
        · exact kN _ (mem_skip 5 (.head _))
        · exact kN p (mem_skip 11 hp)
      refine comp_list (vs := l.map pval) (fun i ys' n₁ => n₁ = (tt, { cls := .type "tuple", data := .seq #[.ref ml, .ref ul] }) :: (ul, lst ys c2) :: (ml, lst xs c1) :: (L' + 1, o2) :: (D, lst (l.map pval) e) :: (I, oI) :: (pl, lst (prs.map pval) e0) :: rest ∧ ys' = ((l.take i).filter (stays ks js)).map pval) rfl (News.isList kN' (by k_dflt k_mem)) ((kN' (D, lst (l.map pval) e) (by k_mem)).2.1) (by rw [List.length_map]; walk_at "lia") kF kN' ⟨rfl, rfl⟩ (turn_list ?_) (finVF rfl (by rfl) (by rfl) ?_)
      · clear kF kN hret
        intro wr i' ys' m₅ C oC D' own h tk E' v hi' hyl hv hma hoC hys' off hwo F3 N3
        obtain ⟨p, hp, hpl, htk⟩ := pval_in hv
        have hpp := J.out.sub p hpl
        have hpo := hin.out p hpp
        have hwp := hw.out p hpp
        refine wpAny_tests_one (cut_eq F3 N3 (stays ks js p) (fun Q' hQ' => ?_) ?_)
        · k_steps
          refine Stop.go ?_
          refine pair_name F3 B2 YB X₂ N3 T₂ (by rfl) (by walk_at "side") (by walk_at "side") (.tail _ (.tail _ (List.mem_append_left _ (mem_skip 7 (hpo _ (.head _)))))) (.tail _ (.tail _ (List.mem_append_left _ (mem_skip 7 (hpo _ (.tail _ (.head _))))))) ?_
          intro h4 tk4 F4 N4
          rw [hwp.1]
          k_steps
          refine Stop.go ?_
          (with_reducible rename Fr _ _ _ _ => kF); (with_reducible rename News _ _ _ _ => kN)
          refine w_notin (ks := alone ks js) (News.isList kN (by k_dflt k_mem)) hxs.out (alone_lt hk3.out) hwp.2.1 (by walk_at "side") ?_
          cases hd1 : decide (fa p ∈ alone ks js) with
          | true =>
            simp only [Bool.not_true]
            k_steps
            (with_reducible rename News _ _ _ _ => kN)
            exact hQ' _ _ _ (by simp only [stays, hd1]; rfl) (by k_asm) kN
          | false =>
            simp only [Bool.not_false]
            k_steps
            refine Stop.go ?_
            refine pair_value kF B2 YB X₂ kN T₂ (by rfl) (by walk_at "side") (by walk_at "side") (.tail _ (.tail _ (List.mem_append_left _ (mem_skip 7 (hpo _ (.head _)))))) (.tail _ (.tail _ (List.mem_append_left _ (mem_skip 7 (hpo _ (.tail _ (.head _))))))) ?_
            clear kF kN
            intro h5 tk5 F5 N5
            rw [hwp.2.2.1]
            k_steps
            refine Stop.go ?_
            (with_reducible rename Fr _ _ _ _ => kF); (with_reducible rename News _ _ _ _ => kN)
            refine w_notin (ks := alone js ks) (News.isList kN (by k_dflt k_mem)) hys.out (alone_lt hj3.out) hwp.2.2.2 (by walk_at "side") ?_
            cases hd2 : decide (fb p ∈ alone js ks) with
            | true =>
              simp only [Bool.not_true]
              k_steps
              (with_reducible rename News _ _ _ _ => kN)
              exact hQ' _ _ _ (by simp only [stays, hd1, hd2]; rfl) (by k_asm) kN
            | false =>
              simp only [Bool.not_false]
              k_steps
              (with_reducible rename News _ _ _ _ => kN)
              exact hQ' _ _ _ (by simp only [stays, hd1, hd2]; rfl) (by k_asm) kN
        · intro h' tk' F4 N4
          cases hok : stays ks js p with
          | true =>
            simp only [if_true]
            k_steps
            exact ⟨h', tk', _, rfl, F4, N4, off, rfl, by rw [htk, List.filter_append, List.map_append, hys']; simp [hok, pval]⟩
          | false =>
            simp only [Bool.false_eq_true, if_false]
            exact ⟨h', tk', _, rfl, F4, N4, off, rfl, by rw [htk, List.filter_append, List.map_append, hys']; simp [hok]⟩
      · intro D3 h3 tk3 ys3 hyl F3 N3 off3 hys3
        rw [List.length_map, List.take_length] at hys3
        have hst : l.filter (stays ks js) = peel fa fb l := told_peel (fun x => hk1.out.mem_iff) (fun x => hj1.out.mem_iff)
        rw [hst] at hys3
        have h5 : ∀ p ∈ prs, fa p < 5 ∧ fb p < 5 := fun p hp => ⟨(hw.out p hp).2.1, (hw.out p hp).2.2.2⟩
        have hkp := peel_keeps h5 hM.out hg.out J.out.sub J.out.keeps
        have hsh : (peel fa fb l).length < l.length := by
          rw [← hst]
          refine filter_short fun q => hnil ((told_nil (fun x => hk1.out.mem_iff) (fun x => hj1.out.mem_iff)).mpr ?_)
          rw [← hst]; exact q
        obtain ⟨sl', F4, N4, hne4⟩ := turned_hide (rest := (L' + 1, o2) :: (D3, lst ys3 ys3.length) :: (I, oI) :: (pl, lst (prs.map pval) e0) :: rest) hTT F3 (fun p hp => by
          rcases List.mem_cons.mp hp with rfl | hp
          · exact N3 _ (mem_skip 4 (.head _))
          rcases List.mem_cons.mp hp with rfl | hp
          · exact N3 _ (.head _)
          · exact N3 p (mem_skip 6 hp)) hL
        refine wpAny_execs_nil ?_
        dsimp only [TurnPost]
        refine ⟨_, _, _, (L, { oL with slots := sl' }) :: (L' + 1, o2) :: (D3, lst ys3 ys3.length) :: (pl, lst (prs.map pval) e0) :: rest, rfl, F4, ?_, ?_, peel fa fb l, D3, ys3.length, o2, sl', if_pos rfl, ?_, ⟨_, ho2⟩, ?_, ?_, hkp.1, hkp.2, ?_⟩
        · intro p hp
          rcases List.mem_cons.mp hp with rfl | hp
          · exact N4 _ (mem_skip 3 (.head _))
          rcases List.mem_cons.mp hp with rfl | hp
          · exact N4 _ (.head _)
          rcases List.mem_cons.mp hp with rfl | hp
          · exact N4 _ (.tail _ (.head _))
          rcases List.mem_cons.mp hp with rfl | hp
          · exact N4 _ (.tail _ (.tail _ (.head _)))
          · exact N4 p (mem_skip 4 hp)
        · intro p hp
          rcases List.mem_cons.mp hp with rfl | hp
          · exact hI (L, { oL with slots := sl }) (.head _)
          rcases List.mem_cons.mp hp with rfl | hp
          · exact hI (L' + 1, o) (.tail _ (.head _))
          rcases List.mem_cons.mp hp with rfl | hp
          · exact (off3 (I, oI) (mem_skip 5 (.head _))).symm
          · exact hI p (mem_skip 3 hp)
        · rw [hys3]
        · intro p hp
          rcases List.mem_cons.mp hp with rfl | hp
          · exact hne4 _ (.head _)
          rcases List.mem_cons.mp hp with rfl | hp
          · exact hne4 (D3, lst ys3 ys3.length) (.tail _ (.head _))
          · exact hne4 p (mem_skip 3 hp)
        · refine .cons (off3 (L' + 1, o2) (mem_skip 3 (.head _))).symm fun p hp => hoffI.out p (mem_skip 2 hp)
        · have := J.out.short; walk_at "lia"
  · rintro m₁ n₁ h tk ⟨l, D, e, o, sl, J⟩ F₁ N₁
    exfalso
    have := J.short
    walk_at "lia"
end
end
section
section
variable {prog : Program} {w : World} {A : Around} {E : Value → Shared → Prop} {s : Shared} {h₀ : Heap} {L : Addr} {m : Str → Option Value} {env : Env}
/-- a comprehension over a list of pairs -/
theorem comp_pairs {elt iter : PySem.Expr} {ifs : List PySem.Expr} {scope : Scope} {cl : List (Str × Addr)} {pos px px₂ tp : Pos} {tk : Nat} {x x₂ : Str} {use : Option (Value → Sem Unit)} {Q : Value → Shared → Prop} {ax : Addr} {vs : List Value} {Ts : Nat → Addr} {va vb : Nat → Value} {news : List (Addr × Obj)} (J : Nat → List Value → List (Addr × Obj) → Prop)
    (hh : A.handled = none) (hl : s.heap.IsList ax vs.toArray) (haL : ax ≠ L) (hit : ∀ j, j < vs.length → vs[j]? = some (.ref (Ts j)) ∧ s.heap.IsTuple (Ts j) #[va j, vb j] ∧ Ts j ≠ L) (hsz : vs.length ≤ 100000) (F : Fr h₀ L s.heap m) (N : News h₀ L s.heap news) (hJ : J 0 [] news)
    (turn : CTurn prog w A h₀ L m env elt ifs scope cl (fun i m₅ => ∃ a b, (a = va i ∧ b = vb i) ∧ m₅ x = some a ∧ m₅ x₂ = some b) J vs.length s)
    (fin : CFin prog w A E h₀ L m use Q J vs.length s)
    (hcell : ∀ y ∈ scope.names, y.2 ≠ .cell := by decide) (hkind : scope.kind = .function := by rfl) (hx : scope.names.lookup x = some .local := by rfl) (hx₂ : scope.names.lookup x₂ = some .local := by rfl) (hxx : x ≠ x₂ := by decide) :
    wpAny (model prog w) A (pyIter (.ref ax)) (CompAt prog w A E env elt (.Tuple [.Name x px, .Name x₂ px₂] tk tp) iter ifs scope cl pos use Q) E s := by
  obtain ⟨ol, hol, _⟩ := id hl
  have hlt : ax < s.heap.objs.size := Heap.lt_size hol
  have hTs : ∀ j, j < vs.length → Ts j < s.heap.objs.size := fun j hj => by
    obtain ⟨_, ⟨o, ho, _⟩, _⟩ := hit j hj
    exact Heap.lt_size ho
  refine wpAny_pyIter_list hl ?_
  have up : ∀ b o, s.heap.get? b = some o → (s.heap.push { cls := .type "list_iterator", data := .fields #[.ref ax, .int 0 0] }).get? b = some o := fun b o e => Heap.get?_push_of_some _ e
  have hsz' : vs.toArray.size = vs.length := by simp
  have W := WalksU.listOfTuples (prog := prog) (w := w) hh s.heap.objs.size ax (Nat.ne_of_lt hlt) vs.toArray Ts (fun j => #[va j, vb j]) (fun j hj => by simpa using (hit j (hsz' ▸ hj)).1) (fun j hj => Nat.ne_of_lt (hTs j (hsz' ▸ hj)))
  rw [hsz'] at W
  refine comp_block (s₂ := { s with heap := s.heap.push _ }) (KTurns.ofWalksU W) (fun i m₅ => ∃ a b, (a = va i ∧ b = vb i) ∧ m₅ x = some a ∧ m₅ x₂ = some b) J (fun s Q E st q => wpAny_pyIter_listiter st.1 q) (fun i h st b hb => by rw [List.mem_singleton.mp hb]; obtain ⟨o, e, _⟩ := st.1; exact ⟨o, e⟩) (by rw [sizeLine_eq]; omega) hcell hkind
    ⟨⟨_, Heap.get?_push_size _ rfl, rfl, rfl⟩, hl.at fun o e => up _ o e, fun k hk => (hit k hk).2.1.at fun o e => up _ o e⟩ (fun b hb => ?_) (F.keeps up) (N.grown up) ?_ (fun b hb => ?_) (fun p hp hI => ?_) hJ
    (sets_pair (T := fun i a b => a = va i ∧ b = vb i) hh hkind hx hx₂ hxx (by
      rintro i vals _ rfl
      exact ⟨_, _, rfl, rfl, rfl⟩)) (turn [s.heap.objs.size]) fin
  · show b < (s.heap.push _).objs.size
    rw [Heap.size_push]
    rcases List.mem_cons.mp hb with rfl | hb
    · exact Nat.lt_succ_self _
    rcases List.mem_cons.mp hb with rfl | hb
    · exact Nat.lt_succ_of_lt hlt
    · obtain ⟨j, hj, rfl⟩ := List.mem_map.mp hb
      exact Nat.lt_succ_of_lt (hTs j (List.mem_range.mp hj))
  · intro hm
    rcases List.mem_cons.mp hm with e | hm
    · exact absurd F.ns.lt (e ▸ Nat.lt_irrefl _)
    rcases List.mem_cons.mp hm with e | hm
    · exact haL e.symm
    · obtain ⟨j, hj, e⟩ := List.mem_map.mp hm
      exact (hit j (List.mem_range.mp hj)).2.2 e
  · rw [List.mem_singleton.mp hb]; exact next_is_new F
  · exact absurd (Heap.lt_size (N p hp).1) ((List.mem_singleton.mp hI) ▸ Nat.lt_irrefl _)
end
/-- what sorted_list_difference gave: a tuple of two lists -/
structure TRec where
  t : Addr
  a : Addr
  b : Addr
  xs : List Value
  ys : List Value
  c : Nat
  d : Nat
noncomputable def tobjs (r : TRec) : List (Addr × Obj) := [(r.t, { cls := .type "tuple", data := .seq #[.ref r.a, .ref r.b] }), (r.b, lst r.ys r.d), (r.a, lst r.xs r.c)]
noncomputable def TIs (r : TRec) (q : List Str × List Str) : Prop := StrsAre r.xs q.1 ∧ StrsAre r.ys q.2
inductive WrJ (base : List (Addr × Obj)) (qs : List (List Str × List Str)) (i : Nat) (ys : List Value) (n₁ : List (Addr × Obj)) : Prop where
  | mk : ∀ rs : List TRec, (ys = rs.map (fun r => .ref r.t)) → (n₁ = rs.flatMap tobjs ++ base) → (All2 TIs rs (qs.take i)) → WrJ base qs i ys n₁
theorem wr_end {h₀ h h' : Heap} {L C D : Addr} {m : Str → Option Value} {wr : List Addr} {own n₁ base : List (Addr × Obj)} {oC : Obj} {ys : List Value} {qs : List (List Str × List Str)} {i tk tk' : Nat} {q : List Str × List Str} {r : TRec} {s : Shared}
    (F : Fr h₀ L h' m) (N : News h₀ L h' (tobjs r ++ (C, oC) :: (D, lst ys ys.length) :: (n₁ ++ own))) (lt : ∀ p ∈ (C, oC) :: (D, lst ys ys.length) :: (n₁ ++ own), p.1 < r.a) (hab : r.a < r.b) (hbt : r.b < r.t)
    (off : ∀ p ∈ n₁, p.1 ∉ wr ∧ p.1 ≠ C ∧ p.1 ≠ D) (hwo : ∀ b ∈ wr, ∃ o, (b, o) ∈ own) (hJ : WrJ base qs i ys n₁) (hq : qs[i]? = some q) (hr : TIs r q) :
    CEnd h₀ L m wr own C oC D (lst ys ys.length) (WrJ base qs (i + 1) (ys ++ [.ref r.t])) { s with heap := h, toks := tk } { s with heap := h', toks := tk' } := by
  obtain ⟨rs, hys, rfl, ha⟩ := hJ
  have hn : ∀ a, r.a ≤ a → a ∉ wr ∧ a ≠ C ∧ a ≠ D := fun a hle => by
    refine ⟨fun hm => ?_, fun e => ?_, fun e => ?_⟩
    · obtain ⟨o, ho⟩ := hwo a hm
      exact absurd (lt (a, o) (.tail _ (.tail _ (List.mem_append_right _ ho)))) (Nat.not_lt.mpr hle)
    · exact absurd (lt (C, oC) (.head _)) (Nat.not_lt.mpr (e ▸ hle))
    · exact absurd (lt (D, _) (.tail _ (.head _))) (Nat.not_lt.mpr (e ▸ hle))
  have ho : ∀ p ∈ tobjs r, p.1 ∉ wr ∧ p.1 ≠ C ∧ p.1 ≠ D := fun p hp => by
    simp only [tobjs, List.mem_cons, List.not_mem_nil, or_false] at hp
    rcases hp with rfl | rfl | rfl
    · exact hn _ (Nat.le_of_lt (Nat.lt_trans hab hbt))
    · exact hn _ (Nat.le_of_lt hab)
    · exact hn _ (Nat.le_refl _)
  refine ⟨h', tk', (rs ++ [r]).flatMap tobjs ++ base, rfl, F, fun p hp => N p ?_, fun p hp => ?_, rs ++ [r], ?_, rfl, ?_⟩
  · simp only [List.flatMap_append, List.flatMap_cons, List.flatMap_nil, List.append_nil, List.mem_cons, List.mem_append] at hp ⊢
    rcases hp with hp | hp | ((hp | hp) | hp) | hp <;> simp [hp]
  · simp only [List.flatMap_append, List.flatMap_cons, List.flatMap_nil, List.append_nil, List.mem_append] at hp
    rcases hp with (hp | hp) | hp
    · exact off p (List.mem_append_left _ hp)
    · exact ho p hp
    · exact off p (List.mem_append_right _ hp)
  · rw [hys, List.map_append]; rfl
  · rw [List.take_add_one, hq]
    exact ha.snoc hr
noncomputable def wqs : List (List Str × List Str) := [([], [Str.ofString "a"]), ([Str.ofString "a"], [Str.ofString "a", Str.ofString "a"]), ([Str.ofString "a", Str.ofString "b"], [Str.ofString "a"])]
noncomputable abbrev tupO (a b : Addr) : Obj := { cls := .type "tuple", data := .seq #[.ref a, .ref b] }
theorem written_base {P : Prop} {gh h : Heap} {L0 l0 l1 l2 l3 l4 l5 l6 D0 D1 D2 : Addr} {t1 t2 t3 t4 t5 t6 t7 : Tok} {rest : List (Addr × Obj)}
    (N : News gh L0 h ((l0, lst [.ref D2, .ref D1, .ref D0] 0) :: (D0, tupO l2 l1) :: (l1, lst [.str (Str.ofString "a") t1] 0) :: (l2, lst [.str (Str.ofString "a") t2, .str (Str.ofString "b") t3] 0) :: (D1, tupO l4 l3) ::
      (l3, lst [.str (Str.ofString "a") t4, .str (Str.ofString "a") t5] 0) :: (l4, lst [.str (Str.ofString "a") t6] 0) :: (D2, tupO l6 l5) :: (l5, lst [.str (Str.ofString "a") t7] 0) :: (l6, lst [] 0) :: rest))
    (k : ∀ (Ts va vb : Nat → Addr) (V U : Nat → List Value) (base : List (Addr × Obj)), News gh L0 h base → (∀ p ∈ rest, p ∈ base) → (∀ j, j < 3 → ([.ref D2, .ref D1, .ref D0] : List Value)[j]? = some (.ref (Ts j)) ∧ h.IsTuple (Ts j) #[.ref (va j), .ref (vb j)] ∧ Ts j ≠ L0) →
      (∀ j q, wqs[j]? = some q → (va j, lst (V j) 0) ∈ base ∧ (vb j, lst (U j) 0) ∈ base ∧ StrsAre (V j) q.1 ∧ StrsAre (U j) q.2 ∧ (V j).length ≤ 100 ∧ (U j).length ≤ 100) → (∀ p ∈ base, p ∈ (l0, lst [.ref D2, .ref D1, .ref D0] 0) :: (D0, tupO l2 l1) :: (l1, lst [.str (Str.ofString "a") t1] 0) :: (l2, lst [.str (Str.ofString "a") t2, .str (Str.ofString "b") t3] 0) :: (D1, tupO l4 l3) ::
      (l3, lst [.str (Str.ofString "a") t4, .str (Str.ofString "a") t5] 0) :: (l4, lst [.str (Str.ofString "a") t6] 0) :: (D2, tupO l6 l5) :: (l5, lst [.str (Str.ofString "a") t7] 0) :: (l6, lst [] 0) :: rest) → P) : P := by
  refine k (fun j => match j with | 0 => D2 | 1 => D1 | _ => D0) (fun j => match j with | 0 => l6 | 1 => l4 | _ => l2) (fun j => match j with | 0 => l5 | 1 => l3 | _ => l1)
    (fun j => match j with | 0 => [] | 1 => [.str (Str.ofString "a") t6] | _ => [.str (Str.ofString "a") t2, .str (Str.ofString "b") t3]) (fun j => match j with | 0 => [.str (Str.ofString "a") t7] | 1 => [.str (Str.ofString "a") t4, .str (Str.ofString "a") t5] | _ => [.str (Str.ofString "a") t1])
    _ N (fun p hp => .tail _ (.tail _ (.tail _ (.tail _ (.tail _ (.tail _ (.tail _ (.tail _ (.tail _ (.tail _ hp)))))))))) (fun j hj => ?_) (fun j q hq => ?_) (fun p hp => hp)
  · have hD : ∀ {T : Addr} {x y : Addr}, (T, tupO x y) ∈ (l0, lst [.ref D2, .ref D1, .ref D0] 0) :: (D0, tupO l2 l1) :: (l1, lst [.str (Str.ofString "a") t1] 0) :: (l2, lst [.str (Str.ofString "a") t2, .str (Str.ofString "b") t3] 0) :: (D1, tupO l4 l3) ::
      (l3, lst [.str (Str.ofString "a") t4, .str (Str.ofString "a") t5] 0) :: (l4, lst [.str (Str.ofString "a") t6] 0) :: (D2, tupO l6 l5) :: (l5, lst [.str (Str.ofString "a") t7] 0) :: (l6, lst [] 0) :: rest → h.IsTuple T #[.ref x, .ref y] ∧ T ≠ L0 := fun hm => ⟨⟨_, (N _ hm).1, rfl, _, rfl⟩, (N _ hm).2.1⟩
    match j, hj with
    | 0, _ => exact ⟨rfl, hD (by k_mem)⟩
    | 1, _ => exact ⟨rfl, hD (by k_mem)⟩
    | 2, _ => exact ⟨rfl, hD (by k_mem)⟩
  · match j, hq with
    | 0, hq => cases hq; exact ⟨by k_mem, by k_mem, .nil, .cons _ _ .nil, by simp, by simp⟩
    | 1, hq => cases hq; exact ⟨by k_mem, by k_mem, .cons _ _ .nil, .cons _ _ (.cons _ _ .nil), by simp, by simp⟩
    | 2, hq => cases hq; exact ⟨by k_mem, by k_mem, .cons _ _ (.cons _ _ .nil), .cons _ _ .nil, by simp, by simp⟩
/-- a global name in a comprehension -/
theorem name_comp {M : Model} {A : Around} {E : Value → Shared → Prop} {s : Shared} {K : Frag} {h₀ : Heap} {L C : Addr} {m mg mb : Str → Option Value} {scope : Scope} {cl : List (Str × Addr)} {env : Env} {p : Program} {loose : List Str} {x : Str} {pos : Pos} {v : Value} {Q : Value → Shared → Prop}
    (F : Fr h₀ L s.heap m) (X : K.In h₀) (T : TopRead p loose mg mb h₀) (e : nsIn K mainGlobals x = some (some v)) (hg : env.globals = mainGlobals) (hk : scope.kind = .function) (hx : (compEnvC scope cl C env).kindOf x = some .globalImplicit) (h : Q v s)
    (hd : (x == ("__debug__" : Str)) = false := by decide) :
    wpAny M A (PySem.eval (.Name x pos) (compEnvC scope cl C env)) Q E s :=
  Name_function_global (env := compEnvC scope cl C env) hk hx (loadGlobal_global (env := compEnvC scope cl C env) (hg ▸ T.g.keeps F.keep) (mg_of X T.g e) h) hd
theorem news_pre {g h : Heap} {L : Addr} {a b : Addr × Obj} {l : List (Addr × Obj)} (N : News g L h l) (ha : a ∈ l) (hb : b ∈ l) : News g L h (a :: b :: l) := fun p hp => by
  rcases List.mem_cons.mp hp with rfl | hp
  · exact N _ ha
  rcases List.mem_cons.mp hp with rfl | hp
  · exact N _ hb
  · exact N p hp
theorem news_tail2 {g h : Heap} {L : Addr} {x y z a b : Addr × Obj} {l : List (Addr × Obj)} (N : News g L h (x :: y :: z :: a :: b :: l)) : News g L h ([x, y, z] ++ l) := fun p hp => by
  simp only [List.cons_append, List.nil_append, List.mem_cons] at hp
  rcases hp with rfl | rfl | rfl | hp
  · exact N _ (.head _)
  · exact N _ (.tail _ (.head _))
  · exact N _ (.tail _ (.tail _ (.head _)))
  · exact N p (.tail _ (.tail _ (.tail _ (.tail _ (.tail _ hp)))))
theorem callerA_is {cn : Str} {cs : Scope} {L a : Addr} {ccd : Value} {cl : List (Str × Addr)} : callerA.deeper (envX cn cs L a ccd cl) = ktrTop (callerA.deeper (envX cn cs L a ccd cl)).depth (callerA.deeper (envX cn cs L a ccd cl)).units (callerA.deeper (envX cn cs L a ccd cl)).guards cn cs L a ccd cl [] := rfl
theorem at_caller {α : Type} {M : Model} {t : Sem α} {Q : α → Shared → Prop} {E : Value → Shared → Prop} {s : Shared} {name : Str} {scope : Scope} {L a : Addr} {cd : Value}
    (h : ∀ (dp un : Nat) (gd : Option (List Code)), dp ≤ 302 → un ≤ 100 → wpAny M (ktrTop dp un gd name scope L a cd (cellsFrom (L + 1) scope.names []) []) t Q E s) : wpAny M (callerA.deeper (envOfC name scope L a cd)) t Q E s :=
  h (callerA.deeper (envOfC name scope L a cd)).depth (callerA.deeper (envOfC name scope L a cd)).units (callerA.deeper (envOfC name scope L a cd)).guards (by show 1 + claimMargin + 1 ≤ 302; decide) (by simp only [units_deeper, units_caller]; decide)
end
section
theorem wres : wqs.map (fun q => sld (q.1.length + q.2.length) q.1 q.2) = [([], [Str.ofString "a"]), ([], []), ([Str.ofString "b"], [])] := by decide +kernel
noncomputable def wdue : PyData := .list [tdata [] [Str.ofString "a"], tdata [] [], tdata [Str.ofString "b"] []]
theorem wdue_shaped : SeqAt.shaped wdue = true := by decide +kernel
theorem wdue_same : PySem.Spec.same wdue wdue = true := by decide +kernel
theorem wdue_mix : SeqAt.noMix wdue wdue = true := by decide +kernel
theorem All2.three {α β : Type} {R : α → β → Prop} {l : List α} {a b c : β} (h : All2 R l [a, b, c]) : ∃ x y z, l = [x, y, z] ∧ R x a ∧ R y b ∧ R z c := by
  cases h with
  | cons h1 h => cases h with
    | cons h2 h => cases h with
      | cons h3 h => cases h with
        | nil => exact ⟨_, _, _, rfl, h1, h2, h3⟩
/-- what a list of three pairs of lists reads -/
theorem reads3 {h : Heap} {l t1 t2 t3 a1 b1 a2 b2 a3 b3 : Addr} {e1 e2 e3 e : Nat} {x1 y1 x2 y2 x3 y3 : List Value} (hl : h.get? l = some (lst [.ref t1, .ref t2, .ref t3] e))
    (k1 : h.get? t1 = some { cls := .type "tuple", data := .seq #[.ref a1, .ref b1] e1 }) (k2 : h.get? t2 = some { cls := .type "tuple", data := .seq #[.ref a2, .ref b2] e2 }) (k3 : h.get? t3 = some { cls := .type "tuple", data := .seq #[.ref a3, .ref b3] e3 })
    (p1 : h.IsList a1 x1.toArray) (q1 : h.IsList b1 y1.toArray) (p2 : h.IsList a2 x2.toArray) (q2 : h.IsList b2 y2.toArray) (p3 : h.IsList a3 x3.toArray) (q3 : h.IsList b3 y3.toArray)
    (u1 : StrsAre x1 []) (v1 : StrsAre y1 [Str.ofString "a"]) (u2 : StrsAre x2 []) (v2 : StrsAre y2 []) (u3 : StrsAre x3 [Str.ofString "b"]) (v3 : StrsAre y3 []) :
    Reads h (.ref l) wdue [l, a1, b1, a2, b2, a3, b3] :=
  .list hl rfl rfl (.cons (treads k1 p1 u1 q1 v1) (.cons (treads k2 p2 u2 q2 v2) (.cons (treads k3 p3 u3 q3 v3) .nil)))
theorem wr_led {g h : Heap} {L Dw : Addr} {x : Obj} {r1 r2 r3 : TRec} {base rest : List (Addr × Obj)} (N : News g L h ((Dw, x) :: ([r1, r2, r3].flatMap tobjs ++ base))) (hrest : ∀ p ∈ rest, p ∈ base) :
    News g L h ((Dw, x) :: (tobjs r1 ++ (tobjs r2 ++ (tobjs r3 ++ rest)))) := fun p hp => by
  have go : ∀ r ∈ [r1, r2, r3], p ∈ tobjs r → p ∈ (Dw, x) :: ([r1, r2, r3].flatMap tobjs ++ base) := fun r hr h => List.mem_cons_of_mem _ (List.mem_append_left _ (List.mem_flatMap.mpr ⟨r, hr, h⟩))
  rcases List.mem_cons.mp hp with rfl | hp
  · exact N _ (.head _)
  rcases List.mem_append.mp hp with hp | hp
  · exact N p (go r1 (by simp) hp)
  rcases List.mem_append.mp hp with hp | hp
  · exact N p (go r2 (by simp) hp)
  rcases List.mem_append.mp hp with hp | hp
  · exact N p (go r3 (by simp) hp)
  · exact N p (List.mem_cons_of_mem _ (List.mem_append_right _ (hrest p hp)))
theorem pick_last (items : Array Value) {x : Int} (h : x < 0) : slicePick items (some x) none none = (items.toList.drop (items.size - (-x).toNat)).toArray := by
  have e : sliceBounds (some x) none none items.size = (((items.size - (-x).toNat : Nat) : Int), ((items.size : Nat) : Int), 1) := by
    simp only [sliceBounds, Option.getD_none, show (1 : Int) > 0 by decide, if_true, if_pos h]
    congr 1
    omega
  rw [kmk_pick_nat _ e]
  congr 1
  exact List.take_of_length_le (by rw [List.length_drop, Array.length_toList]; omega)
theorem w_last {prog : Program} {w : World} {A : Around} {E : Value → Shared → Prop} {h₀ : Heap} {L : Addr} {m : Str → Option Value} {news : List (Addr × Obj)} {s : Shared} {value slice : PySem.Expr} {l : Addr} {vs : List Value} {x : Int} {t : Tok} {ops : List Value} {Q : Value → Shared → Prop} (hx : x < 0)
    (F : Fr h₀ L s.heap m) (N : News h₀ L s.heap news) (hl : s.heap.IsList l vs.toArray) (hsz : vs.length ≤ 100000)
    (h : ∀ q h', Fr h₀ L h' m → News h₀ L h' ((q, lst (vs.drop (vs.length - (-x).toNat)) 0) :: news) → (∀ p ∈ news, p.1 < q) → Q (.ref q) { s with heap := h' })
    (hs : subscripted slice false (.ref l) (.ref s.heap.objs.size) = operate ops (getItem (.ref l) (.ref s.heap.objs.size)) := by with_unfolding_all rfl)
    (ht : ∀ r, letTemporaryGo value (.ref l) r = pure () := by intro _; with_unfolding_all rfl) :
    wpAny (model prog w) A (subscriptTail value slice (.ref l) (.ref s.heap.objs.size)) Q E { s with heap := s.heap.push { cls := .type "slice", data := .fields #[.int x t, .none, .none] } } := by
  refine slice_list3 (lo := some x) (hi := none) (st := none) F N hl (.int _ _) .none .none (by decide) ?_ hs ht (by rw [List.size_toArray, sizeLine_eq]; omega)
  intro h' F' N'
  refine h _ h' F' ?_ fun p hp => Nat.lt_succ_of_lt (Heap.lt_size (N p hp).1)
  rw [pick_last _ hx] at N'
  rw [List.size_toArray] at N'
  exact N'
end
section
/-- what a call of _law_book leaves: a ledger in the walk's own order, the book's own objects in Z -/
inductive BookEnd (w : World) (nt pl : Addr) (po : Obj) (G : List (Str × List Str)) (c : Nat) (c6 c7 : Addr) (o6 o7 : Obj) (news : List (Addr × Obj)) (r : Value) (led : List (Addr × Obj)) : Prop where
  | mk : ∀ b ob ns' e' Z, (r = .ref b) → ((b, ob) ∈ Z) → ((∀ p ∈ (nt, lst ns' e') :: (pl, po) :: (246, tb6 c6) :: (c6, o6) :: (107, tb7 c7) :: (c7, o7) :: (news ++ Z), p ∈ led)) → (ND ((nt, lst ns' e') :: (pl, po) :: (246, tb6 c6) :: (c6, o6) :: (107, tb7 c7) :: (c7, o7) :: (news ++ Z))) → (ns'.length = c + G.length) → (((b == sysModules) = false → BookIs w nt b G ((246, tb6 c6) :: (c6, o6) :: (107, tb7 c7) :: (c7, o7) :: Z))) → BookEnd w nt pl po G c c6 c7 o6 o7 news r led
theorem TabTo.filled {P : Addr} {a b : Int} {q : Str} {l l' : List (Addr × Obj)} (h : TabTo P a b q l l') : ∃ c oc vs t, (oc : Obj).data = .fields vs ∧ (vs : Array Value)[1]? = some (.str q t) ∧ l' = [(P, tabObj #[rawInt a, rawInt b, .ref c]), (c, oc)] := by
  cases h with
  | new c oc vs t d1 d2 => exact ⟨c, oc, vs, t, d1, d2, rfl⟩
  | keep c oc vs t d1 d2 => exact ⟨c, oc, vs, t, d1, d2, rfl⟩
theorem TabTo.kept {P : Addr} {a b : Int} {q : Str} {l l' : List (Addr × Obj)} (h : TabTo P a b q l l') : l.length = 2 → l' = l := by
  cases h with
  | new c oc vs t d1 d2 => exact fun h => nomatch h
  | keep c oc vs t d1 d2 => exact fun _ => rfl
theorem book_to {w : World} {nt pl : Addr} {prs : List PRec} {sd : Bool} {c k : Nat} {c6 c7 : Addr} {o6 o7 : Obj} {own news : List (Addr × Obj)} {r : Value} {led : List (Addr × Obj)} {b bx lam g : Addr} {n e' kk ft : Nat} {hs : Int} {its : List It} {ns' : List Value}
    (er : r = .ref b) (hsub : ∀ p ∈ (nt, lst ns' e') :: (pl, lst (prs.map pval) k) :: (b, bookO bx lam ((its.map (·.1)).map ent) n) :: (bx, frzO g hs ft kk) :: (its.map itobj ++ (own ++ ([(246, tb6 c6), (c6, o6)] ++ ([(107, tb7 c7), (c7, o7)] ++ news)))), p ∈ led)
    (nd : ND ((nt, lst ns' e') :: (pl, lst (prs.map pval) k) :: (b, bookO bx lam ((its.map (·.1)).map ent) n) :: (bx, frzO g hs ft kk) :: (its.map itobj ++ (own ++ ([(246, tb6 c6), (c6, o6)] ++ ([(107, tb7 c7), (c7, o7)] ++ news)))))) (ha : All2 ItIs its (groups (rowsOf sd prs))) (hc : ns'.length = c + its.length)
    (hf : ∀ x t, Fac w 25 g nt [.str x t] ((b, bookO bx lam ((its.map (·.1)).map ent) n) :: (bx, frzO g hs ft kk) :: (own ++ ([(246, tb6 c6), (c6, o6)] ++ [(107, tb7 c7), (c7, o7)])))) : BookEnd w nt pl (lst (prs.map pval) k) (groups (rowsOf sd prs)) c c6 c7 o6 o7 news r led := by
  refine ⟨b, bookO bx lam ((its.map (·.1)).map ent) n, ns', e', (b, bookO bx lam ((its.map (·.1)).map ent) n) :: (bx, frzO g hs ft kk) :: (its.map itobj ++ own), er, .head _, fun p hp => hsub p ?_, ?_, by rw [hc, ha.len], fun hb => ?_⟩
  · exact sub_cat [[_], [_], [_], [_], its.map itobj, own, [_], [_], [_], [_], news] [0, 1, 6, 7, 8, 9, 10, 2, 3, 4, 5] [0, 1, 2, 3, 4, 5, 6, 7, 8, 9, 10] (by decide) p hp
  · exact nd_cat1 [[_], [_], [_], [_], its.map itobj, own, [_], [_], [_], [_], news] [0, 1, 2, 3, 4, 5, 6, 7, 8, 9, 10] [0, 1, 6, 7, 8, 9, 10, 2, 3, 4, 5] nd
  · exact ⟨bx, lam, n, its, g, hs, ft, kk, _, mem_skip 4 (.head _), mem_skip 5 (.head _), fun t ht => mem_skip 6 (List.mem_append_left _ (List.mem_map_of_mem (f := itobj) ht)), ha, hf, sub_cat [[_], [_], own, [_], [_], [_], [_], its.map itobj] [0, 1, 2, 3, 4, 5, 6] [3, 4, 5, 6, 0, 1, 7, 2], hb⟩
theorem Calls.led {w : World} {f : Addr} {vs : List Value} {led led' : List (Addr × Obj)} {dd uu : Nat} {P : Value → List (Addr × Obj) → Prop} (C : Calls w f vs led dd uu P) (h : ∀ p ∈ led, p ∈ led') : Calls w f vs led' dd uu P :=
  fun _ _ _ _ _ _ _ _ _ _ _ _ _ _ _ _ _ _ _ _ _ B Y F X N T hk hd hu k => C _ _ _ _ _ _ _ _ _ _ _ _ _ _ _ _ _ _ _ _ _ B Y F X (fun p hp => N p (h p hp)) T hk hd hu k
/-- the first book: the tables are empty ahead -/
inductive BookFst (w : World) (nt pl : Addr) (po : Obj) (G : List (Str × List Str)) (c : Nat) (news : List (Addr × Obj)) (r : Value) (led : List (Addr × Obj)) : Prop where
  | mk : ∀ c6 o6 v6 t6 c7 o7 v7 t7, ((o6 : Obj).data = .fields v6) → ((v6 : Array Value)[1]? = some (.str qual6 t6)) → ((o7 : Obj).data = .fields v7) → ((v7 : Array Value)[1]? = some (.str qual7 t7)) → BookEnd w nt pl po G c c6 c7 o6 o7 news r led → BookFst w nt pl po G c news r led
theorem book_1s {w : World} {nt pl : Addr} {prs : List PRec} {ns : List Value} {e k : Nat} {sd : Bool} {st : Tok} {news : List (Addr × Obj)} (hpr : ∀ p ∈ prs, ∀ q ∈ pobjs p, q ∈ news) (hlen : prs.length ≤ 100 ∧ ns.length ≤ 1000) (hnd : ND ((246, tabObj #[]) :: (107, tabObj #[]) :: (nt, lst ns e) :: (pl, lst (prs.map pval) k) :: news)) : 
   Calls w 251 [.ref pl, .int (if sd then 1 else 0) st, .ref nt] ((246, tabObj #[]) :: (107, tabObj #[]) :: (nt, lst ns e) :: (pl, lst (prs.map pval) k) :: news) 150 1500
     (BookFst w nt pl (lst (prs.map pval) k) (groups (rowsOf sd prs)) ns.length news) :=
  ((book_t (l6 := [(246, tabObj #[])]) (l7 := [(107, tabObj #[])]) hpr hlen .new .new (nd_cat1 [[_], [_], [_], [_], news] [0, 1, 2, 3, 4] [2, 3, 0, 1, 4] hnd)).led (sub_cat [[_], [_], [_], [_], news] [2, 3, 0, 1, 4] [0, 1, 2, 3, 4])).post fun r l p => by
    obtain ⟨b, bx, lam, n, its, ns', e', l6', l7', own, g, hs, ft, kk, er, hsub, nd, t6, t7, ha, hc, hf⟩ := p
    obtain ⟨c6, o6, v6, q6, d1, d2, rfl⟩ := t6.filled
    obtain ⟨c7, o7, v7, q7, d3, d4, rfl⟩ := t7.filled
    exact ⟨c6, o6, v6, q6, c7, o7, v7, q7, d1, d2, d3, d4, book_to er hsub nd ha hc hf⟩
theorem book_2s {w : World} {nt pl c6 c7 : Addr} {o6 o7 : Obj} {v6 v7 : Array Value} {t6 t7 : Nat} (d1 : o6.data = .fields v6) (d2 : v6[1]? = some (.str qual6 t6)) (d3 : o7.data = .fields v7) (d4 : v7[1]? = some (.str qual7 t7)) {prs : List PRec} {ns : List Value} {e k : Nat} {sd : Bool} {st : Tok} {news : List (Addr × Obj)} (hpr : ∀ p ∈ prs, ∀ q ∈ pobjs p, q ∈ news) (hlen : prs.length ≤ 100 ∧ ns.length ≤ 1000)
   (hnd : ND ((nt, lst ns e) :: (pl, lst (prs.map pval) k) :: (246, tb6 c6) :: (c6, o6) :: (107, tb7 c7) :: (c7, o7) :: news)) : 
   Calls w 251 [.ref pl, .int (if sd then 1 else 0) st, .ref nt] ((246, tb6 c6) :: (c6, o6) :: (107, tb7 c7) :: (c7, o7) :: (nt, lst ns e) :: (pl, lst (prs.map pval) k) :: news) 150 1500
     (BookEnd w nt pl (lst (prs.map pval) k) (groups (rowsOf sd prs)) ns.length c6 c7 o6 o7 news) :=
  ((book_t (l6 := [(246, tb6 c6), (c6, o6)]) (l7 := [(107, tb7 c7), (c7, o7)]) hpr hlen (.keep c6 o6 v6 t6 d1 d2) (.keep c7 o7 v7 t7 d3 d4) hnd).led (sub_cat [[_], [_], [_], [_], [_], [_], news] [4, 5, 0, 1, 2, 3, 6] [0, 1, 2, 3, 4, 5, 6])).post fun r l p => by
    obtain ⟨b, bx, lam, n, its, ns', e', l6', l7', own, g, hs, ft, kk, er, hsub, nd, t6, t7, ha, hc, hf⟩ := p
    cases t6.kept rfl
    cases t7.kept rfl
    exact book_to er hsub nd ha hc hf
theorem mem_26 {a b c d e f : Addr × Obj} {l : List (Addr × Obj)} : ∀ p ∈ c :: d :: e :: f :: a :: b :: l, p ∈ a :: b :: c :: d :: e :: f :: l := sub_cat [[_], [_], [_], [_], [_], [_], l] [2, 3, 4, 5, 0, 1, 6] [0, 1, 2, 3, 4, 5, 6]
end
section
theorem All2.mem_r {α β : Type} {R : α → β → Prop} {l : List α} {m : List β} (h : All2 R l m) : ∀ {x}, x ∈ m → ∃ y ∈ l, R y x := by
  induction h with
  | nil => intro x hx; cases hx
  | cons r _ ih =>
    intro x hx
    rcases List.mem_cons.mp hx with rfl | hx
    · exact ⟨_, .head _, r⟩
    · obtain ⟨y, hy, hr⟩ := ih hx
      exact ⟨y, .tail _ hy, hr⟩
theorem All2.mem_l {α β : Type} {R : α → β → Prop} {l : List α} {m : List β} (h : All2 R l m) : ∀ {x}, x ∈ l → ∃ y ∈ m, R x y := by
  induction h with
  | nil => intro x hx; cases hx
  | cons r _ ih =>
    intro x hx
    rcases List.mem_cons.mp hx with rfl | hx
    · exact ⟨_, .head _, r⟩
    · obtain ⟨y, hy, hr⟩ := ih hx
      exact ⟨y, .tail _ hy, hr⟩
theorem All2.at {α β : Type} {R : α → β → Prop} {l : List α} {m : List β} (h : All2 R l m) : ∀ {i : Nat} {x : α}, l[i]? = some x → ∃ y, m[i]? = some y ∧ R x y := by
  induction h with
  | nil => intro i x hx; simp at hx
  | cons r _ ih =>
    intro i x hx
    cases i with
    | zero =>
      simp only [List.getElem?_cons_zero, Option.some.injEq] at hx
      subst hx
      exact ⟨_, rfl, r⟩
    | succ i =>
      simp only [List.getElem?_cons_succ] at hx
      exact ih hx
theorem pis_w {p : PRec} {n : Int} (h : PIs p n) : WPair p ∧ fa p = endA n ∧ fb p = endB n := by
  obtain ⟨h1, h2⟩ := h
  have e1 : p.2.2.1 = wd (endA n) := h1
  have e2 : p.2.2.2.1 = wd (endB n) := h2
  have f1 : fa p = endA n := by unfold fa; rw [e1, ix_wd (endA_lt n)]
  have f2 : fb p = endB n := by unfold fb; rw [e2, ix_wd (endB_lt n)]
  refine ⟨⟨?_, ?_, ?_, ?_⟩, f1, f2⟩
  · rw [f1, e1]
  · rw [f1]; exact endA_lt n
  · rw [f2, e2]
  · rw [f2]; exact endB_lt n
theorem pis_all {prs : List PRec} {ms : List Int} (h : All2 PIs prs ms) : ∀ p ∈ prs, WPair p := fun p hp => by
  obtain ⟨n, _, hn⟩ := h.mem_l hp
  exact (pis_w hn).1
theorem pis_M {prs : List PRec} {ms : List Int} (h : All2 PIs prs ms) (a b : Nat) : leadsOf ms a b = true ↔ ∃ q, q ∈ prs ∧ fa q = a ∧ fb q = b := by
  rw [leadsOf_iff]
  constructor
  · rintro ⟨n, hn, rfl, rfl⟩
    obtain ⟨p, hp, hr⟩ := h.mem_r hn
    exact ⟨p, hp, (pis_w hr).2.1, (pis_w hr).2.2⟩
  · rintro ⟨p, hp, rfl, rfl⟩
    obtain ⟨n, hn, hr⟩ := h.mem_l hp
    exact ⟨n, hn, (pis_w hr).2.1.symm, (pis_w hr).2.2.symm⟩
/-- a pair that lies between rings -/
noncomputable def gd2 (M : Nat → Nat → Bool) (p : PRec) : Bool := @decide _ (Classical.propDecidable (fromRing M (fa p) ∧ toRing M (fb p)))
theorem gd2_iff {M : Nat → Nat → Bool} {p : PRec} : gd2 M p = true ↔ fromRing M (fa p) ∧ toRing M (fb p) := by
  unfold gd2
  exact @decide_eq_true_iff _ (Classical.propDecidable _)
noncomputable def pick (prs : List PRec) (ks : List Nat) : List Value := ks.filterMap fun j => (prs[j]?).map pval
theorem pick_take {prs : List PRec} {p : Nat → Bool} {g : PRec → Bool} (h : ∀ j a, prs[j]? = some a → p j = g a) : ∀ i, i ≤ prs.length → pick prs ((List.range i).filter p) = ((prs.take i).filter g).map pval
  | 0, _ => rfl
  | i + 1, hi => by
    have ih := pick_take h i (by walk_at "lia")
    have he : prs[i]? = some prs[i] := List.getElem?_eq_getElem (by walk_at "lia")
    have ht : prs.take (i + 1) = prs.take i ++ [prs[i]] := by rw [List.take_add_one, he]; rfl
    unfold pick at ih ⊢
    rw [List.range_succ, List.filter_append, List.filterMap_append, ih, ht, List.filter_append, List.map_append]
    congr 1
    have hp := h i _ he
    cases hb : p i
    · rw [hb] at hp
      simp [hb, ← hp]
    · rw [hb] at hp
      simp [hb, ← hp, he]
theorem pick_due {prs : List PRec} {ms : List Int} (h : All2 PIs prs ms) : pick prs ((List.range ms.length).filter (between ms)) = (prs.filter (gd2 (leadsOf ms))).map pval := by
  have e := pick_take (prs := prs) (p := between ms) (g := gd2 (leadsOf ms)) (fun j a hj => by
    obtain ⟨n, hn, hr⟩ := h.at hj
    have h1 := between_iff hn
    rw [← (pis_w hr).2.1, ← (pis_w hr).2.2, ← gd2_iff] at h1
    cases hb : between ms j <;> cases hg : gd2 (leadsOf ms) a
    · rfl
    · rw [h1.mpr hg] at hb; cases hb
    · rw [h1.mp hb] at hg; cases hg
    · rfl) prs.length (Nat.le_refl _)
  rw [List.take_length, h.len] at e
  exact e
/-- where the rows lead, by one of the two sides -/
noncomputable def nxt0 (sd : Bool) (prs : List PRec) (k : Nat) : List Nat := (prs.filter fun p => (if sd then fb p else fa p) == k).map fun p => if sd then fa p else fb p
theorem wd_beq {i j : Nat} (hi : i < 5) (hj : j < 5) : (wd i == wd j) = (i == j) := by
  by_cases h : i = j
  · subst h; rw [beq_self_eq_true, beq_self_eq_true]
  · have h' : ¬ wd i = wd j := fun e => h ((wd_eq hi hj).mp e)
    rw [beq_eq_false_iff_ne.mpr h', beq_eq_false_iff_ne.mpr h]
theorem pkey_wd {sd : Bool} {p : PRec} (h : WPair p) : pkey sd p = wd (if sd then fb p else fa p) := by
  obtain ⟨h1, _, h3, _⟩ := h
  cases sd
  · exact h1
  · exact h3
theorem pother_wd {sd : Bool} {p : PRec} (h : WPair p) : pother sd p = wd (if sd then fa p else fb p) := by
  obtain ⟨h1, _, h3, _⟩ := h
  cases sd
  · exact h3
  · exact h1
theorem side_lt {sd : Bool} {p : PRec} (h : WPair p) : (if sd then fb p else fa p) < 5 := by
  obtain ⟨_, h2, _, h4⟩ := h
  cases sd
  · exact h2
  · exact h4
theorem side_lt' {sd : Bool} {p : PRec} (h : WPair p) : (if sd then fa p else fb p) < 5 := by
  obtain ⟨_, h2, _, h4⟩ := h
  cases sd
  · exact h4
  · exact h2
theorem nxt_look {sd : Bool} {prs : List PRec} (hw : ∀ p ∈ prs, WPair p) {k : Nat} (hk : k < 5) : look (groups (rowsOf sd prs)) (wd k) = (nxt0 sd prs k).map wd := by
  rw [look_groups]
  unfold nxt0 rowsOf
  induction prs with
  | nil => rfl
  | cons p l ih =>
    have hp := hw p (.head _)
    have ih := ih fun q hq => hw q (.tail _ hq)
    rw [List.map_cons, List.filter_cons, List.filter_cons]
    have e : ((pkey sd p, pother sd p).1 == wd k) = ((if sd then fb p else fa p) == k) := by
      show (pkey sd p == wd k) = _
      rw [pkey_wd hp]
      exact wd_beq (side_lt hp) hk
    rw [e]
    cases hb : ((if sd then fb p else fa p) == k)
    · rw [if_neg Bool.false_ne_true, if_neg Bool.false_ne_true]
      exact ih
    · rw [if_pos rfl, if_pos rfl, List.map_cons, List.map_cons, List.map_cons, ih]
      show pother sd p :: _ = _
      rw [pother_wd hp]
theorem nxt_lt {sd : Bool} {prs : List PRec} (hw : ∀ p ∈ prs, WPair p) (k : Nat) : ∀ j ∈ nxt0 sd prs k, j < 5 := fun j hj => by
  obtain ⟨p, hp, rfl⟩ := List.mem_map.mp hj
  exact side_lt' (hw p (List.mem_filter.mp hp).1)
theorem nxt_len {sd : Bool} {prs : List PRec} (k : Nat) : (nxt0 sd prs k).length ≤ prs.length := by
  unfold nxt0
  rw [List.length_map]
  exact List.length_filter_le _ _
theorem nxt_ahead {prs : List PRec} {ms : List Int} (h : All2 PIs prs ms) (k j : Nat) : j ∈ nxt0 false prs k ↔ ∃ n, n ∈ ms ∧ endA n = k ∧ endB n = j := by
  unfold nxt0
  rw [List.mem_map]
  constructor
  · rintro ⟨p, hp, rfl⟩
    obtain ⟨hp, hk⟩ := List.mem_filter.mp hp
    obtain ⟨n, hn, hr⟩ := h.mem_l hp
    exact ⟨n, hn, by rw [← (pis_w hr).2.1]; exact eq_of_beq hk, (pis_w hr).2.2.symm⟩
  · rintro ⟨n, hn, rfl, rfl⟩
    obtain ⟨p, hp, hr⟩ := h.mem_r hn
    exact ⟨p, List.mem_filter.mpr ⟨hp, by show (fa p == endA n) = true; rw [(pis_w hr).2.1]; exact beq_self_eq_true _⟩, (pis_w hr).2.2⟩
theorem nxt_back {prs : List PRec} {ms : List Int} (h : All2 PIs prs ms) (k j : Nat) : j ∈ nxt0 true prs k ↔ ∃ n, n ∈ ms ∧ endB n = k ∧ endA n = j := by
  unfold nxt0
  rw [List.mem_map]
  constructor
  · rintro ⟨p, hp, rfl⟩
    obtain ⟨hp, hk⟩ := List.mem_filter.mp hp
    obtain ⟨n, hn, hr⟩ := h.mem_l hp
    exact ⟨n, hn, by rw [← (pis_w hr).2.2]; exact eq_of_beq hk, (pis_w hr).2.1.symm⟩
  · rintro ⟨n, hn, rfl, rfl⟩
    obtain ⟨p, hp, hr⟩ := h.mem_r hn
    exact ⟨p, List.mem_filter.mpr ⟨hp, by show (fb p == endB n) = true; rw [(pis_w hr).2.2]; exact beq_self_eq_true _⟩, (pis_w hr).2.1⟩
theorem walked_gd {prs : List PRec} {ms : List Int} (h : All2 PIs prs ms) {p : PRec} (hp : p ∈ prs) :
    (decide (fb p ∈ goingL (nxt0 false prs) 5) && decide (fa p ∈ goingL (nxt0 true prs) 5)) = gd2 (leadsOf ms) p := by
  have hw := pis_all h p hp
  have h1 := going_ahead (nxt := nxt0 false prs) (ns := ms) (fun k j _ => nxt_ahead h k j) (k := fb p) hw.2.2.2
  have h2 := going_back (nxt := nxt0 true prs) (ns := ms) (fun k j _ => nxt_back h k j) (k := fa p) hw.2.1
  have h3 := gd2_iff (M := leadsOf ms) (p := p)
  cases hg : gd2 (leadsOf ms) p
  · rw [hg] at h3
    simp only [Bool.false_eq_true, false_iff] at h3
    rw [Bool.and_eq_false_iff, decide_eq_false_iff_not, decide_eq_false_iff_not, h1, h2]
    by_cases x : toRing (leadsOf ms) (fb p)
    · exact .inr fun y => h3 ⟨y, x⟩
    · exact .inl x
  · rw [hg] at h3
    obtain ⟨h4, h5⟩ := h3.mp rfl
    rw [Bool.and_eq_true, decide_eq_true_iff, decide_eq_true_iff, h1, h2]
    exact ⟨h5, h4⟩
theorem firsts_snoc (xs : List Str) (x : Str) : firsts (xs ++ [x]) = if x ∈ firsts xs then firsts xs else firsts xs ++ [x] := by
  unfold firsts
  rw [List.foldl_append]
  rfl
theorem mem_firsts {y : Str} : ∀ {xs : List Str}, y ∈ firsts xs ↔ y ∈ xs := by
  have key : ∀ (xs l : List Str), y ∈ xs.foldl (fun l x => if x ∈ l then l else l ++ [x]) l ↔ y ∈ l ∨ y ∈ xs := by
    intro xs
    induction xs with
    | nil => intro l; simp
    | cons x xs ih =>
      intro l
      rw [List.foldl_cons, ih]
      split
      · rename_i hx
        rw [List.mem_cons]
        constructor
        · rintro (h | h)
          · exact .inl h
          · exact .inr (.inr h)
        · rintro (h | rfl | h)
          · exact .inl h
          · exact .inl hx
          · exact .inr h
      · rw [List.mem_append, List.mem_singleton, List.mem_cons]
        exact or_assoc
  intro xs
  unfold firsts
  rw [key]
  simp
theorem keys_of {sd : Bool} {prs : List PRec} {ms : List Int} (h : All2 PIs prs ms) : (groups (rowsOf sd prs)).map (·.1) = firsts ((ms.map fun n => if sd then endB n else endA n).map wd) := by
  rw [keys_groups]
  congr 1
  unfold rowsOf
  induction h with
  | nil => rfl
  | cons r _ ih =>
    rename_i p n l m _
    rw [List.map_cons, List.map_cons, List.map_cons, List.map_cons, ih]
    congr 1
    have hw := pis_w r
    show pkey sd p = _
    rw [pkey_wd hw.1]
    cases sd
    · show wd (fa p) = wd (endA n); rw [hw.2.1]
    · show wd (fb p) = wd (endB n); rw [hw.2.2]
end
section
theorem keep_at {rs : List Value} {n : Nat} {p : Nat → Bool} (h : IntsAre rs (keep n p)) {i : Nat} {v : Value} (hv : rs[i]? = some v) : ∃ j t, ((List.range n).filter p)[i]? = some j ∧ j < n ∧ v = .int (j : Int) t := by
  obtain ⟨x, t, hx, rfl⟩ := ints_item h hv
  unfold keep at hx
  rw [List.getElem?_map] at hx
  obtain ⟨j, hj, rfl⟩ := Option.map_eq_some_iff.mp hx
  exact ⟨j, t, hj, List.mem_range.mp (List.mem_filter.mp (List.mem_of_getElem? hj)).1, rfl⟩
theorem pick_snoc {prs : List PRec} {ks : List Nat} {i j : Nat} {p : PRec} (h : ks[i]? = some j) (hp : prs[j]? = some p) : pick prs (ks.take i) ++ [.ref p.1] = pick prs (ks.take (i + 1)) := by
  have e : ks.take (i + 1) = ks.take i ++ [j] := by rw [List.take_add_one, h]; rfl
  unfold pick
  rw [e, List.filterMap_append]
  simp [hp, pval]
theorem pval_num {prs : List PRec} {j : Nat} (h : j < prs.length) : ∃ p, prs[j]? = some p ∧ (prs.map pval).toArray[((j : Nat) : Int).toNat]? = some (.ref p.1) := by
  refine ⟨prs[j], List.getElem?_eq_getElem h, ?_⟩
  simp [pval, h]
end
section
section
variable {prog : Program} {w : World} {A : Around} {E : Value → Shared → Prop} {s : Shared} {env : Env} {h₀ : Heap} {target : PySem.Expr} {body : List Stmt} {Q : Flow → Shared → Prop}
/-- a loop over a list of the ledger, any target -/
theorem for_listT {l : Addr} {vs : List Value} {e : Nat} {m₀ : Str → Option Value} {news : List (Addr × Obj)} (J : Nat → (Str → Option Value) → List (Addr × Obj) → Prop)
    (hh : A.handled = none) (F : Fr h₀ env.locals s.heap m₀) (N : News h₀ env.locals s.heap ((l, lst vs e) :: news)) (hj : J 0 m₀ news)
    (turn : ∀ i v m₁ news₁ h tk I oI, vs[i]? = some v → J i m₁ news₁ → (∀ p ∈ news₁, p.1 ≠ I) → l ≠ I → Fr h₀ env.locals h m₁ → News h₀ env.locals h ((I, oI) :: (l, lst vs e) :: news₁) →
      wpAny (model prog w) A (assign target env v) (fun _ s₃ => wpAny (model prog w) A (execs body env) (TurnPost h₀ env.locals [(I, oI), (l, lst vs e)] I (J (i + 1)) { s with heap := h, toks := tk } Q) E s₃) E { s with heap := h, toks := tk })
    (done : ∀ m₁ news₁ h tk, J vs.length m₁ news₁ → Fr h₀ env.locals h m₁ → News h₀ env.locals h ((l, lst vs e) :: news₁) → Q .next { s with heap := h, toks := tk }) :
    wpAny (model prog w) A (pyIter (.ref l)) (fun it s₂ => TurnsAt prog w A h₀ env target body Q E it s₂) E s := by
  have hl := N (l, lst vs e) (.head _)
  have hls : s.heap.IsList l vs.toArray := ⟨_, hl.1, rfl, _, rfl⟩
  have hne : l ≠ s.heap.objs.size := Nat.ne_of_lt (Heap.lt_size hl.1)
  refine wpAny_pyIter_list hls ?_
  have W := Walks.list (prog := prog) (w := w) hh s.heap.objs.size l hne vs.toArray
  rw [show vs.toArray.size = vs.length by simp] at W
  let J' : Nat → (Str → Option Value) → List (Addr × Obj) → Prop := fun i m₁ n₁ => ∃ n', n₁ = (l, lst vs e) :: n' ∧ J i m₁ n'
  refine ⟨s.heap.objs.size, [s.heap.objs.size, l], [s.heap.objs.size], vs.length, _, _, _, m₀, (l, lst vs e) :: news, J', rfl, KTurns.ofWalks W (fun i v s Q E st q => letGo_listiter st.1 q), ?_, ?_, ?_, ⟨⟨_, Heap.get?_push_size _ rfl, rfl, rfl⟩, hls.at fun o e => Heap.get?_push_of_some _ e⟩, F.push _, (fun p hp => ⟨Heap.get?_push_of_some _ (N p hp).1, (N p hp).2⟩), ⟨_, rfl, hj⟩, ?_, ?_⟩
  · intro hm
    rcases List.mem_cons.mp hm with e | hm
    · exact absurd F.ns.lt (e ▸ Nat.lt_irrefl _)
    · exact hl.2.1 ((List.mem_singleton.mp hm).symm)
  · intro b hb
    rw [List.mem_singleton.mp hb]
    exact next_is_new F
  · intro p hp hI
    exact absurd (Heap.lt_size (N p hp).1) ((List.mem_singleton.mp hI) ▸ Nat.lt_irrefl _)
  · rintro i v m₁ n₁ hh' tk' own hin hP ⟨n', rfl, hJ⟩ hoff hown hget hall hst F₁ N₁
    obtain ⟨oI, hoI, _⟩ := id hst.1
    have hI0 : h₀.get? s.heap.objs.size = none := next_is_new F
    have hIo : (s.heap.objs.size, oI) ∈ own := hall _ (.head _) hI0 oI hoI
    have hsub : ∀ p ∈ own, p = (s.heap.objs.size, oI) ∨ p = (l, lst vs e) := by
      intro p hp
      have h1 := hget p hp
      rcases List.mem_cons.mp (hown p hp) with h2 | h2
      · left; rw [h2, hoI] at h1; obtain ⟨a, b⟩ := p; cases h1; cases h2; rfl
      · right
        have h3 := List.mem_singleton.mp h2
        rw [h3, (N₁ (l, lst vs e) (List.mem_append_right _ (.head _))).1] at h1
        obtain ⟨a, b⟩ := p; cases h1; cases h3; rfl
    have N₂ : News h₀ env.locals hh' ((s.heap.objs.size, oI) :: (l, lst vs e) :: n') := fun p hp => by
      rcases List.mem_cons.mp hp with rfl | hp
      · exact N₁ _ (List.mem_append_left _ hIo)
      · exact N₁ _ (List.mem_append_right _ hp)
    have hP' : vs[i]? = some v := by
      have hP' : vs.toArray[i]? = some v := hP
      simpa using hP'
    refine wpAny_mono (turn i v m₁ n' hh' tk' s.heap.objs.size oI hP' hJ (fun p hp he => hoff p (.tail _ hp) (List.mem_singleton.mpr he)) hne F₁ N₂) (fun _ s₃ h₃ => wpAny_mono h₃ (fun f s₂ p => ?_) fun _ _ e => e) fun _ _ e => e
    have fin : TurnEnd h₀ env.locals [(s.heap.objs.size, oI), (l, lst vs e)] s.heap.objs.size (J (i + 1)) { s with heap := hh', toks := tk' } s₂ → LoopStepU h₀ env.locals [s.heap.objs.size] own (J' (i + 1)) { s with heap := hh', toks := tk' } .next s₂ := by
      rintro ⟨h', tk, m', nx, e, F', N', ho, hJ'⟩
      refine ⟨rfl, h', tk, m', (l, lst vs _) :: nx, e, F', fun p hp => ?_, fun p hp hq => ?_, _, rfl, hJ'⟩
      · rcases List.mem_append.mp hp with h1 | h1
        · rcases hsub p h1 with rfl | rfl
          · exact N' _ (.head _)
          · exact N' _ (.tail _ (.head _))
        · exact N' _ (.tail _ h1)
      · rcases List.mem_cons.mp hp with rfl | hp
        · exact hne (List.mem_singleton.mp hq)
        · exact ho p hp (List.mem_singleton.mp hq)
    cases f with
    | ret v => exact .ret p
    | brk => exact .brk p
    | next => exact .next (fin p)
    | cont => exact .cont (fin p)
  · rintro h' tk m' n₁ F' N' _ ⟨n', rfl, hJ⟩
    exact done m' n' h' tk hJ F' N'
end
end
section
theorem book_check {w : World} {A : Around} {s : Shared} {E : Value → Shared → Prop} {Q : Unit → Shared → Prop} {b bx lam : Addr} {es : List DictEntry} {n : Nat} {id n1 : String} {rest : List Value}
    (Y : (KY w.params).In s.heap) (hb : s.heap.get? b = some (bookO bx lam es n)) (hs : splitId id = some ("dict", n1)) (hk : builtinKind id = some .slot ∨ builtinKind id = some .method) (ha : argsOk id ⟨.ref b :: rest, []⟩) (h : Q () s) :
    wpAny (model PR w) A (checkBuiltinCall id ⟨.ref b :: rest, []⟩) Q E s := by
  have L0 : Looks (model PR w) s.heap (typeOf (.ref b)) (.ref 115) := (Looks.ld hb).andThen .now
  have L1 : Looks (model PR w) s.heap (isInstance (.ref b) (.type "dict")) true := L0.andThen (looks_mroIn Y (by kernel_rfl))
  rcases hk with hk | hk <;>
    · simp only [checkBuiltinCall, hk, hs]
      refine wpAny_bind (L1.here ?_)
      simp only [Bool.not_true, Bool.false_eq_true, if_false]
      cases hsig : Manifest.signature? id with
      | none => exact wpAny_pure h
      | some sig =>
        simp only [argsOk, hsig] at ha
        have h2 : Bind.checkArgs id sig ⟨.ref b :: rest, []⟩ = pure () := ha
        show wpAny _ A (Bind.checkArgs id sig ⟨.ref b :: rest, []⟩) Q E s
        rw [h2]; exact wpAny_pure h
theorem book_len {w : World} {A : Around} {s : Shared} {E : Value → Shared → Prop} {Q : Value → Shared → Prop} {b bx lam : Addr} {es : List DictEntry} {n : Nat}
    (Y : (KY w.params).In s.heap) (hb : s.heap.get? b = some (bookO bx lam es n)) (hbs : (b == sysModules) = false) (hfit : es.length ≤ 1000000) (h : Q (.int (es.length : Nat) (s.toks + 1)) { s with toks := s.toks + 1 + 1 }) :
    wpAny (model PR w) A (call (.builtin "len") [.ref b]) Q E s := by
  have L0 : Looks (model PR w) s.heap (typeOf (.ref b)) (.ref 115) := (Looks.ld hb).andThen .now
  have L2 : Looks (model PR w) s.heap (typeLookup (.ref 115) "__len__") (some (.builtin "dict.__len__")) := looks_findIn Y (by kernel_rfl)
  refine Calls.call_function_entry kind_len plain_len entry_len (args_len1 _) ?_
  unfold Builtin.«len»
  refine wpAny_bind (m := oneArg "len" _) (wpAny_pure ?_)
  refine wpAny_bind (m := callSpecial? (.ref b) (Str.ofString "__len__")) ?_
  simp only [callSpecial?]
  unfold specialOf
  refine wpAny_bind (wpAny_bind (L0.here (L2.here ?_)))
  simp only [PySem.F.slot_dict_len.bind]
  refine wpAny_holding (wpAny_bind (wpAny_pure (wpAny_bind ?_)))
  refine wpAny_call (codeAny_call_builtin PySem.F.slot_dict_len.plain PySem.F.entry_dict_len (book_check Y hb (n1 := "__len__") (by decide +kernel) (by first | exact .inl (by decide +kernel) | exact .inr (by decide +kernel)) (PySem.F.args_dict_len_1 _) ?_))
  show wpAny _ _ (dictSize b >>= _) _ _ s
  unfold dictSize
  refine wpAny_bind (wpAny_bind (wpAny_dictEntries hb rfl (wpAny_pure ?_)))
  show wpAny _ _ (Builtin.Dict.pendingCount b >>= _) _ _ s
  refine wpAny_bind (wpAny_pendingCount_other hbs ?_)
  refine wpAny_bind (wpAny_mkInt (wpAny_pure ?_))
  rw [List.size_toArray]
  refine wpAny_pure ?_
  show wpAny _ _ _ _ _ { s with toks := s.toks + 1 }
  have e0 : ((es.length : Nat) : Int) + ((0 : Nat) : Int) = ((es.length : Nat) : Int) := by omega
  rw [e0]
  refine wpAny_bind (wpAny_holding (wpAny_pure ?_))
  refine wpAny_bind (wpAny_letGo ?_)
  show wpAny _ _ (if ((es.length : Nat) : Int) < 0 then _ else _) _ _ _
  first | refine wi_neg (by walk_at "lia") ?_ | rw [if_neg (by walk_at "lia")]
  show wpAny _ _ (if ((es.length : Nat) : Int) ≥ 2 ^ 63 then _ else _) _ _ _
  first | refine wi_neg (by walk_at "lia") ?_ | rw [if_neg (by walk_at "lia")]
  exact wpAny_bind (wpAny_mkInt (wpAny_pure ⟨_, rfl, h⟩))
end
section
theorem book_none {w : World} {dp un : Nat} {gd : Option (List Code)} {cn : Str} {cs : Scope} {a : Addr} {ccd : Value} {cl : List (Str × Addr)} {outer : List Env} {A₀ : Around} {base h₀ : Heap} {L : Addr} {m : Str → Option Value} {s : Shared} {Q E : Value → Shared → Prop} {loose : List Str} {mean : ExcName → Option Value} {mg mb : Str → Option Value}
    {nt b : Addr} {ns : List Value} {e : Nat} {G : List (Str × List Str)} {x : Str} {t : Tok} {led led₀ : List (Addr × Obj)} {value slice : PySem.Expr}
    (F : Fr h₀ L s.heap m) (B : Below A₀ base outer h₀) (YB : (KY w.params).In base) (X : (mkk.heap_1 w.params).In h₀) (N : News h₀ L s.heap ((nt, lst ns e) :: led)) (T : Top topProg loose mean mg mb h₀) (hk : cs.kind = .function) (hd : dp + 60 ≤ 800) (hu : un + 600 ≤ 6000)
    (hB : BookIs w nt b G led₀) (hsub : ∀ p ∈ led₀, p ∈ led) (hnt : ∀ p ∈ led, p.1 ≠ nt) (hl : ns.length ≤ 100000) (hx : x ∉ G.map (·.1))
    (k : ∀ q tk1 e' h' tk', @Ne Nat q nt → (∀ p ∈ led, @LT.lt Nat _ p.1 q) → Fr h₀ L h' m → News h₀ L h' ((q, lst [] 0) :: (nt, lst (ns ++ [.int ns.length tk1]) e') :: led) → Q (.ref q) { s with heap := h', toks := tk' })
    (hs : subscripted slice false (.ref b) (.str x t) = operate [.ref b, .str x t] (getItem (.ref b) (.str x t)) := by with_unfolding_all rfl) (ht : ∀ r, letTemporaryGo value (.ref b) r = pure () := by intro _; with_unfolding_all rfl) :
    wpAny (model PR w) (ktrTop dp un gd cn cs L a ccd cl outer) (subscriptTail value slice (.ref b) (.str x t)) Q E s := by
  have Y := yin F B YB
  obtain ⟨bx, lam, n, its, g, hs', ft, kk, sup, h1, h2, h3, h4, h5, h6, h7⟩ := hB
  have hb := (N _ (.tail _ (hsub _ h1))).1
  refine book_sub Y hb ?_ hs ht
  have hf : (its.map (·.1)).find? (fun e => e.2.1 == x) = none := by
    rw [List.find?_eq_none]
    intro en hen he
    obtain ⟨it, hit, rfl⟩ := List.mem_map.mp hen
    obtain ⟨p, hp, hr⟩ := h4.mem_l hit
    refine hx (List.mem_map.mpr ⟨p, hp, ?_⟩)
    rw [← hr.1]
    exact eq_of_beq he
  refine book_miss Y hb h7 hf ?_
  have n1 : bx ≠ nt := hnt _ (hsub _ h2)
  have n2 : b ≠ nt := hnt _ (hsub _ h1)
  have N' : News h₀ L s.heap ((nt, lst ns e) :: (b, bookO bx lam ((its.map (·.1)).map ent) n) :: (bx, frzO g hs' ft kk) :: led) := fun p hp => by
    refine N p ?_
    simp only [List.mem_cons] at hp ⊢
    rcases hp with h | h | h | h
    · exact .inl h
    · exact .inr (h ▸ hsub _ h1)
    · exact .inr (h ▸ hsub _ h2)
    · exact .inr h
  refine Calls.use (missing_f (news := led) (h5 x t) (fun p hp => .tail _ (.tail _ (hsub _ (h6 p hp)))) hnt ⟨n1, n2⟩ hl) (dp := dp) (un := un + 1) (s := { s with toks := s.toks + 1 }) F B YB X N' T hk (by walk_at "lia") (by walk_at "lia") ?_
  rintro r led' h' tk' ⟨q, tk, e', hq, hlt⟩ F' N'
  refine k q tk e' h' tk' hq (fun p hp => hlt p (.tail _ (.tail _ hp))) F' fun p hp => N' p ?_
  simp only [List.mem_cons] at hp ⊢
  rcases hp with h | h | h
  · exact .inl h
  · exact .inr (.inl h)
  · exact .inr (.inr (.inr (.inr h)))
end
section
section
variable {w : World} {A : Around} {s : Shared} {E : Value → Shared → Prop} {b bx lam : Addr} {es : List DictEntry} {n : Nat}
theorem book_entry {id n1 : String} {B : Builtin} {rest : List Value} {Q : Value → Shared → Prop} (hp : plainId id = true) (he : entryFor table id = some B)
    (Y : (KY w.params).In s.heap) (hb : s.heap.get? b = some (bookO bx lam es n)) (hs : splitId id = some ("dict", n1)) (hk : builtinKind id = some .slot ∨ builtinKind id = some .method) (ha : argsOk id ⟨.ref b :: rest, []⟩)
    (hc : wpAny (model PR w) A.in1 (B ⟨.ref b :: rest, []⟩) (fun fin s' => ∃ v, fin = .done (.ret v) ∧ Q v s') E s) : wpAny (model PR w) A (call (.builtin id) (.ref b :: rest)) Q E s := by
  refine wpAny_call (codeAny_call_builtin hp he (book_check Y hb hs hk ha (wpAny_mono hc (fun fin s' h' => ?_) fun _ _ h' => h')))
  obtain ⟨v, rfl, hv⟩ := h'; exact hv
theorem book_special {name : Str} {f : Value} {Q : Option Value → Shared → Prop} (hb : s.heap.get? b = some (bookO bx lam es n)) (L2 : Looks (model PR w) s.heap (typeLookup (.ref 115) name) (some f)) (h : Q (some f) s) : wpAny (model PR w) A (specialOf (.ref b) name) Q E s := by
  have L0 : Looks (model PR w) s.heap (typeOf (.ref b)) (.ref 115) := (Looks.ld hb).andThen .now
  unfold specialOf
  exact wpAny_bind (L0.here (L2.here h))
theorem book_iter {Q : Value → Shared → Prop} (Y : (KY w.params).In s.heap) (hb : s.heap.get? b = some (bookO bx lam es n)) (hbs : (b == sysModules) = false)
    (hQ : Q (.ref s.heap.objs.size) { s with heap := s.heap.push { cls := .type "dict_keyiterator", data := .fields #[.ref b, .int (0 : Nat) 0, .int (es.length : Nat) 0, .int (n : Nat) 0] } }) :
    wpAny (model PR w) A (pyIter (.ref b)) Q E s := by
  have L0 : Looks (model PR w) s.heap (typeOf (.ref b)) (.ref 115) := (Looks.ld hb).andThen .now
  have L2 : Looks (model PR w) s.heap (typeLookup (.ref 115) "__iter__") (some (.builtin "dict.__iter__")) := looks_findIn Y (by kernel_rfl)
  have LO : Looks (model PR w) s.heap (isInstance (.ref b) (.type "collections.OrderedDict")) false := L0.andThen (looks_mroIn Y (by kernel_rfl))
  unfold pyIter
  refine wpAny_bind (book_special hb L2 ?_)
  show wpAny _ A (callSpecialIfBoundUnlessNone? (.ref b) "__iter__" _ >>= _) Q E s
  refine wpAny_bind ?_
  simp only [callSpecialIfBoundUnlessNone?, bindSpecialIfBound?]
  refine wpAny_holding (wpAny_bind (wpAny_bind (book_special hb L2 ?_)))
  simp only [PySem.F.slot_dict_iter.bind]
  refine wpAny_bind (wpAny_askSetting (wpAny_ite ?_))
  have body : ∀ {Q' : Value → Shared → Prop}, (Q' (.ref s.heap.objs.size) { s with heap := s.heap.push { cls := .type "dict_keyiterator", data := .fields #[.ref b, .int (0 : Nat) 0, .int (es.length : Nat) 0, .int (n : Nat) 0] } }) → wpAny (model PR w) A (call (.builtin "dict.__iter__") [.ref b]) Q' E s := by
    intro Q' hQ'
    refine book_entry PySem.F.slot_dict_iter.plain PySem.F.entry_dict_iter Y hb (n1 := "__iter__") (by decide +kernel) (by first | exact .inl (by decide +kernel) | exact .inr (by decide +kernel)) (PySem.F.args_dict_iter_1 _) ?_
    unfold Builtin.«dict.__iter__»
    refine wpAny_bind ?_
    unfold Builtin.Dict.dictSlotNone
    refine wpAny_bind ?_
    unfold Builtin.Dict.notOrdered
    first | refine wpAny_ite_true rfl ?_ | rw [if_pos (by decide)]
    refine wpAny_bind (L0.here ?_)
    first | refine wpAny_ite_true rfl ?_ | rw [if_pos (by decide)]
    refine wpAny_bind (LO.here ?_)
    refine wpAny_pure ?_
    show wpAny _ _ (pure (Value.ref b)) _ _ s
    refine wpAny_pure ?_
    show wpAny _ _ (Builtin.Dict.showsAll b >>= _) _ _ s
    unfold Builtin.Dict.showsAll
    first | refine wi_neg (by rw [hbs]; exact Bool.false_ne_true) ?_ | rw [if_neg (by rw [hbs]; exact Bool.false_ne_true)]
    refine wpAny_bind (wpAny_pure ?_)
    refine wpAny_bind (wpAny_dictEntries hb rfl ?_)
    refine wpAny_bind (wpAny_dictEpoch hb rfl ?_)
    refine wpAny_bind (wpAny_newObj_type (wpAny_pure ⟨_, rfl, ?_⟩))
    simpa [rawInt] using hQ'
  have fin : ∀ {Q' : Option Value → Shared → Prop}, (Q' (some (.ref s.heap.objs.size)) { s with heap := s.heap.push { cls := .type "dict_keyiterator", data := .fields #[.ref b, .int (0 : Nat) 0, .int (es.length : Nat) 0, .int (n : Nat) 0] } }) → wpAny (model PR w) A (call (.builtin "dict.__iter__") [.ref b] >>= fun v => pure (some v)) Q' E s := fun h => wpAny_bind (body (wpAny_pure h))
  have hT : Shared.TypeIs { s with heap := s.heap.push { cls := .type "dict_keyiterator", data := .fields #[.ref b, .int (0 : Nat) 0, .int (es.length : Nat) 0, .int (n : Nat) 0] } } (.ref s.heap.objs.size) "dict_keyiterator" := ⟨_, Heap.get?_push_size _ rfl, rfl⟩
  split
  · refine wpAny_bind (wpAny_pure (wpAny_pure ?_))
    simp only [builtin_beq_none, Bool.false_eq_true, if_false]
    exact fin (wpAny_bind (wpAny_specialOf hT PySem.F.slot_dict_keyiterator_next.lookup (wpAny_pure hQ)))
  · refine wpAny_tryCatch (wpAny_bind (wpAny_pure (wpAny_pure ?_)))
    simp only [builtin_beq_none, Bool.false_eq_true, if_false]
    exact fin (wpAny_bind (wpAny_specialOf hT PySem.F.slot_dict_keyiterator_next.lookup (wpAny_pure hQ)))
end
end
section
section
variable {w : World} {A : Around} {s : Shared} {E : Value → Shared → Prop} {b bx lam : Addr} {es : List DictEntry} {n : Nat}
theorem book_next {it : Addr} {i : Nat} {e : DictEntry} {Q : Option Value → Shared → Prop} (hit : s.heap.IsKeyIter it b i es.length n) (hb : s.heap.get? b = some (bookO bx lam es n)) (hx : es[i]? = some e)
    (hQ : ∀ h', h'.IsKeyIter it b (i + 1) es.length n → Heap.SameBut it s.heap h' → Q (some e.key) { s with heap := h' }) :
    wpAny (model PR w) A (pyNext (.ref it)) Q E s := by
  obtain ⟨o, ho, hc, hd⟩ := id hit
  unfold pyNext
  refine wpAny_bind (wpAny_attempt (wpAny_callSpecial?_slot (name := Str.ofString "__next__") hit.typeIs PySem.F.slot_dict_keyiterator_next
    (wpAny_call_entry PySem.F.slot_dict_keyiterator_next hit.typeIs PySem.F.entry_dict_keyiterator_next ?_ (PySem.F.args_dict_keyiterator_next_1 _))))
  refine wpAny_bind (wpAny_pure ?_)
  refine wpAny_bind ?_
  refine wpAny_bind ?_
  first | refine wpAny_bind (wpAny_typeNameOfWhole_keyiter hit.typeIs (wpAny_pure ?_)) | refine wpAny_bind (wpAny_typeNameOf_keyiter hit.typeIs (wpAny_pure ?_))
  refine wpAny_bind (wpAny_fieldsOf ho hd ?_)
  have hown : Builtin.Dict_items.ownsTuple "dict_keyiterator" = false := by decide
  simp only [hown, Bool.false_eq_true, if_false]
  show wpAny _ _ (if (Value.ref b == Value.none) = true then _ else _) _ _ s
  first | refine wi_neg (show ¬ ((Value.ref b == Value.none) = true) from Bool.false_ne_true) ?_ | rw [if_neg (show ¬ ((Value.ref b == Value.none) = true) from Bool.false_ne_true)]
  refine wpAny_bind (wpAny_pure ?_)
  refine wpAny_bind (wpAny_dictEntries hb rfl ?_)
  first | refine wi_neg (by walk_at "mem") ?_ | rw [if_neg (by walk_at "mem")]
  refine wpAny_bind (wpAny_pure ?_)
  refine wpAny_bind (wpAny_dictEpoch hb rfl ?_)
  first | refine wi_neg (by walk_at "mem") ?_ | rw [if_neg (by walk_at "mem")]
  refine wpAny_pure ?_
  have he : es.toArray[i]? = some e := by simpa using hx
  simp only [show ¬ ((i : Int) < 0) from by omega, if_false, Int.toNat_natCast, he]
  refine wpAny_bind ?_
  first | refine wpAny_bind (wpAny_typeNameOfWhole_keyiter hit.typeIs (wpAny_pure ?_)) | refine wpAny_bind (wpAny_typeNameOf_keyiter hit.typeIs (wpAny_pure ?_))
  refine wpAny_bind (wpAny_isOneOf_keyiter hit.typeIs ?_)
  show wpAny _ _ (setField (.ref it) 1 (rawInt ((i : Int) + 1)) >>= _) _ _ s
  refine wpAny_bind (wpAny_setField ho hd (by walk_at "mem") ?_)
  have hit' : (s.heap.update it (Obj.mapFields (·.setIfInBounds 1 (rawInt ((i : Int) + 1))))).IsKeyIter it b (i + 1) es.length n :=
    ⟨_, Heap.get?_update_self _ ho (Obj.isFreed_of_fields (Obj.data_mapFields hd _)), (Obj.cls_mapFields ..).trans hc, by rw [Obj.data_mapFields hd]; simp [rawInt]⟩
  refine wpAny_bind (wpAny_holding ?_)
  refine wpAny_bind (wpAny_isOneOf_keyiter (s := { s with heap := s.heap.update it (Obj.mapFields (·.setIfInBounds 1 (rawInt ((i : Int) + 1)))) }) hit'.typeIs ?_)
  show wpAny _ _ (pure e.key) _ _ _
  exact wpAny_pure (wpAny_pure ⟨_, rfl, wpAny_pure (hQ _ hit' (Heap.SameBut.update ..))⟩)
theorem book_done {it : Addr} {Q : Option Value → Shared → Prop} (hh : A.handled = none) (hit : s.heap.IsKeyIter it b es.length es.length n) (hb : s.heap.get? b = some (bookO bx lam es n))
    (hQ : ∀ h', Heap.ExtBut it s.heap h' → Q none { s with heap := h' }) : wpAny (model PR w) A (pyNext (.ref it)) Q E s := by
  obtain ⟨o, ho, hc, hd⟩ := id hit
  unfold pyNext
  refine wpAny_bind (wpAny_attempt (wpAny_callSpecial?_slot (name := Str.ofString "__next__") hit.typeIs PySem.F.slot_dict_keyiterator_next
    (wpAny_call_entry PySem.F.slot_dict_keyiterator_next hit.typeIs PySem.F.entry_dict_keyiterator_next ?_ (PySem.F.args_dict_keyiterator_next_1 _))))
  refine wpAny_bind (wpAny_pure ?_)
  refine wpAny_bind ?_
  refine wpAny_bind ?_
  first | refine wpAny_bind (wpAny_typeNameOfWhole_keyiter hit.typeIs (wpAny_pure ?_)) | refine wpAny_bind (wpAny_typeNameOf_keyiter hit.typeIs (wpAny_pure ?_))
  refine wpAny_bind (wpAny_fieldsOf ho hd ?_)
  have hown : Builtin.Dict_items.ownsTuple "dict_keyiterator" = false := by decide
  simp only [hown, Bool.false_eq_true, if_false]
  show wpAny _ _ (if (Value.ref b == Value.none) = true then _ else _) _ _ s
  first | refine wi_neg (show ¬ ((Value.ref b == Value.none) = true) from Bool.false_ne_true) ?_ | rw [if_neg (show ¬ ((Value.ref b == Value.none) = true) from Bool.false_ne_true)]
  refine wpAny_bind (wpAny_pure ?_)
  refine wpAny_bind (wpAny_dictEntries hb rfl ?_)
  first | refine wi_neg (by walk_at "mem") ?_ | rw [if_neg (by walk_at "mem")]
  refine wpAny_bind (wpAny_pure ?_)
  refine wpAny_bind (wpAny_dictEpoch hb rfl ?_)
  first | refine wi_neg (by walk_at "mem") ?_ | rw [if_neg (by walk_at "mem")]
  refine wpAny_pure ?_
  have he : es.toArray[es.length]? = none := by simp
  simp only [show ¬ (((es.length : Nat) : Int) < 0) from by omega, if_false, Int.toNat_natCast, he]
  refine wpAny_bind ?_
  first | refine wpAny_bind (wpAny_typeNameOfWhole_keyiter hit.typeIs (wpAny_pure ?_)) | refine wpAny_bind (wpAny_typeNameOf_keyiter hit.typeIs (wpAny_pure ?_))
  show wpAny _ _ (setField (.ref it) 0 .none >>= _) _ _ s
  refine wpAny_bind (wpAny_setField ho hd (by walk_at "mem") ?_)
  show wpAny _ _ (newExc (.type "StopIteration") [] >>= _) _ _ _
  refine wpAny_bind ?_
  simp only [newExc, newTuple]
  refine wpAny_bind (wpAny_newObj_type ?_ (by size_fits))
  refine wpAny_bind (m := firstArgMember _ _) (wpAny_of_eq (a := Value.none) (by first | rfl | (simp only [firstArgMember]; rfl)) ?_)
  refine wpAny_newObj_type ?_ (by size_fits)
  simp only [raiseNew]
  refine wpAny_bind (wpAny_handled ?_)
  rw [show A.in1.handled = none from hh]
  refine wpAny_bind (wpAny_pure (wpAny_throw ?_))
  refine wpAny_bind (wpAny_isInstance (T := "StopIteration") (b := true) ⟨_, Heap.get?_push_size _ rfl, rfl⟩ isSubtype_stop ?_)
  exact wpAny_pure (hQ _ (((Heap.SameBut.update ..).extBut.push _).push _))
theorem Walks.book {A : Around} (hh : A.handled = none) (I b bx lam : Addr) (hne : b ≠ I) (es : List DictEntry) (n : Nat) :
    Walks PR w A I [I, b] [I] es.length (fun i v => ∃ e, es[i]? = some e ∧ v = e.key) (fun i h => h.IsKeyIter I b i es.length n ∧ h.get? b = some (bookO bx lam es n)) where
  sub := fun c hb => by simp at hb; simp [hb]
  frame := fun _ _ _ st hk => ⟨st.1.at fun o e => hk I (by walk_at "mem") o e, hk b (by walk_at "mem") _ st.2⟩
  item := fun i s Q E hi st hQ => by
    obtain ⟨e, hx⟩ : ∃ e, es[i]? = some e := ⟨es[i], by simp [hi]⟩
    refine book_next st.1 st.2 hx fun h' hit' hs' => ?_
    exact hQ e.key h' s.toks ⟨e, hx, rfl⟩ ⟨hit', hs'.extBut b _ hne st.2⟩ fun c o hc e => hs'.extBut c o (fun h => hc (by simp [h])) e
  done := fun s Q E st hQ => book_done hh st.1 st.2 fun h' he' => hQ h' s.toks fun c o hc e => he' c o (fun h => hc (by simp [h])) e
  self := fun _ _ _ _ st hQ => wpAny_pyIter_keyiter st.1 hQ
end
end
section
section
variable {w : World} {A : Around} {s : Shared} {E : Value → Shared → Prop} {b bx lam : Addr} {es : List DictEntry} {n : Nat}
theorem book_hint {Q : Bool → Shared → Prop} (Y : (KY w.params).In s.heap) (hb : s.heap.get? b = some (bookO bx lam es n)) (hbs : (b == sysModules) = false) (hfit : es.length ≤ 1000000) (h : ∀ c tk, Q c { s with toks := tk }) :
    wpAny (model PR w) A (Builtin.List.listLengthHint (.ref b)) Q E s := by
  have L0 : Looks (model PR w) s.heap (typeOf (.ref b)) (.ref 115) := (Looks.ld hb).andThen .now
  have L1 : Looks (model PR w) s.heap (isInstance (.ref b) (.type "dict")) true := L0.andThen (looks_mroIn Y (by kernel_rfl))
  have L2 : Looks (model PR w) s.heap (typeLookup (.ref 115) "__len__") (some (.builtin "dict.__len__")) := looks_findIn Y (by kernel_rfl)
  unfold Builtin.List.listLengthHint
  refine wpAny_bind (book_special hb L2 ?_)
  generalize hid : ("dict.__len__" : String) = id0
  wp_delta
  rw [show splitId id0 = some ("dict", "__len__") from by subst hid; decide +kernel]
  subst hid
  refine wpAny_bind (L1.here ?_)
  refine wpAny_ite_split (fun hab => absurd hab (by decide)) (fun _ => ?_)
  refine wpAny_ite_split (fun _ => ?_) (fun hab => absurd (by decide +kernel) hab)
  refine wpAny_bind (L0.here ?_)
  refine wpAny_bind (book_len Y hb hbs hfit ?_)
  refine wpAny_bind (m := asInt? _) (wpAny_pure ?_)
  exact wpAny_pure (h _ _)
end
section
variable {w : World} {A : Around} {s : Shared} {E : Value → Shared → Prop} {b bx lam : Addr} {es : List DictEntry} {n : Nat}
theorem book_extend {R : Result → Shared → Prop} (hh : A.handled = none) (Y : (KY w.params).In s.heap) (hb : s.heap.get? b = some (bookO bx lam es n)) (hbs : (b == sysModules) = false) (S : Addr) (hSb : S ≠ b) (res : Value) (c₀ : Nat) (hS : s.heap.get? S = some { cls := .type "list", data := .seq #[] c₀ })
    (hR : ∀ h' tk acc' c', (∀ a o, a ≠ S → s.heap.get? a = some o → h'.get? a = some o) → h'.get? S = some { cls := .type "list", dict := none, data := .seq acc' c', slots := #[] } → ItemsOf (fun i v => ∃ e, es[i]? = some e ∧ v = e.key) acc' es.length → R (.ok (.ret res)) { s with heap := h', toks := tk }) (hn : es.length ≤ 1000) :
    wpAny (model PR w) A.in1 (Builtin.List.listExtendWith (.ref S) (.ref b) res)
      (fun fin s' => match fin with | .done f => R (.ok f) s' | .again c' => c'.quiet = true ∧ codeAny (model PR w) A c' R s') (fun e s' => R (.error e) s') s := by
  have L0 : Looks (model PR w) s.heap (typeOf (.ref b)) (.ref 115) := (Looks.ld hb).andThen .now
  have hlt := Heap.lt_size hb
  have hne : b ≠ s.heap.objs.size := Nat.ne_of_lt hlt
  have hSI : S ≠ s.heap.objs.size := Nat.ne_of_lt (Heap.lt_size hS)
  have hSf : S ∉ [s.heap.objs.size, b] := by simp only [List.mem_cons, List.not_mem_nil, or_false, not_or]; exact ⟨hSI, hSb⟩
  have W := Walks.book (w := w) (A := A.in1) hh s.heap.objs.size b bx lam hne es n
  have hnS : es.length ≤ sizeLine := by rw [sizeLine_eq]; omega
  have key : ∀ (h : Heap) (c₁ tk : Nat), (h.IsKeyIter s.heap.objs.size b 0 es.length n ∧ h.get? b = some (bookO bx lam es n)) → (∀ a o, a ≠ S → s.heap.get? a = some o → h.get? a = some o) →
      h.get? S = some { cls := .type "list", data := .seq #[] c₁ } → codeAny (model PR w) A (.builtin "list.extend.loop" ⟨[.ref S, .ref s.heap.objs.size, res], []⟩) R { s with heap := h, toks := tk } := by
    intro h c₁ tk hst hk hS₁
    refine codeAny_extend_loopS W.toS hnS S hSf res es.length 0 _ #[] c₁ rfl (Nat.zero_le _) hst hS₁ (ItemsOf.nil _) fun s' acc' c' hm hS' hacc => ?_
    rw [Moved.eq_with hm]
    refine hR s'.heap s'.toks acc' c' (fun a o ha e => hm.heap a o (fun hmem => ?_) (hk a o ha e)) hS' hacc
    rcases List.mem_cons.mp hmem with e' | hmem
    · exact ha e'
    · exact absurd (Heap.lt_size e) (by rw [List.mem_singleton.mp hmem]; exact Nat.lt_irrefl _)
  unfold Builtin.List.listExtendWith
  refine wpAny_bind (L0.here ?_)
  have h1 : Builtin.List.listSameRef (.ref S) (.ref b) = false := by simp [Builtin.List.listSameRef, hSb]
  simp only [h1, show (Value.ref 115 == Value.type "list") = false by decide, show (Value.ref 115 == Value.type "tuple") = false by decide, Bool.or_false, Bool.false_eq_true, if_false]
  refine wpAny_bind (book_iter Y hb hbs ?_)
  have up : ∀ a o, s.heap.get? a = some o → (s.heap.push { cls := .type "dict_keyiterator", data := .fields #[.ref b, .int (0 : Nat) 0, .int (es.length : Nat) 0, .int (n : Nat) 0] }).get? a = some o := fun a o e => Heap.get?_push_of_some _ e
  have hst : Heap.IsKeyIter (s.heap.push { cls := .type "dict_keyiterator", data := .fields #[.ref b, .int (0 : Nat) 0, .int (es.length : Nat) 0, .int (n : Nat) 0] }) s.heap.objs.size b 0 es.length n := ⟨_, Heap.get?_push_size _ rfl, rfl, rfl⟩
  have hS₁ := up _ _ hS
  refine wpAny_bind (wpAny_holding (book_hint (Y.keeps up) (up _ _ hb) hbs (by walk_at "lia") fun c tk => ?_))
  refine wpAny_ite_split (fun _ => ?_) (fun _ => wpAny_pure ⟨plainId_quiet PySem.F.plain_extend_loop _, key _ c₀ _ ⟨hst, up _ _ hb⟩ (fun a o _ e => up a o e) hS₁⟩)
  refine wpAny_bind (wpAny_rule ?_)
  refine wpAny_bind ?_
  show wpAny _ _ (updateSeq S (·.push .none) >>= fun _ => updateSeq S (·.pop)) _ _ _
  refine wpAny_bind (wpAny_updateSeq hS₁ rfl ?_)
  have hS₂ := Heap.get?_update_self (Obj.mapSeq (·.push Value.none)) hS₁ rfl
  refine wpAny_updateSeq (hz := by seq_fits) hS₂ rfl ?_
  have hS₃ := Heap.get?_update_self (Obj.mapSeq (·.pop)) hS₂ rfl
  have oth : ∀ a o, a ≠ S → (s.heap.push { cls := .type "dict_keyiterator", data := .fields #[.ref b, .int (0 : Nat) 0, .int (es.length : Nat) 0, .int (n : Nat) 0] }).get? a = some o → ((Heap.update _ S (Obj.mapSeq (·.push Value.none))).update S (Obj.mapSeq (·.pop))).get? a = some o :=
    fun a o ha e => (Heap.get?_update_other _ _ (Ne.symm ha)).trans ((Heap.get?_update_other _ _ (Ne.symm ha)).trans e)
  refine wpAny_pure ⟨plainId_quiet PySem.F.plain_extend_loop _, key _ _ _ ⟨hst.at fun o e => oth _ o hSI.symm e, oth _ _ hSb.symm (up _ _ hb)⟩ (fun a o ha e => oth a o ha (up a o e)) hS₃⟩
theorem book_init {R : Result → Shared → Prop} (hh : A.handled = none) (Y : (KY w.params).In s.heap) (hb : s.heap.get? b = some (bookO bx lam es n)) (hbs : (b == sysModules) = false) (S : Addr) (hSb : S ≠ b) (hK : ∀ o, (KY w.params).lookup S = some o → False) (hS : s.heap.get? S = some { cls := .type "list", data := .seq #[] })
    (hR : ∀ h' tk acc' c', (∀ a o, a ≠ S → s.heap.get? a = some o → h'.get? a = some o) → h'.get? S = some { cls := .type "list", dict := none, data := .seq acc' c', slots := #[] } → ItemsOf (fun i v => ∃ e, es[i]? = some e ∧ v = e.key) acc' es.length → R (.ok (.ret .none)) { s with heap := h', toks := tk }) (hn : es.length ≤ 1000) :
    wpAny (model PR w) A.in1 (Builtin.«list.__init__» ⟨[.ref S, .ref b], []⟩)
      (fun fin s' => match fin with | .done f => R (.ok f) s' | .again c' => c'.quiet = true ∧ codeAny (model PR w) A c' R s') (fun e s' => R (.error e) s') s := by
  show wpAny _ _ (do let old ← Builtin.List.listItems (.ref S); Builtin.List.listUpdate (.ref S) (fun _ => #[]); letGo old.toList.reverse; Builtin.List.listExtendWith (.ref S) (.ref b) .none) _ _ s
  refine wpAny_bind ?_
  unfold Builtin.List.listItems
  refine wpAny_bind (wpAny_seqItems hS rfl (wpAny_pure ?_))
  show wpAny _ _ (updateSeq S (fun _ => #[]) >>= fun _ => letGo (#[] : Array Value).toList.reverse >>= fun _ => Builtin.List.listExtendWith (.ref S) (.ref b) .none) _ _ s
  refine wpAny_bind (wpAny_updateSeq hS rfl ?_)
  have hS₂ := Heap.get?_update_self (Obj.mapSeq (fun _ => (#[] : Array Value))) hS rfl
  have oth : ∀ a o, a ≠ S → s.heap.get? a = some o → (s.heap.update S (Obj.mapSeq (fun _ => (#[] : Array Value)))).get? a = some o :=
    fun a o ha e => (Heap.get?_update_other _ _ (Ne.symm ha)).trans e
  refine wpAny_bind (wpAny_letGo ?_)
  refine book_extend hh (fun a o e => oth a o (fun h => by subst h; exact hK o e) (Y a o e)) (oth _ _ hSb.symm hb) hbs S hSb .none _ hS₂ (fun h' tk acc' c' hk hS' hacc => ?_) hn
  exact hR h' tk acc' c' (fun a o ha e => hk a o ha (oth a o ha e)) hS' hacc
theorem book_list {Q : Value → Shared → Prop} (hh : A.handled = none) (Y : (KY w.params).In s.heap) (hb : s.heap.get? b = some (bookO bx lam es n)) (hbs : (b == sysModules) = false) (hn : es.length ≤ 1000)
    (hQ : ∀ h' tk acc' c', (∀ a o, s.heap.get? a = some o → h'.get? a = some o) → h'.get? s.heap.objs.size = some { cls := .type "list", dict := none, data := .seq acc' c', slots := #[] } → ItemsOf (fun i v => ∃ e, es[i]? = some e ∧ v = e.key) acc' es.length → Q (.ref s.heap.objs.size) { s with heap := h', toks := tk }) :
    wpAny (model PR w) A (call (.type "list") [.ref b]) Q E s := by
  refine callType_codes (Q₁ := fun obj s₁ => obj = .ref s.heap.objs.size ∧ s₁ = { s with heap := s.heap.push { cls := .type "list", data := .seq #[] } }) PySem.F.called_list (PySem.F.typeCall_list_1 _) PySem.F.entry_list_init
    (code_list_new _ ⟨rfl, rfl⟩) fun obj s₁ h₁ => ?_
  obtain ⟨rfl, rfl⟩ := h₁
  have hS : (s.heap.push { cls := .type "list", data := .seq #[] }).get? s.heap.objs.size = some { cls := .type "list", data := .seq #[] } := Heap.get?_push_size _ rfl
  have up : ∀ a o, s.heap.get? a = some o → (s.heap.push { cls := .type "list", data := .seq #[] }).get? a = some o := fun a o e => Heap.get?_push_of_some _ e
  refine ⟨⟨_, hS, rfl⟩, PySem.F.args_list_init_2 _ _, book_init (A := A.in1) hh (Y.keeps up) (up _ _ hb) hbs _ (Nat.ne_of_gt (Heap.lt_size hb)) (fun o e => Nat.lt_irrefl _ (Heap.lt_size (Y _ o e))) hS (fun h' tk acc' c' hk hS' hacc => ?_) hn⟩
  exact ⟨rfl, hQ h' tk acc' c' (fun a o e => hk a o (Nat.ne_of_lt (Heap.lt_size e)) (up a o e)) hS' hacc⟩
/-- list(book), in a walk: its keys -/
theorem bookis_list {Q : Value → Shared → Prop} {h₀ base : Heap} {L : Addr} {m : Str → Option Value} {A₀ : Around} {outer : List Env} {nt : Addr} {G : List (Str × List Str)} {led news : List (Addr × Obj)} (hh : A.handled = none)
    (F : Fr h₀ L s.heap m) (N : News h₀ L s.heap news) (B : Below A₀ base outer h₀) (YB : (KY w.params).In base) (hB : BookIs w nt b G led) (hsub : ∀ p ∈ led, p ∈ news) (hfit : G.length ≤ 1000)
    (h : ∀ D vs c h' tk, Fr h₀ L h' m → News h₀ L h' ((D, lst vs c) :: news) → (∀ p ∈ news, @LT.lt Nat _ p.1 D) → StrsAre vs (G.map (·.1)) → Q (.ref D) { s with heap := h', toks := tk }) :
    wpAny (model PR w) A (call (.type "list") [.ref b]) Q E s := by
  obtain ⟨bx, lam, n, its, g, hs', ft, kk, sup, h1, h2, h3, h4, h5, h6, h7⟩ := hB
  have e : ((its.map (·.1)).map ent).length = G.length := by rw [List.length_map, List.length_map, h4.len]
  refine book_list hh (yin F B YB) (N _ (hsub _ h1)).1 h7 (by walk_at "lia") fun h' tk acc' c' hk hD hacc => ?_
  refine h _ acc'.toList c' h' tk (F.keeps hk) (news_pushed F N hk (by first | (rw [Array.toArray_toList]; exact hD) | simpa using hD) rfl) (fun q hq => Heap.lt_size (N q hq).1) ?_
  have h8 : ∀ {its : List It} {G : List (Str × List Str)} {vs : List Value}, All2 ItIs its G → vs.length = ((its.map (·.1)).map ent).length → (∀ (i : Nat) (v : Value), vs[i]? = some v → ∃ e : DictEntry, ((its.map (·.1)).map ent)[i]? = some e ∧ v = e.key) → StrsAre vs (G.map (·.1)) := by
    intro its G vs ha
    induction ha generalizing vs with
    | nil => intro hl _; cases vs with
      | nil => exact .nil
      | cons _ _ => simp at hl
    | cons r _ ih =>
      intro hl hv
      cases vs with
      | nil => simp at hl
      | cons v vs =>
        obtain ⟨e, he, rfl⟩ := hv 0 v rfl
        simp only [List.map_cons, List.getElem?_cons_zero, Option.some.injEq] at he
        subst he
        rw [List.map_cons, ← r.1]
        exact .cons _ _ (ih (by simpa using hl) fun i u hu => by simpa using hv (i + 1) u (by simpa using hu))
  exact h8 h4 (by rw [Array.length_toList]; exact hacc.1) fun i v hv => hacc.2 i v (by rw [← Array.getElem?_toList]; exact hv)
end
end
section
/-- what the last loop keeps -/
inductive LJ (M : Str → Option Value) (nt L : Addr) (TL : List (Addr × Obj)) (ll : Addr) (refs : List Value) (n5 : Nat) (i : Nat) (m₁ : Str → Option Value) (n₁ : List (Addr × Obj)) : Prop where
  | mk : ((∃ ub ur uf, m₁ = fun z => if z = Str.ofString "book" then ub else if z = Str.ofString "runs" then ur else if z = Str.ofString "firsts" then uf else M z)) → ∀ ns e o v, (n₁ = (nt, lst ns e) :: (L + 1 + 1 + 1 + 1, o) :: TL) → (o.data = .cell v) → (ns.length ≤ n5 + 2 * i) → (ND ((ll, lst refs 0) :: n₁)) → LJ M nt L TL ll refs n5 i m₁ n₁
/-- one row of the last loop: a book and its places -/
inductive Row (w : World) (nt : Addr) (TL : List (Addr × Obj)) (v : Value) : Prop where
  | mk : ∀ (t b l : Addr) (ys : List Value) (n : Nat) (qs : List Nat) (G : List (Str × List Str)), (v = .ref t) → ((t, ({ cls := .type "tuple", data := .seq #[.ref b, .ref l] } : Obj)) ∈ TL) → ((l, lst ys n) ∈ TL) → (IntsAre ys (qs.map fun b : Nat => (b : Int))) → (qs.length ≤ 7) → ((∀ q ∈ qs, q < 5)) → (BookIs w nt b G TL) → (G.map (·.1) = firsts (qs.map wd)) → (G.length ≤ 7) → Row w nt TL v
theorem e_wd0 : ∀ i : Fin 5, Str.ofString "e" ≠ wd i.1 := by decide +kernel
theorem e_not {qs : List Nat} (h : ∀ q ∈ qs, q < 5) : Str.ofString "e" ∉ firsts (qs.map wd) := fun hm => by
  obtain ⟨q, hq, he⟩ := List.mem_map.mp (mem_firsts.mp hm)
  exact e_wd0 ⟨q, h q hq⟩ he.symm
theorem loop_nd {nt ll I c : Addr} {o oI x y : Obj} {TL : List (Addr × Obj)} (nd : ND ((ll, y) :: (nt, x) :: (c, o) :: TL)) (hI : ∀ p ∈ (nt, x) :: (c, o) :: TL, p.1 ≠ I) (hl : ll ≠ I) : ND ((c, o) :: (I, oI) :: (ll, y) :: (nt, x) :: TL) := by
  have h1 : ND ((I, oI) :: (ll, y) :: (nt, x) :: (c, o) :: TL) := nd_cons.mpr ⟨fun q hq => by
    rcases List.mem_cons.mp hq with rfl | hq
    · exact hl
    · exact hI q hq, nd⟩
  refine h1.of fun a => ?_
  simp only [List.map_cons, List.count_cons]
  omega
theorem loop_mem {a b I ll nt c : Addr × Obj} {TL : List (Addr × Obj)} : ∀ p ∈ I :: ll :: nt :: TL, p ∈ a :: b :: I :: ll :: nt :: c :: TL := by walk_at "sub"
end
section
theorem take_wd {qs : List Nat} {j q : Nat} (hq : qs[j]? = some q) : (qs.take (j + 1)).map wd = (qs.take j).map wd ++ [wd q] := by
  have e : qs.take (j + 1) = qs.take j ++ [q] := by rw [List.take_add_one, hq]; rfl
  rw [e, List.map_append]; rfl
theorem mem_wd {qs : List Nat} {q : Nat} (h5 : ∀ k ∈ qs, k < 5) (hq : q < 5) : wd q ∈ qs.map wd ↔ q ∈ qs := by
  constructor
  · intro h
    obtain ⟨k, hk, he⟩ := List.mem_map.mp h
    rw [← (wd_eq (h5 k hk) hq).mp he]; exact hk
  · exact fun h => List.mem_map_of_mem h
theorem firsts_yes {zs : List Value} {qs : List Nat} {j q : Nat} {t : Tok} (h : StrsAre zs (firsts ((qs.take j).map wd))) (hq : qs[j]? = some q) (h5 : ∀ k ∈ qs, k < 5) (hn : decide (q ∈ qs.take j) = false) : StrsAre (zs ++ [.str (wd q) t]) (firsts ((qs.take (j + 1)).map wd)) := by
  have hq5 := h5 q (List.mem_of_getElem? hq)
  rw [take_wd hq, firsts_snoc, if_neg]
  · exact StrsAre_append h (.cons _ _ .nil)
  · rw [mem_firsts, mem_wd (fun k hk => h5 k (List.mem_of_mem_take hk)) hq5]
    exact of_decide_eq_false hn
theorem firsts_no {zs : List Value} {qs : List Nat} {j q : Nat} (h : StrsAre zs (firsts ((qs.take j).map wd))) (hq : qs[j]? = some q) (h5 : ∀ k ∈ qs, k < 5) (hn : decide (q ∈ qs.take j) = true) : StrsAre zs (firsts ((qs.take (j + 1)).map wd)) := by
  have hq5 := h5 q (List.mem_of_getElem? hq)
  rw [take_wd hq, firsts_snoc, if_pos]
  · exact h
  · rw [mem_firsts, mem_wd (fun k hk => h5 k (List.mem_of_mem_take hk)) hq5]
    exact of_decide_eq_true hn
theorem nats_item {ys : List Value} {qs : List Nat} (h : IntsAre ys (qs.map fun b : Nat => (b : Int))) {j : Nat} {v : Value} (hv : ys[j]? = some v) : ∃ q t, qs[j]? = some q ∧ v = .int (q : Int) t := by
  obtain ⟨x, t, hx, rfl⟩ := ints_item h hv
  rw [List.getElem?_map] at hx
  obtain ⟨q, hq, rfl⟩ := Option.map_eq_some_iff.mp hx
  exact ⟨q, t, hq, rfl⟩
theorem any_nat {qs : List Nat} {q : Nat} : (qs.map fun b : Nat => (b : Int)).any (· == (q : Int)) = decide (q ∈ qs) := by
  by_cases h : q ∈ qs
  · rw [decide_eq_true h, List.any_eq_true]
    exact ⟨_, List.mem_map_of_mem h, beq_self_eq_true _⟩
  · rw [decide_eq_false h, List.any_eq_false]
    intro x hx he
    obtain ⟨k, hk, rfl⟩ := List.mem_map.mp hx
    have h1 := eq_of_beq he
    have h2 : k = q := by omega
    exact h (h2 ▸ hk)
theorem word_item0 (t1 t2 t3 t4 t5 : Tok) : ∀ i : Fin 5, ∃ t, (#[Value.str "B" t1, .str "a" t2, .str "a b" t3, .str "c" t4, .str "d" t5] : Array Value)[((i.1 : Nat) : Int).toNat]? = some (.str (wd i.1) t)
  | ⟨0, _⟩ => ⟨t1, rfl⟩
  | ⟨1, _⟩ => ⟨t2, rfl⟩
  | ⟨2, _⟩ => ⟨t3, rfl⟩
  | ⟨3, _⟩ => ⟨t4, rfl⟩
  | ⟨4, _⟩ => ⟨t5, rfl⟩
theorem word_item (t1 t2 t3 t4 t5 : Tok) {q : Nat} (h : q < 5) : ∃ t, (wordsV t1 t2 t3 t4 t5).toArray[((q : Nat) : Int).toNat]? = some (.str (wd q) t) := word_item0 t1 t2 t3 t4 t5 ⟨q, h⟩
end
section
theorem map_wd_of : ∀ {xs : List Str} {qs : List Nat}, (∀ q ∈ qs, q < 5) → (∀ x ∈ xs, x ∈ qs.map wd) → ∃ ks : List Nat, xs = ks.map wd ∧ ∀ k ∈ ks, k < 5
  | [], _, _, _ => ⟨[], rfl, fun _ h => nomatch h⟩
  | x :: xs, qs, h5, h => by
    obtain ⟨ks, rfl, hk⟩ := map_wd_of (xs := xs) h5 fun y hy => h y (.tail _ hy)
    obtain ⟨q, hq, rfl⟩ := List.mem_map.mp (h x (.head _))
    exact ⟨q :: ks, rfl, fun k hk' => by
      rcases List.mem_cons.mp hk' with rfl | hk'
      · exact h5 _ hq
      · exact hk k hk'⟩
theorem firsts_wd {qs : List Nat} (h5 : ∀ q ∈ qs, q < 5) : ∃ ks : List Nat, firsts (qs.map wd) = ks.map wd ∧ ∀ k ∈ ks, k < 5 := map_wd_of h5 fun _ hx => mem_firsts.mp hx
end
section
noncomputable def LawEnd (gh : Heap) (L : Addr) (s : Shared) (f : Flow) (s' : Shared) : Prop := f = .ret (.bool true) ∧ ∃ h' tk' m' t1 t2, s' = { s with heap := h', toks := tk' } ∧ Fr gh L h' m' ∧ News gh L h' [(107, tabObj t1), (246, tabObj t2)]
theorem lookup_in : ∀ {l : List (Addr × Obj)} {a : Addr} {o : Obj}, l.lookup a = some o → (a, o) ∈ l
  | [], _, _, e => by cases e
  | (b, ob) :: l, a, o, e => by
    rw [List.lookup_cons] at e
    by_cases h : (a == b) = true
    · rw [h] at e
      have h' : a = b := by simpa using h
      cases e; subst h'; exact .head _
    · have h' : (a == b) = false := by simpa using h
      rw [h'] at e
      exact .tail _ (lookup_in e)
theorem ky_ghost {w : World} {h : Heap} (Y : (KY w.params).In h) : (KY w.params).In (ghostOf h [(111, 107), (250, 246)]) := fun a o e => by
  refine ghost_ne (Y a o e) fun hm => ?_
  have h1 := (List.mem_filter.mp (lookup_in e)).2
  simp only [List.map_cons, List.map_nil, List.mem_cons, List.not_mem_nil, or_false] at hm
  rcases hm with rfl | rfl <;> simp at h1
theorem two_lt {L0 k : Nat} {y z : Obj} (lt0 : 107 < L0 ∧ 246 < L0) (h : L0 ≤ k) : ∀ q ∈ [((107 : Addr), y), ((246 : Addr), z)], @Ne Nat q.1 k :=
  List.forall_mem_cons.mpr ⟨Nat.ne_of_lt (Nat.lt_of_lt_of_le lt0.1 h), List.forall_mem_cons.mpr ⟨Nat.ne_of_lt (Nat.lt_of_lt_of_le lt0.2 h), List.forall_mem_nil _⟩⟩
theorem nd_base {L0 nl : Addr} {oA oB oC oD x y z : Obj} (h : ∀ p ∈ [(L0 + 1 + 1 + 1 + 1, oA), (L0 + 1 + 1 + 1, oB), (L0 + 1 + 1, oC), (L0 + 1, oD), (107, y), (246, z)], p.1 < nl) (lt0 : 107 < L0 ∧ 246 < L0) :
    ND ((nl, x) :: [(L0 + 1 + 1 + 1 + 1, oA), (L0 + 1 + 1 + 1, oB), (L0 + 1 + 1, oC), (L0 + 1, oD), (107, y), (246, z)]) :=
  nd_cons.mpr ⟨fun q hq => Nat.ne_of_lt (h q hq), nd_cons.mpr ⟨List.forall_mem_cons.mpr ⟨Nat.ne_of_lt (Nat.lt_succ_self _), List.forall_mem_cons.mpr ⟨Nat.ne_of_lt (Nat.lt_succ_of_lt (Nat.lt_succ_self _)), List.forall_mem_cons.mpr ⟨Nat.ne_of_lt (Nat.lt_succ_of_lt (Nat.lt_succ_of_lt (Nat.lt_succ_self _))), two_lt lt0 (Nat.le_succ_of_le (Nat.le_succ_of_le (Nat.le_succ_of_le (Nat.le_succ _))))⟩⟩⟩,
    nd_cons.mpr ⟨List.forall_mem_cons.mpr ⟨Nat.ne_of_lt (Nat.lt_succ_self _), List.forall_mem_cons.mpr ⟨Nat.ne_of_lt (Nat.lt_succ_of_lt (Nat.lt_succ_self _)), two_lt lt0 (Nat.le_succ_of_le (Nat.le_succ_of_le (Nat.le_succ _)))⟩⟩,
    nd_cons.mpr ⟨List.forall_mem_cons.mpr ⟨Nat.ne_of_lt (Nat.lt_succ_self _), two_lt lt0 (Nat.le_succ_of_le (Nat.le_succ _))⟩, nd_cons.mpr ⟨two_lt lt0 (Nat.le_succ _), nd_cons.mpr ⟨List.forall_mem_cons.mpr ⟨(by decide : (246 : Nat) ≠ 107), List.forall_mem_nil _⟩, nd_cons.mpr ⟨List.forall_mem_nil _, nd_nil⟩⟩⟩⟩⟩⟩⟩
theorem nd_pairs {x n a b c d t u : Addr × Obj} {X : List (Addr × Obj)} (h : ND (x :: (X ++ n :: [a, b, c, d, t, u]))) : ND (d :: x :: n :: a :: b :: c :: t :: u :: X) :=
  nd_cat1 [[_], X, [_], [_], [_], [_], [_], [_], [_]] [0, 1, 2, 3, 4, 5, 6, 7, 8] [6, 0, 2, 3, 4, 5, 7, 8, 1] h
theorem put_hd {c : Addr} {o o' : Obj} {l others : List (Addr × Obj)} (nd : ND ((c, o) :: others)) (hs : ∀ p ∈ others, p ∈ l) : Put (c, o') l ((c, o') :: others) := fun p hp => by
  rcases List.mem_cons.mp hp with rfl | hp
  · exact .inl rfl
  · exact .inr ⟨hs p hp, (nd_cons.mp nd).1 p hp⟩
theorem put_sub1 {x n a b c d t u : Addr × Obj} (X : List (Addr × Obj)) : ∀ p ∈ x :: n :: a :: b :: c :: t :: u :: X, p ∈ x :: (X ++ n :: [a, b, c, d, t, u]) :=
  sub_cat [[_], X, [_], [_], [_], [_], [_], [_], [_]] [0, 2, 3, 4, 5, 7, 8, 1] [0, 1, 2, 3, 4, 5, 6, 7, 8]
theorem nd_new {a : Addr} {x : Obj} {l : List (Addr × Obj)} (nd : ND l) (h : AllLt a l) : ND ((a, x) :: l) := nd_cons.mpr ⟨fun q hq => Nat.ne_of_lt (of_allLt h q hq), nd⟩
theorem groups_le (sd : Bool) (prs : List PRec) : (groups (rowsOf sd prs)).length ≤ prs.length := by
  have h := (groups_bounds (rowsOf sd prs) prs.length (by simp [rowsOf])).1
  have e : (rowsOf sd prs).take prs.length = rowsOf sd prs := List.take_of_length_le (by simp [rowsOf])
  rw [e] at h
  exact h
theorem book_in {w : World} {nt b : Addr} {G : List (Str × List Str)} {a c d f : Addr × Obj} {Z Y : List (Addr × Obj)} (h : BookIs w nt b G (a :: c :: d :: f :: Z)) (hs : ∀ p ∈ Z, p ∈ Y) : BookIs w nt b G (a :: c :: d :: f :: Y) := h.mono fun p hp => by
  simp only [List.mem_cons] at hp ⊢
  rcases hp with h | h | h | h | h
  · exact .inl h
  · exact .inr (.inl h)
  · exact .inr (.inr (.inl h))
  · exact .inr (.inr (.inr (.inl h)))
  · exact .inr (.inr (.inr (.inr (hs p h))))
theorem mem_b2 {x p t1 t2 t3 t4 q n a b c : Addr × Obj} (Y : List (Addr × Obj)) : ∀ z ∈ t1 :: t2 :: t3 :: t4 :: Y, z ∈ x :: p :: t1 :: t2 :: t3 :: t4 :: q :: n :: a :: b :: c :: Y := by walk_at "sub"
theorem bookis_len {w : World} {A : Around} {s : Shared} {E : Value → Shared → Prop} {Q : Value → Shared → Prop} {h₀ base : Heap} {L : Addr} {m : Str → Option Value} {A₀ : Around} {outer : List Env} {nt b : Addr} {G : List (Str × List Str)} {led news : List (Addr × Obj)}
    (F : Fr h₀ L s.heap m) (N : News h₀ L s.heap news) (B : Below A₀ base outer h₀) (YB : (KY w.params).In base) (hB : BookIs w nt b G led) (hsub : ∀ p ∈ led, p ∈ news) (hfit : G.length ≤ 1000000) (h : Q (.int (G.length : Nat) (s.toks + 1)) { s with toks := s.toks + 1 + 1 }) :
    wpAny (model PR w) A (call (.builtin "len") [.ref b]) Q E s := by
  obtain ⟨bx, lam, n, its, g, hs', ft, kk, sup, h1, h2, h3, h4, h5, h6, h7⟩ := hB
  have e : ((its.map (·.1)).map ent).length = G.length := by rw [List.length_map, List.length_map, h4.len]
  refine book_len (yin F B YB) (N _ (hsub _ h1)).1 h7 (by walk_at "lia") ?_
  rw [e]
  exact h
theorem nd_8 {x p t1 t2 t3 t4 q n a b c : Addr × Obj} {Y : List (Addr × Obj)} (h : ND (x :: p :: t1 :: t2 :: t3 :: t4 :: q :: n :: a :: b :: c :: Y)) : ND (n :: x :: p :: t1 :: t2 :: t3 :: t4 :: q :: a :: b :: c :: Y) := nd_pick [7,0,1,2,3,4,5,6] 8 h (by decide) rfl
theorem mem_8 {x p t1 t2 t3 t4 q n a b c : Addr × Obj} {Y : List (Addr × Obj)} : ∀ z ∈ n :: x :: p :: t1 :: t2 :: t3 :: t4 :: q :: a :: b :: c :: Y, z ∈ x :: p :: t1 :: t2 :: t3 :: t4 :: q :: n :: a :: b :: c :: Y := by walk_at "sub"
theorem mem_8' {r x p t1 t2 t3 t4 q n a b c : Addr × Obj} {Y : List (Addr × Obj)} : ∀ z ∈ r :: x :: p :: t1 :: t2 :: t3 :: t4 :: q :: n :: a :: b :: c :: Y, z ∈ r :: n :: x :: p :: t1 :: t2 :: t3 :: t4 :: q :: a :: b :: c :: Y := by walk_at "sub"
theorem nd_dl {r x p t1 t2 t3 t4 q n a b c : Addr × Obj} {D : Addr} {o : Obj} {Y : List (Addr × Obj)} (h : ND (x :: p :: t1 :: t2 :: t3 :: t4 :: q :: n :: a :: b :: c :: Y)) (off : ∀ z ∈ r :: x :: p :: t1 :: t2 :: t3 :: t4 :: q :: n :: a :: b :: c :: Y, z.1 ≠ D) : ND (x :: (D, o) :: p :: t1 :: t2 :: t3 :: t4 :: q :: n :: a :: b :: c :: Y) := by
  have h1 : ND ((D, o) :: x :: p :: t1 :: t2 :: t3 :: t4 :: q :: n :: a :: b :: c :: Y) := nd_cons.mpr ⟨fun z hz => off z (.tail _ hz), h⟩
  exact nd_cat1 [[_], [_], _] [0, 1, 2] [1, 0, 2] h1
theorem mem_dl {d r x p t1 t2 t3 t4 q n a b c : Addr × Obj} {Y : List (Addr × Obj)} : ∀ z ∈ x :: d :: p :: t1 :: t2 :: t3 :: t4 :: q :: n :: a :: b :: c :: Y, z ∈ d :: r :: x :: p :: t1 :: t2 :: t3 :: t4 :: q :: n :: a :: b :: c :: Y := by walk_at "sub"
theorem mem_g (d p q n a b c : Addr × Obj) {t1 t2 t3 t4 : Addr × Obj} {Y : List (Addr × Obj)} : ∀ z ∈ t1 :: t2 :: t3 :: t4 :: Y, z ∈ d :: p :: t1 :: t2 :: t3 :: t4 :: q :: n :: a :: b :: c :: Y := by walk_at "sub"
theorem nd_off {a : Addr} {o : Obj} {l : List (Addr × Obj)} (h : ND ((a, o) :: l)) : Off a l := fun p hp => (nd_cons.mp h).1 p hp
theorem nd_ol {nt a : Addr} {x o o2 : Obj} {l : List (Addr × Obj)} (h : ND ((nt, x) :: l)) (off : Off a ((nt, o2) :: l)) : ND ((nt, o2) :: (a, o) :: l) := by
  have h1 : ND ((a, o) :: (nt, o2) :: l) := nd_cons.mpr ⟨off, h⟩
  exact nd_cat1 [[_], [_], _] [0, 1, 2] [1, 0, 2] h1
theorem mem_sw {a b : Addr × Obj} {l : List (Addr × Obj)} : ∀ z ∈ a :: b :: l, z ∈ b :: a :: l := by walk_at "sub"
theorem mem_g2 (d1 d p q n a b c : Addr × Obj) {t1 t2 t3 t4 : Addr × Obj} {Y : List (Addr × Obj)} : ∀ z ∈ t1 :: t2 :: t3 :: t4 :: Y, z ∈ d1 :: d :: p :: t1 :: t2 :: t3 :: t4 :: q :: n :: a :: b :: c :: Y := by walk_at "sub"
theorem nd_c2 {x i o d p t1 t2 t3 t4 q n a b c : Addr × Obj} {Y : List (Addr × Obj)} (h : ND (x :: i :: o :: d :: p :: t1 :: t2 :: t3 :: t4 :: q :: n :: a :: b :: c :: Y)) : ND (c :: x :: i :: o :: d :: p :: t1 :: t2 :: t3 :: t4 :: q :: n :: a :: b :: Y) := nd_pick [13,0,1,2,3,4,5,6,7,8,9,10,11,12] 14 h (by decide) rfl
theorem nd_c3 {x i o d p t1 t2 t3 t4 q n a b c : Addr × Obj} {Y : List (Addr × Obj)} (h : ND (c :: x :: i :: o :: d :: p :: t1 :: t2 :: t3 :: t4 :: q :: n :: a :: b :: Y)) : ND (b :: c :: x :: i :: o :: d :: p :: t1 :: t2 :: t3 :: t4 :: q :: n :: a :: Y) := nd_pick [13,0,1,2,3,4,5,6,7,8,9,10,11,12] 14 h (by decide) rfl
theorem mem_c2 {u x i o d p t1 t2 t3 t4 q n a b c : Addr × Obj} {Y : List (Addr × Obj)} : ∀ z ∈ c :: x :: i :: o :: d :: p :: t1 :: t2 :: t3 :: t4 :: q :: n :: a :: b :: Y, z ∈ u :: x :: i :: o :: d :: p :: t1 :: t2 :: t3 :: t4 :: q :: n :: a :: b :: c :: Y := by walk_at "sub"
theorem mem_c2' {u x i o d p t1 t2 t3 t4 q n a b : Addr × Obj} (c : Addr × Obj) {Y : List (Addr × Obj)} : ∀ z ∈ x :: i :: o :: d :: p :: t1 :: t2 :: t3 :: t4 :: q :: n :: a :: b :: Y, z ∈ u :: x :: i :: o :: d :: p :: t1 :: t2 :: t3 :: t4 :: q :: n :: a :: b :: c :: Y := fun z hz => mem_c2 z (.tail _ hz)
theorem mem_c3 {x i o d p t1 t2 t3 t4 q n a b c : Addr × Obj} {Y : List (Addr × Obj)} : ∀ z ∈ b :: c :: x :: i :: o :: d :: p :: t1 :: t2 :: t3 :: t4 :: q :: n :: a :: Y, z ∈ c :: x :: i :: o :: d :: p :: t1 :: t2 :: t3 :: t4 :: q :: n :: a :: b :: Y := by walk_at "sub"
theorem same_obj {PD prs : List PRec} {Y : List (Addr × Obj)} (hs : ∀ p ∈ PD, p ∈ prs) (hin : ∀ p ∈ prs, ∀ q ∈ pobjs p, q ∈ Y) : ∀ x, x ∈ PD.map (·.1) ∨ x ∈ PD.map (·.1) → ∃ o, (x, o) ∈ Y ∧ (o : Obj).cls ≠ .type "tuple" := fun x hx => by
  obtain ⟨p, hp, rfl⟩ := List.mem_map.mp (hx.elim id id)
  exact ⟨_, hin p (hs p hp) _ (.head _), fun h => nomatch h⟩
theorem mem_s1 {w a b x i o d p t1 t2 t3 t4 q n c : Addr × Obj} {Y : List (Addr × Obj)} : ∀ z ∈ w :: d :: a :: b :: x :: p :: t1 :: t2 :: t3 :: t4 :: q :: n :: c :: Y,
    z ∈ w :: a :: b :: x :: i :: o :: d :: p :: t1 :: t2 :: t3 :: t4 :: q :: n :: c :: Y := by walk_at "sub"
theorem mem_s2 {w a b x d p t1 t2 t3 t4 q n c : Addr × Obj} {Y : List (Addr × Obj)} : ∀ z ∈ p :: d :: a :: b :: x :: t1 :: t2 :: t3 :: t4 :: q :: n :: c :: Y,
    z ∈ w :: d :: a :: b :: x :: p :: t1 :: t2 :: t3 :: t4 :: q :: n :: c :: Y := by walk_at "sub"
theorem mem_s3 {w a b x d p t1 t2 t3 t4 q n c : Addr × Obj} {Y : List (Addr × Obj)} : ∀ z ∈ w :: d :: a :: b :: x :: p :: t1 :: t2 :: t3 :: t4 :: q :: n :: c :: Y,
    z ∈ w :: p :: d :: a :: b :: x :: t1 :: t2 :: t3 :: t4 :: q :: n :: c :: Y := by walk_at "sub"
theorem mem_s4 {w a b x d p t1 t2 t3 t4 q n c : Addr × Obj} {Y : List (Addr × Obj)} : ∀ z ∈ x :: t1 :: t2 :: t3 :: t4 :: n :: c :: Y,
    z ∈ w :: d :: a :: b :: x :: p :: t1 :: t2 :: t3 :: t4 :: q :: n :: c :: Y := by walk_at "sub"
theorem nd_fin {a b x i o d p t1 t2 t3 t4 q n c : Addr × Obj} {Y : List (Addr × Obj)} (h : ND (a :: b :: x :: i :: o :: d :: p :: t1 :: t2 :: t3 :: t4 :: q :: n :: c :: Y)) : ND (x :: t1 :: t2 :: t3 :: t4 :: n :: c :: Y) := nd_pick [2,7,8,9,10] 12 h (by decide) rfl
theorem Calls0.use {w : World} {f : Addr} {vs : List Value} {led : List (Addr × Obj)} {dd uu : Nat} {Post : Value → List (Addr × Obj) → Prop} (C : Calls0 w f vs led dd uu Post)
    {dp un : Nat} {gd : Option (List Code)} {cn : Str} {cs : Scope} {a : Addr} {ccd : Value} {cl : List (Str × Addr)} {A₀ : Around} {base h₀ : Heap} {L : Addr} {m : Str → Option Value} {s : Shared} {Q E : Value → Shared → Prop} {loose : List Str} {mean : ExcName → Option Value} {mg mb : Str → Option Value}
    (B : Below A₀ base [] h₀) (YB : (KY w.params).In base) (X : (mkk.heap_1 w.params).In base) (T : Top topProg loose mean mg mb base) (F : Fr h₀ L s.heap m) (N : News h₀ L s.heap led) (hk : cs.kind = .function) (hd : dp + dd ≤ 800) (hu : un + uu ≤ 6000)
    (k : ∀ r led' h' tk', Post r led' → Fr h₀ L h' m → News h₀ L h' led' → Q r { s with heap := h', toks := tk' }) :
    wpAny (model PySem.Challenge.rw_ik0001_01.row.prog w) (ktrTop dp un gd cn cs L a ccd cl []) (call (.ref f) vs) Q E s :=
  C _ _ _ _ _ _ _ _ _ _ _ _ _ _ _ _ _ _ _ _ B YB X T F N hk hd hu k
theorem nd_bare {x y t1 t2 t3 t4 : Addr × Obj} {Y : List (Addr × Obj)} (h : ND (y :: x :: t1 :: t2 :: t3 :: t4 :: Y)) : ND (x :: y :: t1 :: t2 :: t3 :: t4 :: Y) := nd_pick [1,0] 2 h (by decide) rfl
theorem nd_b3 {x y t1 t2 t3 t4 : Addr × Obj} {Y : List (Addr × Obj)} (h : ND (x :: y :: t1 :: t2 :: t3 :: t4 :: Y)) : ND (x :: t1 :: t2 :: t3 :: t4 :: Y) := nd_pick [0] 2 h (by decide) rfl
theorem mem_b3 {x y t1 t2 t3 t4 : Addr × Obj} {Y : List (Addr × Obj)} : ∀ z ∈ x :: t1 :: t2 :: t3 :: t4 :: Y, z ∈ x :: y :: t1 :: t2 :: t3 :: t4 :: Y := by walk_at "sub"
theorem mem_bare {x y t1 t2 t3 t4 : Addr × Obj} {Y : List (Addr × Obj)} : ∀ z ∈ t1 :: t2 :: t3 :: t4 :: x :: y :: Y, z ∈ y :: x :: t1 :: t2 :: t3 :: t4 :: Y := by walk_at "sub"
theorem nd_add {a : Addr} {o : Obj} {l : List (Addr × Obj)} (nd : ND l) (off : ∀ p ∈ l, p.1 ≠ a) : ND ((a, o) :: l) := nd_cons.mpr ⟨off, nd⟩
theorem ints_snoc : ∀ {vs : List Value} {ns : List Int} {k : Int} {t : Tok}, IntsAre vs ns → IntsAre (vs ++ [.int k t]) (ns ++ [k])
  | _, _, _, _, .nil => .cons _ _ .nil
  | _, _, _, _, .cons n t h => .cons n t (ints_snoc h)
theorem ends_snoc {ys : List Value} {ms : List Int} {i : Nat} {x k : Int} {t : Tok} {f : Int → Nat} (h : IntsAre ys (((ms.take i).map f).map fun b : Nat => (b : Int))) (hx : ms[i]? = some x) (hk : k = (f x : Nat)) :
    IntsAre (ys ++ [.int k t]) (((ms.take (i + 1)).map f).map fun b : Nat => (b : Int)) := by
  have e : ms.take (i + 1) = ms.take i ++ [x] := by rw [List.take_add_one, hx]; rfl
  rw [e, List.map_append, List.map_append, hk]
  exact ints_snoc h
theorem nd_loop {a b c d e f g nt t1 t2 t3 t4 n q : Addr × Obj} {Y : List (Addr × Obj)} (h : ND (a :: b :: c :: d :: e :: f :: g :: nt :: t1 :: t2 :: t3 :: t4 :: n :: q :: Y)) : ND (a :: nt :: q :: b :: c :: d :: e :: f :: g :: t1 :: t2 :: t3 :: t4 :: Y) := nd_pick [0,7,13,1,2,3,4,5,6,8,9,10,11] 14 h (by decide) rfl
theorem mem_loop {a b c d e f g nt t1 t2 t3 t4 n q : Addr × Obj} {Y : List (Addr × Obj)} : ∀ z ∈ a :: nt :: q :: b :: c :: d :: e :: f :: g :: t1 :: t2 :: t3 :: t4 :: Y, z ∈ a :: b :: c :: d :: e :: f :: g :: nt :: t1 :: t2 :: t3 :: t4 :: n :: q :: Y := by walk_at "sub"
theorem rows_ok {w : World} {nt t1 t2 t3 b1 b2 b3 l1 l2 l3 : Addr} {n1 n2 : Nat} {G1 G2 : List (Str × List Str)} {ys1 ys2 : List Value} {ms : List Int} {a c d f : Addr × Obj} {Y : List (Addr × Obj)}
    (h1 : BookIs w nt b1 G1 (a :: c :: d :: f :: Y)) (h2 : BookIs w nt b2 G2 (a :: c :: d :: f :: Y)) (h3 : BookIs w nt b3 (groups (rowsOf false [])) (a :: c :: d :: f :: Y))
    (k1 : G1.map (·.1) = firsts ((ms.map fun n => if false then endB n else endA n).map wd)) (k2 : G2.map (·.1) = firsts ((ms.map fun n => if true then endB n else endA n).map wd)) (g1 : G1.length ≤ 7) (g2 : G2.length ≤ 7)
    (y1 : IntsAre ys1 ((ms.map endA).map fun b : Nat => (b : Int))) (y2 : IntsAre ys2 ((ms.map endB).map fun b : Nat => (b : Int))) (hm : ms.length ≤ 7) :
    ∀ (i : Nat) (v : Value), [Value.ref t1, .ref t2, .ref t3][i]? = some v → Row w nt ((t3, ({ cls := .type "tuple", data := .seq #[.ref b3, .ref l3] } : Obj)) :: (l3, lst [] 0) :: (t2, { cls := .type "tuple", data := .seq #[.ref b2, .ref l2] }) :: (l2, lst ys2 n2) :: (t1, { cls := .type "tuple", data := .seq #[.ref b1, .ref l1] }) :: (l1, lst ys1 n1) :: a :: c :: d :: f :: Y) v := by
  intro i v hv
  have sub : ∀ p ∈ a :: c :: d :: f :: Y, p ∈ (t3, ({ cls := .type "tuple", data := .seq #[.ref b3, .ref l3] } : Obj)) :: (l3, lst [] 0) :: (t2, { cls := .type "tuple", data := .seq #[.ref b2, .ref l2] }) :: (l2, lst ys2 n2) :: (t1, { cls := .type "tuple", data := .seq #[.ref b1, .ref l1] }) :: (l1, lst ys1 n1) :: a :: c :: d :: f :: Y := fun p hp => mem_skip 6 hp
  match i, hv with
  | 0, hv => cases hv; exact ⟨t1, b1, l1, ys1, n1, ms.map endA, G1, rfl, mem_skip 4 (.head _), mem_skip 5 (.head _), y1, by rw [List.length_map]; exact hm, fun q hq => by obtain ⟨n, _, rfl⟩ := List.mem_map.mp hq; exact endA_lt n, h1.mono sub, k1, g1⟩
  | 1, hv => cases hv; exact ⟨t2, b2, l2, ys2, n2, ms.map endB, G2, rfl, mem_skip 2 (.head _), mem_skip 3 (.head _), y2, by rw [List.length_map]; exact hm, fun q hq => by obtain ⟨n, _, rfl⟩ := List.mem_map.mp hq; exact endB_lt n, h2.mono sub, k2, g2⟩
  | 2, hv => cases hv; exact ⟨t3, b3, l3, [], 0, [], [], rfl, .head _, mem_skip 1 (.head _), .nil, Nat.zero_le _, (fun q hq => by cases hq), h3.mono sub, rfl, Nat.zero_le _⟩
  | n + 3, hv => simp at hv
theorem lj_start (M : Str → Option Value) : M = fun z => if z = Str.ofString "book" then M "book" else if z = Str.ofString "runs" then M "runs" else if z = Str.ofString "firsts" then M "firsts" else M z := by
  funext z
  by_cases h1 : z = Str.ofString "book"
  · subst h1; rw [if_pos rfl]
  by_cases h2 : z = Str.ofString "runs"
  · subst h2; rw [if_neg h1, if_pos rfl]
  by_cases h3 : z = Str.ofString "firsts"
  · subst h3; rw [if_neg h1, if_neg h2, if_pos rfl]
  rw [if_neg h1, if_neg h2, if_neg h3]
theorem nd_4 {a b c d : Addr × Obj} {Y : List (Addr × Obj)} (h : ND (a :: b :: c :: d :: Y)) : ND (d :: a :: b :: c :: Y) := nd_pick [3,0,1,2] 4 h (by decide) rfl
theorem mem_4 {a b c d : Addr × Obj} {Y : List (Addr × Obj)} : ∀ z ∈ d :: a :: b :: c :: Y, z ∈ a :: b :: c :: d :: Y := by walk_at "sub"
theorem off_q {q nt : Addr} {o : Obj} {led : List (Addr × Obj)} (h1 : @Ne Nat q nt) (h2 : ∀ p ∈ led, @LT.lt Nat _ p.1 q) : ∀ p ∈ (nt, o) :: led, p.1 ≠ q := fun p hp => by
  rcases List.mem_cons.mp hp with rfl | hp
  · exact h1.symm
  · exact Nat.ne_of_lt (h2 p hp)
theorem nd_b1 {x p q n a b c s t : Addr × Obj} {X : List (Addr × Obj)} (h : ND (x :: p :: q :: n :: a :: b :: c :: s :: t :: X)) : ND (t :: s :: x :: q :: p :: n :: a :: b :: c :: X) := nd_pick [8,7,0,2,1,3,4,5,6] 9 h (by decide) rfl
theorem mem_b1 {x p q n a b c s t : Addr × Obj} {X : List (Addr × Obj)} : ∀ z ∈ t :: s :: x :: q :: p :: n :: a :: b :: c :: X, z ∈ x :: p :: q :: n :: a :: b :: c :: s :: t :: X := by walk_at "sub"
theorem off_fl {nt FL : Addr} {x y z : Obj} {led : List (Addr × Obj)} (off : ∀ p ∈ (nt, x) :: led, p.1 ≠ FL) (nd : ND ((nt, z) :: led)) : ∀ p ∈ (FL, y) :: led, p.1 ≠ nt := fun p hp => by
  rcases List.mem_cons.mp hp with rfl | hp
  · exact (off _ (.head _)).symm
  · exact nd_off nd p hp
theorem lj_next {M : Str → Option Value} {a b c a0 b0 c0 : Option Value} : (fun z => if z = Str.ofString "firsts" then a else if z = Str.ofString "runs" then b else if z = Str.ofString "book" then c else if z = Str.ofString "book" then c0 else if z = Str.ofString "runs" then b0 else if z = Str.ofString "firsts" then a0 else M z) = fun z => if z = Str.ofString "book" then c else if z = Str.ofString "runs" then b else if z = Str.ofString "firsts" then a else M z := by
  funext z
  by_cases h1 : z = Str.ofString "book"
  · subst h1; rw [if_neg (by decide), if_neg (by decide), if_pos rfl, if_pos rfl]
  by_cases h2 : z = Str.ofString "runs"
  · subst h2; rw [if_neg (by decide), if_pos rfl, if_neg (by decide), if_pos rfl]
  by_cases h3 : z = Str.ofString "firsts"
  · subst h3; rw [if_pos rfl, if_neg (by decide), if_neg (by decide), if_pos rfl]
  rw [if_neg h3, if_neg h2, if_neg h1, if_neg h1, if_neg h2, if_neg h3, if_neg h1, if_neg h2, if_neg h3]
theorem nd_back {c I ll nt : Addr} {oc x y z u : Obj} {TL : List (Addr × Obj)} (nd : ND ((c, oc) :: (I, x) :: (ll, y) :: (nt, z) :: TL)) : ND ((ll, y) :: (nt, u) :: (c, oc) :: TL) := nd_pick [2,3,0] 4 nd (by decide) rfl
theorem loop_back {D l q n f c I ll : Addr × Obj} {TL : List (Addr × Obj)} : ∀ p ∈ [I, ll] ++ (n :: c :: TL), p ∈ D :: l :: q :: n :: f :: c :: I :: ll :: TL := by walk_at "sub"
theorem ne_two {n : Nat} (h : ((n + 1 + 1 : Nat) : Int) ≠ ((n : Nat) : Int) + 2) : False := h (by walk_at "lia")
theorem len_two {n k i : Nat} (h : n ≤ k + 2 * i) : n + 1 + 1 ≤ k + 2 * (i + 1) := by omega
noncomputable abbrev mp2 (sl Dw : Addr) : Str → Option Value := fun y => if y = Str.ofString "written" then some (.ref Dw) else if y = Str.ofString "script" then some (.ref sl) else none
noncomputable abbrev mp4 (sl Dw nl nt : Addr) : Str → Option Value := fun y => if y = Str.ofString "notes" then some (.ref nt) else if y = Str.ofString "numbers" then some (.ref nl) else mp2 sl Dw y
noncomputable abbrev mp6 (sl Dw nl nt b1 b2 : Addr) : Str → Option Value := fun y => if y = Str.ofString "back" then some (.ref b2) else if y = Str.ofString "ahead" then some (.ref b1) else mp4 sl Dw nl nt y
noncomputable abbrev mp7 (sl Dw nl nt b1 b2 D : Addr) : Str → Option Value := fun y => if y = Str.ofString "due" then some (.ref D) else mp6 sl Dw nl nt b1 b2 y
noncomputable abbrev mp8 (sl Dw nl nt b1 b2 D W : Addr) : Str → Option Value := fun y => if y = Str.ofString "walked" then some (.ref W) else mp7 sl Dw nl nt b1 b2 D y
section
local macro_rules | `(tactic| walk_at $k:str) => do
  if ["call builtin:len", "compareOp In str ref", "call type:enumerate", "compareOp NotIn int ref", "call type:list", "exec Assign cons ListComp", "eval ListComp", "compareOp NotEq ref ref", "subscriptTail"].contains k.getString then `(tactic| walk_at "halt") else Lean.Macro.throwUnsupported
local macro_rules | `(tactic| walk_at $k:str) => do
  let g := k.getString
  let f := fun (p : String) => do
    let q := Lean.quote p
    if g == "getAttr ref" then `(tactic| (with_reducible show wpAny _ _ (getAttr _ (Str.ofString $q) _) _ _ _)) else `(tactic| (with_reducible show wpAny _ _ (storeName _ (Str.ofString $q) _) _ _ _))
  if g == "getAttr ref" || g == "storeName" then
    let a ← (if g == "getAttr ref" then #["name", "value"] else #["pairs", "out", "into", "places"]).mapM f
    `(tactic| (k_here; (first $[| $a:tactic]*); walk_at "halt"))
  else Lean.Macro.throwUnsupported
set_option maxRecDepth 100000 in
set_option maxHeartbeats 40000000 in
theorem top_t : PySem.Challenge.rw_ik0001_01.Holds := by
  w_on
  refine holds_law (by kernel_rfl) fun said => ?_
  refine holds_open (q := vw) (loose := loose0) (Xt := fun s => xlAt vw [] s && recOk (RowW.records (OpenRow.toRowW rw0)) s) (XP := XL vw []) (Yf := Hook.obs myHook) (Ya := Hook.val myHook) (YP := Hook.says myHook) (N := 2400) left_t (Hook.of myHook) (Hook.keeps myHook) (fun s e => xl_of s (Bool.and_eq_true_iff.mp e).1) XL.keeps (by rfl) (by rfl) (by rfl) (fun s e => recFacts_of (Bool.and_eq_true_iff.mp e).2) (by rfl) (by first | assumption | decide +kernel) (by decide +kernel) ⟨rfl, rfl, rfl, rfl, rfl, by decide +kernel⟩ ?hw ?hc
  case hw => w_witness2
  clear said
  k_fill
  intro w s₀ s₁ mg mb G Y fa o pm cd doc dV kV ho hd hcd hD hmg hg args vals as hpre hlay hrd hwl hlo
  obtain ⟨Y, YK⟩ := Y
  have KX := km_in_of Y
  km_tabs Y
  have X := (Ground.X G).1
  have V := (Ground.X G).2
  refine Ground.open G ?_
  intro T B D TE TW
  try (refine guard_noD D (by decide +kernel) ?_; clear D)
  have hT9 : TabsAt ([(111, 107), (250, 246)] : List (Addr × Addr)) _ := List.forall_mem_cons.mpr ⟨⟨codeHd_of_K KX (by kernel_rfl), hT8 107 (by k_mem)⟩, List.forall_mem_cons.mpr ⟨⟨codeHd_of_K KX (by kernel_rfl), hT8 246 (by k_mem)⟩, fun _ h => nomatch h⟩⟩
  clear hmg
  wrow_args hpre hlay hrd hwl hlo
  first | refine callC_kw (enter_call ?_) | refine enter_call ?_
  w_top on
  kn_posts
  w_call any ho hd hcd hD T F
  clear hd hcd hD ho
  kn_ghosts F T
  have YB : (KY w.params).In (ghostOf s₁.heap [(111, 107), (250, 246)]) := ky_ghost YK
  try k_fold
  (with_reducible rename News _ _ _ _ => kN)
  (with_reducible rename Fr _ _ _ _ => kF)
  (rename Below _ _ _ _ => kB)
  (rename Top _ _ _ _ _ _ => kT)
  (rename Heap.IsList _ _ _ => kL)
  (rename IntsAre _ _ => kI)
  rename_i ns ha1 ha2 ha3 ha4 ha5 w8 w7 sl svs w4 ha6 ha7 ha8 ha9 hb1 hcond hb2 h₁ tk₁ oA oB oC oD dA dB dC dD dE X' cH lt0
  replace dA : oA.data = Data.cell none := dA
  replace dB : oB.data = Data.cell none := dB
  replace dC : oC.data = Data.cell none := dC
  replace dD : oD.data = Data.cell none := dD
  replace kF : Fr _ _ _ (fun y => if y = Str.ofString "script" then some (Value.ref _) else none) := kF
  refine' wpAny_mono (Q := LawEnd (ghostOf s₁.heap [(111, 107), (250, 246)]) s₁.heap.objs.size s₁) (E := fun _ _ => False) ?walk ?fin ?ee
  case ee => exact fun _ _ x => x.elim
  case fin =>
    refine fun f s' hh => ?_
    obtain ⟨hf, h', tk', m', t1, t2, hs, kF', kN'⟩ := hh
    subst hf hs
    clear kF kN
    k_steps
  clear dE cH codeHd ha1 ha2 ha3 ha4 ha5 ha6 ha7 ha8 ha9 hb1 hb2
  clear w8 w7 w4
  dsimp only
  clear G Y YK hT8 X V T B TE TW hT9 hg
  generalize hL0 : s₁.heap.objs.size = L0 at *
  generalize hgh : ghostOf s₁.heap [(111, 107), (250, 246)] = gh at *
  clear hgh
  have XK := X'
  clear X'
  with_reducible refine at_caller ?_
  intro dp un gd hdp hun
  refine name_run ?_
  intro en AA
  k_steps
  refine Stop.go ?_
  refine' Assign_at (cl := []) ?sw ?clo ?ki ?na ?_
  case sw => kernel_rfl
  case clo => kernel_rfl
  case ki => rfl
  case na => decide
  k_steps
  refine Stop.go ?_
  (with_reducible rename Fr _ _ _ _ => kF); (with_reducible rename News _ _ _ _ => kN)
  rename_i l6 _ _ l5 _ _ D2 _ _ l4 _ _ l3 _ _ D1 _ _ l2 _ _ l1 _ _ D0 _ _ l0 _ lt9
  refine written_base kN fun Ts va vb V U base hN1 hrest hit hqs hsub => ?_
  refine comp_pairs (vs := [.ref D2, .ref D1, .ref D0]) (Ts := Ts) (va := fun j => .ref (va j)) (vb := fun j => .ref (vb j)) (WrJ base (wqs.map fun q => sld (q.1.length + q.2.length) q.1 q.2)) rfl (News.isList kN (by k_mem)) ((kN _ (.head _)).2.1) hit (by simp) kF hN1 ⟨[], rfl, rfl, .nil⟩ ?_ (finV rfl (by kernel_rfl) (by rfl) ?_)
  · clear kF kN
    rintro wr i ys m₅ C oC D own news₁ h tk E' hi hyl ⟨a, b, ⟨rfl, rfl⟩, hma, hmb⟩ hoC hJ off hwo F3 N3
    refine wpAny_tests_nil ?_
    refine Call_ ?_
    refine name_comp F3 XK (topRead_of kT) (by k_is) rfl rfl (by kernel_rfl) ?_
    k_steps
    refine Stop.go ?_
    obtain ⟨q, hq⟩ : ∃ q, wqs[i]? = some q := ⟨_, List.getElem?_eq_getElem (l := wqs) hi⟩
    obtain ⟨m1, m2, s1, s2, u1, u2⟩ := hqs i q hq
    have hin : ∀ p ∈ base, p ∈ (C, oC) :: (D, lst ys ys.length) :: (news₁ ++ own) := fun p hp => by
      obtain ⟨rs, _, rfl, _⟩ := hJ
      exact .tail _ (.tail _ (List.mem_append_left _ (List.mem_append_right _ hp)))
    refine CallsT.use0 (dp := dp) (un := un) (gd := gd) (L := L0) (s := ⟨h, _, _, tk, _⟩) (sld_t (n := q.1.length + q.2.length) (e1 := 0) (e2 := 0) s1 s2 ⟨u1, u2⟩ (Nat.le_refl _)) F3 kB XK kT (by exact news_pre N3 (hin _ m1) (hin _ m2)) ?hk9 ?hd9 ?hu9 ?kk9
    case hk9 => rfl
    case hd9 => walk_at "lia"
    case hu9 => walk_at "lia"
    rintro r led h8 tk8 ⟨tt, ml, ul, xs, zs, c1, c2, hxs, hzs, hmu, hut, hml⟩ F9 N9
    exact wr_end (r := ⟨tt, ml, ul, xs, zs, c1, c2⟩) F9 (news_tail2 N9) (fun p hp => hml p (.tail _ (.tail _ hp))) hmu hut off hwo hJ (q := ((sld _ q.1 q.2).1, (sld _ q.1 q.2).2)) (by rw [List.getElem?_map, hq]; rfl) ⟨hxs, hzs⟩
  · intro Dw hw tkw ysw neww hylw Fw Nw offw hJw
    rw [wres] at hJw
    obtain ⟨rs, rfl, rfl, hrs⟩ := hJw
    obtain ⟨r1, r2, r3, rfl, hr1, hr2, hr3⟩ := hrs.three
    have Nw2 := wr_led Nw hrest
    simp only [tobjs, List.cons_append, List.nil_append] at Nw2
    clear kF kN hN1 hit hqs hsub Nw offw hrest hylw
    k_steps
    refine Stop.go ?_
    (with_reducible rename Fr _ _ _ _ => kF); (with_reducible rename News _ _ _ _ => kN)
    refine ne_dataH_same (reads3 (e1 := 0) (e2 := 0) (e3 := 0) (kN.get (mem_skip 10 (.head _))) (kN.get (mem_skip 11 (.head _))) (kN.get (mem_skip 14 (.head _))) (kN.get (mem_skip 17 (.head _))) (News.isList kN (mem_skip 13 (.head _))) (News.isList kN (mem_skip 12 (.head _))) (News.isList kN (mem_skip 16 (.head _))) (News.isList kN (mem_skip 15 (.head _))) (News.isList kN (mem_skip 19 (.head _))) (News.isList kN (mem_skip 18 (.head _))) hr1.1 hr1.2 hr2.1 hr2.2 hr3.1 hr3.2)
      (reads3 (e := 0) (e1 := 0) (e2 := 0) (e3 := 0) (kN.get (mem_skip 0 (.head _))) (kN.get (mem_skip 7 (.head _))) (kN.get (mem_skip 4 (.head _))) (kN.get (mem_skip 1 (.head _))) (News.isList kN (mem_skip 9 (.head _))) (News.isList kN (mem_skip 8 (.head _))) (News.isList kN (mem_skip 6 (.head _))) (News.isList kN (mem_skip 5 (.head _))) (News.isList kN (mem_skip 3 (.head _))) (News.isList kN (mem_skip 2 (.head _))) .nil (.cons _ _ .nil) .nil .nil (.cons _ _ .nil) .nil) wdue_shaped wdue_shaped ?_ wdue_mix ?_
    · exact cl3 hun
    rw [wdue_same]
    have Nc : News gh L0 _ [(L0 + 1 + 1 + 1 + 1, oA), (L0 + 1 + 1 + 1, oB), (L0 + 1 + 1, oC), (L0 + 1, oD), (107, tabObj #[]), (246, tabObj #[])] := fun p hp => kN p (mem_skip 20 hp)
    clear kN hrs hr1 hr2 hr3
    replace lt0 := Hide.mk lt0
    repeat (with_reducible rename _ ∧ _ => hzz; clear hzz)
    k_steps
    refine Stop.go ?_
    (with_reducible rename Fr _ _ _ _ => kF); (with_reducible rename News _ _ _ _ => kN)
    rename_i lw _ _ Dn wsn _ hIn lDn
    have hlen5 := hIn.length
    have hns : ([11, 32, 67, 98, 5] ++ ns).length ≤ 68 := by
      rw [List.length_append]
      have : ([11, 32, 67, 98, 5] : List Int).length = 5 := rfl
      omega
    refine kba_turn (value' := PySem.Expr.Name (PySem.Str.ofString "_") ⟨0, 0, 0, 0⟩) (fun _ => rfl) ?_
    refine w_last (s := ⟨_, _, _, _, _⟩) (by decide) kF kN (News.isList kN (.head _)) (by walk_at "lia") ?_
    intro nl h6 F6 N6 lnl
    have hN7 : News gh L0 h6 ((nl, lst (wsn.drop (wsn.length - (-(-7 : Int)).toNat)) 0) :: [(L0 + 1 + 1 + 1 + 1, oA), (L0 + 1 + 1 + 1, oB), (L0 + 1 + 1, oC), (L0 + 1, oD), (107, tabObj #[]), (246, tabObj #[])]) := fun p hp => by
      rcases List.mem_cons.mp hp with rfl | hp
      · exact N6 _ (.head _)
      · exact N6 p (mem_skip 3 hp)
    have hnl : ∀ p ∈ [(L0 + 1 + 1 + 1 + 1, oA), (L0 + 1 + 1 + 1, oB), (L0 + 1 + 1, oC), (L0 + 1, oD), (107, tabObj #[]), (246, tabObj #[])], p.1 < nl := fun p hp => lnl p (mem_skip 2 hp)
    clear kF kN N6 lnl
    have hi7 := hIn.drop (wsn.length - (-(-7 : Int)).toNat)
    have hlen7 : (wsn.drop (wsn.length - (-(-7 : Int)).toNat)).length ≤ 7 := by
      rw [List.length_drop]
      omega
    generalize wsn.drop (wsn.length - (-(-7 : Int)).toNat) = ws at hN7 hi7 hlen7 ⊢
    generalize ([11, 32, 67, 98, 5] ++ ns).drop (wsn.length - (-(-7 : Int)).toNat) = ms at hi7
    clear lDn hIn hlen5 hns
    replace hi7 := IntsH.mk hi7
    k_steps
    refine Stop.go ?_
    (with_reducible rename Fr _ _ _ _ => kF); (with_reducible rename News _ _ _ _ => kN)
    have nd0 : ND ((nl, lst ws 0) :: [(L0 + 1 + 1 + 1 + 1, oA), (L0 + 1 + 1 + 1, oB), (L0 + 1 + 1, oC), (L0 + 1, oD), (107, tabObj #[]), (246, tabObj #[])]) := nd_base hnl lt0.out
    clear lt0
    repeat (with_reducible rename _ ∧ _ => hzz; clear hzz)
    clear hnl
    refine Calls.use (dp := dp) (un := un) (gd := gd) (L := L0) (s := ⟨_, _, _, _, _⟩) (pairs_t hi7 nd0 (by walk_at "lia")) kF kB YB XK kN kT ?hk10 ?hd10 ?hu10 ?kk10
    case hk10 => rfl
    case hd10 => walk_at "lia"
    case hu10 => walk_at "lia"
    rintro r led h8 tk8 ⟨pl, prs, e, nd1, hprs⟩ F8 N8
    clear kF kN nd0
    replace nd1 := nd_pairs nd1
    k_steps
    refine Stop.go ?_
    refine st_cell (fun o => (L0 + 1, o) :: (pl, lst (prs.map pval) e) :: (nl, lst ws 0) :: (L0 + 1 + 1 + 1 + 1, oA) :: (L0 + 1 + 1 + 1, oB) :: (L0 + 1 + 1, oC) :: (107, tabObj #[]) :: (246, tabObj #[]) :: prs.flatMap pobjs) F8 N8 (.tail _ (List.mem_append_right _ (.tail _ (.tail _ (.tail _ (.tail _ (.head _))))))) dD (fun o' => put_hd nd1 (put_sub1 _)) ?_
    intro h9 oP F9 N9 dP
    clear F8 N8
    replace nd1 : ND ((L0 + 1, oP) :: (pl, lst (prs.map pval) e) :: (nl, lst ws 0) :: (L0 + 1 + 1 + 1 + 1, oA) :: (L0 + 1 + 1 + 1, oB) :: (L0 + 1 + 1, oC) :: (107, tabObj #[]) :: (246, tabObj #[]) :: prs.flatMap pobjs) := nd1
    replace hprs := Hide.mk hprs
    have hpin : ∀ p ∈ prs, ∀ q ∈ pobjs p, q ∈ prs.flatMap pobjs := fun p hp q hq => List.mem_flatMap.mpr ⟨p, hp, hq⟩
    replace hpin := Hide.mk hpin
    generalize hPO : prs.flatMap pobjs = PO at N9 nd1 hpin
    clear hPO
    k_steps
    refine Stop.go ?_
    (with_reducible rename Fr _ _ _ _ => kF); (with_reducible rename News _ _ _ _ => kN)
    rename_i nt _ lnt _
    replace kF : Fr gh L0 _ (mp4 sl Dw nl nt) := kF
    have nd2 : ND ((nt, lst [] 0) :: (L0 + 1, oP) :: (pl, lst (prs.map pval) e) :: (nl, lst ws 0) :: (L0 + 1 + 1 + 1 + 1, oA) :: (L0 + 1 + 1 + 1, oB) :: (L0 + 1 + 1, oC) :: (107, tabObj #[]) :: (246, tabObj #[]) :: PO) := nd_new nd1 lnt
    have hpl7 : prs.length ≤ 7 := by have h1 := hprs.out.len; have h2 := hi7.1.length; rw [h1, ← h2]; exact hlen7
    clear nd1 lnt
    refine Calls.use (dp := dp) (un := un) (gd := gd) (L := L0) (s := ⟨_, _, _, _, _⟩) (book_1s (sd := false) (st := tk) (nt := nt) (pl := pl) (prs := prs) (ns := []) (e := 0) (k := e) (news := (L0 + 1, oP) :: (nl, lst ws 0) :: (L0 + 1 + 1 + 1 + 1, oA) :: (L0 + 1 + 1 + 1, oB) :: (L0 + 1 + 1, oC) :: PO) (fun p hp q hq => by have := hpin.out p hp q hq; simp only [List.mem_cons, this, or_true]) ⟨p0 hpl7, by simp⟩ (nd_b1 nd2)) kF kB YB XK (fun p hp => kN p (mem_b1 p hp)) kT ?hk11 ?hd11 ?hu11 ?kk11
    case hk11 => rfl
    case hd11 => walk_at "lia"
    case hu11 => walk_at "lia"
    rintro r led h10 tk10 ⟨c6, o6, v6, t6, c7, o7, v7, t7, d1, d2, d3, d4, b1, ob1, ns1, e1, Z1, rfl, hb1, hled, nd3, hc1, hB1⟩ F10 N10
    clear kF kN nd2
    replace N10 : News gh L0 h10 ((nt, lst ns1 e1) :: (pl, lst (prs.map pval) e) :: (246, tb6 c6) :: (c6, o6) :: (107, tb7 c7) :: (c7, o7) :: (L0 + 1, oP) :: (nl, lst ws 0) :: (L0 + 1 + 1 + 1 + 1, oA) :: (L0 + 1 + 1 + 1, oB) :: (L0 + 1 + 1, oC) :: (PO ++ Z1)) := fun p hp => N10 p (hled p hp)
    replace nd3 : ND ((nt, lst ns1 e1) :: (pl, lst (prs.map pval) e) :: (246, tb6 c6) :: (c6, o6) :: (107, tb7 c7) :: (c7, o7) :: (L0 + 1, oP) :: (nl, lst ws 0) :: (L0 + 1 + 1 + 1 + 1, oA) :: (L0 + 1 + 1 + 1, oB) :: (L0 + 1 + 1, oC) :: (PO ++ Z1)) := nd3
    replace hB1 := Hide.mk (hB1 (not_sys N10 (o := ob1) (by simp only [List.mem_cons, List.mem_append, hb1, or_true]) kB YB))
    have hZ : ∀ p ∈ Z1, p ∈ PO ++ Z1 := fun p hp => List.mem_append_right _ hp
    replace hpin := Hide.mk (fun p hp q hq => List.mem_append_left Z1 (hpin.out p hp q hq))
    replace hZ := Hide.mk hZ
    generalize PO ++ Z1 = Y1 at N10 nd3 hpin hZ
    clear hled hb1
    k_steps
    refine Stop.go ?_
    (with_reducible rename Fr _ _ _ _ => kF); (with_reducible rename News _ _ _ _ => kN)
    have hg1 := groups_le false prs
    have hg2 := groups_le true prs
    refine Calls.use (dp := dp) (un := un) (gd := gd) (L := L0) (s := ⟨_, _, _, _, _⟩) (book_2s d1 d2 d3 d4 (sd := true) (st := tk) (nt := nt) (pl := pl) (prs := prs) (ns := ns1) (e := e1) (k := e) (news := (L0 + 1, oP) :: (nl, lst ws 0) :: (L0 + 1 + 1 + 1 + 1, oA) :: (L0 + 1 + 1 + 1, oB) :: (L0 + 1 + 1, oC) :: Y1) (fun p hp q hq => by have := hpin.out p hp q hq; simp only [List.mem_cons, this, or_true]) ⟨p0 hpl7, by rw [hc1]; simp only [List.length_nil]; omega⟩ nd3) kF kB YB XK (fun p hp => kN p (mem_26 p hp)) kT ?hk12 ?hd12 ?hu12 ?kk12
    case hk12 => rfl
    case hd12 => walk_at "lia"
    case hu12 => walk_at "lia"
    rintro r led h11 tk11 ⟨b2, ob2, ns2, e2, Z2, rfl, hb2, hled, nd4, hc2, hB2⟩ F11 N11
    clear kF kN nd3
    replace N11 : News gh L0 h11 ((nt, lst ns2 e2) :: (pl, lst (prs.map pval) e) :: (246, tb6 c6) :: (c6, o6) :: (107, tb7 c7) :: (c7, o7) :: (L0 + 1, oP) :: (nl, lst ws 0) :: (L0 + 1 + 1 + 1 + 1, oA) :: (L0 + 1 + 1 + 1, oB) :: (L0 + 1 + 1, oC) :: (Y1 ++ Z2)) := fun p hp => N11 p (hled p hp)
    replace nd4 : ND ((nt, lst ns2 e2) :: (pl, lst (prs.map pval) e) :: (246, tb6 c6) :: (c6, o6) :: (107, tb7 c7) :: (c7, o7) :: (L0 + 1, oP) :: (nl, lst ws 0) :: (L0 + 1 + 1 + 1 + 1, oA) :: (L0 + 1 + 1 + 1, oB) :: (L0 + 1 + 1, oC) :: (Y1 ++ Z2)) := nd4
    replace hB2 := Hide.mk (book_in (Y := Y1 ++ Z2) (hB2 (not_sys N11 (o := ob2) (by simp only [List.mem_cons, List.mem_append, hb2, or_true]) kB YB)) fun p hp => List.mem_append_right _ hp)
    replace hB1 := Hide.mk (book_in (Y := Y1 ++ Z2) hB1.out fun p hp => List.mem_append_left _ (hZ.out p hp))
    replace hpin := Hide.mk (fun p hp q hq => List.mem_append_left Z2 (hpin.out p hp q hq))
    generalize Y1 ++ Z2 = Y2 at N11 nd4 hpin hB1 hB2
    clear hled hb2 hZ
    k_steps
    refine Stop.go ?_
    (with_reducible rename Fr _ _ _ _ => kF); (with_reducible rename News _ _ _ _ => kN)
    replace kF : Fr gh L0 _ (mp6 sl Dw nl nt b1 b2) := kF
    simp only [List.length_nil, Nat.zero_add] at hc1
    have hG1 : (groups (rowsOf false prs)).length ≤ 7 := Nat.le_trans hg1 hpl7
    have hG2 : (groups (rowsOf true prs)).length ≤ 7 := Nat.le_trans hg2 hpl7
    have hL2 : ns2.length ≤ 14 := by rw [hc2, hc1]; exact Nat.add_le_add hG1 hG2
    refine PyProof.Rows.len_list (News.isList kN (.head _)) (by rw [List.size_toArray]; walk_at "lia") ?_
    have hcc : (ns2.toArray.size : Int) = ((groups (rowsOf false prs)).length : Int) + ((groups (rowsOf true prs)).length : Int) := by
      rw [List.size_toArray, hc2, hc1]
      exact Int.natCast_add _ _
    rw [hcc]
    clear hcc
    k_steps
    refine Stop.go ?_
    refine bookis_len kF kN kB YB hB1.out (mem_b2 _) (by walk_at "lia") ?_
    k_steps
    refine Stop.go ?_
    refine bookis_len kF kN kB YB hB2.out (mem_b2 _) (by walk_at "lia") ?_
    k_steps
    any_goals first | (rename_i hx; exact absurd rfl hx) | skip
    refine Stop.go ?_
    (with_reducible rename Fr _ _ _ _ => kF); (with_reducible rename News _ _ _ _ => kN)
    refine' Assign_at (cl := [(Str.ofString "pairs", L0 + 1)]) ?sw2 ?clo2 ?ki2 ?na2 ?_
    case sw2 => kernel_rfl
    case clo2 => kernel_rfl
    case ki2 => rfl
    case na2 => decide
    k_steps
    refine Stop.go ?_
    refine Calls.use (dp := dp) (un := un) (gd := gd) (L := L0) (s := ⟨_, _, _, _, _⟩) (rings_t (nl := nl) (vs := ws) (k := 0) (news := (nt, lst ns2 e2) :: (pl, lst (prs.map pval) e) :: (246, tb6 c6) :: (c6, o6) :: (107, tb7 c7) :: (c7, o7) :: (L0 + 1, oP) :: (L0 + 1 + 1 + 1 + 1, oA) :: (L0 + 1 + 1 + 1, oB) :: (L0 + 1 + 1, oC) :: Y2) hi7 (nd_8 nd4) (by walk_at "lia")) kF kB YB XK (fun p hp => kN p (mem_8 p hp)) kT ?hk13 ?hd13 ?hu13 ?kk13
    case hk13 => rfl
    case hd13 => walk_at "lia"
    case hu13 => walk_at "lia"
    rintro r led h12 tk12 ⟨rl, rs, hrs, hroff⟩ F12 N12
    clear kF kN
    replace N12 := fun p hp => N12 p (mem_8' p hp)
    replace N12 : News gh L0 h12 ((rl, lst rs rs.length) :: (nt, lst ns2 e2) :: (pl, lst (prs.map pval) e) :: (246, tb6 c6) :: (c6, o6) :: (107, tb7 c7) :: (c7, o7) :: (L0 + 1, oP) :: (nl, lst ws 0) :: (L0 + 1 + 1 + 1 + 1, oA) :: (L0 + 1 + 1 + 1, oB) :: (L0 + 1 + 1, oC) :: Y2) := N12
    replace hroff := Hide.mk hroff
    k_steps
    refine Stop.go ?_
    have hjl : rs.length = ((List.range ms.length).filter (between ms)).length := by rw [hrs.length]; unfold keep; rw [List.length_map]
    have hpm : prs.length = ms.length := hprs.out.len
    have hrl : rs.length ≤ 7 := by
      have h1 := List.length_filter_le (between ms) (List.range ms.length)
      rw [List.length_range] at h1
      exact hjl ▸ Nat.le_trans h1 (hpm ▸ hpl7)
    replace hprs := Hide.mk hprs.out
    refine comp_list (vs := rs) (fun i ys n₁ => n₁ = (rl, lst rs rs.length) :: (nt, lst ns2 e2) :: (pl, lst (prs.map pval) e) :: (246, tb6 c6) :: (c6, o6) :: (107, tb7 c7) :: (c7, o7) :: (L0 + 1, oP) :: (nl, lst ws 0) :: (L0 + 1 + 1 + 1 + 1, oA) :: (L0 + 1 + 1 + 1, oB) :: (L0 + 1 + 1, oC) :: Y2 ∧ ys = pick prs (((List.range ms.length).filter (between ms)).take i)) rfl (News.isList N12 (.head _)) (N12 _ (.head _)).2.1 (by walk_at "lia") F12 N12 ⟨rfl, rfl⟩ (turn_list ?_) (finVF rfl (by kernel_rfl) (by rfl) ?_)
    · intro wr i ys m₅ C oC D own h tk E' v hi hyl hv hm hoC hys0 off hwo F3 N3; subst hys0
      clear F12 N12
      obtain ⟨j, t, hj, hjn, rfl⟩ := keep_at hrs hv
      obtain ⟨p, hp, hpa⟩ := pval_num (prs := prs) (j := j) (by walk_at "lia")
      refine wpAny_tests_nil ?_
      k_steps
      refine Stop.go ?_
      refine item_list (News.isList N3 (by exact .tail _ (.tail _ (.tail _ (.tail _ (.head _)))))) (by walk_at "lia") (by walk_at "lia") hpa ?_
      exact ⟨_, _, _, rfl, by k_asm, by k_asm, off, rfl, pick_snoc hj hp⟩
    · intro D h tk ys hyl F5 N5 off5 hys
      clear F12 N12
      rw [hjl, List.take_length, pick_due hprs.out] at hys
      subst hys
      replace N5 := fun p hp => N5 p (mem_dl p hp)
      generalize hdv : ((prs.filter (gd2 (leadsOf ms))).map pval).length = dn at N5 hyl
      have nd5 := nd_dl (o := lst ((prs.filter (gd2 (leadsOf ms))).map pval) dn) nd4 off5
      replace N5 : News gh L0 h ((nt, lst ns2 e2) :: (D, lst ((prs.filter (gd2 (leadsOf ms))).map pval) dn) :: (pl, lst (prs.map pval) e) :: (246, tb6 c6) :: (c6, o6) :: (107, tb7 c7) :: (c7, o7) :: (L0 + 1, oP) :: (nl, lst ws 0) :: (L0 + 1 + 1 + 1 + 1, oA) :: (L0 + 1 + 1 + 1, oB) :: (L0 + 1 + 1, oC) :: Y2) := N5
      clear off5 nd4 hroff hrs hjl hrl hdv
      have hDue : Hide (prs.filter (gd2 (leadsOf ms)) = prs.filter (gd2 (leadsOf ms))) := Hide.mk rfl
      generalize hPD0 : prs.filter (gd2 (leadsOf ms)) = PD at N5 nd5
      replace hPD0 := Hide.mk hPD0
      clear hDue
      k_steps
      refine Stop.go ?_
      (with_reducible rename Fr _ _ _ _ => kF); (with_reducible rename News _ _ _ _ => kN)
      replace kF : Fr gh L0 _ (mp7 sl Dw nl nt b1 b2 D) := kF
      refine Calls.use (dp := dp) (un := un) (gd := gd) (L := L0) (s := ⟨_, _, _, _, _⟩) (going_t (nxt := nxt0 false prs) (ns := ns2) (e := e2) (hB1.out.mono (mem_g _ _ _ _ _ _ _)) (nd_off nd5) (by walk_at "lia") (fun k hk => nxt_look (pis_all hprs.out) hk) (fun k _ => nxt_lt (pis_all hprs.out) k) (fun k _ => Nat.le_trans (nxt_len k) (by walk_at "lia"))) kF kB YB XK kN kT ?hk14 ?hd14 ?hu14 ?kk14
      case hk14 => rfl
      case hd14 => walk_at "lia"
      case hu14 => walk_at "lia"
      rintro r led h13 tk13 ⟨ol, ovs, ok1, ns3, e3, hov, hn1, hn2, hof1⟩ F13 N13
      have hL3 : ns3.length ≤ 139 := Nat.le_trans hn2 (Nat.add_le_add_right hL2 125)
      clear hn1 hn2
      clear kF kN
      k_steps
      refine Stop.go ?_
      have nd6 := nd_ol nd5 hof1 (o := lst ovs ok1) (o2 := lst ns3 e3)
      replace N13 := fun p hp => N13 p (mem_sw p hp)
      refine Calls.use (dp := dp) (un := un) (gd := gd) (L := L0) (s := ⟨_, _, _, _, _⟩) (going_t (nxt := nxt0 true prs) (ns := ns3) (e := e3) (hB2.out.mono (mem_g2 _ _ _ _ _ _ _ _)) (nd_off nd6) (by walk_at "lia") (fun k hk => nxt_look (pis_all hprs.out) hk) (fun k _ => nxt_lt (pis_all hprs.out) k) (fun k _ => Nat.le_trans (nxt_len k) (by walk_at "lia"))) F13 kB YB XK N13 kT ?hk15 ?hd15 ?hu15 ?kk15
      case hk15 => rfl
      case hd15 => walk_at "lia"
      case hu15 => walk_at "lia"
      rintro r led h14 tk14 ⟨il, ivs, ik1, ns4, e4, hiv, hn3, hn4, hof2⟩ F14 N14
      have hL4 : ns4.length ≤ 264 := Nat.le_trans hn4 (Nat.add_le_add_right hL3 125)
      clear hn3 hn4 hL3
      have nd7 := nd_ol nd6 hof2 (o := lst ivs ik1) (o2 := lst ns4 e4)
      replace N14 := fun p hp => N14 p (mem_sw p hp)
      replace N14 : News gh L0 h14 ((nt, lst ns4 e4) :: (il, lst ivs ik1) :: (ol, lst ovs ok1) :: (D, lst (PD.map pval) dn) :: (pl, lst (prs.map pval) e) :: (246, tb6 c6) :: (c6, o6) :: (107, tb7 c7) :: (c7, o7) :: (L0 + 1, oP) :: (nl, lst ws 0) :: (L0 + 1 + 1 + 1 + 1, oA) :: (L0 + 1 + 1 + 1, oB) :: (L0 + 1 + 1, oC) :: Y2) := N14
      replace nd7 : ND ((nt, lst ns4 e4) :: (il, lst ivs ik1) :: (ol, lst ovs ok1) :: (D, lst (PD.map pval) dn) :: (pl, lst (prs.map pval) e) :: (246, tb6 c6) :: (c6, o6) :: (107, tb7 c7) :: (c7, o7) :: (L0 + 1, oP) :: (nl, lst ws 0) :: (L0 + 1 + 1 + 1 + 1, oA) :: (L0 + 1 + 1 + 1, oB) :: (L0 + 1 + 1, oC) :: Y2) := nd7
      clear F13 N13 nd5 nd6 hof1 hof2
      k_steps
      refine Stop.go ?_
      (with_reducible rename Fr _ _ _ _ => kF); (with_reducible rename News _ _ _ _ => kN)
      have nd8 := nd_c2 nd7
      refine st_cell (fun o => (L0 + 1 + 1, o) :: (nt, lst ns4 e4) :: (il, lst ivs ik1) :: (ol, lst ovs ok1) :: (D, lst (PD.map pval) dn) :: (pl, lst (prs.map pval) e) :: (246, tb6 c6) :: (c6, o6) :: (107, tb7 c7) :: (c7, o7) :: (L0 + 1, oP) :: (nl, lst ws 0) :: (L0 + 1 + 1 + 1 + 1, oA) :: (L0 + 1 + 1 + 1, oB) :: Y2) kF kN (mem_c2 _ (.head _)) dC (fun o' => put_hd nd8 (mem_c2' _)) ?_
      intro h15 oO F15 N15 dO
      clear kF kN nd7
      replace nd8 := nd_c3 (show ND ((L0 + 1 + 1, oO) :: (nt, lst ns4 e4) :: (il, lst ivs ik1) :: (ol, lst ovs ok1) :: (D, lst (PD.map pval) dn) :: (pl, lst (prs.map pval) e) :: (246, tb6 c6) :: (c6, o6) :: (107, tb7 c7) :: (c7, o7) :: (L0 + 1, oP) :: (nl, lst ws 0) :: (L0 + 1 + 1 + 1 + 1, oA) :: (L0 + 1 + 1 + 1, oB) :: Y2) from nd8)
      k_steps
      refine Stop.go ?_
      refine st_cell (fun o => (L0 + 1 + 1 + 1, o) :: (L0 + 1 + 1, oO) :: (nt, lst ns4 e4) :: (il, lst ivs ik1) :: (ol, lst ovs ok1) :: (D, lst (PD.map pval) dn) :: (pl, lst (prs.map pval) e) :: (246, tb6 c6) :: (c6, o6) :: (107, tb7 c7) :: (c7, o7) :: (L0 + 1, oP) :: (nl, lst ws 0) :: (L0 + 1 + 1 + 1 + 1, oA) :: Y2) F15 N15 (mem_c3 _ (.head _)) dB (fun o' => put_hd nd8 (fun p hp => mem_c3 p (.tail _ hp))) ?_
      intro h16 oI F16 N16 dI
      clear F15 N15
      replace nd8 : ND ((L0 + 1 + 1 + 1, oI) :: (L0 + 1 + 1, oO) :: (nt, lst ns4 e4) :: (il, lst ivs ik1) :: (ol, lst ovs ok1) :: (D, lst (PD.map pval) dn) :: (pl, lst (prs.map pval) e) :: (246, tb6 c6) :: (c6, o6) :: (107, tb7 c7) :: (c7, o7) :: (L0 + 1, oP) :: (nl, lst ws 0) :: (L0 + 1 + 1 + 1 + 1, oA) :: Y2) := nd8
      k_steps
      refine Stop.go ?_
      (with_reducible rename Fr _ _ _ _ => kF); (with_reducible rename News _ _ _ _ => kN)
      refine' Assign_at (cl := [(Str.ofString "out", L0 + 1 + 1), (Str.ofString "into", L0 + 1 + 1 + 1)]) ?sw3 ?clo3 ?ki3 ?na3 ?_
      case sw3 => kernel_rfl
      case clo3 => kernel_rfl
      case ki3 => rfl
      case na3 => decide
      k_steps
      refine Stop.go ?_
      refine comp_list (vs := prs.map pval) (fun i ys n₁ => n₁ = (L0 + 1 + 1 + 1, oI) :: (L0 + 1 + 1, oO) :: (nt, lst ns4 e4) :: (il, lst ivs ik1) :: (ol, lst ovs ok1) :: (D, lst (PD.map pval) dn) :: (pl, lst (prs.map pval) e) :: (246, tb6 c6) :: (c6, o6) :: (107, tb7 c7) :: (c7, o7) :: (L0 + 1, oP) :: (nl, lst ws 0) :: (L0 + 1 + 1 + 1 + 1, oA) :: Y2 ∧ ys = ((prs.take i).filter (gd2 (leadsOf ms))).map pval) rfl (News.isList kN (mem_skip 6 (.head _))) (kN (pl, lst (prs.map pval) e) (mem_skip 6 (.head _))).2.1 (by rw [List.length_map]; exact p0 hpl7) kF kN ⟨rfl, rfl⟩ (turn_list ?_) (finVF rfl (by kernel_rfl) (by rfl) ?_)
      · clear kF kN
        intro wr i ys m₅ C oC D' own h tk E' v hi hyl hv hma hoC hys' off hwo F3 N3
        obtain ⟨p, hp, hpp, htk⟩ := pval_in hv
        have hpo := hpin.out p hpp
        have hwp := pis_all hprs.out p hpp
        refine wpAny_tests_one (cut_eq F3 N3 (gd2 (leadsOf ms) p) (fun Q' hQ' => ?_) ?_)
        · rw [← walked_gd hprs.out hpp] at hQ'
          k_steps
          refine Stop.go ?_
          refine pair_value F3 kB YB XK N3 kT (by rfl) (by walk_at "side") (by walk_at "side") (.tail _ (.tail _ (List.mem_append_left _ (mem_skip 14 (hpo _ (.head _)))))) (.tail _ (.tail _ (List.mem_append_left _ (mem_skip 14 (hpo _ (.tail _ (.head _))))))) ?_
          intro h4 tk4 F4 N4
          rw [hwp.2.2.1]
          k_steps
          refine Stop.go ?_
          (with_reducible rename Fr _ _ _ _ => kF); (with_reducible rename News _ _ _ _ => kN)
          refine w_in (News.isList kN (.tail _ (.tail _ (List.mem_append_left _ (mem_skip 4 (.head _)))))) hov (fun k hk => List.mem_range.mp (List.mem_filter.mp hk).1) hwp.2.2.2 (by walk_at "side") ?_
          cases hd1 : decide (Mine.fb p ∈ goingL (nxt0 false prs) 5) with
          | false =>
            rw [hd1, Bool.false_and] at hQ'
            k_steps
            (with_reducible rename News _ _ _ _ => kN)
            exact hQ' _ _ _ rfl (by k_asm) kN
          | true =>
            rw [hd1, Bool.true_and] at hQ'
            k_steps
            refine Stop.go ?_
            refine pair_name kF kB YB XK kN kT (by rfl) (by walk_at "side") (by walk_at "side") (.tail _ (.tail _ (List.mem_append_left _ (mem_skip 14 (hpo _ (.head _)))))) (.tail _ (.tail _ (List.mem_append_left _ (mem_skip 14 (hpo _ (.tail _ (.head _))))))) ?_
            clear kF kN
            intro h5 tk5 F5 N5
            rw [hwp.1]
            k_steps
            refine Stop.go ?_
            (with_reducible rename Fr _ _ _ _ => kF); (with_reducible rename News _ _ _ _ => kN)
            refine w_in (News.isList kN (.tail _ (.tail _ (List.mem_append_left _ (mem_skip 3 (.head _)))))) hiv (fun k hk => List.mem_range.mp (List.mem_filter.mp hk).1) hwp.2.1 (by walk_at "side") ?_
            cases hd2 : decide (Mine.fa p ∈ goingL (nxt0 true prs) 5) with
            | false =>
              rw [hd2] at hQ'
              k_steps
              (with_reducible rename News _ _ _ _ => kN)
              exact hQ' _ _ _ rfl (by k_asm) kN
            | true =>
              rw [hd2] at hQ'
              k_steps
              (with_reducible rename News _ _ _ _ => kN)
              exact hQ' _ _ _ rfl (by k_asm) kN
        · intro h' tk' F4 N4
          cases hok : gd2 (leadsOf ms) p with
          | true =>
            simp only [if_true]
            k_steps
            exact ⟨h', tk', _, rfl, F4, N4, off, rfl, by rw [htk, List.filter_append, List.map_append, hys']; simp [hok, pval]⟩
          | false =>
            simp only [Bool.false_eq_true, if_false]
            exact ⟨h', tk', _, rfl, F4, N4, off, rfl, by rw [htk, List.filter_append, List.map_append, hys']; simp [hok]⟩
      · intro W h17 tk17 ys hyl F17 N17 off17 hys
        rw [List.length_map, List.take_length, hPD0.out] at hys
        subst hys
        clear kF kN
        have hPe : PD.map pval = (PD.map (·.1)).map Value.ref := by rw [List.map_map]; rfl
        have hPl : (PD.map (·.1)).length ≤ 100 := by
          rw [List.length_map, List.length_map] at hyl
          rw [List.length_map]
          exact Nat.le_trans hyl (p0 hpl7)
        have hPs : ∀ p ∈ PD, p ∈ prs := fun p hp => by
          rw [← hPD0.out] at hp
          exact (List.mem_filter.mp hp).1
        replace hPe := Hide.mk hPe
        replace hPs := Hide.mk hPs
        k_steps
        refine Stop.go ?_
        (with_reducible rename Fr _ _ _ _ => kF); (with_reducible rename News _ _ _ _ => kN)
        replace kF : Fr gh L0 _ (mp8 sl Dw nl nt b1 b2 D W) := kF
        have kS : News gh L0 h17 ((W, lst ((PD.map (·.1)).map Value.ref) (PD.map pval).length) :: (D, lst ((PD.map (·.1)).map Value.ref) dn) :: (L0 + 1 + 1 + 1, oI) :: (L0 + 1 + 1, oO) :: (nt, lst ns4 e4) :: (pl, lst (prs.map pval) e) :: (246, tb6 c6) :: (c6, o6) :: (107, tb7 c7) :: (c7, o7) :: (L0 + 1, oP) :: (nl, lst ws 0) :: (L0 + 1 + 1 + 1 + 1, oA) :: Y2) := fun p hp => by
          rw [← hPe.out] at hp
          exact kN p (mem_s1 p hp)
        refine Calls.use (dp := dp) (un := un) (gd := gd) (L := L0) (s := ⟨_, _, _, _, _⟩) (same_t ⟨hPl, hPl⟩ (fun x hx => same_obj (Y := (L0 + 1 + 1 + 1, oI) :: (L0 + 1 + 1, oO) :: (nt, lst ns4 e4) :: (pl, lst (prs.map pval) e) :: (246, tb6 c6) :: (c6, o6) :: (107, tb7 c7) :: (c7, o7) :: (L0 + 1, oP) :: (nl, lst ws 0) :: (L0 + 1 + 1 + 1 + 1, oA) :: Y2) hPs.out (fun p hp q hq => mem_skip 11 (hpin.out p hp q hq)) x hx)) kF kB YB XK kS kT ?hk16 ?hd16 ?hu16 ?kk16
        case hk16 => rfl
        case hd16 => walk_at "lia"
        case hu16 => walk_at "lia"
        rintro r led h18 tk18 ⟨rfl, rfl⟩ F18 N18
        clear kS kF kN
        rw [decide_eq_true rfl]
        k_steps
        refine Stop.go ?_
        (with_reducible rename Fr _ _ _ _ => kF); (with_reducible rename News _ _ _ _ => kN)
        refine Calls0.use (dp := dp) (un := un) (gd := gd) (L := L0) (s := ⟨_, _, _, _, _⟩) (peeled_t (pl := pl) (prs := prs) (e0 := e) (rest := (D, lst ((PD.map (·.1)).map Value.ref) dn) :: (L0 + 1 + 1 + 1, oI) :: (L0 + 1 + 1, oO) :: (nt, lst ns4 e4) :: (246, tb6 c6) :: (c6, o6) :: (107, tb7 c7) :: (c7, o7) :: (L0 + 1, oP) :: (nl, lst ws 0) :: (L0 + 1 + 1 + 1 + 1, oA) :: Y2) (pis_M hprs.out) (fun p _ => gd2_iff) (fun p hp q hq => mem_skip 11 (hpin.out p hp q hq)) (pis_all hprs.out) (by walk_at "lia")) kB YB XK kT kF (fun p hp => kN p (mem_s2 p hp)) ?hk17 ?hd17 ?hu17 ?kk17
        case hk17 => rfl
        case hd17 => walk_at "lia"
        case hu17 => walk_at "lia"
        rintro r led h19 tk19 ⟨D2, e2'⟩ F19 N19
        rw [hPD0.out, hPe.out] at N19
        clear kF kN
        k_steps
        refine Stop.go ?_
        (with_reducible rename Fr _ _ _ _ => kF); (with_reducible rename News _ _ _ _ => kN)
        have kS : News gh L0 _ ((D2, lst ((PD.map (·.1)).map Value.ref) e2') :: (D, lst ((PD.map (·.1)).map Value.ref) dn) :: (L0 + 1 + 1 + 1, oI) :: (L0 + 1 + 1, oO) :: (nt, lst ns4 e4) :: (pl, lst (prs.map pval) e) :: (246, tb6 c6) :: (c6, o6) :: (107, tb7 c7) :: (c7, o7) :: (L0 + 1, oP) :: (nl, lst ws 0) :: (L0 + 1 + 1 + 1 + 1, oA) :: Y2) := fun p hp => kN p (mem_s3 p hp)
        refine Calls.use (dp := dp) (un := un) (gd := gd) (L := L0) (s := ⟨_, _, _, _, _⟩) (same_t ⟨hPl, hPl⟩ (fun x hx => same_obj (Y := (L0 + 1 + 1 + 1, oI) :: (L0 + 1 + 1, oO) :: (nt, lst ns4 e4) :: (pl, lst (prs.map pval) e) :: (246, tb6 c6) :: (c6, o6) :: (107, tb7 c7) :: (c7, o7) :: (L0 + 1, oP) :: (nl, lst ws 0) :: (L0 + 1 + 1 + 1 + 1, oA) :: Y2) hPs.out (fun p hp q hq => mem_skip 11 (hpin.out p hp q hq)) x hx)) kF kB YB XK kS kT ?hk18 ?hd18 ?hu18 ?kk18
        case hk18 => rfl
        case hd18 => walk_at "lia"
        case hu18 => walk_at "lia"
        rintro r led h20 tk20 ⟨rfl, rfl⟩ F20 N20
        clear kS kF kN
        rw [decide_eq_true rfl]
        have nd9 := nd_fin nd8
        replace N20 : News gh L0 h20 ((nt, lst ns4 e4) :: (246, tb6 c6) :: (c6, o6) :: (107, tb7 c7) :: (c7, o7) :: (nl, lst ws 0) :: (L0 + 1 + 1 + 1 + 1, oA) :: Y2) := fun p hp => N20 p (mem_s4 p hp)
        clear nd8 dP dO dI hPl hyl hPe hPs hPD0 hov hiv
        k_steps
        refine Stop.go ?_
        (with_reducible rename Fr _ _ _ _ => kF); (with_reducible rename News _ _ _ _ => kN)
        rename_i bl _ lbl
        have nd10 := nd_bare (nd_new (x := lst [] 0) nd9 lbl)
        refine Calls.use (dp := dp) (un := un) (gd := gd) (L := L0) (s := ⟨_, _, _, _, _⟩) (book_2s d1 d2 d3 d4 (sd := false) (st := tk20) (nt := nt) (pl := bl) (prs := []) (ns := ns4) (e := e4) (k := 0) (news := (nl, lst ws 0) :: (L0 + 1 + 1 + 1 + 1, oA) :: Y2) (fun p hp => nomatch hp) ⟨by simp, by walk_at "lia"⟩ nd10) kF kB YB XK (fun p hp => kN p (mem_bare p hp)) kT ?hk19 ?hd19 ?hu19 ?kk19
        case hk19 => rfl
        case hd19 => walk_at "lia"
        case hu19 => walk_at "lia"
        rintro r led h21 tk21 ⟨b3, ob3, ns5, e5, Z3, rfl, hb3, hled, nd11, hc3, hB3⟩ F21 N21
        clear kF kN nd10 nd9 lbl
        replace N21 : News gh L0 h21 ((nt, lst ns5 e5) :: (bl, lst [] 0) :: (246, tb6 c6) :: (c6, o6) :: (107, tb7 c7) :: (c7, o7) :: (nl, lst ws 0) :: (L0 + 1 + 1 + 1 + 1, oA) :: (Y2 ++ Z3)) := fun p hp => N21 p (hled p hp)
        replace nd11 : ND ((nt, lst ns5 e5) :: (bl, lst [] 0) :: (246, tb6 c6) :: (c6, o6) :: (107, tb7 c7) :: (c7, o7) :: (nl, lst ws 0) :: (L0 + 1 + 1 + 1 + 1, oA) :: (Y2 ++ Z3)) := nd11
        replace hB3 := Hide.mk (book_in (Y := Y2 ++ Z3) (hB3 (not_sys N21 (o := ob3) (by simp only [List.mem_cons, List.mem_append, hb3, or_true]) kB YB)) fun p hp => List.mem_append_right _ hp)
        replace hB1 := Hide.mk (book_in (Y := Y2 ++ Z3) hB1.out fun p hp => List.mem_append_left _ hp)
        replace hB2 := Hide.mk (book_in (Y := Y2 ++ Z3) hB2.out fun p hp => List.mem_append_left _ hp)
        have hn5 : ns5.length ≤ 300 := Nat.le_trans (Nat.le_of_eq hc3) (p0 hL4)
        clear hg1 hg2
        have hk1 := keys_of (sd := false) hprs.out
        have hk2 := keys_of (sd := true) hprs.out
        clear hpin
        replace hk1 := Hide.mk hk1
        replace hk2 := Hide.mk hk2
        generalize groups (rowsOf false prs) = G1 at hB1 hk1 hG1
        generalize groups (rowsOf true prs) = G2 at hB2 hk2 hG2
        generalize Y2 ++ Z3 = Y3 at N21 nd11 hB1 hB2 hB3
        replace N21 : News gh L0 h21 ((nt, lst ns5 e5) :: (246, tb6 c6) :: (c6, o6) :: (107, tb7 c7) :: (c7, o7) :: (nl, lst ws 0) :: (L0 + 1 + 1 + 1 + 1, oA) :: Y3) := fun p hp => N21 p (mem_b3 p hp)
        replace nd11 := nd_b3 nd11
        clear hled hb3
        k_steps
        refine Stop.go ?_
        (with_reducible rename Fr _ _ _ _ => kF); (with_reducible rename News _ _ _ _ => kN)
        refine' ListComp_at (cl := []) ?clo4 ?ki4 ?na4 ?_
        case clo4 => kernel_rfl
        case ki4 => rfl
        case na4 => decide
        k_steps
        refine Stop.go ?_
        have hm7 : ms.length ≤ 7 := hpm ▸ hpl7
        refine comp_list (vs := ws) (fun i ys n₁ => n₁ = (nt, lst ns5 e5) :: (246, tb6 c6) :: (c6, o6) :: (107, tb7 c7) :: (c7, o7) :: (nl, lst ws 0) :: (L0 + 1 + 1 + 1 + 1, oA) :: Y3 ∧ IntsAre ys (((ms.take i).map endA).map fun b : Nat => (b : Int))) rfl (News.isList kN (mem_skip 5 (.head _))) (kN (nl, lst ws 0) (mem_skip 5 (.head _))).2.1 (by walk_at "lia") kF kN ⟨rfl, .nil⟩ (turn_list ?_) (finF ?_)
        · clear kF kN
          intro wr i ys m₅ C oC D' own h tk E' v hi hyl hv hma hoC hys' off hwo F3 N3
          obtain ⟨x, t, hx, rfl⟩ := ints_item hi7.1 hv
          refine wpAny_tests_nil ?_
          k_steps
          refine ⟨_, _, _, rfl, by k_asm, by k_asm, off, rfl, ends_snoc hys' hx (fmod_A x)⟩
        intro l1 h22 tk22 ys1 hyl1 F22 N22 off22 hys1
        clear kF kN
        rw [hi7.1.length, List.take_length] at hys1
        replace hys1 := IntsH.mk hys1
        have nd12 := nd_add (o := lst ys1 ys1.length) nd11 off22
        clear off22 nd11
        k_steps
        refine Stop.go ?_
        (with_reducible rename Fr _ _ _ _ => kF); (with_reducible rename News _ _ _ _ => kN)
        rename_i t1 _ lt1
        replace nd12 := nd_new (x := { cls := .type "tuple", data := .seq #[.ref b1, .ref l1] }) nd12 lt1
        refine' ListComp_at (cl := []) ?clo5 ?ki5 ?na5 ?_
        case clo5 => kernel_rfl
        case ki5 => rfl
        case na5 => decide
        k_steps
        refine Stop.go ?_
        refine comp_list (vs := ws) (fun i ys n₁ => n₁ = (t1, { cls := .type "tuple", data := .seq #[.ref b1, .ref l1] }) :: (l1, lst ys1 ys1.length) :: (nt, lst ns5 e5) :: (246, tb6 c6) :: (c6, o6) :: (107, tb7 c7) :: (c7, o7) :: (nl, lst ws 0) :: (L0 + 1 + 1 + 1 + 1, oA) :: Y3 ∧ IntsAre ys (((ms.take i).map endB).map fun b : Nat => (b : Int))) rfl (News.isList kN (mem_skip 7 (.head _))) (kN (nl, lst ws 0) (mem_skip 7 (.head _))).2.1 (by walk_at "lia") kF kN ⟨rfl, .nil⟩ (turn_list ?_) (finF ?_)
        · clear kF kN
          intro wr i ys m₅ C oC D' own h tk E' v hi hyl hv hma hoC hys' off hwo F3 N3
          obtain ⟨x, t, hx, rfl⟩ := ints_item hi7.1 hv
          refine wpAny_tests_nil ?_
          k_steps
          exact ⟨_, _, _, rfl, by k_asm, by k_asm, off, rfl, ends_snoc hys' hx (fmod_B x)⟩
        intro l2 h23 tk23 ys2 hyl2 F23 N23 off23 hys2
        clear kF kN lt1
        rw [hi7.1.length, List.take_length] at hys2
        replace hys2 := IntsH.mk hys2
        replace nd12 := nd_add (o := lst ys2 ys2.length) nd12 off23
        clear off23
        k_steps
        refine Stop.go ?_
        (with_reducible rename Fr _ _ _ _ => kF); (with_reducible rename News _ _ _ _ => kN)
        rename_i t2 _ lt2 l3 _ lt3 t3 _ lt4 ll _ lt5
        have ndL := nd_loop (nd_new (x := lst [.ref t1, .ref t2, .ref t3] 0) (nd_new (x := { cls := .type "tuple", data := .seq #[.ref b3, .ref l3] }) (nd_new (x := lst [] 0) (nd_new (x := { cls := .type "tuple", data := .seq #[.ref b2, .ref l2] }) nd12 lt2) lt3) lt4) lt5)
        replace kN : News gh L0 _ ((ll, lst [.ref t1, .ref t2, .ref t3] 0) :: (nt, lst ns5 e5) :: (L0 + 1 + 1 + 1 + 1, oA) :: (t3, { cls := .type "tuple", data := .seq #[.ref b3, .ref l3] }) :: (l3, lst [] 0) :: (t2, { cls := .type "tuple", data := .seq #[.ref b2, .ref l2] }) :: (l2, lst ys2 ys2.length) :: (t1, { cls := .type "tuple", data := .seq #[.ref b1, .ref l1] }) :: (l1, lst ys1 ys1.length) :: (246, tb6 c6) :: (c6, o6) :: (107, tb7 c7) :: (c7, o7) :: Y3) := fun p hp => kN p (mem_loop p hp)
        clear lt2 lt3 lt4 lt5 nd12
        have hr := rows_ok (w := w) (nt := nt) (t1 := t1) (t2 := t2) (t3 := t3) hB1.out hB2.out hB3.out hk1.out hk2.out (by walk_at "lia") (by walk_at "lia") hys1.1 hys2.1 hm7 (n1 := ys1.length) (n2 := ys2.length) (l1 := l1) (l2 := l2) (l3 := l3)
        have h6 : (246, tb6 c6) ∈ (t3, ({ cls := .type "tuple", data := .seq #[.ref b3, .ref l3] } : Obj)) :: (l3, lst [] 0) :: (t2, { cls := .type "tuple", data := .seq #[.ref b2, .ref l2] }) :: (l2, lst ys2 ys2.length) :: (t1, { cls := .type "tuple", data := .seq #[.ref b1, .ref l1] }) :: (l1, lst ys1 ys1.length) :: (246, tb6 c6) :: (c6, o6) :: (107, tb7 c7) :: (c7, o7) :: Y3 := mem_skip 6 (.head _)
        have h7 : (107, tb7 c7) ∈ (t3, ({ cls := .type "tuple", data := .seq #[.ref b3, .ref l3] } : Obj)) :: (l3, lst [] 0) :: (t2, { cls := .type "tuple", data := .seq #[.ref b2, .ref l2] }) :: (l2, lst ys2 ys2.length) :: (t1, { cls := .type "tuple", data := .seq #[.ref b1, .ref l1] }) :: (l1, lst ys1 ys1.length) :: (246, tb6 c6) :: (c6, o6) :: (107, tb7 c7) :: (c7, o7) :: Y3 := mem_skip 8 (.head _)
        generalize (t3, ({ cls := .type "tuple", data := .seq #[.ref b3, .ref l3] } : Obj)) :: (l3, lst [] 0) :: (t2, { cls := .type "tuple", data := .seq #[.ref b2, .ref l2] }) :: (l2, lst ys2 ys2.length) :: (t1, { cls := .type "tuple", data := .seq #[.ref b1, .ref l1] }) :: (l1, lst ys1 ys1.length) :: (246, tb6 c6) :: (c6, o6) :: (107, tb7 c7) :: (c7, o7) :: Y3 = TL at kN ndL hr h6 h7
        replace hr := Hide.mk hr
        clear hB1 hB2 hB3 hk1 hk2 hys1 hys2 hprs
        repeat (with_reducible rename _ ∧ _ => hzz; clear hzz)
        refine with_fr kF fun M hM kF => ?_
        refine for_listT (vs := [.ref t1, .ref t2, .ref t3]) (e := 0) (news := (nt, lst ns5 e5) :: (L0 + 1 + 1 + 1 + 1, oA) :: TL) (LJ M nt L0 TL ll [.ref t1, .ref t2, .ref t3] ns5.length) rfl kF kN ⟨⟨M "book", M "runs", M "firsts", lj_start M⟩, ns5, e5, oA, none, rfl, dA, Nat.le_refl _, ndL⟩ ?_ ?_
        · clear kF kN ndL
          rintro i v m₁ n₁ h tk I oIt hv ⟨⟨ub, ur, uf, rfl⟩, ns, e, oc, v0, rfl, hod, hnl, ndJ⟩ hI hlI F₁ N₁
          have hi3 : i < 3 := by
            rcases Nat.lt_or_ge i 3 with h | h
            · exact h
            · rw [List.getElem?_eq_none (by simpa using h)] at hv; cases hv
          obtain ⟨t, b, l, ys, ny, qs, G, rfl, ht, hl, hys, hq7, hq5, hB, hGk, hG7⟩ := hr.out i v hv
          have hnl3 : ns.length ≤ 310 := by omega
          have ndQ := loop_nd (oI := oIt) ndJ hI hlI
          subst hM
          dsimp +zetaDelta only [envOfC] at F₁ N₁
          have N₂ := News.add (News.add N₁ (mem_skip 4 hl)) (.tail _ (mem_skip 4 ht))
          clear N₁ ndJ
          replace hys := IntsH.mk hys
          replace hB := Hide.mk hB
          replace hGk := Hide.mk hGk
          replace hq5 := Hide.mk hq5
          k_steps
          refine Stop.go ?_
          (with_reducible rename Fr _ _ _ _ => kF); (with_reducible rename News _ _ _ _ => kN)
          refine st_cell (fun o => (L0 + 1 + 1 + 1 + 1, o) :: (I, oIt) :: (ll, lst [.ref t1, .ref t2, .ref t3] 0) :: (nt, lst ns e) :: TL) kF kN (mem_skip 5 (.head _)) hod (fun o' => put_hd ndQ loop_mem) ?_
          intro h24 oc2 F24 N24 dc2
          clear kF kN
          replace ndQ : ND ((L0 + 1 + 1 + 1 + 1, oc2) :: (I, oIt) :: (ll, lst [.ref t1, .ref t2, .ref t3] 0) :: (nt, lst ns e) :: TL) := ndQ
          k_steps
          refine Stop.go ?_
          (with_reducible rename Fr _ _ _ _ => kF); (with_reducible rename News _ _ _ _ => kN)
          refine PyProof.Rows.len_list (News.isList kN (mem_skip 3 (.head _))) (by rw [List.size_toArray]; walk_at "lia") ?_
          rw [List.size_toArray]
          k_steps
          refine Stop.go ?_
          (with_reducible rename Fr _ _ _ _ => kF); (with_reducible rename News _ _ _ _ => kN)
          have ndN := nd_4 ndQ
          have hek : Str.ofString "e" ∉ G.map (·.1) := by rw [hGk.out]; exact e_not hq5.out
          refine book_none (dp := dp) (un := un) (gd := gd) (L := L0) (s := ⟨_, _, _, _, _⟩) (nt := nt) (ns := ns) (e := e) (led := (L0 + 1 + 1 + 1 + 1, oc2) :: (I, oIt) :: (ll, lst [.ref t1, .ref t2, .ref t3] 0) :: TL) kF kB YB XK (fun p hp => kN p (mem_4 p hp)) kT rfl (by walk_at "lia") (by walk_at "lia") hB.out (fun p hp => mem_skip 3 hp) (nd_off ndN) (by walk_at "lia") hek ?_
          intro q1 tq1 e6 h25 tk25 hq1 hlt1 F25 N25
          clear kF kN
          k_steps
          refine append_led (s := ⟨_, _, _, _, _⟩) F25 N25 (off_q hq1 hlt1) (Nat.zero_le _) ?_
          intro h26 F26 N26
          replace N26 := fun p hp => N26 p (.tail _ hp)
          replace N26 : News gh L0 h26 ((nt, lst (ns ++ [Value.int (ns.length : Nat) tq1]) e6) :: (L0 + 1 + 1 + 1 + 1, oc2) :: (I, oIt) :: (ll, lst [.ref t1, .ref t2, .ref t3] 0) :: TL) := N26
          clear F25 N25 hlt1 hq1
          k_steps
          refine Stop.go ?_
          (with_reducible rename Fr _ _ _ _ => kF); (with_reducible rename News _ _ _ _ => kN)
          refine' Assign_at (cl := [(Str.ofString "places", L0 + 1 + 1 + 1 + 1)]) ?sw6 ?clo6 ?ki6 ?na6 ?_
          case sw6 => kernel_rfl
          case clo6 => kernel_rfl
          case ki6 => rfl
          case na6 => decide
          k_steps
          refine Stop.go ?_
          have hyl : ys.length = qs.length := by rw [hys.1.length, List.length_map]
          replace ndQ := Hide.mk ndQ
          replace ndN := Hide.mk ndN
          replace hI := Hide.mk hI
          replace hek := Hide.mk hek
          refine comp_enum (vs := ys) (fun j zs n₁ => n₁ = (nt, lst (ns ++ [Value.int (ns.length : Nat) tq1]) e6) :: (L0 + 1 + 1 + 1 + 1, oc2) :: (I, oIt) :: (ll, lst [.ref t1, .ref t2, .ref t3] 0) :: TL ∧ StrsAre zs (firsts ((qs.take j).map wd))) rfl (News.isList kN (mem_skip 4 hl)) (kN (l, lst ys ny) (mem_skip 4 hl)).2.1 (by walk_at "lia") kF kN ⟨rfl, .nil⟩ (turn_enum ?_) (finVF rfl (by kernel_rfl) (by rfl) ?_)
          · clear kF kN
            intro wr j zs m₅ C oC D3 own h tk E' t1' b' hj hzl hb hma hmb hoC hzs off hwo F3 N3
            obtain ⟨qv, t2', hqv, rfl⟩ := nats_item hys.1 hb
            replace off := Hide.mk off
            clear hlI
            replace hzs := Hide.mk hzs
            refine wpAny_tests_one (cut_eq F3 N3 (!decide (qv ∈ qs.take j)) (fun Q' hQ' => ?_) ?_)
            · k_steps
              refine Stop.go ?_
              refine w_upto (s := ⟨h, _, _, _, _⟩) F3 N3 (News.isList N3 (.tail _ (.tail _ (List.mem_append_left _ (mem_skip 4 hl))))) (by walk_at "lia") ?_
              intro q h' F4 N4 l4
              k_steps
              refine Stop.go ?_
              (with_reducible rename Fr _ _ _ _ => kF); (with_reducible rename News _ _ _ _ => kN)
              refine notin_list_ints (ns := (qs.take j).map fun b : Nat => (b : Int)) (News.isList kN (.head _)) (by rw [List.map_take]; exact hys.1.take j) ?_
              rw [any_nat]
              cases hd3 : decide (qv ∈ qs.take j) with
              | true =>
                rw [hd3] at hQ'
                k_steps
                (with_reducible rename News _ _ _ _ => kN)
                exact hQ' _ _ _ rfl (by k_asm) (fun p hp => kN p (.tail _ hp))
              | false =>
                rw [hd3] at hQ'
                k_steps
                (with_reducible rename News _ _ _ _ => kN)
                exact hQ' _ _ _ rfl (by k_asm) (fun p hp => kN p (.tail _ hp))
            · intro h' tk' F4 N4
              clear F3 N3
              cases hok : decide (qv ∈ qs.take j) with
              | true =>
                simp only [Bool.not_true, Bool.false_eq_true, if_false]
                exact ⟨h', tk', _, rfl, F4, N4, off.out, rfl, firsts_no hzs.out hqv hq5.out hok⟩
              | false =>
                simp only [Bool.not_false, if_true]
                refine Subscript_ ?_
                refine Call_ ?_
                refine name_comp F4 XK (topRead_of kT) (by k_is) rfl rfl (by kernel_rfl) ?_
                refine callWith_K0 (XK.keeps F4.keep) (by k_is) ?_
                k_steps
                refine Stop.go ?_
                refine Calls.use (dp := dp) (un := un) (gd := gd) (L := L0) (s := ⟨h', _, _, _, _⟩) words_t F4 kB YB XK N4 kT ?hk20 ?hd20 ?hu20 ?kk20
                case hk20 => rfl
                case hd20 => walk_at "lia"
                case hu20 => walk_at "lia"
                rintro r led h5 tk5 ⟨wl, u1, u2, u3, u4, u5, hwl⟩ F5 N5
                k_steps
                refine Stop.go ?_
                refine kba_turn (value' := PySem.Expr.Name (PySem.Str.ofString "_") ⟨0, 0, 0, 0⟩) (fun _ => rfl) ?_
                obtain ⟨t6, ht6⟩ := word_item u1 u2 u3 u4 u5 (hq5.out qv (List.mem_of_getElem? hqv))
                refine item_list (News.isList N5 (.head _)) (by walk_at "lia") (i1 (hq5.out qv (List.mem_of_getElem? hqv))) ht6 ?_
                exact ⟨_, _, _, rfl, by k_asm, fun p hp => N5 p (.tail _ hp), off.out, rfl, firsts_yes hzs.out hqv hq5.out hok⟩
          · intro FL h27 tk27 zs hzl F27 N27 off27 hzs
            clear kF kN
            rw [hyl, List.take_length] at hzs
            have off28 := off_fl (y := lst zs zs.length) off27 ndN.out
            clear off27
            k_steps
            refine Stop.go ?_
            (with_reducible rename Fr _ _ _ _ => kF); (with_reducible rename News _ _ _ _ => kN)
            refine book_none (dp := dp) (un := un) (gd := gd) (L := L0) (s := ⟨_, _, _, _, _⟩) (nt := nt) (ns := ns ++ [Value.int (ns.length : Nat) tq1]) (e := e6) (led := (FL, lst zs zs.length) :: (L0 + 1 + 1 + 1 + 1, oc2) :: (I, oIt) :: (ll, lst [.ref t1, .ref t2, .ref t3] 0) :: TL) kF kB YB XK (fun p hp => kN p (mem_sw p hp)) kT rfl (by walk_at "lia") (by walk_at "lia") hB.out (fun p hp => mem_skip 4 hp) off28 (by rw [List.length_append, List.length_singleton]; omega) hek.out ?_
            intro q2 tq2 e7 h28 tk28 hq2 hlt2 F28 N28
            clear kF kN hlt2
            k_steps
            refine Stop.go ?_
            (with_reducible rename Fr _ _ _ _ => kF); (with_reducible rename News _ _ _ _ => kN)
            refine w_ne (ks := []) (js := []) (vs := []) (us := []) (News.isList kN (.tail _ (.head _))) .nil (News.isList kN (.head _)) .nil (fun _ h => nomatch h) (fun _ h => nomatch h) (by walk_at "side") ?_
            rw [decide_eq_true (rfl : ([] : List Nat) = []), Bool.not_true]
            k_steps
            refine Stop.go ?_
            (with_reducible rename Fr _ _ _ _ => kF); (with_reducible rename News _ _ _ _ => kN)
            refine bookis_list rfl kF kN kB YB hB.out (fun p hp => mem_skip 7 hp) (by walk_at "lia") ?_
            intro D4 vs4 c4 h29 tk29 F29 N29 lt29 hv4
            clear kF kN
            rw [hGk.out] at hv4
            k_steps
            refine Stop.go ?_
            (with_reducible rename Fr _ _ _ _ => kF); (with_reducible rename News _ _ _ _ => kN)
            obtain ⟨ks, hks, hks5⟩ := firsts_wd hq5.out
            rw [hks] at hv4 hzs
            refine w_ne (ks := ks) (js := ks) (News.isList kN (.head _)) hv4 (News.isList kN (mem_skip 4 (.head _))) hzs hks5 hks5 (by walk_at "side") ?_
            rw [decide_eq_true (rfl : ks = ks), Bool.not_true]
            clear hv4 hzs hks hks5
            k_steps
            refine Stop.go ?_
            (with_reducible rename Fr _ _ _ _ => kF); (with_reducible rename News _ _ _ _ => kN)
            refine PyProof.Rows.len_list (News.isList kN (mem_skip 3 (.head _))) (by rw [List.size_toArray, List.length_append, List.length_append, List.length_singleton, List.length_singleton]; exact i0 (p2 hnl3 : ns.length + 1 + 1 ≤ 1000)) ?_
            rw [List.size_toArray, List.length_append, List.length_append, List.length_singleton, List.length_singleton]
            k_steps
            · exfalso
              rename_i hne
              exact ne_two hne
            · (with_reducible rename Fr _ _ _ _ => kF); (with_reducible rename News _ _ _ _ => kN)
              dsimp only [TurnPost]
              refine ⟨h29, _, _, (nt, lst (ns ++ [Value.int (ns.length : Nat) tq1] ++ [Value.int ((ns ++ [Value.int (ns.length : Nat) tq1]).length : Nat) tq2]) e7) :: (L0 + 1 + 1 + 1 + 1, oc2) :: TL, rfl, kF, fun p hp => kN p (loop_back p hp), off_map (P := fun a => a ≠ I) hI.out rfl, ⟨_, _, _, lj_next⟩, _, _, _, _, rfl, dc2, ?_, nd_back ndQ.out⟩
              rw [List.length_append, List.length_append, List.length_singleton, List.length_singleton]
              exact len_two hnl
        · intro m₁ n₁ h tk ⟨⟨ub, ur, uf, hm1⟩, ns, e, oc, v0, hn1, hod, hnl, ndJ⟩ F₁ N₁
          subst hm1 hn1
          clear kF kN ndL
          dsimp +zetaDelta only [envOfC] at F₁ N₁
          k_steps
          exact ⟨rfl, h, tk, _, _, _, rfl, F₁, fun p hp => N₁ p (by
            rcases List.mem_cons.mp hp with rfl | hp
            · exact mem_skip 3 h7
            rcases List.mem_cons.mp hp with rfl | hp
            · exact mem_skip 3 h6
            · cases hp)⟩
end
end
end
end Mine
theorem PySem.Challenge.cw_ik0001_01_holds : PySem.Challenge.rw_ik0001_01.Holds :=
  Mine.top_t
