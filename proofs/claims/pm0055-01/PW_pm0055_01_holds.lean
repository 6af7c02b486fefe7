import PyProof.Rows.All
import Wide.All
import OpenK.AllK
import Wide.FinOn
import Lean
import PySem.Challenge.RW_pm0055_01
open PySem PySem.W PyProof.Rows PySem.Calls PySem.Spec
set_option Elab.async false
set_option autoImplicit false
set_option linter.unusedVariables false
set_option maxRecDepth 100000
set_option genSizeOf false
set_option genSizeOfSpec false
set_option compiler.extract_closed false
set_option genInjectivity false
local macro_rules | `(tactic| k_head) => `(tactic| z_head)
local macro_rules | `(tactic| refine $f:ident $xs*) => match f.getId.eraseMacroScopes with | .str _ "holds_openX" => `(tactic| (refine ($f $xs*); case' hl => change id _)) | _ => Lean.Macro.throwUnsupported
namespace Mine
set_option maxHeartbeats 8000000 in
open_top hz1 for PySem.Challenge.rw_pm0055_01
end Mine
section
local macro_rules | `(tactic| omega) => `(tactic| first | lia | omega (config := {}))
namespace Mine

theorem bindSome {α β : Type} {o : Option α} {f : α → Option β} {b : β} {G : Prop} (e : o.bind f = some b) (k : ∀ v, o = some v → f v = some b → G) : G := by
  cases o with
  | none => cases e
  | some v => exact k v rfl e
theorem mapSome {α β : Type} {o : Option α} {f : α → β} {b : β} {G : Prop} (e : o.map f = some b) (k : ∀ v, o = some v → f v = b → G) : G := by
  cases o with
  | none => cases e
  | some v => exact k v rfl (Option.some.inj e)
inductive VV where
  | none
  | bool (b : Bool)
  | int (i : Int)
  | str (l : List Nat)
  | tup (xs : List VV)
  | lv (xs : List VV)
  | rng (a b s : Int)
  | inst (C : Addr) (fs : List (Str × VV))
  | lst (i : Nat)
  | ins (C : Addr) (j : Nat)
  | raw (v : Value)

inductive VO where
  | list (xs : List VV)
  | ns (fs : List (Str × VV))

noncomputable abbrev listO (ws : Array Value) (n : Nat) : Obj := { cls := .type "list", data := .seq ws n }
noncomputable abbrev tupO (ws : Array Value) (n : Nat) : Obj := { cls := .type "tuple", data := .seq ws n }

noncomputable def Keyed : List (Str × VV) → List DictEntry → Prop
  | [], [] => True
  | f :: fs, e :: es => (∃ t, e.key = .str f.1 t) ∧ Keyed fs es
  | _, _ => False

mutual
inductive VR (h : Heap) (ρ : List Addr) (ok : Addr → Prop) : VV → Value → Prop
  | none : VR h ρ ok .none .none
  | bool (b : Bool) : VR h ρ ok (.bool b) (.bool b)
  | int (i : Int) (t : Tok) : VR h ρ ok (.int i) (.int i t)
  | str (l : List Nat) (t : Tok) : VR h ρ ok (.str l) (.str ⟨l.toArray⟩ t)
  | tup {a : Addr} {xs : List VV} {ws : List Value} {n : Nat} : h.get? a = some (tupO ws.toArray n) → ok a → VRs h ρ ok xs ws → VR h ρ ok (.tup xs) (.ref a)
  | lv {a : Addr} {xs : List VV} {ws : List Value} {n : Nat} : h.get? a = some (listO ws.toArray n) → ok a → VRs h ρ ok xs ws → VR h ρ ok (.lv xs) (.ref a)
  | rng {a : Addr} {x y s : Int} {t u v : Tok} : IsRange h a x y s t u v → ok a → VR h ρ ok (.rng x y s) (.ref a)
  | inst {a d C : Addr} {fs : List (Str × VV)} {es : List DictEntry} {n : Nat} : h.get? a = some (W.instObj C d) → h.get? d = some (W.dictOf es n) → ok a → ok d → Keyed fs es →
      VRs h ρ ok (fs.map (·.2)) (es.map (·.val)) → VR h ρ ok (.inst C fs) (.ref a)
  | lst {i : Nat} {a : Addr} : ρ[i]? = some a → VR h ρ ok (.lst i) (.ref a)
  | ins {C : Addr} {j : Nat} {a d : Addr} : h.get? a = some (W.instObj C d) → ok a → ρ[j]? = some d → VR h ρ ok (.ins C j) (.ref a)
  | raw (v : Value) : VR h ρ ok (.raw v) v
inductive VRs (h : Heap) (ρ : List Addr) (ok : Addr → Prop) : List VV → List Value → Prop
  | nil : VRs h ρ ok [] []
  | cons {v : VV} {vs : List VV} {w : Value} {ws : List Value} : VR h ρ ok v w → VRs h ρ ok vs ws → VRs h ρ ok (v :: vs) (w :: ws)
end

noncomputable def KP (TB : List Addr) (h h' : Heap) : Prop := ∀ b o, b ∉ TB → h.get? b = some o → h'.get? b = some o

noncomputable def NotC (o : Obj) : Prop := ∀ vs (q : Str) t, o.data = .fields vs → vs[1]? ≠ some (.str q t)
theorem NotC.of {o : Obj} (h : ∀ vs, o.data ≠ .fields vs) : NotC o := fun vs _ _ e => absurd e (h vs)
theorem NotC.at {o : Obj} {vs : Array Value} (h : o.data = .fields vs) (n : ∀ (q : Str) t, vs[1]? ≠ some (.str q t)) : NotC o := fun us q t e => by
  rw [h] at e; cases e; exact n q t

structure Tabs where
  TB : List Addr
  Inv : Heap → Prop
  there : ∀ h, Inv h → ∀ P ∈ TB, ∃ o, h.get? P = some o ∧ o.cls = .none
  only : ∀ h h', (∀ b ∈ TB, ∀ o, h.get? b = some o → h'.get? b = some o) → (∀ b o, ¬ NotC o → h.get? b = some o → h'.get? b = some o) → Inv h → Inv h'
theorem Tabs.mono (TT : Tabs) (h h' : Heap) (k : ∀ b o, h.get? b = some o → h'.get? b = some o) : TT.Inv h → TT.Inv h' := TT.only h h' (fun b _ o e => k b o e) fun b o _ e => k b o e
theorem Tabs.one (TT : Tabs) {h h' : Heap} {a : Addr} (i : TT.Inv h) (ha : a ∉ TT.TB) (hc : ∀ o, h.get? a = some o → NotC o) (k : ∀ b o, b ≠ a → h.get? b = some o → h'.get? b = some o) : TT.Inv h' :=
  TT.only h h' (fun b hb o e => k b o (fun q => ha (q ▸ hb)) e) (fun b o hn e => k b o (fun q => hn (hc o (q ▸ e))) e) i
theorem Tabs.oneNs (TT : Tabs) {h h' : Heap} {a : Addr} {m : Str → Option Value} (i : TT.Inv h) (ha : a ∉ TT.TB) (hn : h.Ns a m) (k : ∀ b o, b ≠ a → h.get? b = some o → h'.get? b = some o) : TT.Inv h' :=
  TT.one i ha (fun o e => NotC.of fun vs hd => by
    obtain ⟨o', es, ep, e', hd', _⟩ := hn
    rw [e] at e'; cases e'
    rw [hd] at hd'; cases hd') k

section
variable {h h' : Heap} {ρ ρ' : List Addr} {ok ok' : Addr → Prop}
theorem VR.mono (hk : ∀ b o, o.cls ≠ .none → ok b → h.get? b = some o → h'.get? b = some o) (hr : ∀ (i : Nat) a, ρ[i]? = some a → ρ'[i]? = some a) (ho : ∀ a o, h.get? a = some o → ok a → ok' a) {v : VV} {w : Value} (q : VR h ρ ok v w) : VR h' ρ' ok' v w :=
  VR.rec (motive_1 := fun v w _ => VR h' ρ' ok' v w) (motive_2 := fun vs ws _ => VRs h' ρ' ok' vs ws) .none .bool .int .str (fun e k _ r => .tup (hk _ _ (by nofun) k e) (ho _ _ e k) r) (fun e k _ r => .lv (hk _ _ (by nofun) k e) (ho _ _ e k) r)
    (fun e k => .rng (hk _ _ (by nofun) k e) (ho _ _ e k)) (fun e1 e2 k1 k2 q _ r => .inst (hk _ _ (by nofun) k1 e1) (hk _ _ (by nofun) k2 e2) (ho _ _ e1 k1) (ho _ _ e2 k2) q r) (fun e => .lst (hr _ _ e)) (fun e k q => .ins (hk _ _ (by nofun) k e) (ho _ _ e k) (hr _ _ q))
    .raw .nil (fun _ _ x r => .cons x r) q
theorem VRs.mono (hk : ∀ b o, o.cls ≠ .none → ok b → h.get? b = some o → h'.get? b = some o) (hr : ∀ (i : Nat) a, ρ[i]? = some a → ρ'[i]? = some a) (ho : ∀ a o, h.get? a = some o → ok a → ok' a) {vs : List VV} {ws : List Value} (q : VRs h ρ ok vs ws) : VRs h' ρ' ok' vs ws :=
  VRs.rec (motive_1 := fun v w _ => VR h' ρ' ok' v w) (motive_2 := fun vs ws _ => VRs h' ρ' ok' vs ws) .none .bool .int .str (fun e k _ r => .tup (hk _ _ (by nofun) k e) (ho _ _ e k) r) (fun e k _ r => .lv (hk _ _ (by nofun) k e) (ho _ _ e k) r)
    (fun e k => .rng (hk _ _ (by nofun) k e) (ho _ _ e k)) (fun e1 e2 k1 k2 q _ r => .inst (hk _ _ (by nofun) k1 e1) (hk _ _ (by nofun) k2 e2) (ho _ _ e1 k1) (ho _ _ e2 k2) q r) (fun e => .lst (hr _ _ e)) (fun e k q => .ins (hk _ _ (by nofun) k e) (ho _ _ e k) (hr _ _ q))
    .raw .nil (fun _ _ x r => .cons x r) q
theorem VRs.nilI {ws : List Value} (r : VRs h ρ ok [] ws) : ws = [] := by cases r; rfl
theorem VRs.consI {v : VV} {vs : List VV} {ws : List Value} (r : VRs h ρ ok (v :: vs) ws) : ∃ w us, ws = w :: us ∧ VR h ρ ok v w ∧ VRs h ρ ok vs us := by cases r; exact ⟨_, _, rfl, by assumption, by assumption⟩
theorem VRs.both {P : List VV → List Value → Prop} (h0 : P [] []) (h1 : ∀ v vs w ws, VR h ρ ok v w → VRs h ρ ok vs ws → P vs ws → P (v :: vs) (w :: ws)) {vs : List VV} : ∀ {ws : List Value}, VRs h ρ ok vs ws → P vs ws := by
  induction vs with
  | nil => intro ws r; rw [r.nilI]; exact h0
  | cons v vs ih =>
    intro ws r
    obtain ⟨w, us, rfl, q, r'⟩ := r.consI
    exact h1 _ _ _ _ q r' (ih r')
theorem VRs.length {vs : List VV} {ws : List Value} (r : VRs h ρ ok vs ws) : vs.length = ws.length :=
  VRs.both (P := fun vs ws => vs.length = ws.length) rfl (fun _ _ _ _ _ _ ih => congrArg Nat.succ ih) r
theorem VRs.get {vs : List VV} {ws : List Value} (r : VRs h ρ ok vs ws) : ∀ {k : Nat} {v : VV}, vs[k]? = some v → ∃ w, ws[k]? = some w ∧ VR h ρ ok v w :=
  VRs.both (P := fun vs ws => ∀ {k : Nat} {v : VV}, vs[k]? = some v → ∃ w, ws[k]? = some w ∧ VR h ρ ok v w) (fun e => nomatch e) (fun v vs w ws q _ ih k u e => by
    cases k with
    | zero => cases e; exact ⟨_, rfl, q⟩
    | succ k => exact ih (k := k) e) r
theorem VRs.append {vs us : List VV} {ws xs : List Value} (r : VRs h ρ ok vs ws) (q : VRs h ρ ok us xs) : VRs h ρ ok (vs ++ us) (ws ++ xs) :=
  VRs.both (P := fun vs ws => VRs h ρ ok (vs ++ us) (ws ++ xs)) q (fun _ _ _ _ q _ ih => .cons q ih) r
theorem VRs.take {vs : List VV} {ws : List Value} (r : VRs h ρ ok vs ws) : ∀ (n : Nat), VRs h ρ ok (vs.take n) (ws.take n) :=
  VRs.both (P := fun vs ws => ∀ n, VRs h ρ ok (vs.take n) (ws.take n)) (fun n => by rw [List.take_nil, List.take_nil]; exact .nil) (fun _ _ _ _ q _ ih n => by
    cases n with
    | zero => exact .nil
    | succ n => exact .cons q (ih n)) r
theorem VRs.drop {vs : List VV} {ws : List Value} (r : VRs h ρ ok vs ws) : ∀ (n : Nat), VRs h ρ ok (vs.drop n) (ws.drop n) :=
  VRs.both (P := fun vs ws => ∀ n, VRs h ρ ok (vs.drop n) (ws.drop n)) (fun n => by rw [List.drop_nil, List.drop_nil]; exact .nil) (fun _ _ _ _ q r ih n => by
    cases n with
    | zero => exact .cons q r
    | succ n => exact ih n) r
theorem VRs.reverse {vs : List VV} {ws : List Value} (r : VRs h ρ ok vs ws) : VRs h ρ ok vs.reverse ws.reverse :=
  VRs.both (P := fun vs ws => VRs h ρ ok vs.reverse ws.reverse) .nil (fun _ _ _ _ q _ ih => by rw [List.reverse_cons, List.reverse_cons]; exact ih.append (.cons q .nil)) r
theorem VRs.set {vs : List VV} {ws : List Value} (r : VRs h ρ ok vs ws) {v : VV} {w : Value} (q : VR h ρ ok v w) : ∀ (k : Nat), VRs h ρ ok (vs.set k v) (ws.set k w) :=
  VRs.both (P := fun vs ws => ∀ k, VRs h ρ ok (vs.set k v) (ws.set k w)) (fun _ => .nil) (fun _ _ _ _ x r ih k => by
    cases k with
    | zero => exact .cons q r
    | succ k => exact .cons x (ih k)) r
theorem VRs.replicate {v : VV} {w : Value} (q : VR h ρ ok v w) : ∀ (n : Nat), VRs h ρ ok (List.replicate n v) (List.replicate n w)
  | 0 => .nil
  | n + 1 => .cons q (VRs.replicate q n)
theorem VRs.split {us : List VV} {vs : List VV} : ∀ {ws : List Value}, VRs h ρ ok (vs ++ us) ws → ∃ xs ys, ws = xs ++ ys ∧ VRs h ρ ok vs xs ∧ VRs h ρ ok us ys := by
  induction vs with
  | nil => intro ws q; exact ⟨[], _, rfl, .nil, q⟩
  | cons v vs ih =>
    intro ws r
    obtain ⟨w, ws', rfl, q, r'⟩ := VRs.consI (v := v) (vs := vs ++ us) r
    obtain ⟨xs, ys, e, a, b⟩ := ih r'
    exact ⟨w :: xs, ys, by rw [e]; rfl, .cons q a, b⟩
theorem VRs.of_ints {ns : List Int} {ws : List Value} (r : IntsAre ws ns) : VRs h ρ ok (ns.map .int) ws := by
  induction r with
  | nil => exact .nil
  | cons i t _ ih => exact .cons (.int i t) ih
theorem VR.intI {i : Int} {w : Value} (q : VR h ρ ok (.int i) w) : ∃ t, w = .int i t := by cases q; exact ⟨_, rfl⟩
theorem VR.boolI {b : Bool} {w : Value} (q : VR h ρ ok (.bool b) w) : w = .bool b := by cases q; rfl
theorem VR.strI {l : List Nat} {w : Value} (q : VR h ρ ok (.str l) w) : ∃ t, w = .str ⟨l.toArray⟩ t := by cases q; exact ⟨_, rfl⟩
theorem VR.rawI {v w : Value} (q : VR h ρ ok (.raw v) w) : w = v := by cases q; rfl
theorem VR.lstI {i : Nat} {w : Value} (q : VR h ρ ok (.lst i) w) : ∃ a, w = .ref a ∧ ρ[i]? = some a := by cases q; exact ⟨_, rfl, by assumption⟩
theorem VR.tupI {xs : List VV} {w : Value} (q : VR h ρ ok (.tup xs) w) : ∃ a ws n, w = .ref a ∧ h.get? a = some (tupO (List.toArray ws) n) ∧ ok a ∧ VRs h ρ ok xs ws := by cases q; exact ⟨_, _, _, rfl, by assumption, by assumption, by assumption⟩
theorem VR.lvI {xs : List VV} {w : Value} (q : VR h ρ ok (.lv xs) w) : ∃ a ws n, w = .ref a ∧ h.get? a = some (listO (List.toArray ws) n) ∧ ok a ∧ VRs h ρ ok xs ws := by cases q; exact ⟨_, _, _, rfl, by assumption, by assumption, by assumption⟩
theorem VRs.head {v : VV} {vs : List VV} {w : Value} {ws : List Value} (r : VRs h ρ ok (v :: vs) (w :: ws)) : VR h ρ ok v w := by cases r; assumption
theorem VRs.tail {v : VV} {vs : List VV} {w : Value} {ws : List Value} (r : VRs h ρ ok (v :: vs) (w :: ws)) : VRs h ρ ok vs ws := by cases r; assumption
theorem VRs.oneI {v : VV} {ws : List Value} (r : VRs h ρ ok [v] ws) : ∃ w, ws = [w] ∧ VR h ρ ok v w := by
  obtain ⟨w, us, rfl, q, r'⟩ := r.consI
  exact ⟨w, by rw [r'.nilI], q⟩
theorem VRs.int1 {i : Int} {ws : List Value} (r : VRs h ρ ok [.int i] ws) : ∃ t, ws = [.int i t] := by
  obtain ⟨w, rfl, q⟩ := r.oneI
  obtain ⟨t, rfl⟩ := q.intI
  exact ⟨t, rfl⟩
theorem VRs.int2 {i j : Int} {ws : List Value} (r : VRs h ρ ok [.int i, .int j] ws) : ∃ t u, ws = [.int i t, .int j u] := by
  obtain ⟨w, us, rfl, q, r'⟩ := r.consI
  obtain ⟨t, rfl⟩ := q.intI
  obtain ⟨u, rfl⟩ := r'.int1
  exact ⟨t, u, rfl⟩
theorem VRs.int3 {i j k : Int} {ws : List Value} (r : VRs h ρ ok [.int i, .int j, .int k] ws) : ∃ t u x, ws = [.int i t, .int j u, .int k x] := by
  obtain ⟨w, us, rfl, q, r'⟩ := r.consI
  obtain ⟨t, rfl⟩ := q.intI
  obtain ⟨u, x, rfl⟩ := r'.int2
  exact ⟨t, u, x, rfl⟩
theorem VRs.ints {ns : List Int} : ∀ {ws : List Value}, VRs h ρ ok (ns.map .int) ws → IntsAre ws ns := by
  induction ns with
  | nil =>
    intro ws r
    rw [r.nilI]
    exact .nil
  | cons i ns ih =>
    intro ws r
    obtain ⟨w, us, rfl, q, r'⟩ := VRs.consI (v := .int i) (vs := ns.map .int) r
    obtain ⟨t, rfl⟩ := q.intI
    exact .cons i t (ih r')
end
end Mine
namespace Mine

noncomputable abbrev Sc := List (Str × NameKind)
noncomputable abbrev Lo := List (Option VV)
noncomputable abbrev Hp := List VO
noncomputable abbrev EvF := Lo → Hp → Option VV

structure Bud (A : Around) (n : Nat) : Prop where
  hh : A.handled = none
  depth : A.depth + n < recursionLimit
  units : A.units + 10 * n + 100 < cLine
theorem Bud.le {A : Around} {n m : Nat} (b : Bud A n) (h : m ≤ n) : Bud A m := ⟨b.hh, by have := b.depth; omega, by have := b.units; omega⟩

structure Good (TT : Tabs) (B0 h : Heap) : Prop where
  keep : KP TT.TB B0 h
  inv : TT.Inv h

section
variable {TT : Tabs} {B0 : Heap}
theorem KP.refl {TB : List Addr} (h : Heap) : KP TB h h := fun _ _ _ e => e
theorem KP.trans {TB : List Addr} {h h' h'' : Heap} (a : KP TB h h') (b : KP TB h' h'') : KP TB h h'' := fun x o n e => b x o n (a x o n e)
theorem KP.of {TB : List Addr} {h h' : Heap} (k : ∀ b o, h.get? b = some o → h'.get? b = some o) : KP TB h h' := fun b o _ e => k b o e
theorem notTab {h : Heap} (i : TT.Inv h) {b : Addr} {o : Obj} (e : h.get? b = some o) (hc : o.cls ≠ .none) : b ∉ TT.TB := fun q => by
  obtain ⟨o', e', c⟩ := TT.there h i b q
  rw [e] at e'
  cases e'
  exact hc c
theorem KP.get {h h' : Heap} (k : KP TT.TB h h') (i : TT.Inv h) {b : Addr} {o : Obj} (hc : o.cls ≠ .none) (e : h.get? b = some o) : h'.get? b = some o := k b o (notTab i e hc) e
theorem KP.free {h h' : Heap} (k : KP TT.TB h h') (i' : TT.Inv h') {b : Addr} (e : h'.get? b = none) : h.get? b = none := by
  cases q : h.get? b with
  | none => rfl
  | some o =>
    by_cases hb : b ∈ TT.TB
    · obtain ⟨o', e', _⟩ := TT.there h' i' b hb
      rw [e] at e'; cases e'
    · rw [k b o hb q] at e; cases e
theorem VR.keep {h h' : Heap} {ρ : List Addr} {ok : Addr → Prop} {v : VV} {w : Value} (q : VR h ρ ok v w) (k : KP TT.TB h h') (i : TT.Inv h) : VR h' ρ ok v w :=
  q.mono (fun _ _ hc _ e => k.get i hc e) (fun _ _ e => e) fun _ _ _ x => x
theorem VRs.keep {h h' : Heap} {ρ : List Addr} {ok : Addr → Prop} {v : List VV} {w : List Value} (q : VRs h ρ ok v w) (k : KP TT.TB h h') (i : TT.Inv h) : VRs h' ρ ok v w :=
  q.mono (fun _ _ hc _ e => k.get i hc e) (fun _ _ e => e) fun _ _ _ x => x
end

noncomputable def OV (h : Heap) (ρ : List Addr) (ok : Addr → Prop) (a : Addr) : VO → Prop
  | .list xs => ∃ ws n, h.get? a = some (listO (List.toArray ws) n) ∧ VRs h ρ ok xs ws
  | .ns fs => ∃ es n, h.get? a = some (W.dictOf es n) ∧ Keyed fs es ∧ VRs h ρ ok (fs.map (·.2)) (es.map (·.val))

structure SV0 (TT : Tabs) (B0 : Heap) (ρ : List Addr) (ok : Addr → Prop) (H : Hp) (h : Heap) : Prop where
  good : Good TT B0 h
  len : ρ.length = H.length
  objs : ∀ (i : Nat) vo, H[i]? = some vo → ∃ a, ρ[i]? = some a ∧ OV h ρ ok a vo
  free : ∀ a, h.get? a = none → ok a

structure EnvV (TT : Tabs) (env : Env) (ρ : List Addr) (ok : Addr → Prop) (E : Lo) (h : Heap) : Prop where
  kind : env.scope.kind = .function
  glo : env.globals = mainGlobals
  blt : env.builtins = builtinsNs
  lTB : env.locals ∉ TT.TB
  ns : ∃ m, h.Ns env.locals m ∧ ∀ (i : Nat) x v, env.scope.names[i]? = some (x, .local) → E[i]? = some (some v) → ∃ w, m x = some w ∧ VR h ρ ok v w
  cells : ∀ (i : Nat) x k, env.scope.names[i]? = some (x, k) → (k = .cell ∨ k = .free) → ∃ a o v₀, env.cells.lookup x = some a ∧ h.get? a = some o ∧ a ∉ TT.TB ∧ o.data = .cell v₀ ∧
    ∀ v, E[i]? = some (some v) → ∃ w, v₀ = some w ∧ VR h ρ ok v w

section
variable {TT : Tabs} {B0 h h' : Heap} {ρ : List Addr} {ok : Addr → Prop} {H : Hp} {E : Lo} {env : Env}
theorem Good.step (g : Good TT B0 h) (k : KP TT.TB h h') (i : TT.Inv h') : Good TT B0 h' := ⟨g.keep.trans k, i⟩
theorem SV0.keep (S : SV0 TT B0 ρ ok H h) (k : KP TT.TB h h') (i : TT.Inv h') : SV0 TT B0 ρ ok H h' where
  good := S.good.step k i
  len := S.len
  objs := fun j vo e => by
    obtain ⟨a, ea, o⟩ := S.objs j vo e
    refine ⟨a, ea, ?_⟩
    cases vo with
    | list xs => obtain ⟨ws, n, e1, e2⟩ := o; exact ⟨ws, n, k.get S.good.inv (by nofun) e1, e2.keep k S.good.inv⟩
    | ns fs => obtain ⟨es, n, e1, e2, e3⟩ := o; exact ⟨es, n, k.get S.good.inv (by nofun) e1, e2, e3.keep k S.good.inv⟩
  free := fun a e => S.free a (k.free i e)
theorem nsAt {a : Addr} {m : Str → Option Value} (x : h.Ns a m) (k : ∀ o, h.get? a = some o → h'.get? a = some o) : h'.Ns a m :=
  let ⟨o, es, ep, e, r⟩ := x; ⟨o, es, ep, k o e, r⟩
theorem EnvV.keep (V : EnvV TT env ρ ok E h) (i : TT.Inv h) (k : KP TT.TB h h') : EnvV TT env ρ ok E h' where
  kind := V.kind
  glo := V.glo
  blt := V.blt
  lTB := V.lTB
  ns := let ⟨m, hn, r⟩ := V.ns; ⟨m, nsAt hn fun o e => k _ o V.lTB e, fun j x v e1 e2 => let ⟨w, a, b⟩ := r j x v e1 e2; ⟨w, a, b.keep k i⟩⟩
  cells := fun j x kd e hk => let ⟨a, o, v₀, e1, e2, e3, e4, r⟩ := V.cells j x kd e hk
    ⟨a, o, v₀, e1, k a o e3 e2, e3, e4, fun v ev => let ⟨w, p, q⟩ := r v ev; ⟨w, p, q.keep k i⟩⟩
end

noncomputable def Post (TT : Tabs) (ρ : List Addr) (ok : Addr → Prop) (v : VV) (Q : Value → Shared → Prop) (s : Shared) : Prop :=
  ∀ w h' tk, KP TT.TB s.heap h' → TT.Inv h' → VR h' ρ ok v w → Q w { s with heap := h', toks := tk }

section
variable (prog : Program) (w : World) (TT : Tabs) (B0 : Heap)
noncomputable def DenE (n : Nat) (sc : Sc) (e : Expr) (f : EvF) : Prop :=
  ∀ (A : Around) (env : Env) (ρ : List Addr) (ok : Addr → Prop) (H : Hp) (E : Lo) (s : Shared), Bud A n → env.scope.names = sc → SV0 TT B0 ρ ok H s.heap → EnvV TT env ρ ok E s.heap →
    ∀ v, f E H = some v → ∀ (Q Err : Value → Shared → Prop), Post TT ρ ok v Q s → wpAny (model prog w) A (eval e env) Q Err s
noncomputable def DenT (n : Nat) (sc : Sc) (e : Expr) (f : Lo → Hp → Option Bool) : Prop :=
  ∀ (A : Around) (env : Env) (ρ : List Addr) (ok : Addr → Prop) (H : Hp) (E : Lo) (s : Shared), Bud A n → env.scope.names = sc → SV0 TT B0 ρ ok H s.heap → EnvV TT env ρ ok E s.heap →
    ∀ b, f E H = some b → ∀ (Q : Bool → Shared → Prop) (Err : Value → Shared → Prop), (∀ h' tk, KP TT.TB s.heap h' → TT.Inv h' → Q b { s with heap := h', toks := tk }) →
      wpAny (model prog w) A (isTrue e env (eval e env)) Q Err s
noncomputable def Op2 (t : Value → Value → Sem Value) (g : VV → VV → Hp → Option VV) : Prop :=
  ∀ (A : Around) (ρ : List Addr) (ok : Addr → Prop) (H : Hp) (s : Shared) (x y : VV) (a b : Value), Bud A 0 → SV0 TT B0 ρ ok H s.heap → VR s.heap ρ ok x a → VR s.heap ρ ok y b →
    ∀ v, g x y H = some v → ∀ (Q Err : Value → Shared → Prop), Post TT ρ ok v Q s → wpAny (model prog w) A (t a b) Q Err s
noncomputable def Op1 (t : Value → Sem Value) (g : VV → Hp → Option VV) : Prop :=
  ∀ (A : Around) (ρ : List Addr) (ok : Addr → Prop) (H : Hp) (s : Shared) (x : VV) (a : Value), Bud A 0 → SV0 TT B0 ρ ok H s.heap → VR s.heap ρ ok x a →
    ∀ v, g x H = some v → ∀ (Q Err : Value → Shared → Prop), Post TT ρ ok v Q s → wpAny (model prog w) A (t a) Q Err s
end

section
variable {prog : Program} {w : World} {TT : Tabs} {B0 : Heap} {n : Nat} {sc : Sc}

theorem Post.now {ρ : List Addr} {ok : Addr → Prop} {v : VV} {Q : Value → Shared → Prop} {s : Shared} (P : Post TT ρ ok v Q s) (i : TT.Inv s.heap) {a : Value} (tk : Nat) (x : VR s.heap ρ ok v a) : Q a { s with toks := tk } :=
  P a s.heap tk (KP.refl _) i x
theorem Post.nowS {ρ : List Addr} {ok : Addr → Prop} {v : VV} {Q : Value → Shared → Prop} {s : Shared} (P : Post TT ρ ok v Q s) (i : TT.Inv s.heap) {a : Value} (x : VR s.heap ρ ok v a) : Q a s :=
  P a s.heap s.toks (KP.refl _) i x
theorem Post.after {ρ : List Addr} {ok : Addr → Prop} {v : VV} {Q : Value → Shared → Prop} {s : Shared} (P : Post TT ρ ok v Q s) {h' : Heap} {tk : Nat} (k : KP TT.TB s.heap h') : Post TT ρ ok v Q { s with heap := h', toks := tk } :=
  fun w h'' tk' k' i' x => P w h'' tk' (k.trans k') i' x

noncomputable def dI (i : Int) : EvF := fun _ _ => some (.int i)
theorem d_int (i : Int) {k : Nat} {pos : Pos} : DenE prog w TT B0 n sc (.Constant (.int i) k pos) (dI i) := by
  intro A env ρ ok H E s B hs S V v e Q Err P
  cases e
  exact wpAny_Constant_int (P.now S.good.inv _ (.int _ _))
noncomputable def dB (b : Bool) : EvF := fun _ _ => some (.bool b)
theorem d_bool (b : Bool) {k : Nat} {pos : Pos} : DenE prog w TT B0 n sc (.Constant (.bool b) k pos) (dB b) := by
  intro A env ρ ok H E s B hs S V v e Q Err P
  cases e
  exact wpAny_Constant_bool (P.nowS S.good.inv (.bool _))
noncomputable def dS (l : List Nat) : EvF := fun _ _ => some (.str l)
theorem d_str {x : Str} {l : List Nat} (hx : x = ⟨l.toArray⟩) {k : Nat} {pos : Pos} : DenE prog w TT B0 n sc (.Constant (.str x) k pos) (dS l) := by
  intro A env ρ ok H E s B hs S V v e Q Err P
  cases e
  subst hx
  exact wpAny_Constant_str (P.now S.good.inv _ (.str _ _))

noncomputable def dV (i : Nat) : EvF := fun E _ => match E[i]? with | some (some v) => some v | _ => none
theorem dV_some {i : Nat} {E : Lo} {H : Hp} {v : VV} (e : dV i E H = some v) : E[i]? = some (some v) := by
  unfold dV at e
  split at e
  · rename_i u hu; cases e; exact hu
  · cases e
theorem d_loc (i : Nat) {x : Str} {pos : Pos} (hi : sc[i]? = some (x, .local)) (hl : sc.lookup x = some .local) (hd : (x == ("__debug__" : Str)) = false := by decide) :
    DenE prog w TT B0 n sc (.Name x pos) (dV i) := by
  intro A env ρ ok H E s B hs S V v e Q Err P
  obtain ⟨m, hn, r⟩ := V.ns
  obtain ⟨a, hm, hv⟩ := r i x v (by rw [hs]; exact hi) (dV_some e)
  refine wpAny_Name (wpAny_loadName_local V.kind (by unfold Env.kindOf; rw [hs]; exact hl) hn hm (P.nowS S.good.inv hv)) hd
theorem d_cel (i : Nat) {x : Str} {pos : Pos} {k : NameKind} (hi : sc[i]? = some (x, k)) (hl : sc.lookup x = some k) (hk : k = .cell ∨ k = .free) (hd : (x == ("__debug__" : Str)) = false := by decide)
    (hc : (x == ("__classdict__" : Str)) = false := by decide) : DenE prog w TT B0 n sc (.Name x pos) (dV i) := by
  intro A env ρ ok H E s B hs S V v e Q Err P
  obtain ⟨a, o, v₀, e1, e2, e3, e4, r⟩ := V.cells i x k (by rw [hs]; exact hi) hk
  obtain ⟨u, hu, hv⟩ := r v (dV_some e)
  subst hu
  have hkd : env.kindOf x = some k := by unfold Env.kindOf; rw [hs]; exact hl
  refine wpAny_Name ?_ hd
  rcases hk with rfl | rfl
  · exact wpAny_loadName_cell V.kind hkd e1 ⟨o, e2, e4⟩ (P.nowS S.good.inv hv)
  · exact wpAny_loadName_free V.kind hkd e1 ⟨o, e2, e4⟩ (P.nowS S.good.inv hv) hc

noncomputable def dBin (g : VV → VV → Hp → Option VV) (fa fb : EvF) : EvF := fun E H => (fa E H).bind fun x => (fb E H).bind fun y => g x y H
theorem d_bin {op : Operator} {g : VV → VV → Hp → Option VV} (hg : Op2 prog w TT B0 (binaryOp op) g) {a b : Expr} {fa fb : EvF} {pos : Pos} (ha : DenE prog w TT B0 n sc a fa) (hb : DenE prog w TT B0 n sc b fb) :
    DenE prog w TT B0 n sc (.BinOp a op b pos) (dBin g fa fb) := by
  intro A env ρ ok H E s B hs S V v e Q Err P
  unfold dBin at e
  refine bindSome e fun x ex e => ?_
  refine bindSome e fun y ey e => ?_
  refine wpAny_BinOp (ha A env ρ ok H E s B hs S V x ex _ _ fun wx h₁ tk₁ k₁ i₁ vx => ?_)
  refine hb A env ρ ok H E { s with heap := h₁, toks := tk₁ } B hs (S.keep k₁ i₁) (V.keep S.good.inv k₁) y ey _ _ fun wy h₂ tk₂ k₂ i₂ vy => ?_
  exact hg A ρ ok H { s with heap := h₂, toks := tk₂ } x y wx wy (B.le (Nat.zero_le _)) (S.keep (k₁.trans k₂) i₂) (vx.keep k₂ i₁) vy v e Q Err (P.after (k₁.trans k₂))

end
end Mine
namespace Mine

section
variable {prog : Program} {w : World} {TT : Tabs} {B0 : Heap} {n : Nat} {sc : Sc}

noncomputable def lim9 : Nat := 2 ^ 8999
theorem lim9_log {n : Nat} (h : n < lim9) : n.log2 < 9000 := by
  by_cases h0 : n = 0
  · subst h0; decide +kernel
  · exact Nat.lt_of_lt_of_le ((Nat.log2_lt h0).mpr h) (by decide)
theorem lt_lim9 {n k : Nat} (h : n < 2 ^ k) (hk : k ≤ 8999 := by decide) : n < lim9 := Nat.lt_of_lt_of_le h (Nat.pow_le_pow_right (by decide) hk)
theorem bits_lim9 {a : Int} (h : a.natAbs < lim9) : Builtin.Int.intBits a ≤ 2 ^ 20 := by
  have := lim9_log h
  unfold Builtin.Int.intBits
  split
  · exact Nat.zero_le _
  · omega


noncomputable def opI (g : Int → Int → Option Int) : VV → VV → Hp → Option VV
  | .int a, .int b, _ => (g a b).map .int
  | _, _, _ => none
theorem opI_eq {g : Int → Int → Option Int} {x y : VV} {H : Hp} {v : VV} (e : opI g x y H = some v) : ∃ a b c, x = .int a ∧ y = .int b ∧ g a b = some c ∧ v = .int c := by
  unfold opI at e
  split at e
  · obtain ⟨c, hc, rfl⟩ := Option.map_eq_some_iff.mp e
    exact ⟨_, _, _, rfl, rfl, hc, rfl⟩
  · cases e
theorem op_int {t : Value → Value → Sem Value} {g : Int → Int → Option Int}
    (h : ∀ (A : Around) (s : Shared) (a b c : Int) (u v : Tok) (Q Err : Value → Shared → Prop), A.handled = none → g a b = some c → (∀ tk k, Q (.int c tk) { s with toks := k }) → wpAny (model prog w) A (t (.int a u) (.int b v)) Q Err s) :
    Op2 prog w TT B0 t (opI g) := by
  intro A ρ ok H s x y a b B S hx hy v e Q Err P
  obtain ⟨i, j, c, rfl, rfl, hg, rfl⟩ := opI_eq e
  obtain ⟨t, rfl⟩ := hx.intI; obtain ⟨t', rfl⟩ := hy.intI
  exact h A s i j c _ _ Q Err B.hh hg fun tk k => P.now S.good.inv k (.int _ tk)

noncomputable def gAdd (a b : Int) : Option Int := some (a + b)
noncomputable def gSub (a b : Int) : Option Int := some (a - b)
noncomputable def gMul (a b : Int) : Option Int := if a.natAbs < lim9 ∧ b.natAbs < lim9 then some (a * b) else none
noncomputable def gDiv (a b : Int) : Option Int := if b ≠ 0 ∧ b.natAbs < lim9 then some (a.fdiv b) else none
noncomputable def gMod (a b : Int) : Option Int := if b ≠ 0 then some (a.fmod b) else none
noncomputable def gShl (a n : Int) : Option Int := if 0 ≤ n ∧ n ≤ 1000000 ∧ a.natAbs < lim9 then some (a * 2 ^ n.toNat) else none
noncomputable def gShr (a n : Int) : Option Int := if 0 ≤ n then some (a.fdiv (2 ^ n.toNat)) else none
noncomputable def gXor (a b : Int) : Option Int := some (Builtin.bitXor a b)
theorem iadd : Op2 prog w TT B0 (binaryOp .Add) (opI gAdd) := op_int fun A s a b c u v Q Err hh e h => by cases e; exact add_int (h _ _)
theorem isub : Op2 prog w TT B0 (binaryOp .Sub) (opI gSub) := op_int fun A s a b c u v Q Err hh e h => by cases e; exact sub_int (h _ _)
theorem imul : Op2 prog w TT B0 (binaryOp .Mult) (opI gMul) := op_int fun A s a b c u v Q Err hh e h => by
  unfold gMul at e; split at e
  · rename_i k; cases e; exact mul_int (h _ _) (IntMulOk.of_bits (bits_lim9 k.1) (bits_lim9 k.2))
  · cases e
theorem idiv : Op2 prog w TT B0 (binaryOp .FloorDiv) (opI gDiv) := op_int fun A s a b c u v Q Err hh e h => by
  unfold gDiv at e; split at e
  · rename_i k; cases e; exact floordiv_int k.1 (h _ _) (.inl (PyProof.noPylong_of_log2 (lim9_log k.2)))
  · cases e
theorem imod : Op2 prog w TT B0 (binaryOp .Mod) (opI gMod) := op_int fun A s a b c u v Q Err hh e h => by
  unfold gMod at e; split at e
  · rename_i k; cases e; exact mod_int' k (h _ _)
  · cases e
theorem ishl : Op2 prog w TT B0 (binaryOp .LShift) (opI gShl) := op_int fun A s a b c u v Q Err hh e h => by
  unfold gShl at e; split at e
  · rename_i k; cases e
    refine lshift_int_or hh (fun hn => absurd hn (by omega)) (fun _ => ?_) fun _ => h _ _
    have := bits_lim9 k.2.2
    have : (2 : Nat) ^ 20 = 1048576 := by decide
    have : (2 : Int) ^ 27 = 134217728 := by decide
    omega
  · cases e
theorem ishr : Op2 prog w TT B0 (binaryOp .RShift) (opI gShr) := op_int fun A s a b c u v Q Err hh e h => by
  unfold gShr at e; split at e
  · rename_i k; cases e; exact rshift_int k (h _ _)
  · cases e
theorem ixor : Op2 prog w TT B0 (binaryOp .BitXor) (opI gXor) := op_int fun A s a b c u v Q Err hh e h => by cases e; exact xor_int (h _ _)

noncomputable def items : VV → Hp → Option (List VV)
  | .lv xs, _ => some xs
  | .lst i, H => match H[i]? with | some (.list xs) => some xs | _ => none
  | _, _ => none
theorem items_at {ρ : List Addr} {ok : Addr → Prop} {H : Hp} {h : Heap} {v : VV} {a : Value} {xs : List VV} (S : SV0 TT B0 ρ ok H h) (q : VR h ρ ok v a) (e : items v H = some xs) :
    ∃ l ws k, a = .ref l ∧ h.get? l = some (listO (List.toArray ws) k) ∧ VRs h ρ ok xs ws := by
  unfold items at e
  split at e
  · cases e; cases q with | lv h1 _ h3 => exact ⟨_, _, _, rfl, h1, h3⟩
  · split at e
    · rename_i ys hy
      cases e
      cases q with
      | lst hr =>
        obtain ⟨a, ha, ws, k, h1, h2⟩ := S.objs _ _ hy
        rw [hr] at ha; cases ha
        exact ⟨_, ws, k, rfl, h1, h2⟩
    · cases e
  · cases e
theorem isList_of {h : Heap} {l : Addr} {ws : List Value} {k : Nat} (e : h.get? l = some (listO (List.toArray ws) k)) : h.IsList l ws.toArray := ⟨_, e, rfl, k, rfl⟩

theorem Post.push {ρ : List Addr} {ok : Addr → Prop} {H : Hp} {v : VV} {Q : Value → Shared → Prop} {s : Shared} {o : Obj} {tk : Nat} (P : Post TT ρ ok v Q s) (S : SV0 TT B0 ρ ok H s.heap) (ho : o.isFreed = false)
    (x : (s.heap.push o).get? s.heap.objs.size = some o → ok s.heap.objs.size → KP TT.TB s.heap (s.heap.push o) → VR (s.heap.push o) ρ ok v (.ref s.heap.objs.size)) : Q (.ref s.heap.objs.size) { s with heap := s.heap.push o, toks := tk } := by
  have k : ∀ b o', s.heap.get? b = some o' → (s.heap.push o).get? b = some o' := fun b o' e => Heap.get?_push_of_some _ e
  refine P _ _ tk (KP.of k) (TT.mono _ _ k S.good.inv) (x (Heap.get?_push_size _ ho) (S.free _ ?_) (KP.of k))
  cases q : s.heap.get? s.heap.objs.size with
  | none => rfl
  | some o' => exact absurd (Heap.lt_size q) (Nat.lt_irrefl _)
theorem Post.pushS {ρ : List Addr} {ok : Addr → Prop} {H : Hp} {v : VV} {Q : Value → Shared → Prop} {s : Shared} {o : Obj} (P : Post TT ρ ok v Q s) (S : SV0 TT B0 ρ ok H s.heap) (ho : o.isFreed = false)
    (x : (s.heap.push o).get? s.heap.objs.size = some o → ok s.heap.objs.size → KP TT.TB s.heap (s.heap.push o) → VR (s.heap.push o) ρ ok v (.ref s.heap.objs.size)) : Q (.ref s.heap.objs.size) { s with heap := s.heap.push o } :=
  P.push (tk := s.toks) S ho x

noncomputable def opAddL (x y : VV) (H : Hp) : Option VV := (items x H).bind fun xs => (items y H).bind fun ys => if xs.length + ys.length ≤ 16777216 then some (.lv (xs ++ ys)) else none
theorem ladd : Op2 prog w TT B0 (binaryOp .Add) opAddL := by
  intro A ρ ok H s x y a b B S hx hy v e Q Err P
  unfold opAddL at e
  refine bindSome e fun xs ex e => ?_
  refine bindSome e fun ys ey e => ?_
  split at e
  · rename_i hz
    cases e
    obtain ⟨l, ws, k, rfl, h1, r1⟩ := items_at S hx ex
    obtain ⟨m, us, j, rfl, h2, r2⟩ := items_at S hy ey
    have e' : ws.toArray ++ us.toArray = (ws ++ us).toArray := by simp
    rw [r1.length, r2.length] at hz
    refine concat_meets ⟨_, h1, rfl⟩ ⟨_, h2, rfl⟩ noFill_list_add seq_list_add PySem.F.slot_list_add PySem.F.entry_list_add (PySem.F.args_list_add_2 _ _) (list_addW l m ws.toArray us.toArray k j _ _ _ _ (by simpa [sizeLine] using hz)) ⟨h1, h2, ?_⟩
    rw [e']
    exact P.pushS S rfl fun g o kk => .lv g o ((r1.keep kk S.good.inv).append (r2.keep kk S.good.inv))
  · cases e
theorem fold_one (wv : Value) : ∀ (k : Nat) (acc : Array Value), List.foldl (fun x1 x2 => x1 ++ x2) acc (List.replicate k #[wv]) = acc ++ (List.replicate k wv).toArray
  | 0, acc => by simp
  | k + 1, acc => by
    rw [List.replicate_succ, List.foldl_cons, fold_one wv k]
    apply Array.ext'
    simp [List.replicate_succ]
noncomputable def opAddS : VV → VV → Hp → Option VV
  | .str a, .str b, _ => if a.length + b.length ≤ 16777216 then some (.str (a ++ b)) else none
  | _, _, _ => none
theorem opAddS_eq {x y v : VV} {H : Hp} (e : opAddS x y H = some v) : ∃ p q, x = .str p ∧ y = .str q ∧ p.length + q.length ≤ 16777216 ∧ v = .str (p ++ q) := by
  unfold opAddS at e
  split at e
  · split at e
    · rename_i hz; cases e; exact ⟨_, _, rfl, rfl, hz, rfl⟩
    · cases e
  · cases e
theorem sadd : Op2 prog w TT B0 (binaryOp .Add) opAddS := by
  intro A ρ ok H s x y a b B S hx hy v e Q Err P
  obtain ⟨p, q, rfl, rfl, hz, rfl⟩ := opAddS_eq e
  obtain ⟨t, rfl⟩ := hx.strI; obtain ⟨t', rfl⟩ := hy.strI
  refine add_str (fun t' tk => ?_) (by show (List.toArray _).size + (List.toArray _).size ≤ sizeLine; simpa [sizeLine] using hz)
  have : (⟨p.toArray⟩ : Str) ++ (⟨q.toArray⟩ : Str) = ⟨(p ++ q).toArray⟩ := by show Str.append _ _ = _; simp [Str.append]
  rw [this]
  exact P.now S.good.inv tk (.str _ _)
noncomputable def opMulS : VV → VV → Hp → Option VV
  | .str a, .int k, _ => if a.length * k.toNat ≤ 1000000 ∧ k ≤ 1000000 ∧ -1000000 ≤ k then some (.str (List.replicate k.toNat a).flatten) else none
  | _, _, _ => none
theorem fold_str (a : List Nat) : ∀ (k : Nat) (acc : Array Nat), List.foldl (fun x1 x2 => x1 ++ x2) acc (List.replicate k a.toArray) = acc ++ ((List.replicate k a).flatten).toArray
  | 0, acc => by simp
  | k + 1, acc => by
    rw [List.replicate_succ, List.foldl_cons, fold_str a k]
    apply Array.ext'
    simp [List.replicate_succ]
theorem opMulS_eq {x y v : VV} {H : Hp} (e : opMulS x y H = some v) : ∃ p k, x = .str p ∧ y = .int k ∧ (p.length * k.toNat ≤ 1000000 ∧ k ≤ 1000000 ∧ -1000000 ≤ k) ∧ v = .str (List.replicate k.toNat p).flatten := by
  unfold opMulS at e
  split at e
  · split at e
    · rename_i hz; cases e; exact ⟨_, _, rfl, rfl, hz, rfl⟩
    · cases e
  · cases e
theorem smul : Op2 prog w TT B0 (binaryOp .Mult) opMulS := by
  intro A ρ ok H s x y a b B S hx hy v e Q Err P
  obtain ⟨p, k, rfl, rfl, hz, rfl⟩ := opMulS_eq e
  · · obtain ⟨tx, rfl⟩ := hx.strI; obtain ⟨ty, rfl⟩ := hy.intI
      refine SB.mul ?_ fun t' kk => ?_
      · refine ⟨by simp; omega, ?_, ?_⟩
        · intro h1 h2
          show ¬ ((List.toArray p).size : Int) > _
          have h3 : ((2 : Int) ^ 63 - 1) / k ≥ (2 ^ 63 - 1) / 1000000 := by
            apply Int.le_ediv_of_mul_le (by omega)
            have h4 : ((2 : Int) ^ 63 - 1) / 1000000 * 1000000 ≤ 2 ^ 63 - 1 := Int.ediv_mul_le _ (by decide)
            have h5 : ((2 : Int) ^ 63 - 1) / 1000000 * k ≤ ((2 : Int) ^ 63 - 1) / 1000000 * 1000000 := Int.mul_le_mul_of_nonneg_left (by omega) (by decide)
            omega
          have h6 : ((2 : Int) ^ 63 - 1) / 1000000 = 9223372036854 := by decide
          rw [h6] at h3
          have h7 : p.length ≤ 1000000 := by
            have h8 : 1 ≤ k.toNat := by omega
            have h9 : p.length * 1 ≤ p.length * k.toNat := Nat.mul_le_mul_left _ h8
            omega
          simp only [List.size_toArray]
          omega
        · intro h1 h2
          show Builtin.Str.tooLong ((List.toArray p).size * k.toNat) = false
          simp only [List.size_toArray, Builtin.Str.tooLong]
          have : sizeLine = 16777216 := by decide
          first
            | (apply decide_eq_false; omega)
            | (simp; omega)
      · have e1 : Txt.mul ⟨p.toArray⟩ k = ⟨((List.replicate k.toNat p).flatten).toArray⟩ := by
          unfold Txt.mul
          by_cases h1 : k < 1
          · rw [if_pos h1]
            have : k.toNat = 0 := by omega
            rw [this]; rfl
          · rw [if_neg h1]
            by_cases h2 : (k == 1 || Str.length ⟨p.toArray⟩ == 0) = true
            · rw [if_pos h2]
              simp only [Bool.or_eq_true, beq_iff_eq] at h2
              rcases h2 with h2 | h2
              · subst h2; simp
              · have hp : p = [] := by
                  have : p.toArray.size = 0 := h2
                  simpa using this
                subst hp
                have : ∀ m : Nat, (List.replicate m ([] : List Nat)).flatten = [] := fun m => by induction m with | zero => rfl | succ m ih => rw [List.replicate_succ, List.flatten_cons, ih]; rfl
                rw [this]
            · rw [if_neg h2]
              have := fold_str p k.toNat #[]
              simp only [Array.empty_append] at this
              rw [this]
        rw [e1]
        exact P.now S.good.inv kk (.str _ _)

-- comparisons of ints
noncomputable def cmI (g : Int → Int → Bool) : VV → VV → Hp → Option Bool
  | .int a, .int b, _ => some (g a b)
  | _, _, _ => none
noncomputable abbrev Cm2 (prog : Program) (w : World) (TT : Tabs) (B0 : Heap) (t : Value → Value → Sem Value) (g : VV → VV → Hp → Option Bool) : Prop := Op2 prog w TT B0 t fun x y H => (g x y H).map .bool
theorem cm_int {op : CmpOp} {g : Int → Int → Bool} (h : ∀ (A : Around) (s : Shared) (a b : Int) (u v : Tok) (Q Err : Value → Shared → Prop), Q (.bool (g a b)) s → wpAny (model prog w) A (compareOp op (.int a u) (.int b v)) Q Err s) :
    Cm2 prog w TT B0 (compareOp op) (cmI g) := by
  intro A ρ ok H s x y a b B S hx hy v e Q Err P
  obtain ⟨c, hc, rfl⟩ := Option.map_eq_some_iff.mp e
  unfold cmI at hc
  split at hc
  · cases hc; obtain ⟨t, rfl⟩ := hx.intI; obtain ⟨t', rfl⟩ := hy.intI
    exact h A s _ _ _ _ Q Err (P.nowS S.good.inv (.bool _))
  · cases hc
theorem ceq : Cm2 prog w TT B0 (compareOp .Eq) (cmI fun a b => decide (a = b)) := cm_int fun A s a b u v Q Err h => eq_int (by rw [show (a == b) = decide (a = b) from rfl]; exact h)
theorem clt : Cm2 prog w TT B0 (compareOp .Lt) (cmI fun a b => decide (a < b)) := cm_int fun A s a b u v Q Err h => lt_int h
theorem cle : Cm2 prog w TT B0 (compareOp .LtE) (cmI fun a b => decide (a ≤ b)) := cm_int fun A s a b u v Q Err h => le_int h
theorem cgt : Cm2 prog w TT B0 (compareOp .Gt) (cmI fun a b => decide (b < a)) := cm_int fun A s a b u v Q Err h => gt_int h
theorem cge : Cm2 prog w TT B0 (compareOp .GtE) (cmI fun a b => decide (b ≤ a)) := cm_int fun A s a b u v Q Err h => ge_int h
end
end Mine
namespace Mine

mutual
def py : VV → Option PyData
  | .none => some .none
  | .bool b => some (.bool b)
  | .int i => some (.int i)
  | .str l => some (.str ⟨l.toArray⟩)
  | .tup xs => (pys xs).map .tuple
  | .lv xs => (pys xs).map .list
  | _ => none
def pys : List VV → Option (List PyData)
  | [] => some []
  | x :: xs => (py x).bind fun d => (pys xs).map fun ds => d :: ds
end
theorem py_reads {h : Heap} {ρ : List Addr} {ok : Addr → Prop} {v : VV} {a : Value} {d : PyData} (q : VR h ρ ok v a) (e : py v = some d) : ∃ as, Reads h a d as :=
  VR.rec (motive_1 := fun v a _ => ∀ d, py v = some d → ∃ as, Reads h a d as) (motive_2 := fun vs as _ => ∀ ds, pys vs = some ds → ∃ bs, ReadsAll h as ds bs)
    (fun d e => by cases e; exact ⟨_, .none⟩) (fun b d e => by cases e; exact ⟨_, .bool b⟩) (fun i t d e => by cases e; exact ⟨_, .int i t⟩) (fun l t d e => by cases e; exact ⟨_, .str _ t⟩)
    (fun e1 _ _ ih d e => mapSome e fun ds hd e => by
      obtain ⟨as, q⟩ := ih ds hd
      exact e ▸ ⟨_, .tuple e1 rfl rfl q⟩)
    (fun e1 _ _ ih d e => mapSome e fun ds hd e => by
      obtain ⟨as, q⟩ := ih ds hd
      exact e ▸ ⟨_, .list e1 rfl rfl q⟩)
    (fun _ _ d e => nomatch e) (fun _ _ _ _ _ _ _ d e => nomatch e) (fun _ d e => nomatch e) (fun _ _ _ d e => nomatch e) (fun _ d e => nomatch e)
    (fun ds e => by cases e; exact ⟨_, .nil⟩)
    (fun _ _ ih1 ih2 ds e => bindSome e fun d hd e => mapSome e fun ds' hs e => by
      obtain ⟨b1, q1⟩ := ih1 d hd
      obtain ⟨b2, q2⟩ := ih2 ds' hs
      exact e ▸ ⟨_, .cons q1 q2⟩) q d e
theorem pys_reads {h : Heap} {ρ : List Addr} {ok : Addr → Prop} {vs : List VV} {as : List Value} {ds : List PyData} (q : VRs h ρ ok vs as) (e : pys vs = some ds) : ∃ bs, ReadsAll h as ds bs :=
  VRs.rec (motive_1 := fun v a _ => ∀ d, py v = some d → ∃ as, Reads h a d as) (motive_2 := fun vs as _ => ∀ ds, pys vs = some ds → ∃ bs, ReadsAll h as ds bs)
    (fun d e => by cases e; exact ⟨_, .none⟩) (fun b d e => by cases e; exact ⟨_, .bool b⟩) (fun i t d e => by cases e; exact ⟨_, .int i t⟩) (fun l t d e => by cases e; exact ⟨_, .str _ t⟩)
    (fun e1 _ _ ih d e => mapSome e fun ds hd e => by
      obtain ⟨as, q⟩ := ih ds hd
      exact e ▸ ⟨_, .tuple e1 rfl rfl q⟩)
    (fun e1 _ _ ih d e => mapSome e fun ds hd e => by
      obtain ⟨as, q⟩ := ih ds hd
      exact e ▸ ⟨_, .list e1 rfl rfl q⟩)
    (fun _ _ d e => nomatch e) (fun _ _ _ _ _ _ _ d e => nomatch e) (fun _ d e => nomatch e) (fun _ _ _ d e => nomatch e) (fun _ d e => nomatch e)
    (fun ds e => by cases e; exact ⟨_, .nil⟩)
    (fun _ _ ih1 ih2 ds e => bindSome e fun d hd e => mapSome e fun ds' hs e => by
      obtain ⟨b1, q1⟩ := ih1 d hd
      obtain ⟨b2, q2⟩ := ih2 ds' hs
      exact e ▸ ⟨_, .cons q1 q2⟩) q ds e
noncomputable def pyH (v : VV) (H : Hp) : Option PyData := match v with
  | .lst i => (items (.lst i) H).bind fun xs => (pys xs).map .list
  | v => py v
theorem pyH_reads {TT : Tabs} {B0 : Heap} {h : Heap} {ρ : List Addr} {ok : Addr → Prop} {H : Hp} {v : VV} {a : Value} {d : PyData} (S : SV0 TT B0 ρ ok H h) (q : VR h ρ ok v a) (e : pyH v H = some d) : ∃ as, Reads h a d as := by
  unfold pyH at e
  split at e
  · refine bindSome e fun xs ex e => ?_
    obtain ⟨ds, hd, rfl⟩ := Option.map_eq_some_iff.mp e
    obtain ⟨l, ws, k, rfl, h1, r⟩ := items_at S q ex
    obtain ⟨bs, p⟩ := pys_reads r hd
    exact ⟨_, .list h1 rfl rfl p⟩
  · exact py_reads q e

section
variable {prog : Program} {w : World} {TT : Tabs} {B0 : Heap} {n : Nat} {sc : Sc}

noncomputable def cmD (x y : VV) (H : Hp) : Option Bool := (pyH x H).bind fun a => (pyH y H).bind fun b => if SeqAt.shaped a = true ∧ SeqAt.shaped b = true then some (PyData.eqv a b) else none
theorem cmD_eq {x y : VV} {H : Hp} {c : Bool} (e : cmD x y H = some c) : ∃ a b, pyH x H = some a ∧ pyH y H = some b ∧ SeqAt.shaped a = true ∧ SeqAt.shaped b = true ∧ c = PyData.eqv a b := by
  unfold cmD at e
  refine bindSome e fun a ea e => ?_
  refine bindSome e fun b eb e => ?_
  split at e
  · rename_i hz; cases e; exact ⟨a, b, ea, eb, hz.1, hz.2, rfl⟩
  · cases e
noncomputable def cmEq : VV → VV → Hp → Option Bool
  | .int a, .int b, _ => some (decide (a = b))
  | .bool a, .bool b, _ => some (a == b)
  | .str a, .str b, _ => some (decide (a = b))
  | x, y, H => cmD x y H
theorem str_eq (a b : List Nat) : ((⟨a.toArray⟩ : Str) == ⟨b.toArray⟩) = decide (a = b) := by
  by_cases h : a = b
  · subst h; simp
  · rw [decide_eq_false h]
    apply beq_eq_false_iff_ne.mpr
    intro e
    apply h
    have := congrArg Str.cps e
    simpa using this
theorem ceqA : Cm2 prog w TT B0 (compareOp .Eq) cmEq := by
  intro A ρ ok H s x y a b B S hx hy v e Q Err P
  obtain ⟨c, hc, rfl⟩ := Option.map_eq_some_iff.mp e
  unfold cmEq at hc
  split at hc
  · cases hc; obtain ⟨t, rfl⟩ := hx.intI; obtain ⟨t', rfl⟩ := hy.intI; exact eq_int (P.nowS S.good.inv (.bool _))
  · cases hc; cases hx.boolI; cases hy.boolI; exact eq_bool (P.nowS S.good.inv (.bool _))
  · cases hc; obtain ⟨t, rfl⟩ := hx.strI; obtain ⟨t', rfl⟩ := hy.strI; exact eq_str (by rw [str_eq]; exact P.nowS S.good.inv (.bool _))
  · obtain ⟨d1, d2, e1, e2, z1, z2, rfl⟩ := cmD_eq hc
    obtain ⟨as, r1⟩ := pyH_reads S hx e1
    obtain ⟨bs, r2⟩ := pyH_reads S hy e2
    exact eq_dataH r1 r2 z1 z2 (by have := B.units; omega) (P.nowS S.good.inv (.bool _))
theorem cneA : Cm2 prog w TT B0 (compareOp .NotEq) fun x y H => (cmEq x y H).map not := by
  intro A ρ ok H s x y a b B S hx hy v e Q Err P
  obtain ⟨c', hc', rfl⟩ := Option.map_eq_some_iff.mp e
  obtain ⟨c, hc, rfl⟩ := Option.map_eq_some_iff.mp hc'
  clear e hc'
  unfold cmEq at hc
  split at hc
  · cases hc; obtain ⟨t, rfl⟩ := hx.intI; obtain ⟨t', rfl⟩ := hy.intI; exact ne_int (P.nowS S.good.inv (.bool _))
  · cases hc; cases hx.boolI; cases hy.boolI; exact ne_bool (P.nowS S.good.inv (.bool _))
  · cases hc; obtain ⟨t, rfl⟩ := hx.strI; obtain ⟨t', rfl⟩ := hy.strI; exact ne_str (by unfold bne; rw [str_eq]; exact P.nowS S.good.inv (.bool _))
  · obtain ⟨d1, d2, e1, e2, z1, z2, rfl⟩ := cmD_eq hc
    obtain ⟨as, r1⟩ := pyH_reads S hx e1
    obtain ⟨bs, r2⟩ := pyH_reads S hy e2
    exact ne_dataH r1 r2 z1 z2 (by have := B.units; omega) (P.nowS S.good.inv (.bool _))
noncomputable def cmIsNot : VV → VV → Hp → Option Bool
  | .bool a, .bool b, _ => some (!(a == b))
  | _, _, _ => none
theorem cisnot : Cm2 prog w TT B0 (compareOp .IsNot) cmIsNot := by
  intro A ρ ok H s x y a b B S hx hy v e Q Err P
  obtain ⟨c, hc, rfl⟩ := Option.map_eq_some_iff.mp e
  unfold cmIsNot at hc
  split at hc
  · cases hc; cases hx.boolI; cases hy.boolI
    refine wpAny_isNot_plain rfl ?_
    have : ∀ p q : Bool, ((Value.bool p) == (Value.bool q)) = (p == q) := by decide
    rw [this]
    exact P.nowS S.good.inv (.bool _)
  · cases hc
noncomputable def cmIn (x y : VV) (H : Hp) : Option Bool := (pyH x H).bind fun d => (items y H).bind fun ys => (pys ys).bind fun ds =>
  if PyData.canLayAll0 ds = true ∧ PyData.canLay0 d = true ∧ PyData.depth d ≤ 20 then some (ds.any fun z => PyData.eqv z d) else none
theorem cin : Cm2 prog w TT B0 (compareOp .In) cmIn := by
  intro A ρ ok H s x y a b B S hx hy v e Q Err P
  obtain ⟨c, hc, rfl⟩ := Option.map_eq_some_iff.mp e
  unfold cmIn at hc
  refine bindSome hc fun d ed hc => ?_
  refine bindSome hc fun ys ey hc => ?_
  refine bindSome hc fun ds es hc => ?_
  split at hc
  · rename_i hz
    cases hc
    obtain ⟨as, r1⟩ := pyH_reads S hx ed
    obtain ⟨l, ws, k, rfl, h1, r⟩ := items_at S hy ey
    obtain ⟨bs, p⟩ := pys_reads r es
    refine SeqAt.in_list_reads (.list h1 rfl rfl p) r1 hz.1 hz.2.1 ?_ (P.nowS S.good.inv (.bool _))
    have := B.units
    have := Nat.min_le_right (PyData.depthAll ds) (PyData.depth d)
    omega
  · cases hc

noncomputable def dCmp (g : VV → VV → Hp → Option Bool) (fa fb : EvF) : EvF := fun E H => (fa E H).bind fun x => (fb E H).bind fun y => (g x y H).map .bool
theorem d_cmp {op : CmpOp} {g : VV → VV → Hp → Option Bool} (hg : Cm2 prog w TT B0 (compareOp op) g) {a b : Expr} {fa fb : EvF} {pos : Pos} (ha : DenE prog w TT B0 n sc a fa) (hb : DenE prog w TT B0 n sc b fb)
    (hm : behindInMarks op b = false := by rfl) : DenE prog w TT B0 n sc (.Compare a [op] [b] pos) (dCmp g fa fb) := by
  intro A env ρ ok H E s B hs S V v e Q Err P
  unfold dCmp at e
  refine bindSome e fun x ex e => ?_
  refine bindSome e fun y ey e => ?_
  refine wpAny_Compare1 (ha A env ρ ok H E s B hs S V x ex _ _ fun wx h₁ tk₁ k₁ i₁ vx => ?_) hm
  refine hb A env ρ ok H E { s with heap := h₁, toks := tk₁ } B hs (S.keep k₁ i₁) (V.keep S.good.inv k₁) y ey _ _ fun wy h₂ tk₂ k₂ i₂ vy => ?_
  exact hg A ρ ok H { s with heap := h₂, toks := tk₂ } x y wx wy (B.le (Nat.zero_le _)) (S.keep (k₁.trans k₂) i₂) (vx.keep k₂ i₁) vy v e Q Err (P.after (k₁.trans k₂))

noncomputable abbrev TvF := Lo → Hp → Option Bool
noncomputable def tCmp (g : VV → VV → Hp → Option Bool) (fa fb : EvF) : TvF := fun E H => (fa E H).bind fun x => (fb E H).bind fun y => g x y H
theorem t_cmp {op : CmpOp} {g : VV → VV → Hp → Option Bool} (hg : Cm2 prog w TT B0 (compareOp op) g) {a b : Expr} {fa fb : EvF} {pos : Pos} (ha : DenE prog w TT B0 n sc a fa) (hb : DenE prog w TT B0 n sc b fb)
    (hm : behindInMarks op b = false := by rfl) : DenT prog w TT B0 n sc (.Compare a [op] [b] pos) (tCmp g fa fb) := by
  intro A env ρ ok H E s B hs S V c e Q Err P
  unfold tCmp at e
  refine bindSome e fun x ex e => ?_
  refine bindSome e fun y ey e => ?_
  refine wpAny_isTrue_Compare1 (ha A env ρ ok H E s B hs S V x ex _ _ fun wx h₁ tk₁ k₁ i₁ vx => ?_) hm
  refine hb A env ρ ok H E { s with heap := h₁, toks := tk₁ } B hs (S.keep k₁ i₁) (V.keep S.good.inv k₁) y ey _ _ fun wy h₂ tk₂ k₂ i₂ vy => ?_
  refine hg A ρ ok H { s with heap := h₂, toks := tk₂ } x y wx wy (B.le (Nat.zero_le _)) (S.keep (k₁.trans k₂) i₂) (vx.keep k₂ i₁) vy (.bool c) (by dsimp only; rw [e]; rfl) _ Err fun wc h₃ tk₃ k₃ i₃ vc => ?_
  cases vc
  exact wpAny_truthy_bool (P h₃ tk₃ ((k₁.trans k₂).trans k₃) i₃)

noncomputable def tv (v : VV) (H : Hp) : Option Bool := match v with
  | .bool b => some b
  | .int i => some (decide (i ≠ 0))
  | v => (items v H).bind fun xs => if xs.length ≤ 16777216 then some (!xs.isEmpty) else none
theorem truthy_v {A : Around} {ρ : List Addr} {ok : Addr → Prop} {H : Hp} {s : Shared} {v : VV} {a : Value} {c : Bool} {Q : Bool → Shared → Prop} {Err : Value → Shared → Prop} (S : SV0 TT B0 ρ ok H s.heap) (q : VR s.heap ρ ok v a) (e : tv v H = some c)
    (P : ∀ tk, Q c { s with toks := tk }) : wpAny (model prog w) A (truthy a) Q Err s := by
  unfold tv at e
  split at e
  · cases e; cases q.boolI; exact wpAny_truthy_bool (P s.toks)
  · cases e; cases q
    exact truthy_int (by rw [show ∀ i : Int, (i != 0) = decide (i ≠ 0) from fun i => by by_cases h : i = 0 <;> simp [h]]; exact P s.toks)
  · refine bindSome e fun xs ex e => ?_
    split at e
    · rename_i hz
      cases e
      obtain ⟨l, ws, k, rfl, h1, r⟩ := items_at S q ex
      refine wpAny_truthy_list (isList_of h1) (by rw [r.length] at hz; simp only [List.size_toArray]; omega) ?_
      have : (!xs.isEmpty) = (!ws.toArray.isEmpty) := by
        cases r <;> simp
      rw [← this]
      exact P _
    · cases e
noncomputable def tE (f : EvF) : TvF := fun E H => (f E H).bind fun v => tv v H
theorem t_e {e : Expr} {f : EvF} (hf : DenE prog w TT B0 n sc e f) (hp : ∀ env whole, isTrue e env whole = (do let v ← whole; standAt e.pos; holding [v] (truthy v)) := by intro _ _; rfl) : DenT prog w TT B0 n sc e (tE f) := by
  intro A env ρ ok H E s B hs S V c e Q Err P
  unfold tE at e
  refine bindSome e fun x ex e => ?_
  refine wpAny_isTrue_value (hf A env ρ ok H E s B hs S V x ex _ _ fun wx h₁ tk₁ k₁ i₁ vx => ?_) (hp env _)
  exact truthy_v (s := { s with heap := h₁, toks := tk₁ }) (S.keep k₁ i₁) vx e fun tk => P h₁ tk k₁ i₁
inductive DenTs (prog : Program) (w : World) (TT : Tabs) (B0 : Heap) (n : Nat) (sc : Sc) : List Expr → List TvF → Prop
  | nil : DenTs prog w TT B0 n sc [] []
  | cons {e : Expr} {es : List Expr} {f : TvF} {fs : List TvF} : DenT prog w TT B0 n sc e f → DenTs prog w TT B0 n sc es fs → DenTs prog w TT B0 n sc (e :: es) (f :: fs)
noncomputable def tAnd : List TvF → TvF
  | [], _, _ => some true
  | f :: fs, E, H => (f E H).bind fun c => if c = true then tAnd fs E H else some false
noncomputable def tOr : List TvF → TvF
  | [], _, _ => some false
  | f :: fs, E, H => (f E H).bind fun c => if c = true then some true else tOr fs E H
theorem t_and {es : List Expr} {fs : List TvF} {pos : Pos} (hf : DenTs prog w TT B0 n sc es fs) : DenT prog w TT B0 n sc (.BoolOp .And es pos) (tAnd fs) := by
  intro A env ρ ok H E s B hs S V c e Q Err P
  refine wpAny_isTrue_BoolOp ?_
  clear pos
  induction hf generalizing s with
  | nil => cases e; exact wpAny_allTrue_And_nil (P s.heap s.toks (KP.refl _) S.good.inv)
  | cons h1 r ih =>
    simp only [tAnd] at e
    refine bindSome e fun x ex e => ?_
    refine wpAny_allTrue_And_cons (h1 A env ρ ok H E s B hs S V x ex _ _ fun h₁ tk₁ k₁ i₁ => ?_)
    cases x with
    | false => cases e; exact P h₁ tk₁ k₁ i₁
    | true => exact ih { s with heap := h₁, toks := tk₁ } (S.keep k₁ i₁) (V.keep S.good.inv k₁) e fun h₂ tk₂ k₂ i₂ => P h₂ tk₂ (k₁.trans k₂) i₂
theorem t_or {es : List Expr} {fs : List TvF} {pos : Pos} (hf : DenTs prog w TT B0 n sc es fs) : DenT prog w TT B0 n sc (.BoolOp .Or es pos) (tOr fs) := by
  intro A env ρ ok H E s B hs S V c e Q Err P
  refine wpAny_isTrue_BoolOp ?_
  clear pos
  induction hf generalizing s with
  | nil => cases e; exact wpAny_allTrue_Or_nil (P s.heap s.toks (KP.refl _) S.good.inv)
  | cons h1 r ih =>
    simp only [tOr] at e
    refine bindSome e fun x ex e => ?_
    refine wpAny_allTrue_Or_cons (h1 A env ρ ok H E s B hs S V x ex _ _ fun h₁ tk₁ k₁ i₁ => ?_)
    cases x with
    | true => cases e; exact P h₁ tk₁ k₁ i₁
    | false => exact ih { s with heap := h₁, toks := tk₁ } (S.keep k₁ i₁) (V.keep S.good.inv k₁) e fun h₂ tk₂ k₂ i₂ => P h₂ tk₂ (k₁.trans k₂) i₂

noncomputable def dOr (fa fb : EvF) : EvF := fun E H => (fa E H).bind fun x => (tv x H).bind fun c => if c = true then some x else fb E H
theorem d_or {a b : Expr} {fa fb : EvF} {pos : Pos} (ha : DenE prog w TT B0 n sc a fa) (hb : DenE prog w TT B0 n sc b fb) : DenE prog w TT B0 n sc (.BoolOp .Or [a, b] pos) (dOr fa fb) := by
  intro A env ρ ok H E s B hs S V v e Q Err P
  unfold dOr at e
  refine bindSome e fun x ex e => ?_
  refine bindSome e fun c ec e => ?_
  refine wpAny_Or2 (ha A env ρ ok H E s B hs S V x ex _ _ fun wx h₁ tk₁ k₁ i₁ vx => ?_)
  refine truthy_v (s := { s with heap := h₁, toks := tk₁ }) (S.keep k₁ i₁) vx ec fun tk => ?_
  cases c with
  | true => cases e; exact P wx h₁ tk k₁ i₁ vx
  | false => exact hb A env ρ ok H E { s with heap := h₁, toks := tk } B hs (S.keep k₁ i₁) (V.keep S.good.inv k₁) v e Q Err (P.after k₁)
noncomputable def dIf (ft : TvF) (fa fb : EvF) : EvF := fun E H => (ft E H).bind fun c => if c = true then fa E H else fb E H
theorem d_if {t a b : Expr} {ft : TvF} {fa fb : EvF} {pos : Pos} (ht : DenT prog w TT B0 n sc t ft) (ha : DenE prog w TT B0 n sc a fa) (hb : DenE prog w TT B0 n sc b fb) : DenE prog w TT B0 n sc (.IfExp t a b pos) (dIf ft fa fb) := by
  intro A env ρ ok H E s B hs S V v e Q Err P
  unfold dIf at e
  refine bindSome e fun c ec e => ?_
  refine wpAny_IfExp (ht A env ρ ok H E s B hs S V c ec _ _ fun h₁ tk₁ k₁ i₁ => ?_)
  cases c with
  | true => exact ha A env ρ ok H E { s with heap := h₁, toks := tk₁ } B hs (S.keep k₁ i₁) (V.keep S.good.inv k₁) v e Q Err (P.after k₁)
  | false => exact hb A env ρ ok H E { s with heap := h₁, toks := tk₁ } B hs (S.keep k₁ i₁) (V.keep S.good.inv k₁) v e Q Err (P.after k₁)

noncomputable def opNeg : VV → Hp → Option VV
  | .int a, _ => some (.int (-a))
  | _, _ => none
noncomputable def opInv : VV → Hp → Option VV
  | .int a, _ => some (.int (-a - 1))
  | _, _ => none
theorem ineg : Op1 prog w TT B0 (unaryOp .USub) opNeg := by
  intro A ρ ok H s x a B S hx v e Q Err P
  unfold opNeg at e
  split at e
  · cases e; obtain ⟨t, rfl⟩ := hx.intI; exact neg_int (P.now S.good.inv _ (.int _ _))
  · cases e
theorem iinv : Op1 prog w TT B0 (unaryOp .Invert) opInv := by
  intro A ρ ok H s x a B S hx v e Q Err P
  unfold opInv at e
  split at e
  · cases e; obtain ⟨t, rfl⟩ := hx.intI; exact invert_int (P.now S.good.inv _ (.int _ _))
  · cases e
noncomputable def dUn (g : VV → Hp → Option VV) (fa : EvF) : EvF := fun E H => (fa E H).bind fun x => g x H
theorem d_un {op : UnaryOp} {g : VV → Hp → Option VV} (hg : Op1 prog w TT B0 (unaryOp op) g) {a : Expr} {fa : EvF} {pos : Pos} (ha : DenE prog w TT B0 n sc a fa) : DenE prog w TT B0 n sc (.UnaryOp op a pos) (dUn g fa) := by
  intro A env ρ ok H E s B hs S V v e Q Err P
  refine bindSome e fun x ex e => ?_
  refine wpAny_UnaryOp (ha A env ρ ok H E s B hs S V x ex _ _ fun wx h₁ tk₁ k₁ i₁ vx => ?_)
  exact hg A ρ ok H { s with heap := h₁, toks := tk₁ } x wx (B.le (Nat.zero_le _)) (S.keep k₁ i₁) vx v e Q Err (P.after k₁)

-- several expressions
inductive DenEs (prog : Program) (w : World) (TT : Tabs) (B0 : Heap) (n : Nat) (sc : Sc) : List Expr → List EvF → Prop
  | nil : DenEs prog w TT B0 n sc [] []
  | cons {e : Expr} {es : List Expr} {f : EvF} {fs : List EvF} : DenE prog w TT B0 n sc e f → DenEs prog w TT B0 n sc es fs → (∀ rest env, starEach (e :: rest) env = (false, eval e env) :: starEach rest env) → DenEs prog w TT B0 n sc (e :: es) (f :: fs)
noncomputable def evs : List EvF → Lo → Hp → Option (List VV)
  | [], _, _ => some []
  | f :: fs, E, H => (f E H).bind fun x => (evs fs E H).map fun xs => x :: xs
theorem spliced_v {es : List Expr} {fs : List EvF} (hf : DenEs prog w TT B0 n sc es fs) {A : Around} {env : Env} {ρ : List Addr} {ok : Addr → Prop} {H : Hp} {E : Lo} {s : Shared} (B : Bud A n) (hs : env.scope.names = sc) (S : SV0 TT B0 ρ ok H s.heap)
    (V : EnvV TT env ρ ok E s.heap) {vs : List VV} (e : evs fs E H = some vs) {pos : Pos} {Q : List Value → Shared → Prop} {Err : Value → Shared → Prop}
    (P : ∀ ws h' tk, KP TT.TB s.heap h' → TT.Inv h' → VRs h' ρ ok vs ws → Q ws { s with heap := h', toks := tk }) : wpAny (model prog w) A (spliced (backTo pos (starEach es env))) Q Err s := by
  induction hf generalizing s vs Q with
  | nil => cases e; exact spliced_none (P [] s.heap s.toks (KP.refl _) S.good.inv .nil)
  | cons h1 r hst ih =>
    simp only [evs] at e
    refine bindSome e fun x ex e => ?_
    obtain ⟨xs, exs, rfl⟩ := Option.map_eq_some_iff.mp e
    refine spliced_more (h1 A env ρ ok H E s B hs S V x ex _ _ fun wx h₁ tk₁ k₁ i₁ vx => ?_) (hst _ _)
    refine ih (s := { s with heap := h₁, toks := tk₁ }) (S.keep k₁ i₁) (V.keep S.good.inv k₁) exs fun ws h₂ tk₂ k₂ i₂ vws => ?_
    exact P (wx :: ws) h₂ tk₂ (k₁.trans k₂) i₂ (.cons (vx.keep k₂ i₁) vws)
noncomputable def dTup (fs : List EvF) : EvF := fun E H => (evs fs E H).map .tup
theorem d_tup {es : List Expr} {fs : List EvF} {k : Nat} {pos : Pos} (hf : DenEs prog w TT B0 n sc es fs) (hl : es.length ≤ 16777216 := by decide) : DenE prog w TT B0 n sc (.Tuple es k pos) (dTup fs) := by
  intro A env ρ ok H E s B hs S V v e Q Err P
  obtain ⟨vs, ev, rfl⟩ := Option.map_eq_some_iff.mp e
  refine wpAny_Tuple (spliced_v hf B hs S V ev fun ws h₁ tk₁ k₁ i₁ vws => ?_)
  have hlen : vs.length = es.length := by
    clear P vws
    induction hf generalizing vs with
    | nil => cases ev; rfl
    | cons _ _ _ ih =>
      simp only [evs] at ev
      refine bindSome ev fun x ex e => ?_
      obtain ⟨xs, exs, rfl⟩ := Option.map_eq_some_iff.mp e
      rw [List.length_cons, List.length_cons, ih (by simp only [List.length_cons] at hl; omega) xs exs (by unfold dTup; rw [exs]; rfl)]
  refine ⟨by rw [← vws.length, hlen]; exact hl, ?_⟩
  exact (P.after (tk := tk₁) k₁).pushS (S.keep k₁ i₁) rfl fun g o kk => .tup g o (vws.keep kk i₁)
end
end Mine
namespace Mine

structure Base (TT : Tabs) (B0 : Heap) (GL : List (Str × Value)) : Prop where
  lim : B0.NoLimit
  stTB : cStatics ∉ TT.TB
  mgTB : mainGlobals ∉ TT.TB
  mbTB : builtinsNs ∉ TT.TB
  glo : ∃ mg mb, B0.Ns mainGlobals mg ∧ B0.Ns builtinsNs mb ∧ ∀ p ∈ GL, mg p.1 = some p.2 ∨ (mg p.1 = none ∧ mb p.1 = some p.2)

section
variable {prog : Program} {w : World} {TT : Tabs} {B0 : Heap} {n : Nat} {sc : Sc} {GL : List (Str × Value)}

noncomputable def dG (v : Value) : EvF := fun _ _ => some (.raw v)
theorem d_glob (X : Base TT B0 GL) {x : Str} {v : Value} {pos : Pos} (hm : (x, v) ∈ GL) (hl : sc.lookup x = some .globalImplicit) (hd : (x == ("__debug__" : Str)) = false := by decide) :
    DenE prog w TT B0 n sc (.Name x pos) (dG v) := by
  intro A env ρ ok H E s B hs S V u e Q Err P
  cases e
  obtain ⟨mg, mb, h1, h2, hg⟩ := X.glo
  have hk : env.kindOf x = some .globalImplicit := by unfold Env.kindOf; rw [hs]; exact hl
  refine wpAny_Name ?_ hd
  unfold loadName
  simp only [Env.blockKind, V.kind, hk, ScopeKind.isAnnotationScope, Bool.false_and, Bool.false_eq_true, if_false]
  unfold loadGlobal
  rw [V.glo, V.blt]
  have n1 : s.heap.Ns mainGlobals mg := nsAt h1 fun o e => S.good.keep _ o X.mgTB e
  have n2 : s.heap.Ns builtinsNs mb := nsAt h2 fun o e => S.good.keep _ o X.mbTB e
  rcases hg _ hm with h | ⟨h, h'⟩
  · refine wpAny_bind (wpAny_nsGet n1 ?_)
    rw [h]
    exact wpAny_pure (P.nowS S.good.inv (.raw _))
  · refine wpAny_bind (wpAny_nsGet n1 ?_)
    rw [h]
    refine wpAny_bind (wpAny_nsGet n2 ?_)
    rw [h']
    exact wpAny_pure (P.nowS S.good.inv (.raw _))

-- items at an index
noncomputable def idx (xs : List VV) (k : Int) : Option VV := if -1000000000 ≤ k ∧ k ≤ 1000000000 then (seqIndex? k xs.length).bind fun j => xs[j]? else none
noncomputable def opIdx (x i : VV) (H : Hp) : Option VV := match i with
  | .int k => match x with
    | .tup xs => idx xs k
    | .str l => if -1000000000 ≤ k ∧ k ≤ 1000000000 then ((seqIndex? k l.length).bind fun j => l[j]?).map fun c => .str [c] else none
    | x => (items x H).bind fun xs => idx xs k
  | _ => none
theorem seqIndex_eq {k : Int} {n j : Nat} (h : seqIndex? k n = some j) : (0 ≤ k ∧ k < n ∧ j = k.toNat) ∨ (k < 0 ∧ -(n : Int) ≤ k ∧ j = (k + n).toNat) := by
  unfold seqIndex? at h
  by_cases hk : k < 0
  · simp only [hk, if_true, Bool.and_eq_true, decide_eq_true_eq] at h
    split at h
    · cases h; exact .inr ⟨hk, by omega, rfl⟩
    · cases h
  · simp only [hk, if_false, Bool.and_eq_true, decide_eq_true_eq] at h
    split at h
    · cases h; exact .inl ⟨by omega, by omega, rfl⟩
    · cases h
theorem idx_eq {xs : List VV} {k : Int} {v : VV} (e : idx xs k = some v) : ∃ j, -1000000000 ≤ k ∧ k ≤ 1000000000 ∧ seqIndex? k xs.length = some j ∧ xs[j]? = some v := by
  unfold idx at e
  split at e
  · rename_i hz
    refine bindSome e fun j hj e => ?_
    exact ⟨j, hz.1, hz.2, hj, e⟩
  · cases e
theorem list_item {A : Around} {s : Shared} {l : Addr} {ws : List Value} {kk : Nat} {value slice : Expr} {k : Int} {u : Tok} {j : Nat} {x : Value} {Q Err : Value → Shared → Prop} (h1 : s.heap.get? l = some (listO ws.toArray kk)) (z1 : -1000000000 ≤ k) (z2 : k ≤ 1000000000)
    (hj : seqIndex? k ws.length = some j) (hx : ws[j]? = some x) (hs : subscripted slice false (.ref l) (.int k u) = operate [.ref l, .int k u] (getItem (.ref l) (.int k u))) (h : Q x s) :
    wpAny (model prog w) A (subscriptTail value slice (.ref l) (.int k u)) Q Err s := by
  have hl := isList_of h1
  refine tail_any hl.typeIs slot_list_getitem.lookup ?_ hs
  rcases seqIndex_eq hj with ⟨a, b, rfl⟩ | ⟨a, b, rfl⟩
  · exact wpAny_getItem_list hl a (by omega) (by simpa using hx) h
  · exact wpAny_getItem_list_neg hl a (by simpa using b) (by omega) (by simpa using hx) h
theorem opIdx_eq {x i v : VV} {H : Hp} (e : opIdx x i H = some v) : ∃ k, i = .int k ∧ ((∃ xs, x = .tup xs ∧ idx xs k = some v) ∨
    (∃ l c j, x = .str l ∧ -1000000000 ≤ k ∧ k ≤ 1000000000 ∧ seqIndex? k l.length = some j ∧ l[j]? = some c ∧ v = .str [c]) ∨ (∃ xs, items x H = some xs ∧ idx xs k = some v)) := by
  unfold opIdx at e
  split at e
  · refine ⟨_, rfl, ?_⟩
    split at e
    · exact .inl ⟨_, rfl, e⟩
    · split at e
      · rename_i hz
        obtain ⟨c, hc, rfl⟩ := Option.map_eq_some_iff.mp e
        refine bindSome hc fun j hj hc => ?_
        exact .inr (.inl ⟨_, c, j, rfl, hz.1, hz.2, hj, hc, rfl⟩)
      · cases e
    · refine bindSome e fun xs ex e => ?_
      exact .inr (.inr ⟨xs, ex, e⟩)
  · cases e
theorem op_idx {value slice : Expr} (hs : ∀ o i, subscripted slice false o i = operate [o, i] (getItem o i)) : Op2 prog w TT B0 (subscriptTail value slice) opIdx := by
  intro A ρ ok H s x y a b B S hx hy v e Q Err P
  obtain ⟨k, rfl, h⟩ := opIdx_eq e
  obtain ⟨u, rfl⟩ := hy.intI
  rcases h with ⟨xs, rfl, e⟩ | ⟨l, c, j, rfl, z1, z2, hj, hc, rfl⟩ | ⟨xs, ex, e⟩
  · obtain ⟨j, z1, z2, hj, hv⟩ := idx_eq e
    obtain ⟨a, ws, n, rfl, h1, _, r⟩ := hx.tupI
    ·
      obtain ⟨wv, hw, q⟩ := r.get hv
      rw [r.length] at hj
      exact item_tupleT ⟨_, h1, rfl, _, rfl⟩ (by omega) (by omega) hj hw (P.nowS S.good.inv q) (hs _ _)
  · obtain ⟨t, rfl⟩ := hx.strI
    have hlen : (⟨l.toArray⟩ : Str).length = l.length := by show (List.toArray l).size = _; simp
    have e1 : Txt.item ⟨l.toArray⟩ k = ⟨[c].toArray⟩ := by
      unfold Txt.item Txt.charAt
      rw [hlen, hj, Option.bind_some]
      have : (l.toArray)[j]? = some c := by simpa using hc
      show (⟨#[((l.toArray)[j]?).getD 0]⟩ : Str) = _
      rw [this]; rfl
    refine tail_of_ItemOn (SB.item (fitsSsize_of (N := 9223372036854775808) (by omega) (by omega) (Int.le_refl _)) ?_ ?_) (hs _ _) ?_
    · rcases seqIndex_eq hj with ⟨a, b, _⟩ | ⟨a, b, _⟩ <;> exact charAt_isSome (by rw [hlen]; omega) (by rw [hlen]; omega)
    · rw [e1]; exact P.now S.good.inv _ (.str _ _)
    · intro r; cases value <;> rfl
  · obtain ⟨j, z1, z2, hj, hv⟩ := idx_eq e
    obtain ⟨l, ws, kk, rfl, h1, r⟩ := items_at S hx ex
    obtain ⟨wv, hw, q⟩ := r.get hv
    rw [r.length] at hj
    exact list_item h1 z1 z2 hj hw (hs _ _) (P.nowS S.good.inv q)
theorem d_sub {a i : Expr} {fa fi : EvF} {pos : Pos} (ha : DenE prog w TT B0 n sc a fa) (hi : DenE prog w TT B0 n sc i fi) (hs : ∀ o k, subscripted i false o k = operate [o, k] (getItem o k) := by intro _ _; rfl) :
    DenE prog w TT B0 n sc (.Subscript a i pos) (dBin opIdx fa fi) := by
  intro A env ρ ok H E s B hs' S V v e Q Err P
  unfold dBin at e
  refine bindSome e fun x ex e => ?_
  refine bindSome e fun y ey e => ?_
  refine Subscript_ (ha A env ρ ok H E s B hs' S V x ex _ _ fun wx h₁ tk₁ k₁ i₁ vx => ?_)
  refine hi A env ρ ok H E { s with heap := h₁, toks := tk₁ } B hs' (S.keep k₁ i₁) (V.keep S.good.inv k₁) y ey _ _ fun wy h₂ tk₂ k₂ i₂ vy => ?_
  exact op_idx hs A ρ ok H { s with heap := h₂, toks := tk₂ } x y wx wy (B.le (Nat.zero_le _)) (S.keep (k₁.trans k₂) i₂) (vx.keep k₂ i₁) vy v e Q Err (P.after (k₁.trans k₂))

-- slices of lists
noncomputable def vslice (xs : List VV) (lo hi st : Option Int) : List VV := (sliceRange (sliceBounds lo hi st xs.length).1 (sliceBounds lo hi st xs.length).2.1 (sliceBounds lo hi st xs.length).2.2).filterMap (xs[·]?)
theorem VRs.pick {h : Heap} {ρ : List Addr} {ok : Addr → Prop} {xs : List VV} {ws : List Value} (r : VRs h ρ ok xs ws) : ∀ (js : List Nat), VRs h ρ ok (js.filterMap (xs[·]?)) (js.filterMap (ws[·]?))
  | [] => .nil
  | j :: js => by
    cases e : xs[j]? with
    | none =>
      have : ws[j]? = none := by
        rw [List.getElem?_eq_none_iff] at e ⊢; rw [← r.length]; exact e
      rw [List.filterMap_cons_none e, List.filterMap_cons_none this]
      exact VRs.pick r js
    | some v =>
      obtain ⟨wv, hw, q⟩ := r.get e
      rw [List.filterMap_cons_some e, List.filterMap_cons_some hw]
      exact .cons q (VRs.pick r js)
inductive DenP (prog : Program) (w : World) (TT : Tabs) (B0 : Heap) (n : Nat) (sc : Sc) : Option Expr → Option EvF → Prop
  | none : DenP prog w TT B0 n sc none none
  | some {e : Expr} {f : EvF} : DenE prog w TT B0 n sc e f → DenP prog w TT B0 n sc (some e) (some f)
noncomputable def evp : Option EvF → Lo → Hp → Option (Option Int)
  | none, _, _ => some none
  | some f, E, H => (f E H).bind fun v => match v with | .int k => some (some k) | _ => none
theorem part_v {e : Option Expr} {f : Option EvF} (hf : DenP prog w TT B0 n sc e f) {A : Around} {env : Env} {ρ : List Addr} {ok : Addr → Prop} {H : Hp} {E : Lo} {s : Shared} (B : Bud A n) (hs : env.scope.names = sc) (S : SV0 TT B0 ρ ok H s.heap)
    (V : EnvV TT env ρ ok E s.heap) {k : Option Int} (ev : evp f E H = some k) {Q Err : Value → Shared → Prop}
    (P : ∀ w h' tk, KP TT.TB s.heap h' → TT.Inv h' → IsPart w k → Q w { s with heap := h', toks := tk }) : wpAny (model prog w) A (evalPart e env) Q Err s := by
  cases hf with
  | none => cases ev; exact wpAny_evalPart_none (P _ s.heap s.toks (KP.refl _) S.good.inv .none)
  | some h =>
    simp only [evp] at ev
    refine bindSome ev fun v hv ev => ?_
    refine wpAny_evalPart_some (h A env ρ ok H E s B hs S V v hv _ _ fun wv h₁ tk₁ k₁ i₁ q => ?_)
    split at ev
    · cases ev; obtain ⟨t, rfl⟩ := q.intI; exact P _ h₁ tk₁ k₁ i₁ (.int _ _)
    · cases ev
noncomputable def dSlice (fa : EvF) (fl fu fs : Option EvF) : EvF := fun E H => (fa E H).bind fun x => (evp fl E H).bind fun lo => (evp fu E H).bind fun hi => (evp fs E H).bind fun st => (items x H).bind fun xs =>
  if st ≠ some 0 ∧ xs.length ≤ 16777216 then some (.lv (vslice xs lo hi st)) else none
theorem d_slice {a : Expr} {l u st : Option Expr} {fa : EvF} {fl fu fs : Option EvF} {p pos : Pos} (ha : DenE prog w TT B0 n sc a fa) (hl : DenP prog w TT B0 n sc l fl) (hu : DenP prog w TT B0 n sc u fu) (hst : DenP prog w TT B0 n sc st fs)
    (hs : ∀ o k, ∃ ops, subscripted (.Slice l u st p) false o k = operate ops (getItem o k) := by intro _ _; exact ⟨_, rfl⟩) : DenE prog w TT B0 n sc (.Subscript a (.Slice l u st p) pos) (dSlice fa fl fu fs) := by
  intro A env ρ ok H E s B hs' S V v e Q Err P
  unfold dSlice at e
  refine bindSome e fun x ex e => ?_
  refine bindSome e fun lo el e => ?_
  refine bindSome e fun hi eu e => ?_
  refine bindSome e fun stp es e => ?_
  refine bindSome e fun xs exs e => ?_
  split at e
  · rename_i hz
    cases e
    refine Subscript_ (ha A env ρ ok H E s B hs' S V x ex _ _ fun wx h₁ tk₁ k₁ i₁ vx => ?_)
    refine wpAny_Slice (part_v hl B hs' (S.keep k₁ i₁) (V.keep S.good.inv k₁) el fun wl h₂ tk₂ k₂ i₂ pl => ?_)
    have k12 := k₁.trans k₂
    refine part_v hu (s := { s with heap := h₂, toks := tk₂ }) B hs' (S.keep k12 i₂) (V.keep S.good.inv k12) eu fun wu h₃ tk₃ k₃ i₃ pu => ?_
    have k13 := k12.trans k₃
    refine part_v hst (s := { s with heap := h₃, toks := tk₃ }) B hs' (S.keep k13 i₃) (V.keep S.good.inv k13) es fun wst h₄ tk₄ k₄ i₄ pst => ?_
    have k14 := k13.trans k₄
    dsimp only
    have kp : ∀ b o', h₄.get? b = some o' → (h₄.push { cls := .type "slice", data := .fields #[wl, wu, wst] }).get? b = some o' := fun b o' e => Heap.get?_push_of_some _ e
    have i₅ := TT.mono _ _ kp i₄
    have S₅ := S.keep (k14.trans (KP.of kp)) i₅
    have vx₅ : VR (h₄.push { cls := .type "slice", data := .fields #[wl, wu, wst] }) ρ ok x wx := vx.keep ((k₂.trans (k₃.trans k₄)).trans (KP.of kp)) i₁
    obtain ⟨ll, ws, kk, rfl, hL, r⟩ := items_at S₅ vx₅ exs
    obtain ⟨ops, ho⟩ := hs (.ref ll) (.ref h₄.objs.size)
    have hlen := r.length
    refine tail_any (s := { s with heap := h₄.push { cls := .type "slice", data := .fields #[wl, wu, wst] }, toks := tk₄ }) (isList_of hL).typeIs slot_list_getitem.lookup ?_ ho
    refine wpAny_getItem_list_slice (isList_of hL) ⟨_, Heap.get?_push_size _ rfl, rfl, rfl⟩ pl pu pst hz.1 ?_ (by have := hz.2; rw [hlen] at this; simpa [sizeLine] using this)
    have e5 : slicePick ws.toArray lo hi stp = ((sliceRange (sliceBounds lo hi stp xs.length).1 (sliceBounds lo hi stp xs.length).2.1 (sliceBounds lo hi stp xs.length).2.2).filterMap (ws[·]?)).toArray := by
      unfold slicePick
      rw [List.size_toArray, hlen]
      congr 1
      simp
    rw [e5]
    exact (P.after (tk := tk₄) (k14.trans (KP.of kp))).pushS S₅ rfl fun g o kk => .lv g o ((r.pick _).keep kk i₅)
  · cases e

-- calls of built-ins: by value
noncomputable def OpN (prog : Program) (w : World) (TT : Tabs) (B0 : Heap) (t : List Value → Sem Value) (g : List VV → Hp → Option VV) : Prop :=
  ∀ (A : Around) (ρ : List Addr) (ok : Addr → Prop) (H : Hp) (s : Shared) (xs : List VV) (ws : List Value), Bud A 0 → SV0 TT B0 ρ ok H s.heap → VRs s.heap ρ ok xs ws →
    ∀ v, g xs H = some v → ∀ (Q Err : Value → Shared → Prop), Post TT ρ ok v Q s → wpAny (model prog w) A (t ws) Q Err s
noncomputable def dCall (g : List VV → Hp → Option VV) (fs : List EvF) : EvF := fun E H => (evs fs E H).bind fun xs => g xs H
theorem anyStar {es : List Expr} {fs : List EvF} (hf : DenEs prog w TT B0 n sc es fs) (env : Env) (pos : Pos) : (backTo pos (starEach es env)).any (·.1) = false := by
  induction hf with
  | nil => rfl
  | cons _ _ hst ih => rw [hst]; show (false || (backTo pos (starEach _ env)).any (·.1)) = false; rw [ih]; rfl
theorem callWith_v {P0 : Heap → Prop} {es : List Expr} {fs : List EvF} (hf : DenEs prog w TT B0 n sc es fs) {f : Value} {first : List Value} {A : Around} {env : Env} {ρ : List Addr} {ok : Addr → Prop} {H : Hp} {E : Lo} {s : Shared} (B : Bud A n) (hs : env.scope.names = sc) (S : SV0 TT B0 ρ ok H s.heap)
    (V : EnvV TT env ρ ok E s.heap) (hk : ∀ h, Good TT B0 h → ∃ k, (k = Keeper.frame ∨ k = Keeper.machine ∨ k = Keeper.boundFrame) ∧ Looks (model prog w) h (keeperOf f) k)
    {vs : List VV} (e : evs fs E H = some vs) {pos pos' : Pos} {Q Err : Value → Shared → Prop}
    (P : ∀ ws h' tk, KP TT.TB s.heap h' → TT.Inv h' → VRs h' ρ ok vs ws → wpAny (model prog w) A (call f (first ++ ws)) Q Err { s with heap := h', toks := tk }) :
    wpAny (model prog w) A (callWith pos' f first (backTo pos (starEach es env)) []) Q Err s := by
  refine callWith_of (P := fun h => Good TT B0 h) (by rw [anyStar hf]; rfl) hk ?_
  have main : wpAny (model prog w) A (spliced (backTo pos (starEach es env))) (fun ws s₁ => Good TT B0 s₁.heap ∧ wpAny (model prog w) A (call f (first ++ ws)) Q Err s₁) Err s :=
    spliced_v hf B hs S V e fun ws h' tk k i r => ⟨S.good.step k i, P ws h' tk k i r⟩
  cases hf with
  | nil => exact evalArgs_nil3 (by
      cases e
      exact ⟨S.good, by have := P [] s.heap s.toks (KP.refl _) S.good.inv .nil; exact this⟩)
  | cons h1 r hst =>
    rw [hst] at main ⊢
    exact evalArgs_plain main
theorem keep_blt {f : Value} (hf : keeperOf f = pure .machine) : ∀ h, Good TT B0 h → ∃ k, (k = Keeper.frame ∨ k = Keeper.machine ∨ k = Keeper.boundFrame) ∧ Looks (model prog w) h (keeperOf f) k :=
  fun h _ => ⟨.machine, .inr (.inl rfl), Looks.of_pure hf⟩
theorem d_call (X : Base TT B0 GL) {x : Str} {f : Value} {es : List Expr} {fs : List EvF} {g : List VV → Hp → Option VV} {pos pos' : Pos} (hm : (x, f) ∈ GL) (hl : sc.lookup x = some .globalImplicit) (hg : OpN prog w TT B0 (fun ws => call f ws) g) (hf : DenEs prog w TT B0 n sc es fs)
    (hk : keeperOf f = pure .machine := by rfl) (hd : (x == ("__debug__" : Str)) = false := by decide) : DenE prog w TT B0 n sc (.Call (.Name x pos') es [] pos) (dCall g fs) := by
  intro A env ρ ok H E s B hs S V v e Q Err P
  unfold dCall at e
  refine bindSome e fun xs exs e => ?_
  refine Call_ (d_glob (n := n) X hm hl hd A env ρ ok H E s B hs S V (.raw f) rfl _ _ fun wf h₁ tk₁ k₁ i₁ q => ?_)
  cases q.rawI
  refine callWith_v hf (s := { s with heap := h₁, toks := tk₁ }) (P0 := fun _ => True) B hs (S.keep k₁ i₁) (V.keep S.good.inv k₁) (keep_blt hk) exs fun ws h₂ tk₂ k₂ i₂ r => ?_
  exact hg A ρ ok H { s with heap := h₂, toks := tk₂ } xs ws (B.le (Nat.zero_le _)) (S.keep (k₁.trans k₂) i₂) r v e Q Err (P.after (k₁.trans k₂))
end
end Mine
namespace Mine

noncomputable def asI : VV → Option Int
  | .int i => some i
  | _ => none
theorem asI_eq {v : VV} {i : Int} (e : asI v = some i) : v = .int i := by
  cases v <;> cases e
  rfl
noncomputable def asInts : List VV → Option (List Int)
  | [] => some []
  | x :: xs => (asI x).bind fun i => (asInts xs).map fun ns => i :: ns
theorem asInts_eq {xs : List VV} : ∀ {ns : List Int}, asInts xs = some ns → xs = ns.map .int := by
  induction xs with
  | nil => intro ns e; cases e; rfl
  | cons x xs ih =>
    intro ns e
    refine bindSome e fun i hi e => ?_
    refine mapSome e fun ms hm e => ?_
    rw [← e, asI_eq hi, List.map_cons, ← ih hm]
@[simp] theorem asInts_map (ns : List Int) : asInts (ns.map .int) = some ns := by
  induction ns with
  | nil => rfl
  | cons n ns ih =>
    show (some n).bind (fun i => (asInts (ns.map .int)).map fun ns => i :: ns) = _
    rw [ih]; rfl
noncomputable def asS : VV → Option (List Nat)
  | .str i => some i
  | _ => none
theorem asS_eq {v : VV} {i : List Nat} (e : asS v = some i) : v = .str i := by
  cases v <;> cases e
  rfl
noncomputable def asStrs : List VV → Option (List (List Nat))
  | [] => some []
  | x :: xs => (asS x).bind fun l => (asStrs xs).map fun ns => l :: ns
theorem asStrs_eq {xs : List VV} : ∀ {ns : List (List Nat)}, asStrs xs = some ns → xs = ns.map .str := by
  induction xs with
  | nil => intro ns e; cases e; rfl
  | cons x xs ih =>
    intro ns e
    refine bindSome e fun i hi e => ?_
    refine mapSome e fun ms hm e => ?_
    rw [← e, asS_eq hi, List.map_cons, ← ih hm]
@[simp] theorem asStrs_map (ns : List (List Nat)) : asStrs (ns.map .str) = some ns := by
  induction ns with
  | nil => rfl
  | cons n ns ih =>
    show (some n).bind (fun i => (asStrs (ns.map .str)).map fun ns => i :: ns) = _
    rw [ih]; rfl
noncomputable def maxZ : List Int → Int
  | [] => 0
  | [a] => a
  | a :: b :: r => max a (maxZ (b :: r))
theorem maxZ_le : ∀ {ns : List Int} {a : Int}, a ∈ ns → a ≤ maxZ ns
  | [b], a, h => by rcases List.mem_cons.mp h with rfl | h; exact Int.le_refl _; cases h
  | b :: c :: r, a, h => by
    rcases List.mem_cons.mp h with rfl | h
    · exact Int.le_max_left _ _
    · exact Int.le_trans (maxZ_le h) (Int.le_max_right _ _)
theorem maxZ_mem : ∀ {ns : List Int}, ns ≠ [] → maxZ ns ∈ ns
  | [b], _ => List.mem_cons_self
  | b :: c :: r, _ => by
    show max b (maxZ (c :: r)) ∈ _
    by_cases h : b ≤ maxZ (c :: r)
    · rw [Int.max_eq_right h]; exact List.mem_cons_of_mem _ (maxZ_mem (by simp))
    · rw [Int.max_eq_left (by omega)]; exact List.mem_cons_self
theorem maxZ_is {ns : List Int} {m : Int} (h : m ∈ ns) (hle : ∀ a ∈ ns, a ≤ m) : m = maxZ ns := by
  have h1 := maxZ_le h
  have h2 := hle _ (maxZ_mem (by rintro rfl; cases h))
  omega
section
variable {prog : Program} {w : World} {TT : Tabs} {B0 : Heap} {n : Nat} {sc : Sc} {GL : List (Str × Value)}

noncomputable def vlen : VV → Hp → Option Int
  | .str l, _ => if l.length ≤ 16777216 then some l.length else none
  | .tup xs, _ => if xs.length ≤ 16777216 then some xs.length else none
  | v, H => (items v H).bind fun xs => if xs.length ≤ 16777216 then some xs.length else none
noncomputable def gLen : List VV → Hp → Option VV
  | [v], H => (vlen v H).map .int
  | _, _ => none
theorem len_str_v {A : Around} {s : Shared} {l : List Nat} {t : Tok} {Q Err : Value → Shared → Prop} (hz : l.length ≤ 16777216) (h : ∀ u tk, Q (.int l.length u) { s with toks := tk }) :
    wpAny (model prog w) A (call (.builtin "len") [.str ⟨l.toArray⟩ t]) Q Err s := by
  have hlen : (⟨l.toArray⟩ : Str).length = l.length := by show (List.toArray l).size = _; simp
  refine PyProof.Rows.len_str (by rw [hlen]; omega) ?_
  rw [hlen]
  exact h _ _
theorem b_len : OpN prog w TT B0 (fun ws => call (.builtin "len") ws) gLen := by
  intro A ρ ok H s xs ws B S hx v e Q Err P
  unfold gLen at e
  split at e
  · obtain ⟨k, hk, rfl⟩ := Option.map_eq_some_iff.mp e
    obtain ⟨aq, rfl, q⟩ := hx.oneI
    unfold vlen at hk
    split at hk
    · split at hk
      · rename_i hz
        cases hk; cases q
        exact len_str_v hz fun u tk => P.now S.good.inv tk (.int _ u)
      · cases hk
    · split at hk
      · rename_i hz
        cases hk
        cases q with
        | tup h1 _ r =>
        rw [r.length] at hz P
        refine len_tuple ⟨_, h1, rfl, _, rfl⟩ (by simp only [List.size_toArray]; omega) ?_
        simp only [List.size_toArray]
        exact P.now S.good.inv _ (.int _ _)
      · cases hk
    · refine bindSome hk fun ys ey hk => ?_
      split at hk
      · rename_i hz
        cases hk
        obtain ⟨l, us, kk, rfl, h1, r⟩ := items_at S q ey
        rw [r.length] at hz P
        refine Calls.call_len_list (isList_of h1) (by simp only [List.size_toArray]; omega) ?_
        simp only [List.size_toArray]
        exact P.now S.good.inv _ (.int _ _)
      · cases hk
  · cases e
noncomputable def gRange : List VV → Hp → Option VV
  | [.int b], _ => some (.rng 0 b 1)
  | [.int a, .int b], _ => some (.rng a b 1)
  | [.int a, .int b, .int c], _ => if c ≠ 0 ∧ c.natAbs < lim9 then some (.rng a b c) else none
  | _, _ => none
theorem b_range : OpN prog w TT B0 (fun ws => call (.type "range") ws) gRange := by
  intro A ρ ok H s xs ws B S hx v e Q Err P
  unfold gRange at e
  split at e
  · cases e
    obtain ⟨t, rfl⟩ := hx.int1
    exact call_range_1 (P.push S rfl fun g o kk => .rng (IsRange.new ..) o)
  · cases e
    obtain ⟨t, t', rfl⟩ := hx.int2
    exact call_range_2 (P.push S rfl fun g o kk => .rng (IsRange.new ..) o)
  · split at e
    · rename_i hz
      cases e
      obtain ⟨t, t', t2, rfl⟩ := hx.int3
      exact call_range_3 hz.1 (P.push S rfl fun g o kk => .rng (IsRange.new ..) o) (.inl (PyProof.noPylong_of_log2 (lim9_log hz.2)))
    · cases e
  · cases e
noncomputable def gSum : List VV → Hp → Option VV
  | [v], H => (items v H).bind fun xs => (asInts xs).map fun ns => .int ns.sum
  | _, _ => none
theorem gSum_eq {xs : List VV} {H : Hp} {v : VV} (e : gSum xs H = some v) : ∃ (u : VV) (ns : List Int), xs = [u] ∧ items u H = some (ns.map .int) ∧ v = .int ns.sum := by
  unfold gSum at e
  split at e
  · refine bindSome e fun ys ey e => ?_
    obtain ⟨ns, hn, rfl⟩ := Option.map_eq_some_iff.mp e
    rw [asInts_eq hn] at ey
    exact ⟨_, ns, rfl, ey, rfl⟩
  · cases e
theorem b_sum : OpN prog w TT B0 (fun ws => call (.builtin "sum") ws) gSum := by
  intro A ρ ok H s xs ws B S hx v e Q Err P
  obtain ⟨u, ns, rfl, ey, rfl⟩ := gSum_eq e
  obtain ⟨aq, rfl, q⟩ := hx.oneI
  obtain ⟨l, us, kk, rfl, h1, r⟩ := items_at S q ey
  have hi := r.ints
  have hl := isList_of h1
  obtain ⟨xs, hx⟩ := hi.allInts.items
  have hn : numsOf us.toArray.toList = ns := by rw [show us.toArray.toList = us from rfl, hi.numsOf]
  rw [hx] at hl hn
  rw [nums_intItems] at hn
  refine sum_intListG B.hh hl fun h' tk t' hk => ?_
  rw [preSum_eq, List.take_of_length_le (by simp), hn]
  exact P _ h' tk (KP.of hk) (TT.mono _ _ hk S.good.inv) (.int _ t')
noncomputable def gMax : List VV → Hp → Option VV
  | [v], H => (items v H).bind fun xs => (asInts xs).bind fun ns => if ns ≠ [] then some (.int (maxZ ns)) else none
  | [.int a, .int b], _ => some (.int (max a b))
  | _, _ => none
theorem max2_v {A : Around} {s : Shared} {a b : Int} {t u : Tok} {Q Err : Value → Shared → Prop} (hh : A.handled = none) (h : ∀ (u : Tok) (h' : Heap) (tk : Nat), (∀ b o, s.heap.get? b = some o → h'.get? b = some o) → Q (.int (max a b) u) { s with heap := h', toks := tk }) :
    wpAny (model prog w) A (call (.builtin "max") [.int a t, .int b u]) Q Err s := by
  refine max_two_ints hh fun h' tk hk => ?_
  by_cases hc : b > a
  · rw [if_pos hc]
    have := h u h' tk hk
    rwa [show max a b = b by omega] at this
  · rw [if_neg hc]
    have := h t h' tk hk
    rwa [show max a b = a by omega] at this
theorem b_max : OpN prog w TT B0 (fun ws => call (.builtin "max") ws) gMax := by
  intro A ρ ok H s xs ws B S hx v e Q Err P
  unfold gMax at e
  split at e
  · refine bindSome e fun ys ey e => ?_
    refine bindSome e fun ns hn e => ?_
    split at e
    · rename_i hne
      cases e
      obtain ⟨aq, rfl, q⟩ := hx.oneI
      rw [asInts_eq hn] at ey
      obtain ⟨l, us, kk, rfl, h1, r⟩ := items_at S q ey
      have hi := r.ints
      have hl := isList_of h1
      obtain ⟨xs, hx⟩ := hi.allInts.items
      have hns : ns = xs.toList.map (·.1) := by rw [← hi.numsOf, ← nums_intItems, ← hx]
      have hsz : 0 < xs.size := by
        have h3 := List.length_pos_iff.mpr hne
        rw [hns, List.length_map, Array.length_toList] at h3; exact h3
      rw [hx] at hl
      refine max_intList B.hh hl hsz fun v h' tk hv hk => ?_
      obtain ⟨t, rfl⟩ := intItems_at hv
      obtain ⟨h1, h2⟩ := argBest_gt (numAt xs) (xs.size - 1)
      have hm : numAt xs (argBest (fun i j => decide (numAt xs i > numAt xs j)) (xs.size - 1)) = maxZ ns := by
        refine maxZ_is ?_ fun a ha => ?_
        · rw [hns, numAt_eq]; exact getD_mem (by rw [List.length_map, Array.length_toList]; omega)
        · rw [hns] at ha
          obtain ⟨j, hj, rfl⟩ := mem_getD ha
          rw [List.length_map, Array.length_toList] at hj
          rw [← numAt_eq]; exact h2 j (by omega)
      rw [hm]
      exact P _ h' tk (KP.of hk) (TT.mono _ _ hk S.good.inv) (.int _ t)
    · cases e
  · cases e
    obtain ⟨t, t', rfl⟩ := hx.int2
    exact max2_v B.hh fun u h' tk hk => P _ h' tk (KP.of hk) (TT.mono _ _ hk S.good.inv) (.int _ u)
  · cases e
theorem Post.made {ρ : List Addr} {ok : Addr → Prop} {H : Hp} {v : VV} {Q : Value → Shared → Prop} {s : Shared} {h' : Heap} {a : Addr} {tk : Nat} (P : Post TT ρ ok v Q s) (S : SV0 TT B0 ρ ok H s.heap) (hk : ∀ b o, s.heap.get? b = some o → h'.get? b = some o)
    (ha : s.heap.get? a = none) (x : ok a → KP TT.TB s.heap h' → VR h' ρ ok v (.ref a)) : Q (.ref a) { s with heap := h', toks := tk } := by
  refine P _ _ tk (KP.of hk) (TT.mono _ _ hk S.good.inv) (x (S.free _ ha) (KP.of hk))
theorem free_end {h h' : Heap} (hk : ∀ b o, h.get? b = some o → h'.get? b = some o) : h.get? h'.objs.size = none := by
  cases q : h.get? h'.objs.size with
  | none => rfl
  | some o => exact absurd (Heap.lt_size (hk _ _ q)) (Nat.lt_irrefl _)
noncomputable def gTuple : List VV → Hp → Option VV
  | [v], H => (items v H).bind fun xs => if xs.length ≤ 16777216 then some (.tup xs) else none
  | _, _ => none
theorem b_tuple : OpN prog w TT B0 (fun ws => call (.type "tuple") ws) gTuple := by
  intro A ρ ok H s xs ws B S hx v e Q Err P
  unfold gTuple at e
  split at e
  · refine bindSome e fun ys ey e => ?_
    split at e
    · rename_i hz
      cases e
      obtain ⟨aq, rfl, q⟩ := hx.oneI
      obtain ⟨l, us, kk, rfl, h1, r⟩ := items_at S q ey
      refine call_tuple_list (isList_of h1) (fun h' hk => ?_) (by rw [List.size_toArray, ← r.length]; simpa [sizeLine] using hz)
      have hk' : ∀ b o, s.heap.get? b = some o → (h'.push (tupO us.toArray 0)).get? b = some o := fun b o e => Heap.get?_push_of_some _ (hk b o e)
      exact P.made (tk := s.toks) S hk' (free_end hk) fun o kk => .tup (Heap.get?_push_size _ rfl) o (r.keep kk S.good.inv)
    · cases e
  · cases e
end
end Mine
namespace Mine

noncomputable def rngL (a b c : Int) : List Int := (List.range (Builtin.Range.rangeSize a b c).toNat).map fun i : Nat => a + (i : Int) * c
noncomputable def iterOf : VV → Hp → Option (List VV)
  | .tup xs, _ => if xs.length ≤ 16777216 then some xs else none
  | .str l, _ => if l.length ≤ 16777216 then some (l.map fun c => .str [c]) else none
  | .rng a b c, _ => if Builtin.Range.small a b c = true ∧ Builtin.Range.rangeSize a b c ≤ 1000000 then some ((rngL a b c).map .int) else none
  | .lv xs, _ => if xs.length ≤ 16777216 then some xs else none
  | _, _ => none
noncomputable def iterMu (v : VV) (H : Hp) : Option (List VV) := match v with
  | .lst i => (items (.lst i) H).bind fun xs => if xs.length ≤ 16777216 then some xs else none
  | v => iterOf v H

noncomputable def owners : List String := ["enumerate", "zip", "dict_itemiterator", "dict_reverseitemiterator", "odict_iterator", "itertools.zip_longest", "itertools.pairwise"]

section
variable {prog : Program} {w : World} {TT : Tabs} {B0 : Heap} {n : Nat} {sc : Sc} {GL : List (Str × Value)}

structure Itr (prog : Program) (w : World) (A : Around) (ρ : List Addr) (ok : Addr → Prop) (imm : Bool) (xs : List VV) (I : Addr) (fp : List Addr) (P : Nat → Value → Prop) (St : Nat → Heap → Prop) (h : Heap) : Prop where
  walk : Walks prog w A I fp [I] xs.length P St
  st : St 0 h
  fps : ∀ b ∈ fp, b = I ∨ ∃ o, h.get? b = some o ∧ o.cls ≠ .none ∧ (ok b ∨ (imm = false ∧ b ∈ ρ))
  it : ∀ i v, P i v → ∃ x, xs[i]? = some x ∧ VR h ρ (fun a => ok a ∧ a ≠ I) x v
  cls : ∃ nm, owners.contains nm = false ∧ ∀ i h, St i h → ∃ o, h.get? I = some o ∧ o.cls = .type nm ∧ NotC o
  sz : xs.length ≤ 16777216

theorem Itr.notCode {A : Around} {ρ : List Addr} {ok : Addr → Prop} {imm : Bool} {xs : List VV} {I : Addr} {fp : List Addr} {P : Nat → Value → Prop} {St : Nat → Heap → Prop} {h h1 : Heap} (X : Itr prog w A ρ ok imm xs I fp P St h) {i : Nat} (st : St i h1) :
    ∀ o, h1.get? I = some o → NotC o := fun o e => by
  obtain ⟨nm, _, hc⟩ := X.cls
  obtain ⟨o', e', _, c⟩ := hc _ _ st
  rw [e] at e'; cases e'
  exact c
theorem free_size (h : Heap) : h.get? h.objs.size = none := by
  cases q : h.get? h.objs.size with
  | none => rfl
  | some o => exact absurd (Heap.lt_size q) (Nat.lt_irrefl _)
theorem rngL_get {a b c : Int} {i : Nat} (h : i < (rngL a b c).length) : (rngL a b c)[i]? = some (a + (i : Int) * c) := by
  unfold rngL at h ⊢
  rw [List.length_map, List.length_range] at h
  rw [List.getElem?_map, List.getElem?_range h]
  rfl
theorem rngL_length (a b c : Int) : (rngL a b c).length = (Builtin.Range.rangeSize a b c).toNat := by
  unfold rngL; rw [List.length_map, List.length_range]
theorem rangeSize_nonneg (a b c : Int) : 0 ≤ Builtin.Range.rangeSize a b c := by
  unfold Builtin.Range.rangeSize
  split
  · split
    · have := Int.ediv_nonneg (show (0 : Int) ≤ b - a - 1 by omega) (show 0 ≤ c by omega); omega
    · omega
  · split
    · have := Int.ediv_nonneg (show (0 : Int) ≤ a - b - 1 by omega) (show 0 ≤ -c by omega); omega
    · omega

theorem iter_list {A : Around} {ρ : List Addr} {ok : Addr → Prop} {H : Hp} {s : Shared} {l : Addr} {ws : List Value} {k : Nat} {xs : List VV} {imm : Bool} (B : Bud A n) (S : SV0 TT B0 ρ ok H s.heap) (h1 : s.heap.get? l = some (listO ws.toArray k)) (r : VRs s.heap ρ ok xs ws) (hz : xs.length ≤ 16777216)
    (hi : ok l ∨ (imm = false ∧ l ∈ ρ)) {Q Err : Value → Shared → Prop}
    (P : ∀ I fp Pr St h' tk, s.heap.get? I = none → (∀ b o, s.heap.get? b = some o → h'.get? b = some o) → TT.Inv h' → Itr prog w A ρ ok imm xs I fp Pr St h' → Q (.ref I) { s with heap := h', toks := tk }) : wpAny (model prog w) A (pyIter (.ref l)) Q Err s := by
  have hl := isList_of h1
  refine wpAny_pyIter_list hl ?_
  have kp : ∀ b o', s.heap.get? b = some o' → (s.heap.push { cls := .type "list_iterator", data := .fields #[.ref l, .int 0 0] }).get? b = some o' := fun b o' e => Heap.get?_push_of_some _ e
  have hne : l ≠ s.heap.objs.size := Nat.ne_of_lt (Heap.lt_size h1)
  have hsz : xs.length = ws.toArray.size := by rw [r.length]; simp
  refine P _ _ _ _ _ s.toks (free_size _) kp (TT.mono _ _ kp S.good.inv) ⟨hsz ▸ Walks.list B.hh _ _ hne ws.toArray, ⟨⟨_, Heap.get?_push_size _ rfl, rfl, rfl⟩, ⟨_, kp _ _ h1, rfl, k, rfl⟩⟩, fun b hb => ?_, fun i v hv => ?_, ⟨"list_iterator", by decide +kernel, fun i h q => let ⟨o, e, c, d⟩ := q.1; ⟨o, e, c, .at d (by intro _ _; nofun)⟩⟩, hz⟩
  · rcases List.mem_cons.mp hb with rfl | hb
    · exact .inl rfl
    · rw [List.mem_singleton.mp hb]
      exact .inr ⟨_, kp _ _ h1, by nofun, hi⟩
  · have hv' : ws[i]? = some v := by simpa using hv
    have hil : i < xs.length := by rw [r.length]; exact (List.getElem?_eq_some_iff.mp hv').1
    obtain ⟨v', e', q⟩ := r.get (List.getElem?_eq_getElem hil)
    rw [hv'] at e'; cases e'
    exact ⟨_, List.getElem?_eq_getElem hil, q.mono (fun b o _ _ e => kp b o e) (fun _ _ e => e) fun a o e ha => ⟨ha, Nat.ne_of_lt (Heap.lt_size e)⟩⟩

theorem iter_v {A : Around} {ρ : List Addr} {ok : Addr → Prop} {H : Hp} {s : Shared} {v : VV} {a : Value} {xs : List VV} (B : Bud A n) (S : SV0 TT B0 ρ ok H s.heap) (q : VR s.heap ρ ok v a) (e : iterOf v H = some xs) {Q Err : Value → Shared → Prop}
    (P : ∀ I fp Pr St h' tk, s.heap.get? I = none → (∀ b o, s.heap.get? b = some o → h'.get? b = some o) → TT.Inv h' → Itr prog w A ρ ok true xs I fp Pr St h' → Q (.ref I) { s with heap := h', toks := tk }) : wpAny (model prog w) A (pyIter a) Q Err s := by
  unfold iterOf at e
  split at e
  · split at e
    · rename_i hz
      cases e
      obtain ⟨l, ws, k, rfl, h1, o1, r⟩ := q.tupI
      have hl : s.heap.IsTuple l ws.toArray := ⟨_, h1, rfl, k, rfl⟩
      refine wpAny_pyIter_tuple hl ?_
      have kp : ∀ b o', s.heap.get? b = some o' → (s.heap.push { cls := .type "tuple_iterator", data := .fields #[.ref l, .int 0 0] }).get? b = some o' := fun b o' e => Heap.get?_push_of_some _ e
      have hne : l ≠ s.heap.objs.size := Nat.ne_of_lt (Heap.lt_size h1)
      have hsz : xs.length = ws.toArray.size := by rw [r.length]; simp
      refine P _ _ _ _ _ s.toks (free_size _) kp (TT.mono _ _ kp S.good.inv) ⟨hsz ▸ Walks.tuple B.hh _ _ hne ws.toArray, ⟨⟨_, Heap.get?_push_size _ rfl, rfl, rfl⟩, ⟨_, kp _ _ h1, rfl, k, rfl⟩⟩, fun b hb => ?_, fun i v hv => ?_, ⟨"tuple_iterator", by decide +kernel, fun i h q => let ⟨o, e, c, d⟩ := q.1; ⟨o, e, c, .at d (by intro _ _; nofun)⟩⟩, hz⟩
      · rcases List.mem_cons.mp hb with rfl | hb
        · exact .inl rfl
        · rw [List.mem_singleton.mp hb]
          exact .inr ⟨_, kp _ _ h1, by nofun, .inl o1⟩
      · have hv' : ws[i]? = some v := by simpa using hv
        have hil : i < xs.length := by rw [r.length]; exact (List.getElem?_eq_some_iff.mp hv').1
        obtain ⟨v', e', q⟩ := r.get (List.getElem?_eq_getElem hil)
        rw [hv'] at e'; cases e'
        exact ⟨_, List.getElem?_eq_getElem hil, q.mono (fun b o _ _ e => kp b o e) (fun _ _ e => e) fun a o e ha => ⟨ha, Nat.ne_of_lt (Heap.lt_size e)⟩⟩
    · cases e
  · split at e
    · rename_i l hz
      cases e
      obtain ⟨t, rfl⟩ := q.strI
      have hit : ∀ h : Heap, ∀ (i : Nat) (v : Value), SignAt ⟨l.toArray⟩ i v → ∃ x, (l.map fun c => VV.str [c])[i]? = some x ∧ VR h ρ (fun a => ok a ∧ a ≠ s.heap.objs.size) x v := fun h i v ⟨c, u, hc, hv⟩ => by
        subst hv
        have hc' : l[i]? = some c := by simpa using hc
        exact ⟨.str [c], by rw [List.getElem?_map, hc']; rfl, .str [c] u⟩
      have hsz : (l.map fun c => VV.str [c]).length = (⟨l.toArray⟩ : Str).cps.size := by simp
      cases ha : (⟨l.toArray⟩ : Str).cps.all (· < 128)
      · refine wpAny_pyIter_wide ha ?_
        have kp : ∀ b o', s.heap.get? b = some o' → (s.heap.push { cls := .type "str_iterator", data := .fields #[.str ⟨l.toArray⟩ t, .int 0 0] }).get? b = some o' := fun b o' e => Heap.get?_push_of_some _ e
        refine P _ _ _ _ _ s.toks (free_size _) kp (TT.mono _ _ kp S.good.inv) ⟨hsz ▸ Walks.strWide B.hh _ ⟨l.toArray⟩ t, ⟨_, Heap.get?_push_size _ rfl, rfl, rfl⟩, fun b hb => .inl (List.mem_singleton.mp hb), hit _, ⟨"str_iterator", by decide +kernel, fun i h q => let ⟨o, e, c, d⟩ := q; ⟨o, e, c, .at d (by intro _ _; nofun)⟩⟩, by simpa using hz⟩
      · refine wpAny_pyIter_ascii ha ?_
        have kp : ∀ b o', s.heap.get? b = some o' → (s.heap.push { cls := .type "str_ascii_iterator", data := .fields #[.str ⟨l.toArray⟩ t, .int 0 0] }).get? b = some o' := fun b o' e => Heap.get?_push_of_some _ e
        refine P _ _ _ _ _ s.toks (free_size _) kp (TT.mono _ _ kp S.good.inv) ⟨hsz ▸ Walks.strAscii B.hh _ ⟨l.toArray⟩ t, ⟨_, Heap.get?_push_size _ rfl, rfl, rfl⟩, fun b hb => .inl (List.mem_singleton.mp hb), hit _, ⟨"str_ascii_iterator", by decide +kernel, fun i h q => let ⟨o, e, c, d⟩ := q; ⟨o, e, c, .at d (by intro _ _; nofun)⟩⟩, by simpa using hz⟩
    · cases e
  · split at e
    · rename_i x y z hz
      cases e
      cases q with
      | rng h1 o1 =>
      refine wpAny_pyIter_range h1 hz.1 ?_
      have kp : ∀ b o', s.heap.get? b = some o' → (s.heap.push { cls := .type "range_iterator", data := .fields #[rawInt x, rawInt (Builtin.Range.rangeSize x y z), rawInt z] }).get? b = some o' := fun b o' e => Heap.get?_push_of_some _ e
      have hsz : ((rngL x y z).map VV.int).length = (Builtin.Range.rangeSize x y z).toNat := by rw [List.length_map, rngL_length]
      have W : Walks prog w A s.heap.objs.size [s.heap.objs.size] [s.heap.objs.size] (Builtin.Range.rangeSize x y z).toNat (fun i v => i < (Builtin.Range.rangeSize x y z).toNat ∧ ∃ t, v = .int (x + i * z) t) _ := (Walks.range B.hh s.heap.objs.size x z (Builtin.Range.rangeSize x y z).toNat).bound
      have nn := rangeSize_nonneg x y z
      refine P _ _ _ _ _ s.toks (free_size _) kp (TT.mono _ _ kp S.good.inv) ⟨by rw [hsz]; exact W, ?_, fun b hb => .inl (List.mem_singleton.mp hb), fun i v hv => ?_, ⟨"range_iterator", by decide +kernel, fun i h q => ⟨_, q, rfl, .at rfl (by intro _ _; nofun)⟩⟩, by rw [hsz]; omega⟩
      · show IsRangeIter _ _ (x + ((0 : Nat) : Int) * z) (((Builtin.Range.rangeSize x y z).toNat : Int) - ((0 : Nat) : Int)) z
        rw [show x + ((0 : Nat) : Int) * z = x by simp, show (((Builtin.Range.rangeSize x y z).toNat : Int) - ((0 : Nat) : Int)) = Builtin.Range.rangeSize x y z by omega]
        exact Heap.get?_push_size _ rfl
      · obtain ⟨hi, t, rfl⟩ := hv
        refine ⟨.int (x + i * z), ?_, .int _ _⟩
        rw [List.getElem?_map, rngL_get (by rw [rngL_length]; exact hi)]
        rfl
    · cases e
  · split at e
    · rename_i hz
      cases e
      obtain ⟨a, ws, k, rfl, h1, o1, r⟩ := q.lvI
      exact iter_list B S h1 r hz (.inl o1) P
    · cases e
  · cases e

theorem iter_mu {A : Around} {ρ : List Addr} {ok : Addr → Prop} {H : Hp} {s : Shared} {v : VV} {a : Value} {xs : List VV} (B : Bud A n) (S : SV0 TT B0 ρ ok H s.heap) (q : VR s.heap ρ ok v a) (e : iterMu v H = some xs) {Q Err : Value → Shared → Prop}
    (P : ∀ I fp Pr St h' tk, s.heap.get? I = none → (∀ b o, s.heap.get? b = some o → h'.get? b = some o) → TT.Inv h' → Itr prog w A ρ ok false xs I fp Pr St h' → Q (.ref I) { s with heap := h', toks := tk }) : wpAny (model prog w) A (pyIter a) Q Err s := by
  unfold iterMu at e
  split at e
  · refine bindSome e fun ys ey e => ?_
    split at e
    · rename_i hz
      cases e
      obtain ⟨l, ws, k, rfl, h1, r⟩ := items_at S q ey
      obtain ⟨a, ea, hr⟩ := q.lstI
      cases ea
      exact iter_list B S h1 r hz (.inr ⟨rfl, List.mem_of_getElem? hr⟩) P
    · cases e
  · refine iter_v B S q e fun I fp Pr St h' tk h1 h2 h3 X => P I fp Pr St h' tk h1 h2 h3 ⟨X.walk, X.st, fun b hb => (X.fps b hb).imp id fun ⟨o, e1, e2, e3⟩ => ⟨o, e1, e2, .inl (e3.elim id fun q => by cases q.1)⟩, X.it, X.cls, X.sz⟩

theorem wpAny_ltg {A : Around} {elts : List Expr} {x1 : Nat} {pos : Pos} {I : Addr} {v : Value} {nm : String} {s : Shared} {o : Obj} {Q : Unit → Shared → Prop} {Err : Value → Shared → Prop} (ho : s.heap.get? I = some o) (hc : o.cls = .type nm) (hn : owners.contains nm = false) (h : Q () s) :
    wpAny (model prog w) A (letOwnedTupleGo (.Tuple elts x1 pos) (.ref I) v) Q Err s := by
  unfold letOwnedTupleGo
  cases v with
  | ref b =>
    refine wpAny_bind (wpAny_load ho ?_)
    rw [hc]
    cases hd : o.data with
    | fields vs =>
      have : (["enumerate", "zip", "dict_itemiterator", "dict_reverseitemiterator", "odict_iterator", "itertools.zip_longest", "itertools.pairwise"].contains nm) = false := hn
      dsimp only
      rw [this]
      exact wpAny_pure h
    | _ => exact wpAny_pure h
  | _ => exact wpAny_pure h
end
end Mine
namespace Mine

section
variable {TT : Tabs} {B0 h h' h'' : Heap} {ρ : List Addr} {ok ok' : Addr → Prop} {H : Hp} {E : Lo} {env : Env} {X Y : List Addr}
theorem KP.wide {TB TB' : List Addr} (k : KP TB h h') (s : ∀ b ∈ TB, b ∈ TB') : KP TB' h h' := fun b o n e => k b o (fun q => n (s b q)) e
theorem KP.toX (k : KP TT.TB h h') (X : List Addr) : KP (TT.TB ++ X) h h' := k.wide fun b q => List.mem_append_left _ q
theorem KP.inX (k : KP (TT.TB ++ X) h h') (s : ∀ b ∈ X, b ∈ Y) : KP (TT.TB ++ Y) h h' := k.wide fun b q => (List.mem_append.mp q).elim (List.mem_append_left _) fun q => List.mem_append_right _ (s b q)
theorem KP.at (k : KP (TT.TB ++ X) h h') (i : TT.Inv h) {b : Addr} {o : Obj} (hb : b ∉ X) (hc : o.cls ≠ .none) (e : h.get? b = some o) : h'.get? b = some o :=
  k b o (fun q => (List.mem_append.mp q).elim (notTab i e hc) hb) e
theorem KP.ofBut {TB : List Addr} (k : ∀ b o, b ∉ X → h.get? b = some o → h'.get? b = some o) : KP (TB ++ X) h h' := fun b o n e => k b o (fun q => n (List.mem_append_right _ q)) e
theorem VR.keepX {v : VV} {w : Value} (q : VR h ρ ok v w) (hX : ∀ b ∈ X, ¬ ok b) (k : KP (TT.TB ++ X) h h') (i : TT.Inv h) : VR h' ρ ok v w :=
  q.mono (fun b o hc ho e => k.at i (fun q => hX b q ho) hc e) (fun _ _ e => e) fun _ _ _ x => x
theorem VRs.keepX {v : List VV} {w : List Value} (q : VRs h ρ ok v w) (hX : ∀ b ∈ X, ¬ ok b) (k : KP (TT.TB ++ X) h h') (i : TT.Inv h) : VRs h' ρ ok v w :=
  q.mono (fun b o hc ho e => k.at i (fun q => hX b q ho) hc e) (fun _ _ e => e) fun _ _ _ x => x
theorem VR.okm {v : VV} {w : Value} (q : VR h ρ ok v w) (ho : ∀ a o, h.get? a = some o → ok a → ok' a) : VR h ρ ok' v w := q.mono (fun _ _ _ _ e => e) (fun _ _ e => e) ho
theorem VRs.okm {v : List VV} {w : List Value} (q : VRs h ρ ok v w) (ho : ∀ a o, h.get? a = some o → ok a → ok' a) : VRs h ρ ok' v w := q.mono (fun _ _ _ _ e => e) (fun _ _ e => e) ho

structure Apart (B0 : Heap) (ρ : List Addr) (ok : Addr → Prop) (X : List Addr) : Prop where
  ok : ∀ b ∈ X, ¬ ok b
  rho : ∀ b ∈ X, b ∉ ρ
  old : ∀ b ∈ X, B0.get? b = none
theorem Apart.sub (a : Apart B0 ρ ok X) (s : ∀ b ∈ Y, b ∈ X) : Apart B0 ρ ok Y := ⟨fun b q => a.ok b (s b q), fun b q => a.rho b (s b q), fun b q => a.old b (s b q)⟩
theorem OV.keepX {a : Addr} {vo : VO} (o : OV h ρ ok a vo) (ha : a ∉ X) (hX : ∀ b ∈ X, ¬ ok b) (k : KP (TT.TB ++ X) h h') (i : TT.Inv h) : OV h' ρ ok a vo := by
  cases vo with
  | list xs => obtain ⟨ws, n, e1, e2⟩ := o; exact ⟨ws, n, k.at i ha (by nofun) e1, e2.keepX hX k i⟩
  | ns fs => obtain ⟨es, n, e1, e2, e3⟩ := o; exact ⟨es, n, k.at i ha (by nofun) e1, e2, e3.keepX hX k i⟩
theorem OV.okm {a : Addr} {vo : VO} (o : OV h ρ ok a vo) (ho : ∀ a o, h.get? a = some o → ok a → ok' a) : OV h ρ ok' a vo := by
  cases vo with
  | list xs => obtain ⟨ws, n, e1, e2⟩ := o; exact ⟨ws, n, e1, e2.okm ho⟩
  | ns fs => obtain ⟨es, n, e1, e2, e3⟩ := o; exact ⟨es, n, e1, e2, e3.okm ho⟩
theorem SV0.okm (S : SV0 TT B0 ρ ok H h) (ho : ∀ a o, h.get? a = some o → ok a → ok' a) (hf : ∀ a, h.get? a = none → ok' a) : SV0 TT B0 ρ ok' H h where
  good := S.good
  len := S.len
  objs := fun j vo e => let ⟨a, ea, o⟩ := S.objs j vo e; ⟨a, ea, o.okm ho⟩
  free := hf
theorem SV0.keepX (S : SV0 TT B0 ρ ok H h) (D : Apart B0 ρ ok X) (k : KP (TT.TB ++ X) h h') (i' : TT.Inv h') (hl : ∀ b ∈ X, h'.get? b ≠ none) : SV0 TT B0 ρ ok H h' where
  good := ⟨fun b o n e => k b o (fun q => (List.mem_append.mp q).elim n fun q => by
    have := D.old b q
    rw [e] at this
    cases this) (S.good.keep b o n e), i'⟩
  len := S.len
  objs := fun j vo e => let ⟨a, ea, o⟩ := S.objs j vo e; ⟨a, ea, o.keepX (fun q => D.rho a q (List.mem_of_getElem? ea)) D.ok k S.good.inv⟩
  free := fun a e => by
    cases q : h.get? a with
    | none => exact S.free a q
    | some o =>
      by_cases hT : a ∈ TT.TB
      · obtain ⟨o', e', _⟩ := TT.there h' i' a hT
        rw [e] at e'; cases e'
      · by_cases hX : a ∈ X
        · exact absurd e (hl a hX)
        · have := k a o (fun q => (List.mem_append.mp q).elim hT hX) q
          rw [e] at this; cases this
noncomputable def ClN (env : Env) (p : Addr → Prop) : Prop := ∀ (i : Nat) x k a, env.scope.names[i]? = some (x, k) → (k = NameKind.cell ∨ k = NameKind.free) → env.cells.lookup x = some a → p a
theorem EnvV.keepX (V : EnvV TT env ρ ok E h) (i : TT.Inv h) (hX : ∀ b ∈ X, ¬ ok b) (hL : env.locals ∉ X) (hc : ClN env (· ∉ X)) (k : KP (TT.TB ++ X) h h') : EnvV TT env ρ ok E h' where
  kind := V.kind
  glo := V.glo
  blt := V.blt
  lTB := V.lTB
  ns := let ⟨m, hn, r⟩ := V.ns; ⟨m, nsAt hn fun o e => k _ o (fun q => (List.mem_append.mp q).elim V.lTB hL) e, fun j x v e1 e2 => let ⟨w, a, b⟩ := r j x v e1 e2; ⟨w, a, b.keepX hX k i⟩⟩
  cells := fun j x kd e hk => let ⟨a, o, v₀, e1, e2, e3, e4, r⟩ := V.cells j x kd e hk
    ⟨a, o, v₀, e1, k a o (fun q => (List.mem_append.mp q).elim e3 (hc j x kd a e hk e1)) e2, e3, e4, fun v ev => let ⟨w, p, q⟩ := r v ev; ⟨w, p, q.keepX hX k i⟩⟩
theorem EnvV.okm (V : EnvV TT env ρ ok E h) (ho : ∀ a o, h.get? a = some o → ok a → ok' a) : EnvV TT env ρ ok' E h where
  kind := V.kind
  glo := V.glo
  blt := V.blt
  lTB := V.lTB
  ns := let ⟨m, hn, r⟩ := V.ns; ⟨m, hn, fun j x v e1 e2 => let ⟨w, a, b⟩ := r j x v e1 e2; ⟨w, a, b.okm ho⟩⟩
  cells := fun j x kd e hk => let ⟨a, o, v₀, e1, e2, e3, e4, r⟩ := V.cells j x kd e hk
    ⟨a, o, v₀, e1, e2, e3, e4, fun v ev => let ⟨w, p, q⟩ := r v ev; ⟨w, p, q.okm ho⟩⟩

theorem lookup_at {α : Type} : ∀ {sc : List (Str × α)} {i : Nat} {x : Str} {k : α}, (sc.map (·.1)).Nodup → sc[i]? = some (x, k) → sc.lookup x = some k
  | (y, k') :: r, 0, x, k, _, e => by
    have := Option.some.inj e
    cases this
    simp
  | (y, k') :: r, i + 1, x, k, hn, e => by
    have e' : r[i]? = some (x, k) := by simpa using e
    have h1 : y ∉ r.map (·.1) := (List.nodup_cons.mp hn).1
    have h2 : x ∈ r.map (·.1) := List.mem_map.mpr ⟨(x, k), List.mem_of_getElem? e', rfl⟩
    have : (x == y) = false := by
      cases q : x == y with
      | false => rfl
      | true => exact absurd (eq_of_beq q ▸ h2) h1
    rw [List.lookup_cons, this]
    exact lookup_at (List.nodup_cons.mp hn).2 e'
theorem idx_at {α : Type} {sc : List (Str × α)} {i j : Nat} {x : Str} {k k' : α} (hn : (sc.map (·.1)).Nodup) (e : sc[i]? = some (x, k)) (e' : sc[j]? = some (x, k')) : i = j := by
  have h1 : (sc.map (·.1))[i]? = some x := by rw [List.getElem?_map, e]; rfl
  have h2 : (sc.map (·.1))[j]? = some x := by rw [List.getElem?_map, e']; rfl
  obtain ⟨hi, _⟩ := List.getElem?_eq_some_iff.mp h1
  exact (List.getElem?_inj hi hn).mp (h1.trans h2.symm)
theorem EnvV.setL {i : Nat} {x : Str} {v : VV} {wv : Value} (V : EnvV TT env ρ ok E h) (I : TT.Inv h) (hn : (env.scope.names.map (·.1)).Nodup) (hi : env.scope.names[i]? = some (x, .local))
    (hL : ¬ ok env.locals) (hc : ClN env (· ≠ env.locals)) {m : Str → Option Value} (hm : ∀ (i : Nat) x v, env.scope.names[i]? = some (x, .local) → E[i]? = some (some v) → ∃ w, m x = some w ∧ VR h ρ ok v w)
    (hn' : h'.Ns env.locals fun y => if y = x then some wv else m y) (k : KP (TT.TB ++ [env.locals]) h h') (q : VR h ρ ok v wv) : EnvV TT env ρ ok (E.set i (some v)) h' where
  kind := V.kind
  glo := V.glo
  blt := V.blt
  lTB := V.lTB
  ns := by
    have hX : ∀ b ∈ [env.locals], ¬ ok b := fun b hb => by rw [List.mem_singleton.mp hb]; exact hL
    refine ⟨_, hn', fun j y u e1 e2 => ?_⟩
    by_cases hj : i = j
    · subst hj
      rw [hi] at e1; cases e1
      obtain ⟨hl, e2⟩ := List.getElem?_eq_some_iff.mp e2
      rw [List.getElem_set_self] at e2
      cases e2
      exact ⟨wv, if_pos rfl, q.keepX hX k I⟩
    · rw [List.getElem?_set_ne hj] at e2
      obtain ⟨w, a, b⟩ := hm j y u e1 e2
      refine ⟨w, ?_, b.keepX hX k I⟩
      show (if y = x then some wv else m y) = _
      rw [if_neg (fun e => hj (idx_at hn hi (e ▸ e1)))]
      exact a
  cells := fun j y kd e hk => by
    have hX : ∀ b ∈ [env.locals], ¬ ok b := fun b hb => by rw [List.mem_singleton.mp hb]; exact hL
    obtain ⟨a, o, v₀, e1, e2, e3, e4, r⟩ := V.cells j y kd e hk
    refine ⟨a, o, v₀, e1, k a o (fun q => (List.mem_append.mp q).elim e3 fun q => hc j y kd a e hk e1 (List.mem_singleton.mp q)) e2, e3, e4, fun u eu => ?_⟩
    have hj : i ≠ j := by
      rintro rfl
      rw [hi] at e
      cases e
      rcases hk with hk | hk <;> cases hk
    rw [List.getElem?_set_ne hj] at eu
    obtain ⟨w, p, q⟩ := r u eu
    exact ⟨w, p, q.keepX hX k I⟩
theorem EnvV.setC {i : Nat} {x : Str} {c : Addr} {v : VV} {wv : Value} (V : EnvV TT env ρ ok E h) (I : TT.Inv h) (hn : (env.scope.names.map (·.1)).Nodup) (hi : env.scope.names[i]? = some (x, .cell))
    (he : env.cells.lookup x = some c) (hC : ¬ ok c) (hl : c ≠ env.locals) (hinj : ∀ y a, env.cells.lookup y = some a → a = c → y = x) (hT : c ∉ TT.TB)
    (hn' : h'.IsCell c (some wv)) (k : KP (TT.TB ++ [c]) h h') (q : VR h ρ ok v wv) : EnvV TT env ρ ok (E.set i (some v)) h' where
  kind := V.kind
  glo := V.glo
  blt := V.blt
  lTB := V.lTB
  ns := by
    have hX : ∀ b ∈ [c], ¬ ok b := fun b hb => by rw [List.mem_singleton.mp hb]; exact hC
    obtain ⟨m, hm, r⟩ := V.ns
    refine ⟨m, nsAt hm fun o e => k _ o (fun q => (List.mem_append.mp q).elim V.lTB fun q => hl (List.mem_singleton.mp q).symm) e, fun j y u e1 e2 => ?_⟩
    have hj : i ≠ j := by
      rintro rfl
      rw [hi] at e1; cases e1
    rw [List.getElem?_set_ne hj] at e2
    obtain ⟨w, a, b⟩ := r j y u e1 e2
    exact ⟨w, a, b.keepX hX k I⟩
  cells := fun j y kd e hk => by
    have hX : ∀ b ∈ [c], ¬ ok b := fun b hb => by rw [List.mem_singleton.mp hb]; exact hC
    by_cases hj : i = j
    · subst hj
      rw [hi] at e
      cases e
      obtain ⟨o, ho, hd⟩ := hn'
      refine ⟨c, o, _, he, ho, hT, hd, fun u eu => ?_⟩
      obtain ⟨hl, e2⟩ := List.getElem?_eq_some_iff.mp eu
      rw [List.getElem_set_self] at e2
      cases e2
      exact ⟨wv, rfl, q.keepX hX k I⟩
    · obtain ⟨a, o, v₀, e1, e2, e3, e4, r⟩ := V.cells j y kd e hk
      have hac : a ≠ c := fun q => hj (idx_at hn hi ((hinj y a e1 q) ▸ e))
      refine ⟨a, o, v₀, e1, k a o (fun q => (List.mem_append.mp q).elim e3 fun q => hac (List.mem_singleton.mp q)) e2, e3, e4, fun u eu => ?_⟩
      rw [List.getElem?_set_ne hj] at eu
      obtain ⟨w, p, q⟩ := r u eu
      exact ⟨w, p, q.keepX hX k I⟩

structure Frm (TT : Tabs) (B0 : Heap) (ρ : List Addr) (ok : Addr → Prop) (env : Env) (fn : Bool) (M : List Addr) : Prop where
  ap : Apart B0 ρ ok M
  tb : ∀ b ∈ M, b ∉ TT.TB
  lM : env.locals ∈ M
  cl : ClN env (· ≠ env.locals)
  cM : fn = true → ∀ (i : Nat) x a, env.scope.names[i]? = some (x, .cell) → env.cells.lookup x = some a → a ∈ M ∧ ∀ y, env.cells.lookup y = some a → y = x

inductive Tg where
  | nm (i : Nat)
  | tp (is : List Nat)
noncomputable def setL : List Nat → List VV → Lo → Lo
  | i :: is, x :: xs, E => setL is xs (E.set i (some x))
  | _, _, E => E
noncomputable def bindT : Tg → VV → Lo → Option Lo
  | .nm i, v, E => some (E.set i (some v))
  | .tp is, .tup xs, E => if is.length = xs.length then some (setL is xs E) else none
  | _, _, _ => none
inductive NmM (sc : Sc) (fn : Bool) : Expr → Nat → Prop
  | loc {x : Str} {pos : Pos} {i : Nat} : sc[i]? = some (x, .local) → NmM sc fn (.Name x pos) i
  | cel {x : Str} {pos : Pos} {i : Nat} : fn = true → sc[i]? = some (x, .cell) → NmM sc fn (.Name x pos) i
inductive NmsM (sc : Sc) (fn : Bool) : List Expr → List Nat → Prop
  | nil : NmsM sc fn [] []
  | cons {e : Expr} {es : List Expr} {i : Nat} {is : List Nat} : NmM sc fn e i → NmsM sc fn es is → NmsM sc fn (e :: es) (i :: is)
inductive TgM (sc : Sc) (fn : Bool) : Expr → Tg → Prop
  | nm {e : Expr} {i : Nat} : NmM sc fn e i → TgM sc fn e (.nm i)
  | tp {es : List Expr} {k : Nat} {pos : Pos} {is : List Nat} : NmsM sc fn es is → TgM sc fn (.Tuple es k pos) (.tp is)
end

section
variable {prog : Program} {w : World} {TT : Tabs} {B0 : Heap} {n : Nat} {sc : Sc}
theorem st_store {A : Around} {env : Env} {ρ : List Addr} {ok : Addr → Prop} {H : Hp} {E : Lo} {s : Shared} {fn : Bool} {M : List Addr} {x : Str} {pos : Pos} {i : Nat} {v : VV} {wv : Value} (S : SV0 TT B0 ρ ok H s.heap) (V : EnvV TT env ρ ok E s.heap)
    (F : Frm TT B0 ρ ok env fn M) (hn : (env.scope.names.map (·.1)).Nodup) (ht : NmM env.scope.names fn (.Name x pos) i) (q : VR s.heap ρ ok v wv) {Q : Unit → Shared → Prop} {Err : Value → Shared → Prop}
    (P : ∀ h' tk, KP (TT.TB ++ M) s.heap h' → SV0 TT B0 ρ ok H h' → EnvV TT env ρ ok (E.set i (some v)) h' → Q () { s with heap := h', toks := tk }) : wpAny (model prog w) A (storeName env x wv) Q Err s := by
  cases ht with
  | loc hi =>
    obtain ⟨m, hm, r⟩ := V.ns
    have hk : env.kindOf _ = some .local := lookup_at hn hi
    have hp : (env.scope.kind == .class || (env.scope.kind == .module && env.locals != env.globals)) = false := by rw [V.kind]; rfl
    refine wpAny_storeName_local hk hm (fun h' hn' hs => ?_) hp
    have kk : KP (TT.TB ++ [env.locals]) s.heap h' := KP.ofBut fun b o hb e => hs.extBut b o (fun q => hb (List.mem_singleton.mpr q)) e
    have sub : ∀ b ∈ [env.locals], b ∈ M := fun b hb => by rw [List.mem_singleton.mp hb]; exact F.lM
    have i' : TT.Inv h' := TT.oneNs S.good.inv V.lTB hm fun b o hb e => hs.extBut b o hb e
    have S' := S.keepX (F.ap.sub sub) kk i' fun b hb => by
      rw [List.mem_singleton.mp hb]
      obtain ⟨o, _, _, e, _⟩ := hn'
      rw [e]; nofun
    exact P h' _ (kk.inX sub) S' (V.setL S.good.inv hn hi (F.ap.ok _ F.lM) F.cl r hn' kk q)
  | cel hf hi =>
    have hk : env.kindOf _ = some .cell := lookup_at hn hi
    obtain ⟨c, o, v₀, e1, e2, e3, e4, _⟩ := V.cells _ _ _ hi (.inl rfl)
    obtain ⟨cM, inj⟩ := F.cM hf _ _ _ hi e1
    refine wpAny_storeName_cell V.kind hk e1 ⟨o, e2, e4⟩ fun h' hn' hs => ?_
    have kk : KP (TT.TB ++ [c]) s.heap h' := KP.ofBut fun b o hb e => hs.extBut b o (fun q => hb (List.mem_singleton.mpr q)) e
    have sub : ∀ b ∈ [c], b ∈ M := fun b hb => by rw [List.mem_singleton.mp hb]; exact cM
    have i' : TT.Inv h' := TT.one S.good.inv e3 (fun o' e' => .of fun vs hd => (by rw [e2] at e'; cases e'; rw [e4] at hd; cases hd)) fun b o hb e => hs.extBut b o hb e
    have S' := S.keepX (F.ap.sub sub) kk i' fun b hb => by
      rw [List.mem_singleton.mp hb]
      obtain ⟨o, e, _⟩ := hn'
      rw [e]; nofun
    exact P h' s.toks (kk.inX sub) S' (V.setC S.good.inv hn hi e1 (F.ap.ok _ cM) (F.cl _ _ _ _ hi (.inl rfl) e1) (fun y a ey ea => inj y (ea ▸ ey)) e3 hn' kk q)
theorem NmM.name {fn : Bool} {e : Expr} {i : Nat} (h : NmM sc fn e i) : ∃ x pos, e = .Name x pos := by
  cases h
  · exact ⟨_, _, rfl⟩
  · exact ⟨_, _, rfl⟩
theorem st_name {A : Around} {env : Env} {ρ : List Addr} {ok : Addr → Prop} {H : Hp} {E : Lo} {s : Shared} {fn : Bool} {M : List Addr} {e : Expr} {i : Nat} {v : VV} {wv : Value} (S : SV0 TT B0 ρ ok H s.heap) (V : EnvV TT env ρ ok E s.heap)
    (F : Frm TT B0 ρ ok env fn M) (hn : (env.scope.names.map (·.1)).Nodup) (ht : NmM env.scope.names fn e i) (q : VR s.heap ρ ok v wv) {Q : Unit → Shared → Prop} {Err : Value → Shared → Prop}
    (P : ∀ h' tk, KP (TT.TB ++ M) s.heap h' → SV0 TT B0 ρ ok H h' → EnvV TT env ρ ok (E.set i (some v)) h' → Q () { s with heap := h', toks := tk }) : wpAny (model prog w) A (assign e env wv) Q Err s := by
  obtain ⟨x, pos, rfl⟩ := ht.name
  exact wpAny_assign_Name (st_store S V F hn ht q P)

theorem assignEach_names {fn : Bool} : ∀ {es : List Expr} {is : List Nat} (env : Env), NmsM sc fn es is → assignEach es env = es.map fun e => (false, assign e env)
  | _, _, _, .nil => rfl
  | _, _, env, .cons h r => by
    rw [List.map_cons, ← assignEach_names env r]
    cases h <;> rfl
theorem st_names {A : Around} {env : Env} {ρ : List Addr} {ok : Addr → Prop} {H : Hp} {s : Shared} {fn : Bool} {M : List Addr} (F : Frm TT B0 ρ ok env fn M) (hn : (env.scope.names.map (·.1)).Nodup) {Q : Unit → Shared → Prop} {Err : Value → Shared → Prop} :
    ∀ {es : List Expr} {is : List Nat} {vs : List VV} {ws : List Value} {E : Lo} {s : Shared}, NmsM env.scope.names fn es is → SV0 TT B0 ρ ok H s.heap → EnvV TT env ρ ok E s.heap → is.length = vs.length → VRs s.heap ρ ok vs ws →
    (∀ h' tk, KP (TT.TB ++ M) s.heap h' → SV0 TT B0 ρ ok H h' → EnvV TT env ρ ok (setL is vs E) h' → Q () { s with heap := h', toks := tk }) → wpAny (model prog w) A (assignInOrder (es.map fun e => assign e env) ws) Q Err s
  | _, _, _, _, E, s, .nil, S, V, hl, q, P => by
    exact assignInOrder_nil (P s.heap s.toks (fun _ _ _ e => e) S (by
      unfold setL; exact V))
  | _, _, _, _, E, s, .cons h r, S, V, hl, q, P => by
    cases q with
    | nil => cases hl
    | cons q1 q2 =>
    refine assignInOrder_cons (st_name S V F hn h q1 fun h₁ tk₁ k₁ S₁ V₁ => ?_)
    refine st_names (s := { s with heap := h₁, toks := tk₁ }) F hn r S₁ V₁ (by simpa using hl) (q2.keepX F.ap.ok k₁ S.good.inv) fun h₂ tk₂ k₂ S₂ V₂ => ?_
    exact P h₂ tk₂ (k₁.trans k₂) S₂ V₂
theorem st_tg {A : Around} {env : Env} {ρ : List Addr} {ok : Addr → Prop} {H : Hp} {E E' : Lo} {s : Shared} {fn : Bool} {M : List Addr} {e : Expr} {t : Tg} {v : VV} {wv : Value} (hh : A.handled = none) (S : SV0 TT B0 ρ ok H s.heap) (V : EnvV TT env ρ ok E s.heap)
    (F : Frm TT B0 ρ ok env fn M) (hn : (env.scope.names.map (·.1)).Nodup) (ht : TgM env.scope.names fn e t) (q : VR s.heap ρ ok v wv) (eb : bindT t v E = some E') {Q : Unit → Shared → Prop} {Err : Value → Shared → Prop}
    (P : ∀ h' tk, KP (TT.TB ++ M) s.heap h' → SV0 TT B0 ρ ok H h' → EnvV TT env ρ ok E' h' → Q () { s with heap := h', toks := tk }) : wpAny (model prog w) A (assign e env wv) Q Err s := by
  cases ht with
  | nm hi => cases eb; exact st_name S V F hn hi q P
  | @tp es _ _ is hs =>
    unfold bindT at eb
    split at eb
    · rename_i e1; cases e1
    · rename_i e1
      cases e1
      split at eb
      · rename_i hl
        cases eb
        obtain ⟨l, ws, k, rfl, h1, o1, r⟩ := q.tupI
        have hms := assignEach_names env hs
        have hlen : (assignEach es env).length = ws.toArray.size := by
          rw [hms, List.length_map, List.size_toArray, ← r.length, ← hl]
          clear hms hl P
          induction hs with
          | nil => rfl
          | cons _ _ ih => rw [List.length_cons, List.length_cons, ih]
        refine wpAny_assign_Tuple (items := ws.toArray) hh ⟨_, h1, rfl, k, rfl⟩ hlen (by rw [hms, List.findIdx?_map]; simp) fun h₁ k₁ => ?_
        rw [hms, List.map_map]
        have kp : ∀ b o, s.heap.get? b = some o → h₁.get? b = some o := fun b o e => k₁ b o (Nat.ne_of_lt (Heap.lt_size e)) e
        have i₁ := TT.mono _ _ kp S.good.inv
        refine st_names (s := { s with heap := h₁ }) F hn hs (S.keep (KP.of kp) i₁) (V.keep S.good.inv (KP.of kp)) hl (r.keep (KP.of kp) S.good.inv) fun h₂ tk₂ k₂ S₂ V₂ => ?_
        exact P h₂ tk₂ (((KP.of kp).toX M).trans k₂) S₂ V₂
      · cases eb
    · cases eb
end
end Mine
namespace Mine

section
variable (prog : Program) (w : World) (TT : Tabs) (B0 : Heap)
noncomputable def DenIt (imm : Bool) (n : Nat) (sc : Sc) (e : Expr) (f : Lo → Hp → Option (List VV)) : Prop :=
  ∀ (A : Around) (env : Env) (ρ : List Addr) (ok : Addr → Prop) (H : Hp) (E : Lo) (s : Shared), Bud A n → env.scope.names = sc → SV0 TT B0 ρ ok H s.heap → EnvV TT env ρ ok E s.heap →
    ∀ xs, f E H = some xs → ∀ (Q Err : Value → Shared → Prop), (∀ I fp Pr St h' tk, s.heap.get? I = none → KP TT.TB s.heap h' → TT.Inv h' → Itr prog w A ρ ok imm xs I fp Pr St h' → Q (.ref I) { s with heap := h', toks := tk }) →
      wpAny (model prog w) A (eval e env) (fun x s₁ => wpAny (model prog w) A (pyIter x) Q Err s₁) Err s
end

section
variable {prog : Program} {w : World} {TT : Tabs} {B0 : Heap} {n : Nat} {sc : Sc}
noncomputable def dIt (f : EvF) : Lo → Hp → Option (List VV) := fun E H => (f E H).bind fun v => iterOf v H
noncomputable def dItM (f : EvF) : Lo → Hp → Option (List VV) := fun E H => (f E H).bind fun v => iterMu v H
theorem it_e {e : Expr} {f : EvF} (hf : DenE prog w TT B0 n sc e f) : DenIt prog w TT B0 true n sc e (dIt f) := by
  intro A env ρ ok H E s B hs S V xs e Q Err P
  refine bindSome e fun v ev e => ?_
  refine hf A env ρ ok H E s B hs S V v ev _ _ fun wx h₁ tk₁ k₁ i₁ vx => ?_
  refine iter_v (s := { s with heap := h₁, toks := tk₁ }) B (S.keep k₁ i₁) vx e fun I fp Pr St h₂ tk₂ h1 h2 h3 X => ?_
  exact P I fp Pr St h₂ tk₂ (k₁.free i₁ h1) (k₁.trans (KP.of h2)) h3 X
theorem it_m {e : Expr} {f : EvF} (hf : DenE prog w TT B0 n sc e f) : DenIt prog w TT B0 false n sc e (dItM f) := by
  intro A env ρ ok H E s B hs S V xs e Q Err P
  refine bindSome e fun v ev e => ?_
  refine hf A env ρ ok H E s B hs S V v ev _ _ fun wx h₁ tk₁ k₁ i₁ vx => ?_
  refine iter_mu (s := { s with heap := h₁, toks := tk₁ }) B (S.keep k₁ i₁) vx e fun I fp Pr St h₂ tk₂ h1 h2 h3 X => ?_
  exact P I fp Pr St h₂ tk₂ (k₁.free i₁ h1) (k₁.trans (KP.of h2)) h3 X

theorem Good.old {h : Heap} (g : Good TT B0 h) {a : Addr} (e : h.get? a = none) : B0.get? a = none := by
  cases q : B0.get? a with
  | none => rfl
  | some o =>
    by_cases ht : a ∈ TT.TB
    · obtain ⟨o', e', _⟩ := TT.there h g.inv a ht
      rw [e] at e'; cases e'
    · have := g.keep a o ht q
      rw [e] at this; cases this
theorem SV0.live {ρ : List Addr} {ok : Addr → Prop} {H : Hp} {h : Heap} (S : SV0 TT B0 ρ ok H h) {a : Addr} (ha : a ∈ ρ) : ∃ o, h.get? a = some o := by
  obtain ⟨i, hi⟩ := List.getElem?_of_mem ha
  have hl : i < H.length := by rw [← S.len]; exact (List.getElem?_eq_some_iff.mp hi).1
  obtain ⟨a', e', o⟩ := S.objs i _ (List.getElem?_eq_getElem hl)
  rw [hi] at e'; cases e'
  cases q : H[i] with
  | list xs => rw [q] at o; obtain ⟨ws, n, e, _⟩ := o; exact ⟨_, e⟩
  | ns fs => rw [q] at o; obtain ⟨es, n, e, _⟩ := o; exact ⟨_, e⟩

structure G where
  tg : Tg
  it : Lo → Hp → Option (List VV)
  ifs : List TvF
noncomputable def loopG (body : Lo → List VV → Option (Lo × List VV)) (tg : Tg) (ifs : List TvF) (H : Hp) : List VV → Lo → List VV → Option (Lo × List VV)
  | [], E, acc => some (E, acc)
  | x :: xs, E, acc => (bindT tg x E).bind fun E1 => (tAnd ifs E1 H).bind fun c => if c = true then (body E1 acc).bind fun p => loopG body tg ifs H xs p.1 p.2 else loopG body tg ifs H xs E1 acc
noncomputable def compG (fe : EvF) (H : Hp) : List G → Lo → List VV → Option (Lo × List VV)
  | [], E, acc => if acc.length ≤ 1000000 then (fe E H).map fun v => (E, acc ++ [v]) else none
  | g :: gs, E, acc => (g.it E H).bind fun xs => loopG (compG fe H gs) g.tg g.ifs H xs E acc

inductive GsM (prog : Program) (w : World) (TT : Tabs) (B0 : Heap) (n : Nat) (sc : Sc) : List Comprehension → List G → Prop
  | nil : GsM prog w TT B0 n sc [] []
  | cons {target iter : Expr} {ifs : List Expr} {cs : List Comprehension} {g : G} {gs : List G} : TgM sc false target g.tg → DenIt prog w TT B0 false n sc iter g.it → DenTs prog w TT B0 n sc ifs g.ifs → (∀ env x, foldedSetIterable iter env x = pure x) →
      GsM prog w TT B0 n sc cs gs → GsM prog w TT B0 n sc (⟨target, iter, ifs, 0⟩ :: cs) (g :: gs)

theorem tests_v {ifs : List Expr} {fs : List TvF} (hf : DenTs prog w TT B0 n sc ifs fs) {A : Around} {env : Env} {ρ : List Addr} {ok : Addr → Prop} {H : Hp} {E : Lo} (B : Bud A n) (hs : env.scope.names = sc) :
    ∀ {s : Shared} {c : Bool}, SV0 TT B0 ρ ok H s.heap → EnvV TT env ρ ok E s.heap → tAnd fs E H = some c → ∀ {Q : Bool → Shared → Prop} {Err : Value → Shared → Prop}, (∀ h' tk, KP TT.TB s.heap h' → TT.Inv h' → Q c { s with heap := h', toks := tk }) →
      wpAny (model prog w) A (forIn ifs true fun c r => if r = true then do let ok ← isTrue c env (eval c env); pure (ForInStep.yield ok) else pure (ForInStep.yield r)) Q Err s := by
  have stop : ∀ (es : List Expr) (s : Shared) (Q : Bool → Shared → Prop) (Err : Value → Shared → Prop), Q false s → wpAny (model prog w) A (forIn es false fun c r => if r = true then do let ok ← isTrue c env (eval c env); pure (ForInStep.yield ok) else pure (ForInStep.yield r)) Q Err s := by
    intro es
    induction es with
    | nil => intro s Q Err h; rw [List.forIn_nil]; exact wpAny_pure h
    | cons e es ih => intro s Q Err h; rw [List.forIn_cons]; exact wpAny_bind (wpAny_pure (ih s Q Err h))
  induction hf with
  | nil =>
    intro s c S V e Q Err P
    cases e
    rw [List.forIn_nil]
    exact wpAny_pure (P s.heap s.toks (KP.refl _) S.good.inv)
  | cons h1 r ih =>
    intro s c S V e Q Err P
    simp only [tAnd] at e
    refine bindSome e fun x ex e => ?_
    rw [List.forIn_cons, if_pos rfl]
    refine wpAny_bind (wpAny_bind (h1 A env ρ ok H E s B hs S V x ex _ _ fun h₁ tk₁ k₁ i₁ => wpAny_pure ?_))
    cases x with
    | false => cases e; exact stop _ _ _ _ (P h₁ tk₁ k₁ i₁)
    | true => exact ih (s := { s with heap := h₁, toks := tk₁ }) (S.keep k₁ i₁) (V.keep S.good.inv k₁) e fun h₂ tk₂ k₂ i₂ => P h₂ tk₂ (k₁.trans k₂) i₂

section
variable {A : Around} {R : Result → Shared → Prop} {s : Shared} {elt target iter : Expr} {gens : List Comprehension} {ifs : List Expr} {scope : Scope} {pos : Pos} {d : Nat} {it acc : Value} {env : Env}
theorem start_c (hg : gens[d]? = some ⟨target, iter, ifs, 0⟩) (h0 : codeAny (model prog w) A (.compLoop (.ListComp elt gens scope pos) d it acc env) R s)
    (h : wpAny (model prog w) A (pyIter it) (fun it' s' => codeAny (model prog w) A (.compLoop (.ListComp elt gens scope pos) d it' acc env) R s') (notedBy (model prog w) A env fun x s' => R (.error x) s') s) :
    codeAny (model prog w) A (.compStart (.ListComp elt gens scope pos) d it acc env) R s := by
  refine codeAny_of_tree ?_
  show wpAny _ _ ((compStart (.ListComp elt gens scope pos) d it acc env).onRaise (fun x => do noteFrame x env; standAt theWindowsPlace)) _ _ s
  refine wpAny_notedAt ?_
  unfold compStart
  have hc : (clausesOf (.ListComp elt gens scope pos))[d]? = some ⟨target, iter, ifs, 0⟩ := hg
  simp only [hc]
  show wpAny _ _ (ask >>= _) _ _ s
  refine wpAny_bind (wpAny_askSetting (wpAny_ite ?_))
  split
  · first
      | exact wpAny_bind (wpAny_pure (wpAny_pure (And.intro rfl h0)))
      | exact wpAny_pure (And.intro rfl h0)
  · first
      | exact wpAny_bind (wpAny_rule (wpAny_bind (wpAny_standAt (wpAny_bind (wpAny_mono h (fun it' s' h' => wpAny_pure (And.intro rfl h')) fun _ _ x => x)))))
      | (refine wpAny_bind (wpAny_rule ?_); show wpAny _ _ (standAt iter.pos >>= _) _ _ s; exact wpAny_bind (wpAny_standAt (wpAny_bind (wpAny_mono h (fun it' s' h' => wpAny_pure (And.intro rfl h')) fun _ _ x => x))))

noncomputable def StepC (prog : Program) (w : World) (A : Around) (elt : Expr) (gens : List Comprehension) (scope : Scope) (pos : Pos) (d : Nat) (acc : Value) (env : Env) (K : Shared → Prop) (Err : Value → Shared → Prop) (s₄ : Shared) : Prop :=
  match gens[d + 1]? with
  | some g' => g'.is_async = 0 ∧ (∀ x, foldedSetIterable g'.iter env x = pure x) ∧ wpAny (model prog w) A (eval g'.iter env) (fun x s₅ => wpAny (model prog w) A (pyIter x) (fun it' s₆ =>
      codeAny (model prog w) A (.compStart (.ListComp elt gens scope pos) (d + 1) it' acc env) (fun r s' => match r with | .ok _ => K s' | .error e => cameBackBy (model prog w) A env Err e s') s₆)
      Err s₅) Err s₄
  | none => wpAny (model prog w) A (eval elt env) (fun x s₅ => wpAny (model prog w) A (call (.builtin "list.append") [acc, x]) (fun _ s₆ => K s₆) Err s₅) Err s₄
noncomputable def TurnC (prog : Program) (w : World) (A : Around) (elt target : Expr) (ifs : List Expr) (gens : List Comprehension) (scope : Scope) (pos : Pos) (d : Nat) (it acc : Value) (env : Env) (R : Result → Shared → Prop) (K : Shared → Prop) (Err : Value → Shared → Prop) (s : Shared) : Prop :=
  wpAny (model prog w) A (pyNext it) (fun r s₁ => match r with
      | none => R (.ok .next) s₁
      | some v => wpAny (model prog w) A (letOwnedTupleGo target it v) (fun _ s₂ => wpAny (model prog w) A (assign target env v) (fun _ s₃ =>
          wpAny (model prog w) A (forIn ifs true fun c r => if r = true then do let ok ← isTrue c env (eval c env); pure (ForInStep.yield ok) else pure (ForInStep.yield r)) (fun ok s₄ =>
            if ok = true then StepC prog w A elt gens scope pos d acc env K Err s₄ else K s₄) Err s₃) Err s₂) Err s₁) Err s
theorem turn_c {I : Nat → Shared → Prop} (hg : gens[d]? = some ⟨target, iter, ifs, 0⟩)
    (turn : ∀ n s, I n s → ∀ (K : Shared → Prop) (Err : Value → Shared → Prop), (∀ m s', m < n → I m s' → K s') → TurnC prog w A elt target ifs gens scope pos d it acc env R K Err s)
    (n : Nat) (h : I n s) : codeAny (model prog w) A (.compLoop (.ListComp elt gens scope pos) d it acc env) R s := by
  refine codeAny_loop rfl I (fun n s hI => ?_) n h
  show wpAny _ A ((compTurn (.ListComp elt gens scope pos) d it acc env).onRaise (fun x => do noteFrame x env; theTreesLotGoes x)) _ _ s
  refine wpAny_noted ?_
  unfold compTurn
  dsimp only
  rw [hg]
  refine wpAny_bind (wpAny_standAt (wpAny_bind (wpAny_mono (turn n s hI (fun s' => ∃ m, m < n ∧ I m s') _ fun m s' h1 h2 => ⟨m, h1, h2⟩) (fun r s₁ h₁ => ?_) fun _ _ h' => h')))
  cases r with
  | none => exact wpAny_pure h₁
  | some v =>
    refine wpAny_bind (wpAny_mono h₁ (fun _ s₂ h₂ => wpAny_bind (wpAny_mono h₂ (fun _ s₃ h₃ => wpAny_bind (wpAny_mono h₃ (fun ok s₄ h₄ => ?_) fun _ _ h' => h')) fun _ _ h' => h')) fun _ _ h' => h')
    cases ok with
    | false => exact wpAny_pure ⟨rfl, h₄⟩
    | true =>
      rw [if_pos rfl] at h₄
      unfold StepC at h₄
      cases hg' : gens[d + 1]? with
      | none =>
        rw [hg'] at h₄
        exact wpAny_bind (wpAny_bind (wpAny_mono h₄ (fun x s₅ h₅ => wpAny_bind (wpAny_mono h₅ (fun _ s₆ h₆ => wpAny_pure (wpAny_pure ⟨rfl, h₆⟩)) fun _ _ h' => h')) fun _ _ h' => h'))
      | some g' =>
        rw [hg'] at h₄
        obtain ⟨ha, hfold, h₄⟩ := h₄
        obtain ⟨t', i', fs', a'⟩ := g'
        simp only at ha hfold h₄
        subst ha
        refine wpAny_bind (wpAny_mono h₄ (fun x s₅ h₅ => ?_) fun _ _ h' => h')
        refine wpAny_bind (wpAny_standAt ?_)
        refine wpAny_bind (wpAny_of_eq (hfold x) ?_)
        refine wpAny_bind (wpAny_holding (wpAny_mono h₅ (fun it' s₆ h₆ => ?_) fun _ _ h' => h'))
        refine wpAny_bind (wpAny_runOwn (codeAny_mono h₆ fun r s' hr => ?_))
        cases r with
        | ok f => exact wpAny_pure ⟨rfl, hr⟩
        | error e => exact hr
end
end
end Mine
namespace Mine

noncomputable def AccAt (h : Heap) (ρ : List Addr) (ok : Addr → Prop) (D : Addr) (acc : List VV) : Prop := ∃ ws k, h.get? D = some (listO (List.toArray ws) k) ∧ VRs h ρ ok acc ws

section
variable {prog : Program} {w : World} {TT : Tabs} {B0 : Heap} {n : Nat} {sc : Sc}
theorem AccAt.keepX {h h' : Heap} {ρ : List Addr} {ok : Addr → Prop} {D : Addr} {acc : List VV} {X : List Addr} (a : AccAt h ρ ok D acc) (hD : D ∉ X) (hX : ∀ b ∈ X, ¬ ok b) (k : KP (TT.TB ++ X) h h') (i : TT.Inv h) : AccAt h' ρ ok D acc :=
  let ⟨ws, n, e, r⟩ := a; ⟨ws, n, k.at i hD (by nofun) e, r.keepX hX k i⟩
theorem AccAt.keep {h h' : Heap} {ρ : List Addr} {ok : Addr → Prop} {D : Addr} {acc : List VV} (a : AccAt h ρ ok D acc) (k : KP TT.TB h h') (i : TT.Inv h) : AccAt h' ρ ok D acc :=
  let ⟨ws, n, e, r⟩ := a; ⟨ws, n, k.get i (by nofun) e, r.keep k i⟩
theorem AccAt.okm {h : Heap} {ρ : List Addr} {ok ok' : Addr → Prop} {D : Addr} {acc : List VV} (a : AccAt h ρ ok D acc) (ho : ∀ a o, h.get? a = some o → ok a → ok' a) : AccAt h ρ ok' D acc :=
  let ⟨ws, n, e, r⟩ := a; ⟨ws, n, e, r.okm ho⟩

structure CP (TT : Tabs) (B0 : Heap) (ρ : List Addr) (ok : Addr → Prop) (env : Env) (D : Addr) (fn : Bool) (MM : List Addr) : Prop where
  frm : Frm TT B0 ρ ok env fn MM
  apD : Apart B0 ρ ok [D]
  tD : D ∉ TT.TB
  ne : D ∉ MM
  clD : ClN env (· ≠ D)

noncomputable def Without (ok : Addr → Prop) (I : Addr) : Addr → Prop := fun a => ok a ∧ a ≠ I

theorem Apart.without {ρ : List Addr} {ok : Addr → Prop} {X : List Addr} (a : Apart B0 ρ ok X) (I : Addr) : Apart B0 ρ (Without ok I) X := ⟨fun b q h => a.ok b q h.1, a.rho, a.old⟩
theorem CP.without {ρ : List Addr} {ok : Addr → Prop} {env : Env} {D : Addr} {fn : Bool} {MM : List Addr} (c : CP TT B0 ρ ok env D fn MM) (I : Addr) : CP TT B0 ρ (Without ok I) env D fn MM :=
  ⟨⟨c.frm.ap.without I, c.frm.tb, c.frm.lM, c.frm.cl, c.frm.cM⟩, c.apD.without I, c.tD, c.ne, c.clD⟩

theorem without_self {ok : Addr → Prop} {I : Addr} : ∀ b ∈ [I], ¬ Without ok I b := fun b q h => h.2 (List.mem_singleton.mp q)
theorem SV0.leave {ρ : List Addr} {ok : Addr → Prop} {H : Hp} {h h' : Heap} {I : Addr} (S : SV0 TT B0 ρ (Without ok I) H h) (okI : ok I) (hρ : I ∉ ρ) (hB : B0.get? I = none) (k : KP (TT.TB ++ [I]) h h') (i' : TT.Inv h') : SV0 TT B0 ρ ok H h' where
  good := ⟨fun b o n e => k b o (fun q => (List.mem_append.mp q).elim n fun q => by
    rw [List.mem_singleton.mp q, hB] at e
    cases e) (S.good.keep b o n e), i'⟩
  len := S.len
  objs := fun j vo e => let ⟨a, ea, o⟩ := S.objs j vo e; ⟨a, ea, (o.keepX (fun q => hρ (by rw [← List.mem_singleton.mp q]; exact List.mem_of_getElem? ea)) without_self k S.good.inv).okm fun _ _ _ h => h.1⟩
  free := fun a e => by
    by_cases ha : a = I
    · rw [ha]; exact okI
    · cases q : h.get? a with
      | none => exact (S.free a q).1
      | some o =>
        by_cases hT : a ∈ TT.TB
        · obtain ⟨o', e', _⟩ := TT.there h' i' a hT
          rw [e] at e'; cases e'
        · have := k a o (fun q => (List.mem_append.mp q).elim hT fun q => ha (List.mem_singleton.mp q)) q
          rw [e] at this; cases this

theorem NmM.up {fn : Bool} {e : Expr} {i : Nat} (h : NmM sc false e i) : NmM sc fn e i := by
  cases h with
  | loc h => exact .loc h
  | cel h _ => cases h
theorem NmsM.up {fn : Bool} {es : List Expr} {is : List Nat} (h : NmsM sc false es is) : NmsM sc fn es is := by
  induction h with
  | nil => exact .nil
  | cons h _ ih => exact .cons h.up ih
theorem TgM.up {fn : Bool} {e : Expr} {t : Tg} (h : TgM sc false e t) : TgM sc fn e t := by
  cases h with
  | nm h => exact .nm h.up
  | tp h => exact .tp h.up
noncomputable def StoT (prog : Program) (w : World) (TT : Tabs) (B0 : Heap) (A : Around) (env : Env) (MM ρ : List Addr) (ok : Addr → Prop) (target : Expr) (tg : Tg) : Prop :=
  ∀ (H : Hp) (E E' : Lo) (s : Shared) (v : VV) (wv : Value), SV0 TT B0 ρ ok H s.heap → EnvV TT env ρ ok E s.heap → VR s.heap ρ ok v wv → bindT tg v E = some E' → ∀ (Q : Unit → Shared → Prop) (Err : Value → Shared → Prop),
    (∀ h' tk, KP (TT.TB ++ MM) s.heap h' → SV0 TT B0 ρ ok H h' → EnvV TT env ρ ok E' h' → Q () { s with heap := h', toks := tk }) → wpAny (model prog w) A (assign target env wv) Q Err s
noncomputable def NmTp (target : Expr) : Prop := (∃ x pos, target = .Name x pos) ∨ ∃ es k pos, target = .Tuple es k pos
theorem TgM.nmTp {fn : Bool} {e : Expr} {t : Tg} (h : TgM sc fn e t) : NmTp e := by
  cases h with
  | nm h => exact .inl h.name
  | tp h => exact .inr ⟨_, _, _, rfl⟩
structure LC0 where
  i : Nat
  E : Lo
  acc : List VV
  h : Heap
  tk : Nat
structure LoopI (TT : Tabs) (B0 : Heap) (env : Env) (ρ : List Addr) (ok : Addr → Prop) (H : Hp) (MM : List Addr) (D I : Addr) (St : Nat → Heap → Prop) (F : Nat → Lo → List VV → Prop) (n : Nat) (h₀ : Heap) (x : LC0) : Prop where
  le : x.i ≤ n
  kp : KP (TT.TB ++ (MM ++ [D, I])) h₀ x.h
  s0 : SV0 TT B0 ρ (Without ok I) H x.h
  ev : EnvV TT env ρ (Without ok I) x.E x.h
  ac : AccAt x.h ρ (Without ok I) D x.acc
  st : St x.i x.h
  eq : F x.i x.E x.acc
theorem loop_gen {body : Lo → List VV → Option (Lo × List VV)} {elt target iter : Expr} {gens : List Comprehension} {ifs : List Expr} {scope : Scope} {pos : Pos} {d : Nat} {tg : Tg} {fi : List TvF} (hnd : (sc.map (·.1)).Nodup) (hg : gens[d]? = some ⟨target, iter, ifs, 0⟩)
    {fn : Bool} {MM : List Addr} (hnt : NmTp target) (hfi : DenTs prog w TT B0 n sc ifs fi) {A : Around} {env : Env} {ρ : List Addr} {ok : Addr → Prop} {H : Hp} {D : Addr} (B : Bud A n) (hs : env.scope.names = sc) (C : CP TT B0 ρ ok env D fn MM)
    {I : Addr} {fp : List Addr} {Pr : Nat → Value → Prop} {St : Nat → Heap → Prop} {xs : List VV} {s : Shared} {E E' : Lo} {acc acc' : List VV} {R : Result → Shared → Prop}
    (okI : ok I) (hIρ : I ∉ ρ) (hIB : B0.get? I = none) (hIT : I ∉ TT.TB) (clI : ClN env (· ≠ I)) (hst : StoT prog w TT B0 A env MM ρ (Without ok I) target tg) (X : Itr prog w A ρ ok false xs I fp Pr St s.heap) (S : SV0 TT B0 ρ (Without ok I) H s.heap)
    (V : EnvV TT env ρ (Without ok I) E s.heap) (AC : AccAt s.heap ρ (Without ok I) D acc) (hL : loopG body tg fi H xs E acc = some (E', acc'))
    (hbody : ∀ (s₄ : Shared) (E1 E2 : Lo) (acc1 acc2 : List VV) (K : Shared → Prop) (Err : Value → Shared → Prop), SV0 TT B0 ρ (Without ok I) H s₄.heap → EnvV TT env ρ (Without ok I) E1 s₄.heap → AccAt s₄.heap ρ (Without ok I) D acc1 → body E1 acc1 = some (E2, acc2) →
      (∀ h' tk, KP (TT.TB ++ (MM ++ [D])) s₄.heap h' → SV0 TT B0 ρ (Without ok I) H h' → EnvV TT env ρ (Without ok I) E2 h' → AccAt h' ρ (Without ok I) D acc2 → K { s₄ with heap := h', toks := tk }) →
      StepC prog w A elt gens scope pos d (.ref D) env K Err s₄)
    (hR : ∀ h' tk, KP (TT.TB ++ (MM ++ [D, I])) s.heap h' → SV0 TT B0 ρ ok H h' → EnvV TT env ρ ok E' h' → AccAt h' ρ ok D acc' → R (.ok .next) { s with heap := h', toks := tk }) :
    codeAny (model prog w) A (.compLoop (.ListComp elt gens scope pos) d (.ref I) (.ref D) env) R s := by
  have hIM : I ∉ MM := fun q => C.frm.ap.ok _ q okI
  have hIL : I ≠ env.locals := fun q => hIM (by rw [q]; exact C.frm.lM)
  have hID : I ≠ D := fun q => C.apD.ok _ (List.mem_singleton.mpr rfl) (q ▸ okI)
  have apI : Apart B0 ρ (Without ok I) [I] := ⟨without_self, fun b q => List.mem_singleton.mp q ▸ hIρ, fun b q => List.mem_singleton.mp q ▸ hIB⟩
  have C1 := C.without I
  have hX3 : ∀ b ∈ (MM ++ [D, I]), ¬ Without ok I b := fun b hb h => by
    rcases List.mem_append.mp hb with hb | hb
    · exact C.frm.ap.ok _ hb h.1
    · rcases List.mem_cons.mp hb with rfl | hb
      · exact C.apD.ok _ (List.mem_singleton.mpr rfl) h.1
      · exact h.2 (List.mem_singleton.mp hb)
  -- the places the iterator needs
  have fpn : ∀ b ∈ fp, b ∉ TT.TB ∧ b ∉ MM ∧ b ≠ D := fun b hb => by
    rcases X.fps b hb with rfl | ⟨o, e, hc, h⟩
    · exact ⟨hIT, hIM, hID⟩
    · refine ⟨notTab S.good.inv e hc, fun q => ?_, fun q => ?_⟩
      · exact h.elim (C.frm.ap.ok _ q) fun h => C.frm.ap.rho _ q h.2
      · subst q
        exact h.elim (C.apD.ok _ (List.mem_singleton.mpr rfl)) fun h => C.apD.rho _ (List.mem_singleton.mpr rfl) h.2
  refine turn_c (I := fun k s' => ∃ x : LC0, s' = { s with heap := x.h, toks := x.tk } ∧ k = xs.length - x.i ∧ LoopI TT B0 env ρ ok H MM D I St (fun i E1 acc1 => loopG body tg fi H (xs.drop i) E1 acc1 = some (E', acc')) xs.length s.heap x) hg ?_ xs.length
    ⟨⟨0, E, acc, s.heap, s.toks⟩, rfl, rfl, ⟨Nat.zero_le _, fun _ _ _ e => e, S, V, AC, X.st, hL⟩⟩
  rintro k s' ⟨⟨i, E1, acc1, h, tk⟩, rfl, rfl, J⟩ K Err hK
  have hi := J.le
  have kk := J.kp
  have S1 := J.s0
  have V1 := J.ev
  have AC1 := J.ac
  have st := J.st
  have hL1 := J.eq
  clear J
  dsimp only at hi kk S1 V1 AC1 st hL1
  unfold TurnC
  by_cases hlt : i < xs.length
  · rw [List.drop_eq_getElem_cons hlt] at hL1
    simp only [loopG] at hL1
    refine bindSome hL1 fun E2 eb hL1 => ?_
    refine bindSome hL1 fun c ec hL1 => ?_
    refine X.walk.item i _ _ _ hlt st fun v h₁ tk₁ hv st₁ k₁ => ?_
    dsimp only at k₁ ⊢
    have kI : KP (TT.TB ++ [I]) h h₁ := KP.ofBut k₁
    have i₁ : TT.Inv h₁ := TT.one S1.good.inv hIT (X.notCode st) fun b o hb e => k₁ b o (fun q => hb (List.mem_singleton.mp q)) e
    obtain ⟨nm, hnm, hcls⟩ := X.cls
    obtain ⟨oI, hoI, hcI, _⟩ := hcls _ _ st₁
    have S2 := S1.keepX apI kI i₁ fun b hb => by rw [List.mem_singleton.mp hb, hoI]; nofun
    have V2 := V1.keepX S1.good.inv apI.ok (fun q => hIL (List.mem_singleton.mp q).symm) (fun i x k a e hk el q => clI i x k a e hk el (List.mem_singleton.mp q)) kI
    have AC2 := AC1.keepX (fun q => hID (List.mem_singleton.mp q).symm) apI.ok kI S1.good.inv
    obtain ⟨x, hx, q⟩ := X.it i v hv
    have hxi : xs[i] = x := by rw [List.getElem?_eq_getElem hlt] at hx; exact Option.some.inj hx
    rw [hxi] at eb
    have kk₁ : KP (TT.TB ++ (MM ++ [D, I])) s.heap h₁ := kk.trans (kI.inX fun b hb => by simp [List.mem_singleton.mp hb])
    have q1 : VR h₁ ρ (Without ok I) x v := q.keepX hX3 kk₁ S.good.inv
    have go : ∀ {Q : Unit → Shared → Prop} {Err : Value → Shared → Prop}, Q () { s with heap := h₁, toks := tk₁ } → wpAny (model prog w) A (letOwnedTupleGo target (.ref I) v) Q Err { s with heap := h₁, toks := tk₁ } := by
      intro Q Err hQ
      rcases hnt with ⟨_, _, rfl⟩ | ⟨_, _, _, rfl⟩
      · exact wpAny_pure hQ
      · exact wpAny_ltg (s := { s with heap := h₁, toks := tk₁ }) hoI hcI hnm hQ
    refine go ?_
    refine hst H E1 E2 { s with heap := h₁, toks := tk₁ } x v S2 V2 q1 eb _ _ fun h₂ tk₂ k₂ S3 V3 => ?_
    have AC3 := AC2.keepX C.ne C1.frm.ap.ok k₂ i₁
    refine tests_v hfi (s := { s with heap := h₂, toks := tk₂ }) B hs S3 V3 ec fun h₃ tk₃ k₃ i₃ => ?_
    have S4 := S3.keep k₃ i₃
    have V4 := V3.keep S3.good.inv k₃
    have AC4 := AC3.keep k₃ S3.good.inv
    have kL : KP (TT.TB ++ MM) h₁ h₃ := k₂.trans (k₃.toX _)
    have st₃ : St (i + 1) h₃ := X.walk.frame _ _ _ st₁ fun b hb o e => kL b o (fun q => (List.mem_append.mp q).elim (fpn b hb).1 (fpn b hb).2.1) e
    have kk₃ : KP (TT.TB ++ (MM ++ [D, I])) s.heap h₃ := kk₁.trans (kL.inX fun b hb => List.mem_append_left _ hb)
    cases c with
    | false =>
      refine hK (xs.length - (i + 1)) _ (Nat.sub_succ_lt_self xs.length i hlt) ⟨⟨i + 1, E2, acc1, h₃, tk₃⟩, rfl, rfl, ⟨hlt, kk₃, S4, V4, AC4, st₃, by simpa using hL1⟩⟩
    | true =>
      rw [if_pos rfl] at hL1 ⊢
      obtain ⟨⟨E3, acc3⟩, ebody, hL1⟩ := Option.bind_eq_some_iff.mp hL1
      refine hbody { s with heap := h₃, toks := tk₃ } E2 E3 acc1 acc3 _ _ S4 V4 AC4 ebody fun h₄ tk₄ k₄ S5 V5 AC5 => hK (xs.length - (i + 1)) _ (Nat.sub_succ_lt_self xs.length i hlt) ?_
      refine ⟨⟨i + 1, E3, acc3, h₄, tk₄⟩, rfl, rfl, ⟨hlt, kk₃.trans (k₄.inX fun b hb => ?_), S5, V5, AC5, X.walk.frame _ _ _ st₃ fun b hb o e => k₄ b o (fun q => ?_) e, hL1⟩⟩
      · rcases List.mem_append.mp hb with hb | hb
        · exact List.mem_append_left _ hb
        · simp [List.mem_singleton.mp hb]
      · rcases List.mem_append.mp q with q | q
        · exact (fpn b hb).1 q
        · rcases List.mem_append.mp q with q | q
          · exact (fpn b hb).2.1 q
          · exact (fpn b hb).2.2 (List.mem_singleton.mp q)
  · have hie : i = xs.length := by omega
    subst hie
    rw [List.drop_length] at hL1
    cases hL1
    refine X.walk.done _ _ _ st fun h₁ tk₁ k₁ => ?_
    dsimp only at k₁ ⊢
    have kI : KP (TT.TB ++ [I]) h h₁ := KP.ofBut k₁
    have i₁ : TT.Inv h₁ := TT.one S1.good.inv hIT (X.notCode st) fun b o hb e => k₁ b o (fun q => hb (List.mem_singleton.mp q)) e
    refine hR h₁ tk₁ (kk.trans (kI.inX fun b hb => by simp [List.mem_singleton.mp hb])) (S1.leave okI hIρ hIB kI i₁) ?_ ?_
    · exact (V1.keepX S1.good.inv apI.ok (fun q => hIL (List.mem_singleton.mp q).symm) (fun i x k a e hk el q => clI i x k a e hk el (List.mem_singleton.mp q)) kI).okm fun _ _ _ h => h.1
    · exact (AC1.keepX (fun q => hID (List.mem_singleton.mp q).symm) apI.ok kI S1.good.inv).okm fun _ _ _ h => h.1

theorem loop_one {fn : Bool} {MM : List Addr} {elt : Expr} {fe : EvF} (he : DenE prog w TT B0 n sc elt fe) {gens : List Comprehension} {scope : Scope} {pos : Pos} (hnd : (sc.map (·.1)).Nodup)
    {d : Nat} {target iter : Expr} {ifs : List Expr} {tg : Tg} {fi : List TvF} (hdr : gens.drop d = [⟨target, iter, ifs, 0⟩]) (hnt : NmTp target) (hfi : DenTs prog w TT B0 n sc ifs fi)
    {A : Around} {env : Env} {ρ : List Addr} {ok : Addr → Prop} {H : Hp} {D : Addr} (B : Bud A n) (hs : env.scope.names = sc) (C : CP TT B0 ρ ok env D fn MM)
    {I : Addr} {fp : List Addr} {Pr : Nat → Value → Prop} {St : Nat → Heap → Prop} {xs : List VV} {s : Shared} {E E' : Lo} {acc acc' : List VV} {R : Result → Shared → Prop}
    (okI : ok I) (hIρ : I ∉ ρ) (hIB : B0.get? I = none) (hIT : I ∉ TT.TB) (clI : ClN env (· ≠ I)) (hst : StoT prog w TT B0 A env MM ρ (Without ok I) target tg) (X : Itr prog w A ρ ok false xs I fp Pr St s.heap) (S : SV0 TT B0 ρ (Without ok I) H s.heap) (V : EnvV TT env ρ (Without ok I) E s.heap) (AC : AccAt s.heap ρ (Without ok I) D acc)
    (hL : loopG (compG fe H []) tg fi H xs E acc = some (E', acc'))
    (hR : ∀ h' tk, KP (TT.TB ++ (MM ++ [D, I])) s.heap h' → SV0 TT B0 ρ ok H h' → EnvV TT env ρ ok E' h' → AccAt h' ρ ok D acc' → R (.ok .next) { s with heap := h', toks := tk }) :
    codeAny (model prog w) A (.compLoop (.ListComp elt gens scope pos) d (.ref I) (.ref D) env) R s := by
  have hg : gens[d]? = some ⟨target, iter, ifs, 0⟩ := by
    have : (gens.drop d)[0]? = some ⟨target, iter, ifs, 0⟩ := by rw [hdr]; rfl
    simpa using this
  have hg1 : gens[d + 1]? = none := by
    have : (gens.drop d)[1]? = none := by rw [hdr]; rfl
    simpa using this
  refine loop_gen hnd hg hnt hfi B hs C okI hIρ hIB hIT clI hst X S V AC hL (fun s₄ E1 E2 acc1 acc2 K Err S4 V4 AC4 e P => ?_) hR
  unfold compG at e
  split at e
  · rename_i hz
    refine mapSome e fun v hv e => ?_
    cases e
    have C1 := C.without I
    show StepC _ _ _ _ _ _ _ _ _ _ _ _ _
    unfold StepC
    rw [hg1]
    refine he A env ρ (Without ok I) H E1 s₄ B hs S4 V4 v hv _ _ fun wv h₁ tk₁ k₁ i₁ q => ?_
    obtain ⟨ws, k, e1, r⟩ := AC4.keep k₁ S4.good.inv
    have hsz : ws.toArray.size ≤ sizeLine := by have := r.length; rw [List.size_toArray, ← this]; simp only [sizeLine]; omega
    refine wpAny_list_append_plain (hsz := hsz) (s := { s₄ with heap := h₁, toks := tk₁ }) ⟨k, e1⟩ fun h₂ hl₂ hs₂ => ?_
    obtain ⟨k', e2⟩ := hl₂
    have kD : KP (TT.TB ++ [D]) h₁ h₂ := KP.ofBut fun b o hb e => hs₂.extBut b o (fun q => hb (List.mem_singleton.mpr q)) e
    have i₂ : TT.Inv h₂ := TT.one i₁ C.tD (fun o e => .of fun vs hd => (by rw [e1] at e; cases e; cases hd)) fun b o hb e => hs₂.extBut b o hb e
    have S5 := (S4.keep k₁ i₁).keepX C1.apD kD i₂ fun b hb => by rw [List.mem_singleton.mp hb, e2]; nofun
    have V5 := (V4.keep S4.good.inv k₁).keepX i₁ C1.apD.ok (fun q => C.ne (by rw [← List.mem_singleton.mp q]; exact C.frm.lM)) (fun i x k a e hk el q => C.clD i x k a e hk el (List.mem_singleton.mp q)) kD
    refine P h₂ tk₁ ((k₁.toX _).trans (kD.inX fun b hb => by simp [List.mem_singleton.mp hb])) S5 V5 ⟨ws ++ [wv], k', ?_, (r.keepX C1.apD.ok kD i₁).append (.cons (q.keepX C1.apD.ok kD i₁) .nil)⟩
    rw [e2]
    have : ws.toArray.push wv = (ws ++ [wv]).toArray := by simp
    rw [this]
  · cases e
theorem loop_c {fn : Bool} {MM : List Addr} {elt : Expr} {fe : EvF} (he : DenE prog w TT B0 n sc elt fe) {gens : List Comprehension} {scope : Scope} {pos : Pos} (hnd : (sc.map (·.1)).Nodup) :
    ∀ (gs : List G) (cs : List Comprehension), GsM prog w TT B0 n sc cs gs → ∀ (d : Nat) (target iter : Expr) (ifs : List Expr) (tg : Tg) (fi : List TvF), gens.drop d = ⟨target, iter, ifs, 0⟩ :: cs → TgM sc fn target tg → DenTs prog w TT B0 n sc ifs fi →
    ∀ (A : Around) (env : Env) (ρ : List Addr) (ok : Addr → Prop) (H : Hp) (D : Addr), Bud A n → env.scope.names = sc → CP TT B0 ρ ok env D fn MM →
    ∀ (I : Addr) (fp : List Addr) (Pr : Nat → Value → Prop) (St : Nat → Heap → Prop) (xs : List VV) (s : Shared) (E E' : Lo) (acc acc' : List VV) (R : Result → Shared → Prop),
      ok I → I ∉ ρ → B0.get? I = none → I ∉ TT.TB → ClN env (· ≠ I) → Itr prog w A ρ ok false xs I fp Pr St s.heap → SV0 TT B0 ρ (Without ok I) H s.heap → EnvV TT env ρ (Without ok I) E s.heap → AccAt s.heap ρ (Without ok I) D acc →
      loopG (compG fe H gs) tg fi H xs E acc = some (E', acc') →
      (∀ h' tk, KP (TT.TB ++ (MM ++ [D, I])) s.heap h' → SV0 TT B0 ρ ok H h' → EnvV TT env ρ ok E' h' → AccAt h' ρ ok D acc' → R (.ok .next) { s with heap := h', toks := tk }) →
      codeAny (model prog w) A (.compLoop (.ListComp elt gens scope pos) d (.ref I) (.ref D) env) R s := by
  intro gs
  induction gs with
  | nil =>
    intro cs hG
    cases hG
    intro d target iter ifs tg fi hdr ht hfi A env ρ ok H D B hs C I fp Pr St xs s E E' acc acc' R okI hIρ hIB hIT clI X S V AC hL hR
    exact loop_one he hnd hdr ht.nmTp hfi B hs C okI hIρ hIB hIT clI (fun H E E' s v wv S V q eb Q Err P => st_tg B.hh S V (C.without I).frm (hs ▸ hnd) (hs ▸ ht) q eb P) X S V AC hL hR
  | cons g gs ih =>
    intro cs hG
    cases hG with
    | cons ht' hit' hif' hfold hG' =>
    rename_i target' iter' ifs' cs'
    intro d target iter ifs tg fi hdr ht hfi A env ρ ok H D B hs C I fp Pr St xs s E E' acc acc' R okI hIρ hIB hIT clI X S V AC hL hR
    have hg : gens[d]? = some ⟨target, iter, ifs, 0⟩ := by
      have : (gens.drop d)[0]? = some ⟨target, iter, ifs, 0⟩ := by rw [hdr]; rfl
      simpa using this
    have hg1 : gens[d + 1]? = some ⟨target', iter', ifs', 0⟩ := by
      have : (gens.drop d)[1]? = some ⟨target', iter', ifs', 0⟩ := by rw [hdr]; rfl
      simpa using this
    have hdr' : gens.drop (d + 1) = ⟨target', iter', ifs', 0⟩ :: cs' := by
      have : (gens.drop d).drop 1 = ⟨target', iter', ifs', 0⟩ :: cs' := by rw [hdr]; rfl
      simpa [List.drop_drop, Nat.add_comm] using this
    refine loop_gen hnd hg ht.nmTp hfi B hs C okI hIρ hIB hIT clI (fun H E E' s v wv S V q eb Q Err P => st_tg B.hh S V (C.without I).frm (hs ▸ hnd) (hs ▸ ht) q eb P) X S V AC hL (fun s₄ E1 E2 acc1 acc2 K Err S4 V4 AC4 e P => ?_) hR
    unfold compG at e
    refine bindSome e fun ys ey e => ?_
    have C1 := C.without I
    unfold StepC
    rw [hg1]
    refine ⟨rfl, hfold env, ?_⟩
    refine hit' A env ρ (Without ok I) H E1 s₄ B hs S4 V4 ys ey _ _ fun I2 fp2 Pr2 St2 h₁ tk₁ hf₁ k₁ i₁ X2 => ?_
    -- the inner iterator's place
    have okI2 : Without ok I I2 := S4.free I2 hf₁
    have hI2B : B0.get? I2 = none := S4.good.old hf₁
    obtain ⟨nm2, hnm2, hcls2⟩ := X2.cls
    obtain ⟨o2, ho2, hc2, _⟩ := hcls2 _ _ X2.st
    have hI2T : I2 ∉ TT.TB := notTab i₁ ho2 (by rw [hc2]; nofun)
    have S5 := S4.keep k₁ i₁
    have V5 := V4.keep S4.good.inv k₁
    have AC5 := AC4.keep k₁ S4.good.inv
    have hI2ρ : I2 ∉ ρ := fun q => by
      obtain ⟨o, e⟩ := S4.live q
      rw [hf₁] at e; cases e
    have hI2L : I2 ≠ env.locals := fun q => C1.frm.ap.ok _ C1.frm.lM (q ▸ okI2)
    have clI2 : ClN env (· ≠ I2) := fun i x k a e hk el q => by
      obtain ⟨a', o, _, e1, e2, _⟩ := V4.cells i x k e hk
      rw [el] at e1; cases e1
      rw [q, hf₁] at e2; cases e2
    have ok' : ∀ a o, s₄.heap.get? a = some o → Without ok I a → Without (Without ok I) I2 a := fun a o e h => ⟨h, fun q => by rw [q, hf₁] at e; cases e⟩
    have S6 : SV0 TT B0 ρ (Without (Without ok I) I2) H h₁ := ⟨S5.good, S5.len, fun j vo e => let ⟨a, ea, o⟩ := S4.objs j vo e; ⟨a, ea, (o.okm ok').keepX (X := []) (by simp) (by simp) (k₁.toX []) S4.good.inv⟩,
      fun a e => ⟨S5.free a e, fun q => by rw [q, ho2] at e; cases e⟩⟩
    have V6 : EnvV TT env ρ (Without (Without ok I) I2) E1 h₁ := (V4.okm ok').keep S4.good.inv k₁
    have AC6 : AccAt h₁ ρ (Without (Without ok I) I2) D acc1 := (AC4.okm ok').keep k₁ S4.good.inv
    have run : codeAny (model prog w) A (.compLoop (.ListComp elt gens scope pos) (d + 1) (.ref I2) (.ref D) env) (fun r s' => match r with | .ok _ => K s' | .error e => cameBackBy (model prog w) A env Err e s') { s₄ with heap := h₁, toks := tk₁ } := by
      refine ih cs' hG' (d + 1) target' iter' ifs' g.tg g.ifs hdr' ht'.up hif' A env ρ (Without ok I) H D B hs C1 I2 fp2 Pr2 St2 ys { s₄ with heap := h₁, toks := tk₁ } E1 E2 acc1 acc2 _ okI2 hI2ρ hI2B hI2T clI2 X2 S6 V6 AC6 e fun h' tk k' S' V' A' => ?_
      refine P h' tk (fun b o n e => k' b o (fun q => ?_) (k₁ b o (fun q => n (List.mem_append_left _ q)) e)) S' V' A'
      rcases List.mem_append.mp q with q | q
      · exact n (List.mem_append_left _ q)
      · rcases List.mem_append.mp q with q | q
        · exact n (List.mem_append_right _ (List.mem_append_left _ q))
        · rcases List.mem_cons.mp q with q | q
          · exact n (List.mem_append_right _ (by simp [q]))
          · rw [List.mem_singleton.mp q, hf₁] at e; cases e
    exact start_c hg1 run (X2.walk.self 0 _ _ _ X2.st run)
end
end Mine
namespace Mine

noncomputable def relSc (sc names : Sc) : Sc := names.map fun p => if (p.2 == NameKind.free && sc.lookup p.1 == some .cell) then (p.1, .cell) else p
noncomputable def impOk (sc sc' : Sc) : List (Option Nat) → Bool
  | imp => sc'.length == imp.length && (List.zip sc' imp).all fun p => match p.1.2, p.2 with
    | .local, none => true
    | .globalImplicit, none => true
    | .cell, some j => (match sc[j]? with | some (y, k) => y == p.1.1 && (k == .cell || k == .free) | none => false)
    | .free, some j => (match sc[j]? with | some (y, k) => y == p.1.1 && (k == .cell || k == .free) | none => false)
    | _, _ => false
noncomputable def importE (imp : List (Option Nat)) (E : Lo) : Lo := imp.map fun o => o.bind fun j => (E[j]?).join

theorem closure_go {env : Env} (f : Str × NameKind → List (Str × Addr) → Sem (ForInStep (List (Str × Addr)))) (hf : ∀ p c, f p c = if (p.2 == NameKind.free) = true then (do let a ← cellOf env p.1; pure (.yield ((p.1, a) :: c))) else pure (.yield c)) :
    ∀ (names : Sc) (cs : List (Str × Addr)), (∀ x, (x, NameKind.free) ∈ names → ∃ a, env.cells.lookup x = some a) →
      ∃ cl, forIn names cs f = (pure cl : Sem _) ∧ (∀ x, (x, NameKind.free) ∈ names → cl.lookup x = env.cells.lookup x) ∧ ∀ x, (x, NameKind.free) ∉ names → cl.lookup x = cs.lookup x
  | [], cs, _ => ⟨cs, by rw [List.forIn_nil], by simp, fun _ _ => rfl⟩
  | (y, k) :: r, cs, h => by
    have hr : ∀ x, (x, NameKind.free) ∈ r → ∃ a, env.cells.lookup x = some a := fun x hx => h x (List.mem_cons_of_mem _ hx)
    rw [List.forIn_cons, hf]
    by_cases hk : k = .free
    · subst hk
      obtain ⟨a, ha⟩ := h y List.mem_cons_self
      obtain ⟨cl, e1, e2, e3⟩ := closure_go f hf r ((y, a) :: cs) hr
      refine ⟨cl, ?_, fun x hx => ?_, fun x hx => ?_⟩
      · rw [if_pos (show ((y, NameKind.free).2 == NameKind.free) = true from rfl)]
        unfold cellOf
        rw [ha]
        simpa using e1
      · by_cases hxr : (x, NameKind.free) ∈ r
        · exact e2 x hxr
        · rcases List.mem_cons.mp hx with e | e
          · cases e
            rw [e3 y hxr, List.lookup_cons_self, ha]
          · exact absurd e hxr
      · have h1 : (x, NameKind.free) ∉ r := fun q => hx (List.mem_cons_of_mem _ q)
        have h2 : x ≠ y := fun q => hx (q ▸ List.mem_cons_self)
        rw [e3 x h1, List.lookup_cons]
        have : (x == y) = false := by
          cases q : x == y with
          | false => rfl
          | true => exact absurd (eq_of_beq q) h2
        rw [this]
    · obtain ⟨cl, e1, e2, e3⟩ := closure_go f hf r cs hr
      refine ⟨cl, ?_, fun x hx => ?_, fun x hx => ?_⟩
      · have : (k == NameKind.free) = false := by cases k <;> first | rfl | exact absurd rfl hk
        rw [if_neg (by simp [this])]
        simpa using e1
      · rcases List.mem_cons.mp hx with e | e
        · cases e; exact absurd rfl hk
        · exact e2 x e
      · exact e3 x fun q => hx (List.mem_cons_of_mem _ q)
theorem closure_of {scope : Scope} {env : Env} (h : ∀ x, (x, NameKind.free) ∈ scope.names → ∃ a, env.cells.lookup x = some a) :
    ∃ cl, closureFor scope env = pure cl ∧ ∀ x, (x, NameKind.free) ∈ scope.names → cl.lookup x = env.cells.lookup x := by
  obtain ⟨cl, e1, e2, _⟩ := closure_go (env := env) (fun p c => if (p.2 == NameKind.free) = true then (do let a ← cellOf env p.1; pure (.yield ((p.1, a) :: c))) else pure (.yield c)) (fun _ _ => rfl) scope.names [] h
  refine ⟨cl, ?_, e2⟩
  unfold closureFor
  have key : ∀ (f : Str × NameKind → List (Str × Addr) → Sem (ForInStep (List (Str × Addr)))), (∀ p c, f p c = if (p.2 == NameKind.free) = true then (do let a ← cellOf env p.1; pure (.yield ((p.1, a) :: c))) else pure (.yield c)) →
      (do let cs ← forIn scope.names [] f; pure cs) = (pure cl : Sem _) := by
    intro f hf
    obtain ⟨cl', e1', e2', e3'⟩ := closure_go (env := env) f hf scope.names [] h
    have : f = fun p c => if (p.2 == NameKind.free) = true then (do let a ← cellOf env p.1; pure (.yield ((p.1, a) :: c))) else pure (.yield c) := by
      funext p c; exact hf p c
    subst this
    rw [e1]
  refine Eq.trans ?_ (key (fun p c => if (p.2 == NameKind.free) = true then (do let a ← cellOf env p.1; pure (.yield ((p.1, a) :: c))) else pure (.yield c)) fun _ _ => rfl)
  exact bind_pure (m := Sem) (forIn scope.names [] fun (p : Str × NameKind) c => if (p.2 == NameKind.free) = true then (do let a ← cellOf env p.1; pure (.yield ((p.1, a) :: c))) else pure (.yield c))

section
variable {prog : Program} {w : World} {TT : Tabs} {B0 : Heap} {n : Nat} {sc sc' : Sc}

theorem impOk_at {imp : List (Option Nat)} (h : impOk sc sc' imp = true) {i : Nat} {x : Str} {k : NameKind} (e : sc'[i]? = some (x, k)) :
    ((k = .local ∨ k = .globalImplicit) ∧ imp[i]? = some none) ∨ ((k = .cell ∨ k = .free) ∧ ∃ j k', imp[i]? = some (some j) ∧ sc[j]? = some (x, k') ∧ (k' = .cell ∨ k' = .free)) := by
  unfold impOk at h
  rw [Bool.and_eq_true] at h
  obtain ⟨h1, h2⟩ := h
  have hl : sc'.length = imp.length := eq_of_beq h1
  have hi : i < imp.length := by rw [← hl]; exact (List.getElem?_eq_some_iff.mp e).1
  have hz : (List.zip sc' imp)[i]? = some ((x, k), imp[i]) := by
    rw [List.getElem?_zip_eq_some]; exact ⟨e, List.getElem?_eq_getElem hi⟩
  have h3 := List.all_eq_true.mp h2 _ (List.mem_of_getElem? hz)
  rw [List.getElem?_eq_getElem hi]
  generalize imp[i] = o at h3 ⊢
  have key : ∀ j : Nat, (match sc[j]? with | some (y, k') => y == x && (k' == .cell || k' == .free) | none => false) = true → ∃ k', sc[j]? = some (x, k') ∧ (k' = .cell ∨ k' = .free) := by
    intro j hj
    cases q : sc[j]? with
    | none => rw [q] at hj; cases hj
    | some p =>
      obtain ⟨y, k'⟩ := p
      rw [q] at hj
      simp only [Bool.and_eq_true, Bool.or_eq_true, beq_iff_eq] at hj
      obtain ⟨rfl, hk⟩ := hj
      exact ⟨k', rfl, hk⟩
  cases k <;> cases o <;> simp only [Bool.false_eq_true] at h3
  all_goals first
    | exact .inl ⟨.inl rfl, rfl⟩
    | exact .inl ⟨.inr rfl, rfl⟩
    | (obtain ⟨k', h4, h5⟩ := key _ h3; exact .inr ⟨.inl rfl, _, k', rfl, h4, h5⟩)
    | (obtain ⟨k', h4, h5⟩ := key _ h3; exact .inr ⟨.inr rfl, _, k', rfl, h4, h5⟩)

theorem relSc_at {names : Sc} (hc : ∀ y ∈ names, y.2 ≠ .cell) {i : Nat} {x : Str} {k : NameKind} (e : (relSc sc names)[i]? = some (x, k)) (hk : k = .cell ∨ k = .free) : (x, NameKind.free) ∈ names := by
  unfold relSc at e
  rw [List.getElem?_map] at e
  obtain ⟨⟨y, k'⟩, e1, e2⟩ := Option.map_eq_some_iff.mp e
  have hm := List.mem_of_getElem? e1
  dsimp only at e2
  split at e2
  · rename_i h
    cases e2
    simp only [Bool.and_eq_true, beq_iff_eq] at h
    rw [← h.1]; exact hm
  · cases e2
    rcases hk with rfl | rfl
    · exact absurd rfl (hc _ hm)
    · exact hm

noncomputable def dCompL (imp : List (Option Nat)) (g : G) (gs : List G) (fe : EvF) : Lo → Hp → Option (List VV) := fun E H => (g.it E H).bind fun xs => (loopG (compG fe H gs) g.tg g.ifs H xs (importE imp E) []).map (·.2)

structure CompM (prog : Program) (w : World) (TT : Tabs) (B0 : Heap) (n : Nat) (sc : Sc) (elt target iter : Expr) (ifs : List Expr) (cs : List Comprehension) (scope : Scope) (imp : List (Option Nat)) (g : G) (gs : List G) (fe : EvF) : Prop where
  kind : scope.kind = .function
  nocell : ∀ y ∈ scope.names, y.2 ≠ .cell
  nodup : (scope.names.map (·.1)).Nodup
  imp : impOk sc (relSc sc scope.names) imp = true
  it : DenIt prog w TT B0 false n sc iter g.it
  fold : ∀ env x, foldedSetIterable iter env x = pure x
  tg : TgM (relSc sc scope.names) false target g.tg
  ifs : DenTs prog w TT B0 n (relSc sc scope.names) ifs g.ifs
  gs : GsM prog w TT B0 n (relSc sc scope.names) cs gs
  elt : DenE prog w TT B0 n (relSc sc scope.names) elt fe

theorem relSc_names (names : Sc) : (relSc sc names).map (·.1) = names.map (·.1) := by
  unfold relSc
  rw [List.map_map]
  refine List.map_congr_left fun p _ => ?_
  dsimp only [Function.comp]
  split <;> rfl

theorem comp_core {elt target iter : Expr} {ifs : List Expr} {cs : List Comprehension} {scope : Scope} {imp : List (Option Nat)} {g : G} {gs : List G} {fe : EvF} (M : CompM prog w TT B0 n sc elt target iter ifs cs scope imp g gs fe)
    {A : Around} {env : Env} {ρ : List Addr} {ok : Addr → Prop} {H : Hp} {E : Lo} {s : Shared} (B : Bud A n) (hs : env.scope.names = sc) (S : SV0 TT B0 ρ ok H s.heap) (V : EnvV TT env ρ ok E s.heap) {xs : List VV} (e : dCompL imp g gs fe E H = some xs)
    {pos p : Pos} {use : Option (Value → Sem Unit)} {Q Err : Value → Shared → Prop}
    (fin : ∀ D C ws k h' tk, s.heap.get? D = none → s.heap.get? C = none → C ≠ D → C ∉ TT.TB → D ∉ TT.TB → KP TT.TB s.heap h' → TT.Inv h' → (∃ m, h'.Ns C m) → h'.get? D = some (listO (List.toArray ws) k) →
      VRs h' ρ (fun a => ok a ∧ a ≠ C ∧ a ≠ D) xs ws → SV0 TT B0 ρ ok H h' → EnvV TT env ρ ok E h' → (∀ a, h'.get? a = none → ok a ∧ a ≠ C ∧ a ≠ D) → compPost (model prog w) A Err use Q (.ref D) C (.ok .next) { s with heap := h', toks := tk }) :
    wpAny (model prog w) A (comprehension (.ListComp elt (⟨target, iter, ifs, 0⟩ :: cs) scope pos) scope env p (newList []) false (eval iter env) use) Q Err s := by
  refine bindSome e fun ys ey e => ?_
  obtain ⟨⟨E', acc'⟩, eL, rfl⟩ := Option.map_eq_some_iff.mp e
  have hfree : ∀ x, (x, NameKind.free) ∈ scope.names → ∃ a, env.cells.lookup x = some a := fun x hx => by
    obtain ⟨i, hi⟩ := List.getElem?_of_mem hx
    have e1 : ∃ k, (relSc sc scope.names)[i]? = some (x, k) ∧ (k = .cell ∨ k = .free) := by
      unfold relSc
      rw [List.getElem?_map, hi]
      dsimp only [Option.map]
      split
      · exact ⟨_, rfl, .inl rfl⟩
      · exact ⟨_, rfl, .inr rfl⟩
    obtain ⟨k, e1, hk⟩ := e1
    rcases impOk_at M.imp e1 with ⟨h1, _⟩ | ⟨_, j, k', _, h2, h3⟩
    · rcases hk with rfl | rfl <;> rcases h1 with h1 | h1 <;> cases h1
    · obtain ⟨a, _, _, e2, _⟩ := V.cells j x k' (by rw [hs]; exact h2) h3
      exact ⟨a, e2⟩
  obtain ⟨cl, hcl, hlook⟩ := closure_of (env := env) hfree
  have hnames : ∀ x ∈ scope.names, x.2 = .local → scope.names.lookup x.1 = some .local := fun x hx hl => by
    obtain ⟨i, hi⟩ := List.getElem?_of_mem hx
    refine lookup_at M.nodup (i := i) ?_
    rw [hi, ← hl]
  have hrel : (relabel scope env).names = relSc sc scope.names := by
    unfold relabel relSc
    refine List.map_congr_left fun p _ => ?_
    obtain ⟨y, k⟩ := p
    dsimp only
    have hk : env.kindOf y = sc.lookup y := by unfold Env.kindOf; rw [hs]
    rw [V.kind, hk]
    simp
  refine wpAny_comprehension_free (use := use) rfl (M.fold env) hcl M.kind hnames ?_
  refine M.it A env ρ ok H E s B hs S V ys ey _ _ fun I fp Pr St h₁ tk₁ hf₁ k₁ i₁ X => ?_
  have S1 := S.keep k₁ i₁
  have V1 := V.keep S.good.inv k₁
  refine wpAny_newObj_type (wpAny_newFunctionEnv M.nocell (by intro y hy; simp at hy) (fun h₃ hns₃ hsb₃ => ?_) M.kind)
  dsimp only at hns₃ hsb₃ ⊢
  generalize hH2 : h₁.push { cls := .type "list", dict := none, data := .seq ([] : List Value).toArray } = H2 at hns₃ hsb₃ ⊢
  generalize hDd : h₁.objs.size = D at *
  generalize hCc : H2.objs.size = C at *
  have hDC : C = D + 1 := by rw [← hCc, ← hDd, ← hH2, Heap.size_push]
  have lt : ∀ b o, h₁.get? b = some o → b < D := fun b o e => hDd ▸ Heap.lt_size e
  have hCD : C ≠ D := by rw [hDC]; exact Nat.succ_ne_self D
  have old : ∀ b o, h₁.get? b = some o → h₃.get? b = some o := fun b o e => hsb₃.extBut b o (by rw [hDC]; exact Nat.ne_of_lt (Nat.lt_succ_of_lt (lt b o e))) (Heap.get?_push_of_some _ (hH2 ▸ Heap.get?_push_of_some _ e))
  have hD₁ : h₁.get? D = none := by
    cases q : h₁.get? D with
    | none => rfl
    | some o => exact absurd (lt _ _ q) (Nat.lt_irrefl _)
  have hC₁ : h₁.get? C = none := by
    cases q : h₁.get? C with
    | none => rfl
    | some o => have := lt _ _ q; rw [hDC] at this; exact absurd this (Nat.not_lt.mpr (Nat.le_succ _))
  have tab : ∀ b, h₁.get? b = none → b ∉ TT.TB := fun b e q => by
    obtain ⟨o, e', _⟩ := TT.there h₁ i₁ b q
    rw [e] at e'; cases e'
  have hD₃ : h₃.get? D = some (listO (List.toArray []) 0) := hsb₃.extBut _ _ hCD.symm (Heap.get?_push_of_some _ (by rw [← hH2, ← hDd]; exact Heap.get?_push_size _ rfl))
  have kp₃ : KP TT.TB h₁ h₃ := KP.of old
  have i₃ := TT.mono _ _ old i₁
  obtain ⟨nm, hnm, hcls⟩ := X.cls
  obtain ⟨oI, hoI, hcI, _⟩ := hcls _ _ X.st
  -- the data's places: none of the comprehension's
  let ok0 : Addr → Prop := fun a => ok a ∧ a ≠ C ∧ a ≠ D
  have ho0 : ∀ a o, h₁.get? a = some o → ok a → ok0 a := fun a o e h => ⟨h, fun q => (by rw [q, hC₁] at e; cases e), fun q => (by rw [q, hD₁] at e; cases e)⟩
  have hoI' : ∀ a o, s.heap.get? a = some o → ok a → Without ok0 I a := fun a o e h => ⟨⟨h, fun q => (by
      have := k₁.free i₁ hC₁; rw [q, this] at e; cases e), fun q => (by have := k₁.free i₁ hD₁; rw [q, this] at e; cases e)⟩, fun q => (by rw [q, hf₁] at e; cases e)⟩
  have mem3 : ∃ oC, h₃.get? C = some oC := let ⟨o, _, _, e, _⟩ := hns₃; ⟨o, e⟩
  have S3 : SV0 TT B0 ρ (Without ok0 I) H h₃ := ⟨(S1.keep kp₃ i₃).good, S.len, fun j vo e => let ⟨a, ea, o⟩ := S.objs j vo e;
      ⟨a, ea, (o.okm hoI').keepX (X := []) (by simp) (by simp) ((k₁.trans kp₃).toX []) S.good.inv⟩, fun a e => ⟨⟨(S1.keep kp₃ i₃).free a e, fun q => (by
        obtain ⟨o, e'⟩ := mem3; rw [q, e'] at e; cases e), fun q => (by rw [q, hD₃] at e; cases e)⟩, fun q => (by rw [q, old _ _ hoI] at e; cases e)⟩⟩
  have V3 : EnvV TT env ρ (Without ok0 I) E h₃ := (V.okm hoI').keep S.good.inv (k₁.trans kp₃)
  have hceq : compEnvC scope cl C env = { scope := relabel scope env, locals := C, globals := env.globals, cells := cl, qual := env.qual, func := none, code := env.code, frame := env.frame, builtins := env.builtins } := rfl
  have cellsC : ∀ (i : Nat) x k, (relSc sc scope.names)[i]? = some (x, k) → (k = .cell ∨ k = .free) → ∃ j k', imp[i]? = some (some j) ∧ sc[j]? = some (x, k') ∧ (k' = .cell ∨ k' = .free) ∧ cl.lookup x = env.cells.lookup x := fun i x k e hk => by
    have hx := relSc_at M.nocell e hk
    rcases impOk_at M.imp e with ⟨h1, _⟩ | ⟨_, j, k', h1, h2, h3⟩
    · rcases hk with rfl | rfl <;> rcases h1 with h1 | h1 <;> cases h1
    · exact ⟨j, k', h1, h2, h3, hlook x hx⟩
  have VC : EnvV TT (compEnvC scope cl C env) ρ (Without ok0 I) (importE imp E) h₃ := {
    kind := M.kind
    glo := V.glo
    blt := V.blt
    lTB := tab _ hC₁
    ns := ⟨_, hns₃, fun i x v e1 e2 => by
      have e1' : (relSc sc scope.names)[i]? = some (x, .local) := by rw [← hrel]; exact e1
      rcases impOk_at M.imp e1' with ⟨_, h1⟩ | ⟨h1, _⟩
      · unfold importE at e2
        rw [List.getElem?_map, h1] at e2
        cases e2
      · rcases h1 with h1 | h1 <;> cases h1⟩
    cells := fun i x k e hk => by
      have e' : (relSc sc scope.names)[i]? = some (x, k) := by rw [← hrel]; exact e
      obtain ⟨j, k', h1, h2, h3, h4⟩ := cellsC i x k e' hk
      obtain ⟨a, o, v₀, f1, f2, f3, f4, r⟩ := V3.cells j x k' (by rw [hs]; exact h2) h3
      refine ⟨a, o, v₀, h4.trans f1, f2, f3, f4, fun v ev => r v ?_⟩
      unfold importE at ev
      rw [List.getElem?_map, h1] at ev
      have ev' : (E[j]?).join = some v := by simpa using ev
      cases q : E[j]? with
      | none => rw [q] at ev'; cases ev'
      | some u => rw [q] at ev'; cases u with
        | none => cases ev'
        | some u' => cases ev'; rfl }
  have clOf : ∀ p : Addr → Prop, (∀ a o, h₁.get? a = some o → p a) → ClN (compEnvC scope cl C env) p := fun p hp i x k a e hk el => by
    have e' : (relSc sc scope.names)[i]? = some (x, k) := by rw [← hrel]; exact e
    obtain ⟨j, k', h1, h2, h3, h4⟩ := cellsC i x k e' hk
    obtain ⟨a', o, v₀, f1, f2, f3, f4, r⟩ := V1.cells j x k' (by rw [hs]; exact h2) h3
    have : cl.lookup x = some a := el
    rw [h4, f1] at this
    cases this
    exact hp _ _ f2
  have clOfs : ∀ p : Addr → Prop, (∀ a o, s.heap.get? a = some o → p a) → ClN (compEnvC scope cl C env) p := fun p hp i x k a e hk el => by
    have e' : (relSc sc scope.names)[i]? = some (x, k) := by rw [← hrel]; exact e
    obtain ⟨j, k', h1, h2, h3, h4⟩ := cellsC i x k e' hk
    obtain ⟨a', o, v₀, f1, f2, f3, f4, r⟩ := V.cells j x k' (by rw [hs]; exact h2) h3
    have : cl.lookup x = some a := el
    rw [h4, f1] at this
    cases this
    exact hp _ _ f2
  have notρ : ∀ b, h₁.get? b = none → b ∉ ρ := fun b e q => by
    obtain ⟨o, e'⟩ := S1.live q
    rw [e] at e'; cases e'
  have CPC : CP TT B0 ρ ok0 (compEnvC scope cl C env) D false [C] := {
    frm := ⟨⟨fun b hb h => h.2.1 (List.mem_singleton.mp hb), fun b hb => by rw [List.mem_singleton.mp hb]; exact notρ _ hC₁, fun b hb => by rw [List.mem_singleton.mp hb]; exact S1.good.old hC₁⟩,
      fun b hb => by rw [List.mem_singleton.mp hb]; exact tab _ hC₁, List.mem_singleton.mpr rfl, clOf _ fun a o e q => by rw [q] at e; exact absurd e (by show h₁.get? C ≠ _; rw [hC₁]; nofun), by nofun⟩
    apD := ⟨fun b hb h => h.2.2 (List.mem_singleton.mp hb), fun b hb => by rw [List.mem_singleton.mp hb]; exact notρ _ hD₁, fun b hb => by rw [List.mem_singleton.mp hb]; exact S1.good.old hD₁⟩
    tD := tab _ hD₁
    ne := fun q => hCD.symm (List.mem_singleton.mp q)
    clD := clOf _ fun a o e q => by rw [q, hD₁] at e; cases e }
  have okI : ok0 I := ⟨S.free I hf₁, fun q => (by rw [q, hC₁] at hoI; cases hoI), fun q => (by rw [q, hD₁] at hoI; cases hoI)⟩
  have notI : ∀ b, s.heap.get? b = none → b ∉ ρ := fun b e q => by
    obtain ⟨o, e'⟩ := S.live q
    rw [e] at e'; cases e'
  have X3 : Itr prog w A ρ ok0 false ys I fp Pr St h₃ := {
    walk := X.walk
    st := X.walk.frame _ _ _ X.st fun b _ o e => old b o e
    fps := fun b hb => (X.fps b hb).imp id fun ⟨o, e, hc, h⟩ => ⟨o, old _ _ e, hc, h.imp (ho0 b o e) id⟩
    it := fun i v hv => let ⟨x, hx, q⟩ := X.it i v hv; ⟨x, hx, (q.okm fun a o e h => ⟨ho0 a o e h.1, h.2⟩).keep kp₃ i₁⟩
    cls := X.cls
    sz := X.sz }
  have loop : codeAny (model prog w) A (.compLoop (.ListComp elt (⟨target, iter, ifs, 0⟩ :: cs) scope pos) 0 (.ref I) (.ref D) (compEnvC scope cl C env)) (compPost (model prog w) A Err use Q (.ref D) C) { s with heap := h₃, toks := tk₁ + ([] : List (Str × Value)).length } := by
    refine loop_c M.elt (by rw [relSc_names]; exact M.nodup) gs cs M.gs 0 target iter ifs g.tg g.ifs rfl M.tg M.ifs A (compEnvC scope cl C env) ρ ok0 H D B hrel CPC I fp Pr St ys _ (importE imp E) E' [] acc' _ okI (notI I hf₁) (S.good.old hf₁)
      (notTab i₁ hoI (by rw [hcI]; nofun)) (clOfs _ fun a o e q => by rw [q, hf₁] at e; cases e) X3 S3 VC ⟨[], 0, hD₃, .nil⟩ eL fun h' tk k' S' V' A' => ?_
    obtain ⟨ws, k, e1, r⟩ := A'
    have kf : KP TT.TB s.heap h' := fun b o nb e => k' b o (fun q => by
      rcases List.mem_append.mp q with q | q
      · exact nb q
      · rcases List.mem_cons.mp q with q | q
        · have q' : b = C := q
          have := k₁.free i₁ hC₁; rw [q', this] at e; cases e
        · rcases List.mem_cons.mp q with q | q
          · have := k₁.free i₁ hD₁; rw [q, this] at e; cases e
          · rw [List.mem_singleton.mp q, hf₁] at e; cases e) (old b o (k₁ b o nb e))
    have i' := S'.good.inv
    refine fin D C ws k h' tk (k₁.free i₁ hD₁) (k₁.free i₁ hC₁) hCD (tab _ hC₁) (tab _ hD₁) kf i' (let ⟨m, hm, _⟩ := V'.ns; ⟨m, hm⟩) e1 r (S.keep kf i') (V.keep S.good.inv kf) fun a e => S'.free a e
  exact start_c (gens := ⟨target, iter, ifs, 0⟩ :: cs) rfl loop (X3.walk.self 0 _ _ _ X3.st loop)
end
end Mine
namespace Mine

noncomputable def PostL (TT : Tabs) (ρ : List Addr) (ok : Addr → Prop) (xs : List VV) (Q : Value → Shared → Prop) (s : Shared) : Prop :=
  ∀ D ws k h' tk, s.heap.get? D = none → KP TT.TB s.heap h' → TT.Inv h' → h'.get? D = some (listO (List.toArray ws) k) → VRs h' ρ (Without ok D) xs ws → Q (.ref D) { s with heap := h', toks := tk }
section
variable (prog : Program) (w : World) (TT : Tabs) (B0 : Heap)
noncomputable def DenL (n : Nat) (sc : Sc) (e : Expr) (f : Lo → Hp → Option (List VV)) : Prop :=
  ∀ (A : Around) (env : Env) (ρ : List Addr) (ok : Addr → Prop) (H : Hp) (E : Lo) (s : Shared), Bud A n → env.scope.names = sc → SV0 TT B0 ρ ok H s.heap → EnvV TT env ρ ok E s.heap →
    ∀ xs, f E H = some xs → ∀ (Q Err : Value → Shared → Prop), PostL TT ρ ok xs Q s → wpAny (model prog w) A (eval e env) Q Err s
noncomputable def OpL2 (t : Value → Value → Sem Value) (g : VV → VV → Hp → Option (List VV)) : Prop :=
  ∀ (A : Around) (ρ : List Addr) (ok : Addr → Prop) (H : Hp) (s : Shared) (x y : VV) (a b : Value), Bud A 0 → SV0 TT B0 ρ ok H s.heap → VR s.heap ρ ok x a → VR s.heap ρ ok y b →
    ∀ xs, g x y H = some xs → ∀ (Q Err : Value → Shared → Prop), PostL TT ρ ok xs Q s → wpAny (model prog w) A (t a b) Q Err s
end

section
variable {prog : Program} {w : World} {TT : Tabs} {B0 : Heap} {n : Nat} {sc : Sc}
theorem PostL.after {ρ : List Addr} {ok : Addr → Prop} {xs : List VV} {Q : Value → Shared → Prop} {s : Shared} (P : PostL TT ρ ok xs Q s) {h' : Heap} {tk : Nat} (k : KP TT.TB s.heap h') (i : TT.Inv h') : PostL TT ρ ok xs Q { s with heap := h', toks := tk } :=
  fun D ws kk h'' tk' hf k' i' e r => P D ws kk h'' tk' (k.free i hf) (k.trans k') i' e r
theorem PostL.of {ρ : List Addr} {ok : Addr → Prop} {xs : List VV} {Q : Value → Shared → Prop} {s : Shared} (P : Post TT ρ ok (.lv xs) Q s) {H : Hp} (S : SV0 TT B0 ρ ok H s.heap) : PostL TT ρ ok xs Q s :=
  fun D ws k h' tk hf kk i e r => P _ h' tk kk i (.lv e (S.free D hf) (r.okm fun _ _ _ h => h.1))
theorem PostL.push {ρ : List Addr} {ok : Addr → Prop} {H : Hp} {xs : List VV} {ws : List Value} {k : Nat} {Q : Value → Shared → Prop} {s : Shared} (P : PostL TT ρ ok xs Q s) (S : SV0 TT B0 ρ ok H s.heap) (r : VRs s.heap ρ ok xs ws) :
    Q (.ref s.heap.objs.size) { s with heap := s.heap.push (listO ws.toArray k) } := by
  have kp : ∀ b o', s.heap.get? b = some o' → (s.heap.push (listO ws.toArray k)).get? b = some o' := fun b o' e => Heap.get?_push_of_some _ e
  exact P _ ws k _ s.toks (free_size _) (KP.of kp) (TT.mono _ _ kp S.good.inv) (Heap.get?_push_size _ rfl) ((r.okm fun a o e h => ⟨h, Nat.ne_of_lt (Heap.lt_size e)⟩).keep (KP.of kp) S.good.inv)

noncomputable def dF (f : Lo → Hp → Option (List VV)) : EvF := fun E H => (f E H).map .lv
theorem d_ofL {e : Expr} {f : Lo → Hp → Option (List VV)} (hf : DenL prog w TT B0 n sc e f) : DenE prog w TT B0 n sc e (dF f) := by
  intro A env ρ ok H E s B hs S V v e Q Err P
  obtain ⟨xs, ex, rfl⟩ := Option.map_eq_some_iff.mp e
  exact hf A env ρ ok H E s B hs S V xs ex Q Err (PostL.of P S)
theorem l_list {es : List Expr} {fs : List EvF} {pos : Pos} (hf : DenEs prog w TT B0 n sc es fs) (hl : es.length ≤ 16777216 := by decide) : DenL prog w TT B0 n sc (.List es pos) (evs fs) := by
  intro A env ρ ok H E s B hs S V vs ev Q Err P
  refine wpAny_List (spliced_v hf B hs S V ev fun ws h₁ tk₁ k₁ i₁ vws => ?_)
  have hlen : ∀ {es : List Expr} {fs : List EvF} {vs : List VV}, DenEs prog w TT B0 n sc es fs → evs fs E H = some vs → vs.length = es.length := by
    intro es fs vs hf
    induction hf generalizing vs with
    | nil => intro ev; cases ev; rfl
    | cons _ _ _ ih =>
      intro ev
      simp only [evs] at ev
      refine bindSome ev fun x ex e => ?_
      obtain ⟨xs, exs, rfl⟩ := Option.map_eq_some_iff.mp e
      rw [List.length_cons, List.length_cons, ih exs]
  refine ⟨by rw [← vws.length, hlen hf ev]; exact hl, ?_⟩
  exact (P.after (tk := tk₁) k₁ i₁).push (S.keep k₁ i₁) vws
theorem l_comp {elt target iter : Expr} {ifs : List Expr} {cs : List Comprehension} {scope : Scope} {pos : Pos} {imp : List (Option Nat)} {g : G} {gs : List G} {fe : EvF} (M : CompM prog w TT B0 n sc elt target iter ifs cs scope imp g gs fe) :
    DenL prog w TT B0 n sc (.ListComp elt (⟨target, iter, ifs, 0⟩ :: cs) scope pos) (dCompL imp g gs fe) := by
  intro A env ρ ok H E s B hs S V xs e Q Err P
  rw [eval_ListComp]
  refine comp_core M B hs S V e (use := none) fun D C ws k h' tk hD hC hne hTC hTD kp i' hNs e1 r S' V' hfree => ?_
  obtain ⟨m, hm⟩ := hNs
  refine ⟨m, hm, fun h'' hsb => ?_⟩
  have kC : KP (TT.TB ++ [C]) h' h'' := KP.ofBut fun b o hb e => hsb.extBut b o (fun q => hb (List.mem_singleton.mpr q)) e
  have kf : KP TT.TB s.heap h'' := fun b o nb e => hsb.extBut b o (fun q => by rw [q, hC] at e; cases e) (kp b o nb e)
  have i'' : TT.Inv h'' := TT.oneNs i' hTC hm fun b o hb e => hsb.extBut b o hb e
  exact P D ws k h'' tk hD kf i'' (hsb.extBut _ _ hne.symm e1) ((r.keepX (X := [C]) (fun b hb h => h.2.1 (List.mem_singleton.mp hb)) kC i').okm fun _ _ _ h => ⟨h.1, h.2.2⟩)
noncomputable def opAddLL (x y : VV) (H : Hp) : Option (List VV) := (items x H).bind fun xs => (items y H).bind fun ys => if xs.length + ys.length ≤ 16777216 then some (xs ++ ys) else none
theorem laddL : OpL2 prog w TT B0 (binaryOp .Add) opAddLL := by
  intro A ρ ok H s x y a b B S hx hy v e Q Err P
  unfold opAddLL at e
  refine bindSome e fun xs ex e => ?_
  refine bindSome e fun ys ey e => ?_
  split at e
  · rename_i hz
    cases e
    obtain ⟨l, ws, k, rfl, h1, r1⟩ := items_at S hx ex
    obtain ⟨m, us, j, rfl, h2, r2⟩ := items_at S hy ey
    have e' : ws.toArray ++ us.toArray = (ws ++ us).toArray := by simp
    rw [r1.length, r2.length] at hz
    refine concat_meets ⟨_, h1, rfl⟩ ⟨_, h2, rfl⟩ noFill_list_add seq_list_add PySem.F.slot_list_add PySem.F.entry_list_add (PySem.F.args_list_add_2 _ _) (list_addW l m ws.toArray us.toArray k j _ _ _ _ (by simpa [sizeLine] using hz)) ⟨h1, h2, ?_⟩
    rw [e']
    exact P.push S (r1.append r2)
  · cases e
noncomputable def mul1L : List VV → VV → Option (List VV)
  | [v], .int k => if -1000000 ≤ k ∧ k ≤ 1000000 then some (List.replicate k.toNat v) else none
  | _, _ => none
theorem mul1L_eq {xs vs : List VV} {y : VV} (e : mul1L xs y = some vs) : ∃ u k, xs = [u] ∧ y = .int k ∧ -1000000 ≤ k ∧ k ≤ 1000000 ∧ vs = List.replicate k.toNat u := by
  unfold mul1L at e
  split at e
  · split at e
    · rename_i hz; cases e; exact ⟨_, _, rfl, rfl, hz.1, hz.2, rfl⟩
    · cases e
  · cases e
noncomputable def opMulLL (x y : VV) (H : Hp) : Option (List VV) := (items x H).bind fun xs => mul1L xs y
theorem lmulL : OpL2 prog w TT B0 (binaryOp .Mult) opMulLL := by
  intro A ρ ok H s x y a b B S hx hy v e Q Err P
  unfold opMulLL at e
  refine bindSome e fun xs ex e => ?_
  obtain ⟨u, k, rfl, rfl, hz1, hz2, rfl⟩ := mul1L_eq e
  obtain ⟨l, ws, kk, rfl, h1, r1⟩ := items_at S hx ex
  obtain ⟨t, rfl⟩ := hy.intI
  obtain ⟨wv, rfl, q⟩ := r1.oneI
  · refine wpAny_binaryOp_repeat_ref (T := "list") (U := "int") (by decide) ⟨_, h1, rfl⟩ (fun s' => typeIs_int s' k t) noFill_list_mul F.fills_int_mul F.slot_int_rmul repeat_list F.slot_int_index.lookup
      (call_meets F.slot_int_rmul (typeIs_int s k t) F.entry_int_rmul (F.args_int_rmul_2 _ _) (int___rmul___int_list k t l [wv].toArray kk)
        ⟨h1, rfl, ⟨_, h1, rfl⟩, call_meets F.slot_list_mul ⟨_, h1, rfl⟩ F.entry_list_mul (F.args_list_mul_2 _ _)
          (AutoListH.list___mul___list_int_3 l [wv].toArray kk k t (by simp [Builtin.List.listFitsIndex]; omega) (by have e1 : [wv].toArray.size = 1 := rfl; rw [e1]; omega) (by simp [Builtin.List.listTooLong, sizeLine]; omega))
          ⟨h1, ?_⟩⟩)
    have e1 : (List.foldl (fun x1 x2 => x1 ++ x2) #[] (List.replicate (if ([wv].toArray).isEmpty = true then 0 else k.toNat) [wv].toArray)) = (List.replicate k.toNat wv).toArray := by
      rw [if_neg (by simp)]
      have := fold_one wv k.toNat #[]
      simpa using this
    rw [e1]
    exact P.push S (VRs.replicate q _)
noncomputable def dBinL (g : VV → VV → Hp → Option (List VV)) (fa fb : EvF) : Lo → Hp → Option (List VV) := fun E H => (fa E H).bind fun x => (fb E H).bind fun y => g x y H
theorem l_bin {op : Operator} {g : VV → VV → Hp → Option (List VV)} (hg : OpL2 prog w TT B0 (binaryOp op) g) {a b : Expr} {fa fb : EvF} {pos : Pos} (ha : DenE prog w TT B0 n sc a fa) (hb : DenE prog w TT B0 n sc b fb) :
    DenL prog w TT B0 n sc (.BinOp a op b pos) (dBinL g fa fb) := by
  intro A env ρ ok H E s B hs S V v e Q Err P
  unfold dBinL at e
  refine bindSome e fun x ex e => ?_
  refine bindSome e fun y ey e => ?_
  refine wpAny_BinOp (ha A env ρ ok H E s B hs S V x ex _ _ fun wx h₁ tk₁ k₁ i₁ vx => ?_)
  refine hb A env ρ ok H E { s with heap := h₁, toks := tk₁ } B hs (S.keep k₁ i₁) (V.keep S.good.inv k₁) y ey _ _ fun wy h₂ tk₂ k₂ i₂ vy => ?_
  exact hg A ρ ok H { s with heap := h₂, toks := tk₂ } x y wx wy (B.le (Nat.zero_le _)) (S.keep (k₁.trans k₂) i₂) (vx.keep k₂ i₁) vy v e Q Err (P.after (k₁.trans k₂) i₂)
end
end Mine
namespace Mine

inductive Fl where
  | next
  | brk
  | ret (v : VV)
inductive FlR (h : Heap) (ρ : List Addr) (ok : Addr → Prop) : Fl → Flow → Prop
  | next : FlR h ρ ok .next .next
  | brk : FlR h ρ ok .brk .brk
  | ret {v : VV} {w : Value} : VR h ρ ok v w → FlR h ρ ok (.ret v) (.ret w)

structure Nx (TT : Tabs) (M ρ : List Addr) (ok : Addr → Prop) (h : Heap) (ρ' : List Addr) (ok' : Addr → Prop) (h' : Heap) : Prop where
  pre : ∃ σ, ρ' = ρ ++ σ
  new : ∀ a ∈ ρ', a ∈ ρ ∨ h.get? a = none
  sub : ∀ a, ok' a → ok a
  okk : ∀ a o, h.get? a = some o → ok a → ok' a
  kp : KP (TT.TB ++ (M ++ ρ)) h h'

structure SV (TT : Tabs) (B0 : Heap) (env : Env) (ρ : List Addr) (ok : Addr → Prop) (E : Lo) (H : Hp) (M : List Addr) (h : Heap) : Prop where
  s0 : SV0 TT B0 ρ ok H h
  ev : EnvV TT env ρ ok E h
  frm : Frm TT B0 ρ ok env true M
  nd : ρ.Nodup
  okn : ∀ a ∈ ρ, ¬ ok a
  oldn : ∀ a ∈ ρ, B0.get? a = none
  dep : interactive env = false

section
variable {TT : Tabs} {B0 h h' h1 h2 : Heap} {ρ ρ' ρ1 ρ2 M : List Addr} {ok ok' ok1 ok2 : Addr → Prop} {H H' : Hp} {E E' : Lo} {env : Env}
theorem SV.dis (S : SV TT B0 env ρ ok E H M h) : ∀ a, ok a → a ∉ M ++ ρ := fun a ha q => (List.mem_append.mp q).elim (fun q => S.frm.ap.ok a q ha) fun q => S.okn a q ha
theorem SV.keep (S : SV TT B0 env ρ ok E H M h) (k : KP TT.TB h h') (i : TT.Inv h') : SV TT B0 env ρ ok E H M h' := ⟨S.s0.keep k i, S.ev.keep S.s0.good.inv k, S.frm, S.nd, S.okn, S.oldn, S.dep⟩
theorem Nx.of (k : KP (TT.TB ++ (M ++ ρ)) h h') : Nx TT M ρ ok h ρ ok h' := ⟨⟨[], by simp⟩, fun _ q => .inl q, fun _ q => q, fun _ _ _ q => q, k⟩
theorem Nx.ofP (k : KP TT.TB h h') : Nx TT M ρ ok h ρ ok h' := .of (k.toX _)
theorem Nx.ofM (k : KP (TT.TB ++ M) h h') : Nx TT M ρ ok h ρ ok h' := .of (k.inX fun b q => List.mem_append_left _ q)
theorem Nx.refl (h : Heap) : Nx TT M ρ ok h ρ ok h := .of fun _ _ _ e => e
theorem Nx.trans (a : Nx TT M ρ ok h ρ1 ok1 h1) (b : Nx TT M ρ1 ok1 h1 ρ2 ok2 h2) (i1 : TT.Inv h1) (hd : ∀ a, ok a → a ∉ M ++ ρ) (hM : ∀ b ∈ M, b ∉ ρ2) : Nx TT M ρ ok h ρ2 ok2 h2 where
  pre := by
    obtain ⟨σ, rfl⟩ := a.pre
    obtain ⟨τ, rfl⟩ := b.pre
    exact ⟨σ ++ τ, by rw [List.append_assoc]⟩
  new := fun x hx => by
    rcases b.new x hx with q | q
    · exact a.new x q
    · by_cases hρ : x ∈ ρ
      · exact .inl hρ
      · right
        cases e : h.get? x with
        | none => rfl
        | some o =>
          by_cases hT : x ∈ TT.TB
          · obtain ⟨o', e', _⟩ := TT.there h1 i1 x hT
            rw [q] at e'; cases e'
          · have := a.kp x o (fun q => (List.mem_append.mp q).elim hT fun q => (List.mem_append.mp q).elim (fun q => hM x q hx) hρ) e
            rw [q] at this; cases this
  sub := fun x hx => a.sub x (b.sub x hx)
  okk := fun x o e hx => by
    by_cases hT : x ∈ TT.TB
    · obtain ⟨o', e', _⟩ := TT.there h1 i1 x hT
      exact b.okk x o' e' (a.okk x o e hx)
    · exact b.okk x o (a.kp x o (fun q => (List.mem_append.mp q).elim hT (hd x hx)) e) (a.okk x o e hx)
  kp := fun x o n e => by
    have n1 : x ∉ TT.TB := fun q => n (List.mem_append_left _ q)
    have n2 : x ∉ M := fun q => n (List.mem_append_right _ (List.mem_append_left _ q))
    have n3 : x ∉ ρ := fun q => n (List.mem_append_right _ (List.mem_append_right _ q))
    refine b.kp x o (fun q => (List.mem_append.mp q).elim n1 fun q => (List.mem_append.mp q).elim n2 fun q => ?_) (a.kp x o n e)
    rcases a.new x q with q | q
    · exact n3 q
    · rw [e] at q; cases q
theorem Nx.vr (a : Nx TT M ρ ok h ρ' ok' h') (i : TT.Inv h) (hd : ∀ a, ok a → a ∉ M ++ ρ) {v : VV} {w : Value} (q : VR h ρ ok v w) : VR h' ρ' ok' v w :=
  q.mono (fun b o hc hb e => a.kp b o (fun q => (List.mem_append.mp q).elim (notTab i e hc) (hd b hb)) e) (fun j x e => by
    obtain ⟨σ, rfl⟩ := a.pre
    rw [List.getElem?_append_left (List.getElem?_eq_some_iff.mp e).1]; exact e) a.okk
noncomputable def PostS (TT : Tabs) (B0 : Heap) (env : Env) (M ρ : List Addr) (ok : Addr → Prop) (r : Fl) (E' : Lo) (H' : Hp) (Q : Flow → Shared → Prop) (s : Shared) : Prop :=
  ∀ fl ρ' ok' h' tk, Nx TT M ρ ok s.heap ρ' ok' h' → SV TT B0 env ρ' ok' E' H' M h' → FlR h' ρ' ok' r fl → Q fl { s with heap := h', toks := tk }
theorem PostS.after {r : Fl} {Q : Flow → Shared → Prop} {s : Shared} (P : PostS TT B0 env M ρ ok r E' H' Q s) {tk : Nat} (a : Nx TT M ρ ok s.heap ρ1 ok1 h1) (i1 : TT.Inv h1) (hd : ∀ a, ok a → a ∉ M ++ ρ) :
    PostS TT B0 env M ρ1 ok1 r E' H' Q { s with heap := h1, toks := tk } :=
  fun fl ρ' ok' h' tk' b S' f => P fl ρ' ok' h' tk' (a.trans b i1 hd S'.frm.ap.rho) S' f
end

noncomputable abbrev StF := Lo → Hp → Option (Fl × Lo × Hp)
section
variable (prog : Program) (w : World) (TT : Tabs) (B0 : Heap)
noncomputable def DenS (n : Nat) (sc : Sc) (st : Stmt) (F : StF) : Prop :=
  ∀ (A : Around) (env : Env) (M ρ : List Addr) (ok : Addr → Prop) (H : Hp) (E : Lo) (s : Shared), Bud A n → env.scope.names = sc → SV TT B0 env ρ ok E H M s.heap →
    ∀ r E' H', F E H = some (r, E', H') → ∀ (Q : Flow → Shared → Prop) (Err : Value → Shared → Prop), PostS TT B0 env M ρ ok r E' H' Q s → wpAny (model prog w) A (exec st env) Q Err s
noncomputable def DenSs (n : Nat) (sc : Sc) (st : List Stmt) (F : StF) : Prop :=
  ∀ (A : Around) (env : Env) (M ρ : List Addr) (ok : Addr → Prop) (H : Hp) (E : Lo) (s : Shared), Bud A n → env.scope.names = sc → SV TT B0 env ρ ok E H M s.heap →
    ∀ r E' H', F E H = some (r, E', H') → ∀ (Q : Flow → Shared → Prop) (Err : Value → Shared → Prop), PostS TT B0 env M ρ ok r E' H' Q s → wpAny (model prog w) A (execs st env) Q Err s
end

section
variable {prog : Program} {w : World} {TT : Tabs} {B0 : Heap} {n : Nat} {sc : Sc}

noncomputable def sNil : StF := fun E H => some (.next, E, H)
noncomputable def sSeq (f g : StF) : StF := fun E H => (f E H).bind fun p => match p with
  | (.next, E1, H1) => g E1 H1
  | p => some p
theorem ss_nil : DenSs prog w TT B0 n sc [] sNil := by
  intro A env M ρ ok H E s B hs S r E' H' e Q Err P
  cases e
  exact wpAny_execs_nil (P _ _ _ s.heap s.toks (Nx.refl _) S .next)
theorem ss_cons {st : Stmt} {sts : List Stmt} {f g : StF} (hf : DenS prog w TT B0 n sc st f) (hg : DenSs prog w TT B0 n sc sts g) : DenSs prog w TT B0 n sc (st :: sts) (sSeq f g) := by
  intro A env M ρ ok H E s B hs S r E' H' e Q Err P
  unfold sSeq at e
  obtain ⟨⟨r1, E1, H1⟩, e1, e⟩ := Option.bind_eq_some_iff.mp e
  refine wpAny_execs_cons (hf A env M ρ ok H E s B hs S r1 E1 H1 e1 _ Err fun fl ρ1 ok1 h1 tk a S1 f => ?_)
  cases f with
  | next => exact hg A env M ρ1 ok1 H1 E1 { s with heap := h1, toks := tk } B hs S1 r E' H' e Q Err (P.after a S1.s0.good.inv S.dis)
  | brk => cases e; exact P _ _ _ h1 tk a S1 .brk
  | ret q => cases e; exact P _ _ _ h1 tk a S1 (.ret q)
theorem ss_one {st : Stmt} {f : StF} (hf : DenS prog w TT B0 n sc st f) : DenSs prog w TT B0 n sc [st] f := by
  intro A env M ρ ok H E s B hs S r E' H' e Q Err P
  refine wpAny_execs_cons (hf A env M ρ ok H E s B hs S r E' H' e _ Err fun fl ρ1 ok1 h1 tk a S1 f => ?_)
  cases f with
  | next => exact wpAny_execs_nil (P _ _ _ h1 tk a S1 .next)
  | brk => exact P _ _ _ h1 tk a S1 .brk
  | ret q => exact P _ _ _ h1 tk a S1 (.ret q)
noncomputable def sNo : StF := fun _ _ => none
theorem ss_no {sts : List Stmt} : DenSs prog w TT B0 n sc sts sNo := by
  intro A env M ρ ok H E s B hs S r E' H' e
  cases e
noncomputable def sRet (f : EvF) : StF := fun E H => (f E H).map fun v => (.ret v, E, H)
theorem s_ret {e : Expr} {f : EvF} {pos : Pos} (hf : DenE prog w TT B0 n sc e f) : DenS prog w TT B0 n sc (.Return (some e) pos) (sRet f) := by
  intro A env M ρ ok H E s B hs S r E' H' e Q Err P
  refine mapSome e fun v ev e => ?_
  cases e
  refine wpAny_Return_some (hf A env ρ ok H E s B hs S.s0 S.ev v ev _ _ fun wv h₁ tk₁ k₁ i₁ q => ?_)
  exact P _ _ _ h₁ tk₁ (Nx.ofP k₁) (S.keep k₁ i₁) (.ret q)
noncomputable def sRetN : StF := fun E H => some (.ret .none, E, H)
theorem s_retN {pos : Pos} : DenS prog w TT B0 n sc (.Return none pos) sRetN := by
  intro A env M ρ ok H E s B hs S r E' H' e Q Err P
  cases e
  exact wpAny_Return_none (P _ _ _ s.heap s.toks (Nx.refl _) S (.ret .none))
noncomputable def sBrk : StF := fun E H => some (.brk, E, H)
theorem s_brk {pos : Pos} : DenS prog w TT B0 n sc (.Break pos) sBrk := by
  intro A env M ρ ok H E s B hs S r E' H' e Q Err P
  cases e
  exact wpAny_Break (P _ _ _ s.heap s.toks (Nx.refl _) S .brk)
noncomputable def sIf (t : TvF) (f g : StF) : StF := fun E H => (t E H).bind fun c => if c = true then f E H else g E H
theorem s_if {t : Expr} {body orelse : List Stmt} {ft : TvF} {f g : StF} {pos : Pos} (ht : DenT prog w TT B0 n sc t ft) (hf : DenSs prog w TT B0 n sc body f) (hg : DenSs prog w TT B0 n sc orelse g) : DenS prog w TT B0 n sc (.If t body orelse pos) (sIf ft f g) := by
  intro A env M ρ ok H E s B hs S r E' H' e Q Err P
  refine bindSome e fun c ec e => ?_
  refine wpAny_If (ht A env ρ ok H E s B hs S.s0 S.ev c ec _ _ fun h₁ tk₁ k₁ i₁ => ?_)
  have P' := P.after (tk := tk₁) (Nx.ofP k₁) i₁ S.dis
  cases c with
  | true => rw [if_pos rfl] at e ⊢; exact hf A env M ρ ok H E { s with heap := h₁, toks := tk₁ } B hs (S.keep k₁ i₁) r E' H' e Q Err P'
  | false => rw [if_neg (by decide)] at e ⊢; exact hg A env M ρ ok H E { s with heap := h₁, toks := tk₁ } B hs (S.keep k₁ i₁) r E' H' e Q Err P'

-- assignments
noncomputable def sAsg (tg : Tg) (f : EvF) : StF := fun E H => (f E H).bind fun v => (bindT tg v E).map fun E' => (.next, E', H)
theorem s_asg {t e : Expr} {tg : Tg} {f : EvF} {pos : Pos} (hnd : (sc.map (·.1)).Nodup) (ht : TgM sc true t tg) (hf : DenE prog w TT B0 n sc e f) (hsw : ∀ env : Env, swapsWith e (some t) pos.line env = pure false := by intro _; rfl)
    (hw : ∀ env : Env, swappedStores [t] e env = pure none := by intro _; rfl) : DenS prog w TT B0 n sc (.Assign [t] e pos) (sAsg tg f) := by
  intro A env M ρ ok H E s B hs S r E' H' e Q Err P
  refine bindSome e fun v ev e => ?_
  refine mapSome e fun E1 eb e => ?_
  cases e
  have hone : (assignEach [t] env).map (·.2) = [assign t env] := by
    cases ht with
    | nm h => cases h <;> rfl
    | tp _ => rfl
  refine wpAny_Assign_stores (hf A env ρ ok H E s B hs S.s0 S.ev v ev _ _ fun wv h₁ tk₁ k₁ i₁ q => ?_) (hsw env) (hw env)
  rw [hone]
  have S1 := S.keep k₁ i₁
  refine st_tg (s := { s with heap := h₁, toks := tk₁ }) B.hh S1.s0 S1.ev S.frm (hs ▸ hnd) (hs ▸ ht) q eb fun h₂ tk₂ k₂ S2 V2 => ?_
  exact P _ _ _ h₂ tk₂ (Nx.ofM ((k₁.toX M).trans k₂)) ⟨S2, V2, S.frm, S.nd, S.okn, S.oldn, S.dep⟩ .next

theorem S0_more {ρ : List Addr} {ok : Addr → Prop} {H : Hp} {h h' : Heap} {D : Addr} {ws : List Value} {k : Nat} {xs : List VV} (S : SV0 TT B0 ρ ok H h) (hf : h.get? D = none) (kp : KP TT.TB h h') (i : TT.Inv h') (e : h'.get? D = some (listO ws.toArray k)) (r : VRs h' ρ (Without ok D) xs ws) :
    SV0 TT B0 (ρ ++ [D]) (Without ok D) (H ++ [.list xs]) h' := by
  have ho : ∀ a o, h.get? a = some o → ok a → Without ok D a := fun a o e h => ⟨h, fun q => by rw [q, hf] at e; cases e⟩
  have pre : ∀ (j : Nat) a, ρ[j]? = some a → (ρ ++ [D])[j]? = some a := fun j a e => by rw [List.getElem?_append_left (List.getElem?_eq_some_iff.mp e).1]; exact e
  refine ⟨S.good.step kp i, by simp [S.len], fun j vo ej => ?_, fun a e' => ⟨(S.keep kp i).free a e', fun q => by rw [q, e] at e'; cases e'⟩⟩
  rw [List.getElem?_append] at ej
  split at ej
  · rename_i hj
    obtain ⟨a, ea, o⟩ := S.objs j vo ej
    refine ⟨a, pre j a ea, ?_⟩
    have o' := (o.okm ho).keepX (X := []) (by simp) (by simp) (kp.toX []) S.good.inv
    cases vo with
    | list ys => obtain ⟨ws, n, e1, e2⟩ := o'; exact ⟨ws, n, e1, e2.mono (fun _ _ _ _ e => e) pre fun _ _ _ h => h⟩
    | ns fs => obtain ⟨es, n, e1, e2, e3⟩ := o'; exact ⟨es, n, e1, e2, e3.mono (fun _ _ _ _ e => e) pre fun _ _ _ h => h⟩
  · rename_i hj
    have hj' : j - H.length = 0 := by
      cases q : j - H.length with
      | zero => rfl
      | succ m => rw [q] at ej; cases ej
    rw [hj'] at ej
    cases ej
    have : j = ρ.length := by rw [S.len]; omega
    exact ⟨D, by rw [this]; simp, ws, k, e, r.mono (fun _ _ _ _ e => e) pre fun _ _ _ h => h⟩
theorem EV_more {env : Env} {ρ : List Addr} {ok : Addr → Prop} {E : Lo} {h : Heap} {D : Addr} (V : EnvV TT env ρ ok E h) : EnvV TT env (ρ ++ [D]) ok E h := by
  have pre : ∀ (j : Nat) a, ρ[j]? = some a → (ρ ++ [D])[j]? = some a := fun j a e => by rw [List.getElem?_append_left (List.getElem?_eq_some_iff.mp e).1]; exact e
  have up : ∀ {v : VV} {w : Value}, VR h ρ ok v w → VR h (ρ ++ [D]) ok v w := fun q => q.mono (fun _ _ _ _ e => e) pre fun _ _ _ h => h
  exact ⟨V.kind, V.glo, V.blt, V.lTB, let ⟨m, hn, r⟩ := V.ns; ⟨m, hn, fun j x v e1 e2 => let ⟨w, a, b⟩ := r j x v e1 e2; ⟨w, a, up b⟩⟩,
    fun j x kd e hk => let ⟨a, o, v₀, e1, e2, e3, e4, r⟩ := V.cells j x kd e hk; ⟨a, o, v₀, e1, e2, e3, e4, fun v ev => let ⟨w, p, q⟩ := r v ev; ⟨w, p, up q⟩⟩⟩

theorem SV.more {env : Env} {M ρ : List Addr} {ok : Addr → Prop} {E : Lo} {H : Hp} {h h' : Heap} {D : Addr} {ws : List Value} {k : Nat} {xs : List VV} (S : SV TT B0 env ρ ok E H M h) (hf : h.get? D = none) (kp : KP TT.TB h h') (i : TT.Inv h') (e : h'.get? D = some (listO ws.toArray k)) (r : VRs h' ρ (Without ok D) xs ws) :
    SV TT B0 env (ρ ++ [D]) (Without ok D) E (H ++ [.list xs]) M h' ∧ Nx TT M ρ ok h (ρ ++ [D]) (Without ok D) h' := by
  have ho : ∀ a o, h.get? a = some o → ok a → Without ok D a := fun a o e h => ⟨h, fun q => by rw [q, hf] at e; cases e⟩
  have hDρ : D ∉ ρ := fun q => by
    obtain ⟨o, e'⟩ := S.s0.live q
    rw [hf] at e'; cases e'
  have hDM : D ∉ M := fun q => S.frm.ap.ok D q (S.s0.free D hf)
  refine ⟨⟨S0_more S.s0 hf kp i e r, EV_more ((S.ev.okm ho).keep S.s0.good.inv kp), ⟨⟨fun b q h => S.frm.ap.ok b q h.1, fun b q hb => ?_, S.frm.ap.old⟩, S.frm.tb, S.frm.lM, S.frm.cl, S.frm.cM⟩, ?_, fun a ha h => ?_, fun a ha => ?_, S.dep⟩, ⟨[D], rfl⟩, fun a ha => ?_, fun a h => h.1, ho, kp.toX _⟩
  · rcases List.mem_append.mp hb with hb | hb
    · exact S.frm.ap.rho b q hb
    · exact hDM (List.mem_singleton.mp hb ▸ q)
  · exact List.nodup_append.mpr ⟨S.nd, by simp, fun a ha b hb q => hDρ (by rw [← List.mem_singleton.mp hb, ← q]; exact ha)⟩
  · rcases List.mem_append.mp ha with ha | ha
    · exact S.okn a ha h.1
    · exact h.2 (List.mem_singleton.mp ha)
  · rcases List.mem_append.mp ha with ha | ha
    · exact S.oldn a ha
    · rw [List.mem_singleton.mp ha]; exact S.s0.good.old hf
  · rcases List.mem_append.mp ha with ha | ha
    · exact .inl ha
    · right; rw [List.mem_singleton.mp ha]; exact hf
noncomputable def sAsgL (i : Nat) (f : Lo → Hp → Option (List VV)) : StF := fun E H => (f E H).map fun xs => (.next, E.set i (some (.lst H.length)), H ++ [.list xs])
theorem s_asgL {t e : Expr} {i : Nat} {f : Lo → Hp → Option (List VV)} {pos : Pos} (hnd : (sc.map (·.1)).Nodup) (ht : NmM sc true t i) (hf : DenL prog w TT B0 n sc e f) (hsw : ∀ env : Env, swapsWith e (some t) pos.line env = pure false := by intro _; rfl)
    (hw : ∀ env : Env, swappedStores [t] e env = pure none := by intro _; rfl) : DenS prog w TT B0 n sc (.Assign [t] e pos) (sAsgL i f) := by
  intro A env M ρ ok H E s B hs S r E' H' e Q Err P
  refine mapSome e fun xs ev e => ?_
  cases e
  have hone : (assignEach [t] env).map (·.2) = [assign t env] := by cases ht <;> rfl
  refine wpAny_Assign_stores (hf A env ρ ok H E s B hs S.s0 S.ev xs ev _ _ fun D ws k h₁ tk₁ hD k₁ i₁ e1 r => ?_) (hsw env) (hw env)
  rw [hone]
  obtain ⟨S1, N1⟩ := S.more hD k₁ i₁ e1 r
  have q : VR h₁ (ρ ++ [D]) (Without ok D) (.lst H.length) (.ref D) := .lst (by rw [← S.s0.len]; simp)
  refine st_name (s := { s with heap := h₁, toks := tk₁ }) S1.s0 S1.ev S1.frm (hs ▸ hnd) (hs ▸ ht) q fun h₂ tk₂ k₂ S2 V2 => ?_
  exact P _ _ _ h₂ tk₂ (N1.trans (Nx.ofM k₂) i₁ S.dis S1.frm.ap.rho) ⟨S2, V2, S1.frm, S1.nd, S1.okn, S1.oldn, S1.dep⟩ .next
end
end Mine
namespace Mine

section
variable {prog : Program} {w : World} {TT : Tabs} {B0 : Heap} {n : Nat} {sc : Sc}

noncomputable def forK (Q : Flow → Shared → Prop) (K : Shared → Prop) : Flow → Shared → Prop
  | .next, s => K s
  | .cont, s => K s
  | .brk, s => Q .next s
  | .ret v, s => Q (.ret v) s
noncomputable def ForTurn (prog : Program) (w : World) (A : Around) (target : Expr) (it : Value) (body orelse : List Stmt) (env : Env) (Q : Flow → Shared → Prop) (K : Shared → Prop) (Err : Value → Shared → Prop) (s : Shared) : Prop :=
  wpAny (model prog w) A (pyNext it) (fun r s₁ => match r with
      | none => wpAny (model prog w) A (execs orelse env) Q Err s₁
      | some v => wpAny (model prog w) A (letOwnedTupleGo target it v) (fun _ s₁' => wpAny (model prog w) A (assign target env v) (fun _ s₂ => wpAny (model prog w) A (execs body env) (forK Q K) Err s₂) Err s₁') Err s₁) Err s
theorem forLoop_c {A : Around} {R : Result → Shared → Prop} {s : Shared} {target : Expr} {it : Value} {body orelse : List Stmt} {env : Env} (I : Nat → Shared → Prop) (Q : Flow → Shared → Prop) (hQ : ∀ f s', Q f s' → R (.ok f) s')
    (turn : ∀ n s, I n s → ∀ (K : Shared → Prop) (Err : Value → Shared → Prop), (∀ m s', m < n → I m s' → K s') → ForTurn prog w A target it body orelse env Q K Err s)
    (n : Nat) (h : I n s) : codeAny (model prog w) A (.forLoop target it body orelse env) R s := by
  refine codeAny_loop' rfl I (fun n s hI => ?_) n h
  show wpAny _ _ ((forTurn target it body orelse env).onRaise (fun x => do noteFrame x env; theTreesLotGoes x)) _ _ s
  refine wpAny_noted ?_
  simp only [forTurn]
  refine wpAny_bind (wpAny_standAt (wpAny_bind (wpAny_onRaise (wpAny_mono (turn n s hI (fun s' => ∃ m, m < n ∧ I m s') (notedBy (model prog w) A env fun e s' => R (.error e) s') fun m s' h1 h2 => ⟨m, h1, h2⟩) (fun r s₁ h₁ => ?_) fun _ _ h' => wpAny_standAt h'))))
  cases r with
  | none => exact wpAny_pure (.inr ⟨rfl, codeAny_block (wpAny_mono h₁ hQ fun _ _ h' => h')⟩)
  | some v =>
    refine wpAny_bind (wpAny_mono h₁ (fun _ s₁' h₁' => wpAny_bind (wpAny_mono h₁' (fun _ s₂ h₂ => wpAny_bind (wpAny_mono h₂ (fun f s₃ h₃ => ?_) fun _ _ h' => h')) fun _ _ h' => h')) fun _ _ h' => h')
    cases f with
    | next => exact wpAny_pure (.inl ⟨rfl, h₃⟩)
    | cont => exact wpAny_pure (.inl ⟨rfl, h₃⟩)
    | brk => exact wpAny_pure (hQ _ _ h₃)
    | ret v => exact wpAny_pure (hQ _ _ h₃)

noncomputable def forF (body : StF) (tg : Tg) : List VV → Lo → Hp → Option (Fl × Lo × Hp)
  | [], E, H => some (.next, E, H)
  | x :: xs, E, H => (bindT tg x E).bind fun E1 => (body E1 H).bind fun p => match p with
    | (.next, E2, H2) => forF body tg xs E2 H2
    | (.brk, E2, H2) => some (.next, E2, H2)
    | (.ret v, E2, H2) => some (.ret v, E2, H2)
noncomputable def sFor (tg : Tg) (it : Lo → Hp → Option (List VV)) (body : StF) : StF := fun E H => (it E H).bind fun xs => forF body tg xs E H

theorem SV.apart {env : Env} {M ρ : List Addr} {ok : Addr → Prop} {E : Lo} {H : Hp} {h h' : Heap} {I : Addr} (S : SV TT B0 env ρ ok E H M h) (hf : h.get? I = none) (kp : KP TT.TB h h') (i : TT.Inv h') (e : ∃ o, h'.get? I = some o) :
    SV TT B0 env ρ (Without ok I) E H M h' := by
  have ho : ∀ a o, h.get? a = some o → ok a → Without ok I a := fun a o e h => ⟨h, fun q => by rw [q, hf] at e; cases e⟩
  obtain ⟨o, e⟩ := e
  refine ⟨⟨S.s0.good.step kp i, S.s0.len, fun j vo ej => ?_, fun a e' => ⟨(S.s0.keep kp i).free a e', fun q => by rw [q, e] at e'; cases e'⟩⟩, (S.ev.okm ho).keep S.s0.good.inv kp, ⟨S.frm.ap.without I, S.frm.tb, S.frm.lM, S.frm.cl, S.frm.cM⟩, S.nd, fun a ha h => S.okn a ha h.1, S.oldn, S.dep⟩
  obtain ⟨a, ea, o⟩ := S.s0.objs j vo ej
  exact ⟨a, ea, (o.okm ho).keepX (X := []) (by simp) (by simp) (kp.toX []) S.s0.good.inv⟩

noncomputable def Also (ok : Addr → Prop) (I : Addr) : Addr → Prop := fun a => ok a ∨ a = I
theorem SV.back {env : Env} {M ρ : List Addr} {ok : Addr → Prop} {E : Lo} {H : Hp} {h h' : Heap} {I : Addr} (S : SV TT B0 env ρ ok E H M h) (hI : ¬ ok I) (hM : I ∉ M) (hρ : I ∉ ρ) (hB : B0.get? I = none) (k : KP (TT.TB ++ [I]) h h') (i' : TT.Inv h') (hcl : ClN env (· ≠ I)) :
    SV TT B0 env ρ (Also ok I) E H M h' := by
  have hX : ∀ b ∈ [I], ¬ ok b := fun b q => by rw [List.mem_singleton.mp q]; exact hI
  have up : ∀ a o, h'.get? a = some o → ok a → Also ok I a := fun _ _ _ h => .inl h
  have hL : env.locals ∉ [I] := fun q => hM (by rw [← List.mem_singleton.mp q]; exact S.frm.lM)
  refine ⟨⟨⟨fun b o n e => k b o (fun q => (List.mem_append.mp q).elim n fun q => by
    rw [List.mem_singleton.mp q, hB] at e
    cases e) (S.s0.good.keep b o n e), i'⟩, S.s0.len, fun j vo e => ?_, fun a e => ?_⟩, (S.ev.keepX S.s0.good.inv hX hL (fun j x kd a e hk el q => hcl j x kd a e hk el (List.mem_singleton.mp q)) k).okm up,
    ⟨⟨fun b q h => h.elim (S.frm.ap.ok b q) fun e => hM (e ▸ q), S.frm.ap.rho, S.frm.ap.old⟩, S.frm.tb, S.frm.lM, S.frm.cl, S.frm.cM⟩, S.nd, fun a ha h => h.elim (S.okn a ha) fun e => hρ (e ▸ ha), S.oldn, S.dep⟩
  · obtain ⟨a, ea, o⟩ := S.s0.objs j vo e
    exact ⟨a, ea, (o.keepX (fun q => hρ (by rw [← List.mem_singleton.mp q]; exact List.mem_of_getElem? ea)) hX k S.s0.good.inv).okm up⟩
  · by_cases ha : a = I
    · exact .inr ha
    · cases q : h.get? a with
      | none => exact .inl (S.s0.free a q)
      | some o =>
        by_cases hT : a ∈ TT.TB
        · obtain ⟨o', e', _⟩ := TT.there h' i' a hT
          rw [e] at e'; cases e'
        · have := k a o (fun q => (List.mem_append.mp q).elim hT fun q => ha (List.mem_singleton.mp q)) q
          rw [e] at this; cases this

theorem Nx.wide {M M' ρ ρ' : List Addr} {ok ok' : Addr → Prop} {h h' : Heap} (a : Nx TT M ρ ok h ρ' ok' h') (s : ∀ b ∈ M, b ∈ M') : Nx TT M' ρ ok h ρ' ok' h' :=
  ⟨a.pre, a.new, a.sub, a.okk, a.kp.wide fun b q => (List.mem_append.mp q).elim (List.mem_append_left _) fun q => List.mem_append_right _ ((List.mem_append.mp q).elim (fun q => List.mem_append_left _ (s b q)) (List.mem_append_right _))⟩
theorem FlR.okm {h : Heap} {ρ : List Addr} {ok ok' : Addr → Prop} {r : Fl} {f : Flow} (q : FlR h ρ ok r f) (ho : ∀ a o, h.get? a = some o → ok a → ok' a) : FlR h ρ ok' r f := by
  cases q with
  | next => exact .next
  | brk => exact .brk
  | ret q => exact .ret (q.okm ho)

structure LS where
  i : Nat
  ρ : List Addr
  ok : Addr → Prop
  E : Lo
  H : Hp
  h : Heap
  tk : Nat
structure ForI (TT : Tabs) (B0 : Heap) (env : Env) (M ρ : List Addr) (ok : Addr → Prop) (I : Addr) (St : Nat → Heap → Prop) (F : Nat → Lo → Hp → Prop) (n : Nat) (h₁ : Heap) (x : LS) : Prop where
  le : x.i ≤ n
  nx : Nx TT (I :: M) ρ (Without ok I) h₁ x.ρ x.ok x.h
  sv : SV TT B0 env x.ρ x.ok x.E x.H M x.h
  st : St x.i x.h
  eq : F x.i x.E x.H
theorem s_for {target iter : Expr} {body : List Stmt} {tg : Tg} {fi : Lo → Hp → Option (List VV)} {fb : StF} {pos : Pos} (hnd : (sc.map (·.1)).Nodup) (ht : TgM sc true target tg) (hi : DenIt prog w TT B0 true n sc iter fi) (hb : DenSs prog w TT B0 n sc body fb)
    (hfold : ∀ (env : Env) x, foldedSetIterable iter env x = pure x := by intro _ _; rfl) : DenS prog w TT B0 n sc (.For target iter body [] pos) (sFor tg fi fb) := by
  intro A env M ρ ok H E s B hs S r E' H' e Q Err P
  refine bindSome e fun xs ex e => ?_
  refine wpAny_For (hi A env ρ ok H E s B hs S.s0 S.ev xs ex _ _ fun I fp Pr St h₁ tk₁ hf₁ k₁ i₁ X => ?_) (hfold env)
  obtain ⟨nm, hnm, hcls⟩ := X.cls
  obtain ⟨oI, hoI, hcI, _⟩ := hcls _ _ X.st
  have S1 : SV TT B0 env ρ (Without ok I) E H M h₁ := S.apart hf₁ k₁ i₁ ⟨oI, hoI⟩
  have okI : ok I := S.s0.free I hf₁
  have hIT : I ∉ TT.TB := notTab i₁ hoI (by rw [hcI]; nofun)
  have hIM : I ∉ M := fun q => S.frm.ap.ok I q okI
  have hIρ : I ∉ ρ := fun q => S.okn I q okI
  have hIB : B0.get? I = none := S.s0.good.old hf₁
  have hd1 : ∀ a, Without ok I a → a ∉ (I :: M) ++ ρ := fun a ha q => by
    rcases List.mem_cons.mp q with q | q
    · exact ha.2 q
    · exact S1.dis a ha q
  have clI : ClN env (· ≠ I) := fun i x k a e hk el q => by
    obtain ⟨a', o, _, e1, e2, _⟩ := S.ev.cells i x k e hk
    rw [el] at e1; cases e1
    rw [q, hf₁] at e2; cases e2
  -- the end
  have fin : ∀ {ρ1 : List Addr} {ok1 : Addr → Prop} {E1 : Lo} {H1 : Hp} {h h' : Heap} {tk : Nat} {r : Fl} {fl : Flow}, Nx TT (I :: M) ρ (Without ok I) h₁ ρ1 ok1 h → SV TT B0 env ρ1 ok1 E1 H1 M h → KP (TT.TB ++ [I]) h h' → TT.Inv h' → FlR h ρ1 ok1 r fl →
      PostS TT B0 env M ρ ok r E1 H1 Q s → Q fl { s with heap := h', toks := tk } := by
    intro ρ1 ok1 E1 H1 h h' tk r fl N SS k i' f P
    have hI1 : ¬ ok1 I := fun q => (N.sub I q).2 rfl
    have hIρ1 : I ∉ ρ1 := fun q => by
      rcases N.new I q with q | q
      · exact hIρ q
      · rw [hoI] at q; cases q
    have hX : ∀ b ∈ [I], ¬ ok1 b := fun b q => by rw [List.mem_singleton.mp q]; exact hI1
    refine P fl ρ1 (Also ok1 I) h' tk ⟨N.pre, fun a ha => (N.new a ha).imp id (k₁.free i₁), fun a ha => ha.elim (fun h => (N.sub a h).1) fun h => h ▸ okI, fun a o e ha => ?_, fun b o nb e => ?_⟩ (SS.back hI1 hIM hIρ1 hIB k i' clI) ?_
    · have hne : a ≠ I := fun q => by rw [q, hf₁] at e; cases e
      by_cases hT : a ∈ TT.TB
      · obtain ⟨o', e', _⟩ := TT.there h₁ i₁ a hT
        exact .inl (N.okk a o' e' ⟨ha, hne⟩)
      · exact .inl (N.okk a o (k₁ a o hT e) ⟨ha, hne⟩)
    · have hne : b ≠ I := fun q => by rw [q, hf₁] at e; cases e
      have nT : b ∉ TT.TB := fun q => nb (List.mem_append_left _ q)
      refine k b o (fun q => (List.mem_append.mp q).elim nT fun q => hne (List.mem_singleton.mp q)) (N.kp b o (fun q => (List.mem_append.mp q).elim nT fun q => ?_) (k₁ b o nT e))
      rcases List.mem_cons.mp q with q | q
      · exact hne q
      · exact nb (List.mem_append_right _ q)
    · cases f with
      | next => exact .next
      | brk => exact .brk
      | ret q => exact .ret ((q.keepX hX k SS.s0.good.inv).okm fun _ _ _ h => .inl h)
  refine forLoop_c (I := fun k s' => ∃ x : LS, s' = { s with heap := x.h, toks := x.tk } ∧ k = xs.length - x.i ∧ ForI TT B0 env M ρ ok I St (fun i E1 H1 => forF fb tg (xs.drop i) E1 H1 = some (r, E', H')) xs.length h₁ x) Q (fun _ _ h => h) ?_ xs.length
    ⟨⟨0, ρ, _, E, H, h₁, tk₁⟩, rfl, rfl, ⟨Nat.zero_le _, Nx.refl _, S1, X.st, e⟩⟩
  rintro k s' ⟨⟨i, ρ1, ok1, E1, H1, h, tk⟩, rfl, rfl, J⟩ K Err2 hK
  have hi := J.le
  have N := J.nx
  have SS := J.sv
  have st := J.st
  have eL := J.eq
  clear J
  dsimp only at hi N SS st eL
  unfold ForTurn
  have hI1 : ¬ ok1 I := fun q => (N.sub I q).2 rfl
  have hIρ1 : I ∉ ρ1 := fun q => by
    rcases N.new I q with q | q
    · exact hIρ q
    · rw [hoI] at q; cases q
  by_cases hlt : i < xs.length
  · rw [List.drop_eq_getElem_cons hlt] at eL
    simp only [forF] at eL
    refine bindSome eL fun E2 eb eL => ?_
    obtain ⟨⟨r3, E3, H3⟩, ebody, eL⟩ := Option.bind_eq_some_iff.mp eL
    refine X.walk.item i _ _ _ hlt st fun v h₂ tk₂ hv st₂ k₂ => ?_
    dsimp only at k₂ ⊢
    have kI : KP (TT.TB ++ [I]) h h₂ := KP.ofBut k₂
    have i₂ : TT.Inv h₂ := TT.one SS.s0.good.inv hIT (X.notCode st) fun b o hb e => k₂ b o (fun q => hb (List.mem_singleton.mp q)) e
    have apI : Apart B0 ρ1 ok1 [I] := ⟨fun b q => by rw [List.mem_singleton.mp q]; exact hI1, fun b q => by rw [List.mem_singleton.mp q]; exact hIρ1, fun b q => by rw [List.mem_singleton.mp q]; exact hIB⟩
    obtain ⟨oI2, hoI2, hcI2, _⟩ := hcls _ _ st₂
    have SS2 : SV TT B0 env ρ1 ok1 E1 H1 M h₂ := ⟨SS.s0.keepX apI kI i₂ fun b q => by rw [List.mem_singleton.mp q, hoI2]; nofun,
      SS.ev.keepX SS.s0.good.inv apI.ok (fun q => hIM (by rw [← List.mem_singleton.mp q]; exact SS.frm.lM)) (fun j x kd a e hk el q => clI j x kd a e hk el (List.mem_singleton.mp q)) kI, SS.frm, SS.nd, SS.okn, SS.oldn, SS.dep⟩
    obtain ⟨x, hx, q⟩ := X.it i v hv
    have hxi : xs[i] = x := by rw [List.getElem?_eq_getElem hlt] at hx; exact Option.some.inj hx
    rw [hxi] at eb
    have q1 : VR h ρ1 ok1 x v := N.vr i₁ hd1 q
    have q2 : VR h₂ ρ1 ok1 x v := q1.keepX apI.ok kI SS.s0.good.inv
    have go : ∀ {Q : Unit → Shared → Prop} {Err : Value → Shared → Prop}, Q () { s with heap := h₂, toks := tk₂ } → wpAny (model prog w) A (letOwnedTupleGo target (.ref I) v) Q Err { s with heap := h₂, toks := tk₂ } := by
      intro Q Err hQ
      cases ht with
      | nm hn => cases hn <;> exact wpAny_pure hQ
      | tp _ => exact wpAny_ltg (s := { s with heap := h₂, toks := tk₂ }) hoI2 hcI2 hnm hQ
    refine go ?_
    refine st_tg (s := { s with heap := h₂, toks := tk₂ }) B.hh SS2.s0 SS2.ev SS.frm (hs ▸ hnd) (hs ▸ ht) q2 eb fun h₃ tk₃ k₃ S3 V3 => ?_
    have SS3 : SV TT B0 env ρ1 ok1 E2 H1 M h₃ := ⟨S3, V3, SS.frm, SS.nd, SS.okn, SS.oldn, SS.dep⟩
    have MI : ∀ b ∈ I :: M, b ∉ ρ1 := fun b q => by
      rcases List.mem_cons.mp q with rfl | q
      · exact hIρ1
      · exact SS.frm.ap.rho b q
    have dI : ∀ a, ok1 a → a ∉ (I :: M) ++ ρ1 := fun a ha q => by
      rcases List.mem_cons.mp q with rfl | q
      · exact hI1 ha
      · exact SS.dis a ha q
    have N2 : Nx TT (I :: M) ρ1 ok1 h ρ1 ok1 h₃ := Nx.ofM ((kI.inX fun b q => by rw [List.mem_singleton.mp q]; exact List.mem_cons_self).trans (k₃.inX fun b q => List.mem_cons_of_mem _ q))
    have N3 : Nx TT (I :: M) ρ (Without ok I) h₁ ρ1 ok1 h₃ := N.trans N2 SS.s0.good.inv hd1 MI
    refine hb A env M ρ1 ok1 H1 E2 { s with heap := h₃, toks := tk₃ } B hs SS3 r3 E3 H3 ebody _ _ fun fl ρ4 ok4 h₄ tk₄ N4 S4 f => ?_
    have i₃ := S3.good.inv
    have hIρ4 : I ∉ ρ4 := fun q => by
      rcases N4.new I q with q | q
      · exact hIρ1 q
      · have := k₃ I oI2 (fun q => (List.mem_append.mp q).elim hIT hIM) hoI2
        rw [show h₃.get? I = none from q] at this; cases this
    have NN : Nx TT (I :: M) ρ (Without ok I) h₁ ρ4 ok4 h₄ := N3.trans (N4.wide fun b q => List.mem_cons_of_mem _ q) i₃ hd1 fun b q => by
      rcases List.mem_cons.mp q with rfl | q
      · exact hIρ4
      · exact S4.frm.ap.rho b q
    cases f with
    | next =>
      refine hK (xs.length - (i + 1)) _ (Nat.sub_succ_lt_self xs.length i hlt) ⟨⟨i + 1, ρ4, ok4, E3, H3, h₄, tk₄⟩, rfl, rfl, ⟨hlt, NN, S4, ?_, eL⟩⟩
      refine X.walk.frame _ _ _ st₂ fun b hb o e => ?_
      have hbn : b ∉ TT.TB ∧ b ∉ M ++ ρ1 := by
        by_cases hbI : b = I
        · rw [hbI]; exact ⟨hIT, fun q => (List.mem_append.mp q).elim hIM hIρ1⟩
        rcases X.fps b hb with q | ⟨o', e', hc, hk⟩
        · exact absurd q hbI
        · exact ⟨notTab i₁ e' hc, SS.dis b (N.okk b o' e' ⟨hk.elim id fun q => (by cases q.1), hbI⟩)⟩
      refine N4.kp b o (fun q => (List.mem_append.mp q).elim hbn.1 hbn.2) (k₃ b o (fun q => (List.mem_append.mp q).elim hbn.1 fun q => hbn.2 (List.mem_append_left _ q)) e)
    | brk => 
      cases eL
      exact fin NN S4 (fun _ _ _ e => e) S4.s0.good.inv .next P
    | ret q =>
      cases eL
      exact fin NN S4 (fun _ _ _ e => e) S4.s0.good.inv (.ret q) P
  · have hie : i = xs.length := by omega
    subst hie
    rw [List.drop_length] at eL
    cases eL
    refine X.walk.done _ _ _ st fun h₂ tk₂ k₂ => ?_
    dsimp only at k₂ ⊢
    have kI : KP (TT.TB ++ [I]) h h₂ := KP.ofBut k₂
    have i₂ : TT.Inv h₂ := TT.one SS.s0.good.inv hIT (X.notCode st) fun b o hb e => k₂ b o (fun q => hb (List.mem_singleton.mp q)) e
    exact wpAny_execs_nil (fin N SS kI i₂ .next P)

noncomputable def whileF (t : TvF) (body : StF) : Nat → Lo → Hp → Option (Fl × Lo × Hp)
  | 0, _, _ => none
  | k + 1, E, H => (t E H).bind fun c => if c = true then (body E H).bind fun p => match p with
      | (.next, E2, H2) => whileF t body k E2 H2
      | (.brk, E2, H2) => some (.next, E2, H2)
      | (.ret v, E2, H2) => some (.ret v, E2, H2)
    else some (.next, E, H)
theorem s_while {t : Expr} {body : List Stmt} {ft : TvF} {fb : StF} {pos : Pos} (k : Nat) (ht : DenT prog w TT B0 n sc t ft) (hb : DenSs prog w TT B0 n sc body fb) : DenS prog w TT B0 n sc (.While t body [] pos) (whileF ft fb k) := by
  intro A env M ρ ok H E s B hs S r E' H' e Q Err P
  refine wpAny_While ?_
  refine codeAny_whileLoop (fun k s' => ∃ ρ1 ok1 E1 H1 h tk, s' = { s with heap := h, toks := tk } ∧ Nx TT M ρ ok s.heap ρ1 ok1 h ∧ SV TT B0 env ρ1 ok1 E1 H1 M h ∧ whileF ft fb k E1 H1 = some (r, E', H')) ?_ k
    ⟨ρ, ok, E, H, s.heap, s.toks, rfl, Nx.refl _, S, e⟩
  rintro k s' ⟨ρ1, ok1, E1, H1, h, tk, rfl, N, SS, eL⟩
  cases k with
  | zero => cases eL
  | succ k =>
    simp only [whileF] at eL
    refine bindSome eL fun c ec eL => ?_
    refine ht A env ρ1 ok1 H1 E1 { s with heap := h, toks := tk } B hs SS.s0 SS.ev c ec _ _ fun h₂ tk₂ k₂ i₂ => ?_
    have SS2 := SS.keep k₂ i₂
    have N2 : Nx TT M ρ ok s.heap ρ1 ok1 h₂ := N.trans (Nx.ofP k₂) SS.s0.good.inv S.dis SS.frm.ap.rho
    cases c with
    | true =>
      rw [if_pos rfl] at eL
      obtain ⟨⟨r3, E3, H3⟩, ebody, eL⟩ := Option.bind_eq_some_iff.mp eL
      refine hb A env M ρ1 ok1 H1 E1 { s with heap := h₂, toks := tk₂ } B hs SS2 r3 E3 H3 ebody _ _ fun fl ρ4 ok4 h₄ tk₄ N4 S4 f => ?_
      have NN := N2.trans N4 i₂ S.dis S4.frm.ap.rho
      cases f with
      | next => exact ⟨k, Nat.lt_succ_self k, ρ4, ok4, E3, H3, h₄, tk₄, rfl, NN, S4, eL⟩
      | brk => cases eL; exact P _ _ _ h₄ tk₄ NN S4 .next
      | ret q => cases eL; exact P _ _ _ h₄ tk₄ NN S4 (.ret q)
    | false =>
      rw [if_neg (by decide)] at eL
      cases eL
      exact wpAny_execs_nil (P _ _ _ h₂ tk₂ N2 SS2 .next)
end
end Mine
namespace Mine

section
variable {prog : Program} {w : World} {TT : Tabs} {B0 : Heap} {n : Nat} {sc : Sc}

theorem SV.upd {env : Env} {M ρ : List Addr} {ok : Addr → Prop} {E : Lo} {H : Hp} {h : Heap} {j : Nat} {xs : List VV} (S : SV TT B0 env ρ ok E H M h) (hj : H[j]? = some (.list xs)) :
    ∃ a ws k, ρ[j]? = some a ∧ PySem.IsL h a (List.toArray ws) k ∧ VRs h ρ ok xs ws ∧ ∀ h' ws' k' xs', Heap.SameBut a h h' → PySem.IsL h' a (List.toArray ws') k' → VRs h ρ ok xs' ws' →
      SV TT B0 env ρ ok E (H.set j (.list xs')) M h' ∧ Nx TT M ρ ok h ρ ok h' := by
  obtain ⟨a, ea, ws, k, e1, r⟩ := S.s0.objs j _ hj
  have ham : a ∈ ρ := List.mem_of_getElem? ea
  have ha : ¬ ok a := S.okn a ham
  have haT : a ∉ TT.TB := notTab S.s0.good.inv e1 (by nofun)
  have haM : a ∉ M := fun q => S.frm.ap.rho a q ham
  refine ⟨a, ws, k, ea, e1, r, fun h' ws' k' xs' hs e' r' => ?_⟩
  have hX : ∀ b ∈ [a], ¬ ok b := fun b q => by rw [List.mem_singleton.mp q]; exact ha
  have kp : KP (TT.TB ++ [a]) h h' := KP.ofBut fun b o hb e => hs.extBut b o (fun q => hb (List.mem_singleton.mpr q)) e
  have i' : TT.Inv h' := TT.one S.s0.good.inv haT (fun o e => .of fun vs hd => (by rw [e1] at e; cases e; cases hd)) fun b o hb e => hs.extBut b o hb e
  have cl : ClN env (· ∉ [a]) := fun i x kd b e hk el q => by
    obtain ⟨b', o, v₀, f1, f2, f3, f4, _⟩ := S.ev.cells i x kd e hk
    rw [el] at f1; cases f1
    rw [List.mem_singleton.mp q, e1] at f2
    cases f2
    cases f4
  refine ⟨⟨⟨⟨fun b o n e => kp b o (fun q => (List.mem_append.mp q).elim n fun q => ?_) (S.s0.good.keep b o n e), i'⟩, by rw [List.length_set]; exact S.s0.len, fun i vo ei => ?_, fun b e => ?_⟩,
    S.ev.keepX S.s0.good.inv hX (fun q => haM (by rw [← List.mem_singleton.mp q]; exact S.frm.lM)) cl kp, S.frm, S.nd, S.okn, S.oldn, S.dep⟩, .of (kp.inX fun b q => by rw [List.mem_singleton.mp q]; exact List.mem_append_right _ ham)⟩
  · rw [List.mem_singleton.mp q, S.oldn a ham] at e; cases e
  · by_cases hij : j = i
    · subst hij
      obtain ⟨hl, ei⟩ := List.getElem?_eq_some_iff.mp ei
      rw [List.getElem_set_self] at ei
      subst ei
      exact ⟨a, ea, ws', k', e', r'.keepX hX kp S.s0.good.inv⟩
    · rw [List.getElem?_set_ne hij] at ei
      obtain ⟨b, eb, o⟩ := S.s0.objs i vo ei
      refine ⟨b, eb, o.keepX (fun q => hij ?_) hX kp S.s0.good.inv⟩
      rw [List.mem_singleton.mp q] at eb
      obtain ⟨hl, _⟩ := List.getElem?_eq_some_iff.mp ea
      exact (List.getElem?_inj hl S.nd).mp (ea.trans eb.symm)
  · by_cases hba : b = a
    · rw [hba, show h'.get? a = _ from e'] at e; cases e
    · rw [hs.2 b hba] at e
      exact S.s0.free b e

noncomputable def onList (v : VV) (H : Hp) (g : List VV → Option (List VV)) : Option Hp := match v with
  | .lst j => (match H[j]? with
    | some (.list xs) => (g xs).map fun ys => H.set j (.list ys)
    | _ => none)
  | _ => none
theorem onList_eq {v : VV} {H H' : Hp} {g : List VV → Option (List VV)} (e : onList v H g = some H') : ∃ j xs ys, v = .lst j ∧ H[j]? = some (.list xs) ∧ g xs = some ys ∧ H' = H.set j (.list ys) := by
  unfold onList at e
  split at e
  · split at e
    · rename_i xs hx
      obtain ⟨ys, hy, rfl⟩ := Option.map_eq_some_iff.mp e
      exact ⟨_, xs, ys, rfl, hx, hy, rfl⟩
    · cases e
  · cases e

noncomputable def MethEq (o : Expr) (name : Str) (apos pos : Pos) (args : List Expr) (env : Env) (pl : Sem Bool) : Prop := eval (.Call (.Attribute o name apos) args [] pos) env = (do
      let ov ← eval o env
      standAt apos.atName
      let (f, first) ← holding [ov] (getMethod ov name pl)
      callWith pos f first (backTo pos (starEach args env)) [])
noncomputable def sApp (fo fe : EvF) : StF := fun E H => (fo E H).bind fun v => (fe E H).bind fun x => (onList v H fun xs => if xs.length ≤ 1000000 then some (xs ++ [x]) else none).map fun H' => (.next, E, H')
theorem s_app {o e : Expr} {fo fe : EvF} {pos cpos apos : Pos} (ho : DenE prog w TT B0 n sc o fo) (he : DenE prog w TT B0 n sc e fe)
    (hst : ∀ rest env, starEach (e :: rest) env = (false, eval e env) :: starEach rest env := by intro _ _; rfl)
    (hm : ∀ env, ∃ pl, MethEq o "append" apos cpos [e] env pl := by intro _; exact ⟨_, rfl⟩) :
    DenS prog w TT B0 n sc (.Expr (.Call (.Attribute o "append" apos) [e] [] cpos) pos) (sApp fo fe) := by
  intro A env M ρ ok H E s B hs S r E' H' ev Q Err P
  refine bindSome ev fun v hv ev => ?_
  refine bindSome ev fun x hx ev => ?_
  refine mapSome ev fun H1 hon ev => ?_
  cases ev
  obtain ⟨j, xs, ys, rfl, hH, hg, rfl⟩ := onList_eq hon
  split at hg
  · rename_i hz
    cases hg
    obtain ⟨pl, hm⟩ := hm env
    refine wpAny_Expr_any (MethodCall_ ?_ hm) S.dep rfl
    refine ho A env ρ ok H E s B hs S.s0 S.ev _ hv _ _ fun wo h₁ tk₁ k₁ i₁ q => ?_
    obtain ⟨a, rfl, hr⟩ := q.lstI
    have S1 := S.keep k₁ i₁
    obtain ⟨a', ws, k, ea, e1, r1, _⟩ := S1.upd hH
    rw [hr] at ea; cases ea
    refine getMethod_list_append (o := listO ws.toArray k) e1 rfl rfl ?_
    refine callWith_v (P0 := fun _ => True) (s := { s with heap := h₁, toks := tk₁ }) (.cons he .nil hst) B hs S1.s0 S1.ev (keep_blt rfl) (vs := [x]) (by simp [evs, hx]) fun ws2 h₂ tk₂ k₂ i₂ r2 => ?_
    obtain ⟨wx, rfl, q2⟩ := r2.oneI
    have S2 := S1.keep k₂ i₂
    obtain ⟨a', ws, k, ea, e1, r1, up⟩ := S2.upd hH
    rw [hr] at ea; cases ea
    have hsz : ws.toArray.size ≤ sizeLine := by have := r1.length; rw [List.size_toArray, ← this]; simp only [sizeLine]; omega
    refine wpAny_list_append_plain (hsz := hsz) (s := { s with heap := h₂, toks := tk₂ }) ⟨k, e1⟩ fun h₃ hl₃ hs₃ => ?_
    obtain ⟨k', e3⟩ := hl₃
    obtain ⟨S3, N3⟩ := up h₃ (ws ++ [wx]) k' (xs ++ [x]) hs₃ (by rw [show (ws ++ [wx]).toArray = ws.toArray.push wx by simp]; exact e3) (r1.append (.cons q2 .nil))
    exact P _ _ _ h₃ tk₂ ((Nx.ofP (k₁.trans k₂)).trans N3 i₂ S.dis S3.frm.ap.rho) S3 .next
  · cases hg

noncomputable def sPop (fo : EvF) : StF := fun E H => (fo E H).bind fun v => (onList v H fun xs => if xs ≠ [] ∧ xs.length ≤ 1000000 then some xs.dropLast else none).map fun H' => (.next, E, H')
theorem s_pop {o : Expr} {fo : EvF} {pos cpos apos : Pos} (ho : DenE prog w TT B0 n sc o fo) (hm : ∀ env, ∃ pl, MethEq o "pop" apos cpos [] env pl := by intro _; exact ⟨_, rfl⟩) : DenS prog w TT B0 n sc (.Expr (.Call (.Attribute o "pop" apos) [] [] cpos) pos) (sPop fo) := by
  intro A env M ρ ok H E s B hs S r E' H' ev Q Err P
  refine bindSome ev fun v hv ev => ?_
  refine mapSome ev fun H1 hon ev => ?_
  cases ev
  obtain ⟨j, xs, ys, rfl, hH, hg, rfl⟩ := onList_eq hon
  split at hg
  · rename_i hz
    cases hg
    obtain ⟨pl, hm⟩ := hm env
    refine wpAny_Expr_any (MethodCall_ ?_ hm) S.dep rfl
    refine ho A env ρ ok H E s B hs S.s0 S.ev _ hv _ _ fun wo h₁ tk₁ k₁ i₁ q => ?_
    obtain ⟨a, rfl, hr⟩ := q.lstI
    have S1 := S.keep k₁ i₁
    obtain ⟨a', ws, k, ea, e1, r1, up⟩ := S1.upd hH
    rw [hr] at ea; cases ea
    have hlen := r1.length
    have hne : ws ≠ [] := fun q => hz.1 (List.length_eq_zero_iff.mp (by rw [hlen, q]; rfl))
    refine getMethod_builtin ⟨_, e1, rfl⟩ PySem.F.plainAttrs_list PySem.F.slot_list_pop PySem.F.type_list_pop (fun b e => by cases e; exact ⟨_, e1, rfl⟩) ?_
    have hy : ws.toArray[ws.toArray.size - 1]? = some (ws.getLast hne) := by
      rw [List.size_toArray, List.getElem?_toArray, List.getLast_eq_getElem]
      exact List.getElem?_eq_getElem _
    refine PySem.P.pop_list (s := { s with heap := h₁, toks := tk₁ }) e1 hy ?_ (by rw [List.size_toArray, ← hlen]; simp only [sizeLine]; omega)
    have e2 := PySem.IsL.update e1 fun xs => xs.eraseIdxIfInBounds (ws.toArray.size - 1)
    have e3 : ws.toArray.eraseIdxIfInBounds (ws.toArray.size - 1) = ws.dropLast.toArray := by
      apply Array.ext'
      have hpos : 0 < ws.length := List.length_pos_iff.mpr hne
      rw [Array.eraseIdxIfInBounds, dif_pos (by rw [List.size_toArray]; omega)]
      simp [List.dropLast_eq_take, List.eraseIdx_eq_take_drop_succ]
      omega
    rw [e3] at e2
    have rd : VRs h₁ ρ ok xs.dropLast ws.dropLast := by rw [List.dropLast_eq_take, List.dropLast_eq_take, hlen]; exact r1.take _
    obtain ⟨S3, N3⟩ := up _ ws.dropLast _ xs.dropLast (Heap.SameBut.update ..) e2 rd
    exact P _ _ _ _ tk₁ ((Nx.ofP k₁).trans N3 i₁ S.dis S3.frm.ap.rho) S3 .next
  · cases hg

noncomputable def sRev (fo : EvF) : StF := fun E H => (fo E H).bind fun v => (onList v H fun xs => if xs.length ≤ 1000000 then some xs.reverse else none).map fun H' => (.next, E, H')
theorem s_rev {o : Expr} {fo : EvF} {pos cpos apos : Pos} (ho : DenE prog w TT B0 n sc o fo) (hm : ∀ env, ∃ pl, MethEq o "reverse" apos cpos [] env pl := by intro _; exact ⟨_, rfl⟩) : DenS prog w TT B0 n sc (.Expr (.Call (.Attribute o "reverse" apos) [] [] cpos) pos) (sRev fo) := by
  intro A env M ρ ok H E s B hs S r E' H' ev Q Err P
  refine bindSome ev fun v hv ev => ?_
  refine mapSome ev fun H1 hon ev => ?_
  cases ev
  obtain ⟨j, xs, ys, rfl, hH, hg, rfl⟩ := onList_eq hon
  split at hg
  · rename_i hz
    cases hg
    obtain ⟨pl, hm⟩ := hm env
    refine wpAny_Expr_any (MethodCall_ ?_ hm) S.dep rfl
    refine ho A env ρ ok H E s B hs S.s0 S.ev _ hv _ _ fun wo h₁ tk₁ k₁ i₁ q => ?_
    obtain ⟨a, rfl, hr⟩ := q.lstI
    have S1 := S.keep k₁ i₁
    obtain ⟨a', ws, k, ea, e1, r1, up⟩ := S1.upd hH
    rw [hr] at ea; cases ea
    have hlen := r1.length
    refine getMethod_builtin ⟨_, e1, rfl⟩ PySem.F.plainAttrs_list PySem.F.slot_list_reverse PySem.F.type_list_reverse (fun b e => by cases e; exact ⟨_, e1, rfl⟩) ?_
    refine PySem.P.reverse_list (s := { s with heap := h₁, toks := tk₁ }) e1 ?_ (by rw [List.size_toArray, ← hlen]; simp only [sizeLine]; omega)
    have e2 := PySem.IsL.update e1 fun xs => xs.reverse
    have e3 : ws.toArray.reverse = ws.reverse.toArray := by simp
    rw [e3] at e2
    obtain ⟨S3, N3⟩ := up _ ws.reverse _ xs.reverse (Heap.SameBut.update ..) e2 r1.reverse
    exact P _ _ _ _ tk₁ ((Nx.ofP k₁).trans N3 i₁ S.dis S3.frm.ap.rho) S3 .next
  · cases hg

noncomputable def setAt (xs : List VV) (k : Int) (v : VV) : Option (List VV) := if -1000000000 ≤ k ∧ k ≤ 1000000000 then (seqIndex? k xs.length).map fun j => xs.set j v else none
theorem setItem_v {A : Around} {env : Env} {M ρ : List Addr} {ok : Addr → Prop} {E : Lo} {H : Hp} {s : Shared} {j : Nat} {xs ys : List VV} {k : Int} {u : Tok} {v : VV} {wv : Value} {a : Addr} (S : SV TT B0 env ρ ok E H M s.heap) (hH : H[j]? = some (.list xs)) (hr : ρ[j]? = some a) (hs : setAt xs k v = some ys) (q : VR s.heap ρ ok v wv)
    {Q : Unit → Shared → Prop} {Err : Value → Shared → Prop} (P : ∀ h', SV TT B0 env ρ ok E (H.set j (.list ys)) M h' → Nx TT M ρ ok s.heap ρ ok h' → Q () { s with heap := h' }) : wpAny (model prog w) A (setItem (.ref a) (.int k u) wv) Q Err s := by
  unfold setAt at hs
  split at hs
  · rename_i hz
    obtain ⟨i, hi, rfl⟩ := Option.map_eq_some_iff.mp hs
    obtain ⟨a', ws, kk, ea, e1, r1, up⟩ := S.upd hH
    rw [hr] at ea; cases ea
    have hlen := r1.length
    have e3 : ws.toArray.setIfInBounds i wv = (ws.set i wv).toArray := by simp
    have fin : ∀ i', i' = i → Q () { s with heap := s.heap.update a (Obj.mapSeq (·.setIfInBounds i' wv)) } := by
      intro i' hi'
      rw [hi']
      have e2 := PySem.IsL.update e1 fun xs => xs.setIfInBounds i wv
      rw [e3] at e2
      obtain ⟨S3, N3⟩ := up _ (ws.set i wv) _ (xs.set i v) (Heap.SameBut.update ..) e2 (r1.set q i)
      exact P _ S3 N3
    rcases seqIndex_eq hi with ⟨p1, p2, rfl⟩ | ⟨p1, p2, rfl⟩
    · exact ki_setAt e1 p1 (by omega) (by rw [List.size_toArray, ← hlen]; exact p2) (fin _ rfl)
    · refine ki_setBack e1 p1 (by rw [List.size_toArray, ← hlen]; exact p2) (by omega) (fin _ ?_)
      rw [List.size_toArray, ← hlen]
  · cases hs
noncomputable def sSet (f fo fi : EvF) : StF := fun E H => (f E H).bind fun v => (fo E H).bind fun o => (fi E H).bind fun i => match i with
  | .int k => (onList o H fun xs => setAt xs k v).map fun H' => (.next, E, H')
  | _ => none
theorem s_set {o i value : Expr} {f fo fi : EvF} {tpos pos : Pos} (hf : DenE prog w TT B0 n sc value f) (ho : DenE prog w TT B0 n sc o fo) (hi : DenE prog w TT B0 n sc i fi) (hsw : ∀ env : Env, swapsWith value (some (.Subscript o i tpos)) pos.line env = pure false := by intro _; rfl) :
    DenS prog w TT B0 n sc (.Assign [.Subscript o i tpos] value pos) (sSet f fo fi) := by
  intro A env M ρ ok H E s B hs S r E' H' ev Q Err P
  refine bindSome ev fun v hv ev => ?_
  refine bindSome ev fun ov hov ev => ?_
  refine bindSome ev fun iv hiv ev => ?_
  obtain ⟨kx, rfl⟩ : ∃ k, iv = .int k := by cases iv <;> first | exact ⟨_, rfl⟩ | cases ev
  · refine mapSome ev fun H1 hon ev => ?_
    cases ev
    obtain ⟨j, xs, ys, rfl, hH, hg, rfl⟩ := onList_eq hon
    refine wpAny_Assign_Subscript ?_ (hsw env)
    refine hf A env ρ ok H E s B hs S.s0 S.ev _ hv _ _ fun wv h₁ tk₁ k₁ i₁ q => ?_
    have S1 := S.keep k₁ i₁
    refine ho A env ρ ok H E { s with heap := h₁, toks := tk₁ } B hs S1.s0 S1.ev _ hov _ _ fun wo h₂ tk₂ k₂ i₂ qo => ?_
    have S2 := S1.keep k₂ i₂
    refine hi A env ρ ok H E { s with heap := h₂, toks := tk₂ } B hs S2.s0 S2.ev _ hiv _ _ fun wi h₃ tk₃ k₃ i₃ qi => ?_
    have S3 := S2.keep k₃ i₃
    obtain ⟨oa, rfl, hr⟩ := qo.lstI
    obtain ⟨ti, rfl⟩ := qi.intI
    refine setItem_v (s := { s with heap := h₃, toks := tk₃ }) S3 hH hr hg ((q.keep k₂ i₁).keep k₃ i₂) fun h₄ S4 N4 => ?_
    exact P _ _ _ h₄ tk₃ ((Nx.ofP ((k₁.trans k₂).trans k₃)).trans N4 i₃ S.dis S4.frm.ap.rho) S4 .next
theorem xadd : Op2 prog w TT B0 (inplaceOp .Add) (opI gAdd) := op_int fun A s a b c u v Q Err hh e h => by cases e; exact iadd_int (h _ _)
noncomputable def sAug (g : VV → VV → Hp → Option VV) (fo fi f : EvF) : StF := fun E H => (fo E H).bind fun o => (fi E H).bind fun i => match i with
  | .int k => (opIdx o (.int k) H).bind fun old => (f E H).bind fun v => (g old v H).bind fun nw => (onList o H fun xs => setAt xs k nw).map fun H' => (.next, E, H')
  | _ => none
theorem s_aug {op : Operator} {g : VV → VV → Hp → Option VV} {o i value : Expr} {f fo fi : EvF} {tpos pos : Pos} (hg : Op2 prog w TT B0 (inplaceOp op) g) (ho : DenE prog w TT B0 n sc o fo) (hi : DenE prog w TT B0 n sc i fi) (hf : DenE prog w TT B0 n sc value f)
    (ha : ∀ ov iv new, augStore i ov iv new = (do holding [new, ov, iv] (setItem ov iv new); release [new, ov, iv] []; pure .next) := by intros; rfl) :
    DenS prog w TT B0 n sc (.AugAssign (.Subscript o i tpos) op value pos) (sAug g fo fi f) := by
  intro A env M ρ ok H E s B hs S r E' H' ev Q Err P
  refine bindSome ev fun ov hov ev => ?_
  refine bindSome ev fun iv hiv ev => ?_
  obtain ⟨kx, rfl⟩ : ∃ k, iv = .int k := by cases iv <;> first | exact ⟨_, rfl⟩ | cases ev
  refine bindSome ev fun old hold ev => ?_
  refine bindSome ev fun v hv ev => ?_
  refine bindSome ev fun nw hnw ev => ?_
  · refine mapSome ev fun H1 hon ev => ?_
    cases ev
    obtain ⟨j, xs, ys, rfl, hH, hset, rfl⟩ := onList_eq hon
    refine wpAny_AugAssign_SubscriptAny ?_ ha
    refine ho A env ρ ok H E s B hs S.s0 S.ev _ hov _ _ fun wo h₁ tk₁ k₁ i₁ qo => ?_
    have S1 := S.keep k₁ i₁
    refine hi A env ρ ok H E { s with heap := h₁, toks := tk₁ } B hs S1.s0 S1.ev _ hiv _ _ fun wi h₂ tk₂ k₂ i₂ qi => ?_
    have S2 := S1.keep k₂ i₂
    obtain ⟨la, rfl, hr⟩ := qo.lstI
    obtain ⟨u, rfl⟩ := qi.intI
    obtain ⟨a', ws, kk, ea, e1, r1, _⟩ := S2.upd hH
    rw [hr] at ea; cases ea
    have hidx : idx xs kx = some old := by
      have : opIdx (.lst j) (.int kx) H = (items (.lst j) H).bind fun xs => idx xs kx := rfl
      rw [this] at hold
      have h2 : items (.lst j) H = some xs := by show (match H[j]? with | some (.list xs) => some xs | _ => none) = _; rw [hH]
      rw [h2] at hold
      exact hold
    obtain ⟨jj, z1, z2, hj, hx⟩ := idx_eq hidx
    obtain ⟨wold, hw, qold⟩ := r1.get hx
    have hlen := r1.length
    have get : ∀ {Q : Value → Shared → Prop} {Err : Value → Shared → Prop}, Q wold { s with heap := h₂, toks := tk₂ } → wpAny (model prog w) A (getItem (.ref la) (.int kx u)) Q Err { s with heap := h₂, toks := tk₂ } := by
      intro Q Err hQ
      have hl := isList_of e1
      rw [hlen] at hj
      rcases seqIndex_eq hj with ⟨p1, p2, rfl⟩ | ⟨p1, p2, rfl⟩
      · exact wpAny_getItem_list hl p1 (by omega) (by simpa using hw) hQ
      · exact wpAny_getItem_list_neg hl p1 (by simpa using p2) (by omega) (by simpa using hw) hQ
    refine get ?_
    refine hf A env ρ ok H E { s with heap := h₂, toks := tk₂ } B hs S2.s0 S2.ev _ hv _ _ fun wv h₃ tk₃ k₃ i₃ qv => ?_
    have S3 := S2.keep k₃ i₃
    refine hg A ρ ok H { s with heap := h₃, toks := tk₃ } old v wold wv (B.le (Nat.zero_le _)) S3.s0 (qold.keep k₃ i₂) qv nw hnw _ _ fun wn h₄ tk₄ k₄ i₄ qn => ?_
    have S4 := S3.keep k₄ i₄
    refine setItem_v (s := { s with heap := h₄, toks := tk₄ }) S4 hH hr hset qn fun h₅ S5 N5 => ?_
    exact P _ _ _ h₅ tk₄ ((Nx.ofP (((k₁.trans k₂).trans k₃).trans k₄)).trans N5 i₄ S.dis S5.frm.ap.rho) S5 .next
end
end Mine
namespace Mine

structure Tp (TT : Tabs) (GL : List (Str × Value)) (K : Frag) (h : Heap) : Prop where
  base : Base TT h GL
  kin : K.In h
  ktb : ∀ P ∈ TT.TB, K.lookup P = none
  bm : ∃ mg bm ob, h.Ns mainGlobals mg ∧ mg "__builtins__" = some (.ref bm) ∧ bm ≠ builtinsNs ∧ bm ∉ TT.TB ∧ h.get? bm = some ob ∧ ob.cls = .type "module" ∧ ob.dict = some builtinsNs ∧ ob.data = .plain

section
variable {prog : Program} {w : World} {TT : Tabs} {B0 : Heap} {n : Nat} {sc : Sc} {GL : List (Str × Value)} {K : Frag}
theorem Tp.kp {h h' : Heap} (T : Tp TT GL K h) (k : KP TT.TB h h') : Tp TT GL K h' := by
  refine ⟨⟨?_, T.base.stTB, T.base.mgTB, T.base.mbTB, ?_⟩, fun a o e => k a o (fun q => by rw [T.ktb a q] at e; cases e) (T.kin a o e), T.ktb, ?_⟩
  · obtain ⟨mc, hn, r⟩ := T.base.lim
    exact ⟨mc, nsAt hn fun o e => k _ o T.base.stTB e, r⟩
  · obtain ⟨mg, mb, h1, h2, r⟩ := T.base.glo
    exact ⟨mg, mb, nsAt h1 fun o e => k _ o T.base.mgTB e, nsAt h2 fun o e => k _ o T.base.mbTB e, r⟩
  · obtain ⟨mg, bm, ob, h1, h2, h3, h4, h5, h6, h7, h8⟩ := T.bm
    exact ⟨mg, bm, ob, nsAt h1 fun o e => k _ o T.base.mgTB e, h2, h3, h4, k _ _ h4 h5, h6, h7, h8⟩

-- values made fast
noncomputable def frzL (f : VV → Option VV) : List VV → Option (List VV)
  | [] => some []
  | x :: xs => (f x).bind fun y => (frzL f xs).map fun ys => y :: ys
noncomputable def rezip : List (Str × VV) → List VV → List (Str × VV)
  | f :: fs, v :: vs => (f.1, v) :: rezip fs vs
  | _, _ => []
noncomputable def frz : Nat → Hp → VV → Option VV
  | 0, _, _ => none
  | k + 1, H, v => match v with
    | .tup xs => (frzL (frz k H) xs).map .tup
    | .lv xs => (frzL (frz k H) xs).map .lv
    | .inst C fs => (frzL (frz k H) (fs.map (·.2))).map fun ys => .inst C (rezip fs ys)
    | .lst i => (match H[i]? with
      | some (.list xs) => (frzL (frz k H) xs).map .lv
      | _ => none)
    | .ins C j => (match H[j]? with
      | some (.ns fs) => (frzL (frz k H) (fs.map (·.2))).map fun ys => .inst C (rezip fs ys)
      | _ => none)
    | v => some v
theorem frzL_vr {f : VV → Option VV} {h : Heap} {ρ ρ2 : List Addr} {ok ok2 : Addr → Prop} (hf : ∀ v v' w, f v = some v' → VR h ρ ok v w → VR h ρ2 ok2 v' w) :
    ∀ {vs vs' : List VV} {ws : List Value}, frzL f vs = some vs' → VRs h ρ ok vs ws → VRs h ρ2 ok2 vs' ws
  | [], _, _, e, .nil => by cases e; exact .nil
  | v :: vs, _, _, e, .cons q r => by
    simp only [frzL] at e
    refine bindSome e fun y hy e => ?_
    obtain ⟨ys, hys, rfl⟩ := Option.map_eq_some_iff.mp e
    exact .cons (hf _ _ _ hy q) (frzL_vr hf hys r)
theorem frzL_length {f : VV → Option VV} : ∀ {vs vs' : List VV}, frzL f vs = some vs' → vs'.length = vs.length
  | [], _, e => by cases e; rfl
  | v :: vs, _, e => by
    simp only [frzL] at e
    refine bindSome e fun y hy e => ?_
    obtain ⟨ys, hys, rfl⟩ := Option.map_eq_some_iff.mp e
    rw [List.length_cons, List.length_cons, frzL_length hys]
theorem rezip_snd : ∀ {fs : List (Str × VV)} {ys : List VV}, ys.length = fs.length → (rezip fs ys).map (·.2) = ys
  | [], [], _ => rfl
  | f :: fs, y :: ys, h => by
    show y :: (rezip fs ys).map (·.2) = _
    rw [rezip_snd (by simpa using h)]
theorem rezip_keyed : ∀ {fs : List (Str × VV)} {ys : List VV} {es : List DictEntry}, ys.length = fs.length → Keyed fs es → Keyed (rezip fs ys) es
  | [], [], _, _, q => q
  | f :: fs, y :: ys, e :: es, h, q => ⟨q.1, rezip_keyed (by simpa using h) q.2⟩
theorem frz_vr {h : Heap} {ρ ρ2 : List Addr} {ok ok2 : Addr → Prop} {H : Hp} (ho : ∀ a o, h.get? a = some o → ok a → ok2 a) (hO : ∀ (i : Nat) vo a, H[i]? = some vo → ρ[i]? = some a → OV h ρ ok a vo ∧ ok2 a) :
    ∀ (k : Nat) (v v' : VV) (w : Value), frz k H v = some v' → VR h ρ ok v w → VR h ρ2 ok2 v' w
  | 0, _, _, _, e, _ => by cases e
  | k + 1, v, v', w, e, q => by
    have ih := frz_vr (ρ2 := ρ2) ho hO k
    cases q with
    | none => cases e; exact .none
    | bool b => cases e; exact .bool b
    | int i t => cases e; exact .int i t
    | str l t => cases e; exact .str l t
    | rng h1 o1 => cases e; exact .rng h1 (ho _ _ h1 o1)
    | raw u => cases e; exact .raw _
    | tup h1 o1 r =>
      obtain ⟨ys, hys, rfl⟩ := Option.map_eq_some_iff.mp e
      exact .tup h1 (ho _ _ h1 o1) (frzL_vr ih hys r)
    | lv h1 o1 r =>
      obtain ⟨ys, hys, rfl⟩ := Option.map_eq_some_iff.mp e
      exact .lv h1 (ho _ _ h1 o1) (frzL_vr ih hys r)
    | inst h1 h2 o1 o2 kd r =>
      obtain ⟨ys, hys, rfl⟩ := Option.map_eq_some_iff.mp e
      have hl := frzL_length hys
      rw [List.length_map] at hl
      exact .inst h1 h2 (ho _ _ h1 o1) (ho _ _ h2 o2) (rezip_keyed hl kd) (by rw [rezip_snd hl]; exact frzL_vr ih hys r)
    | lst hr =>
      rename_i i a
      have e' : (match H[i]? with | some (.list xs) => (frzL (frz k H) xs).map .lv | _ => none) = some v' := e
      cases q : H[i]? with
      | none => rw [q] at e'; cases e'
      | some vo =>
        rw [q] at e'
        cases vo with
        | ns fs => cases e'
        | list xs =>
          obtain ⟨ys, hys, rfl⟩ := Option.map_eq_some_iff.mp e'
          obtain ⟨⟨ws, n, e1, r⟩, o2⟩ := hO i _ _ q hr
          exact .lv e1 o2 (frzL_vr ih hys r)
    | ins h1 o1 hr =>
      rename_i C j a d
      have e' : (match H[j]? with | some (.ns fs) => (frzL (frz k H) (fs.map (·.2))).map fun ys => VV.inst C (rezip fs ys) | _ => none) = some v' := e
      cases q : H[j]? with
      | none => rw [q] at e'; cases e'
      | some vo =>
        rw [q] at e'
        cases vo with
        | list xs => cases e'
        | ns fs =>
          obtain ⟨ys, hys, rfl⟩ := Option.map_eq_some_iff.mp e'
          obtain ⟨⟨es, n, e1, kd, r⟩, o2⟩ := hO j _ _ q hr
          have hl := frzL_length hys
          rw [List.length_map] at hl
          exact .inst h1 e1 (ho _ _ h1 o1) o2 (rezip_keyed hl kd) (by rw [rezip_snd hl]; exact frzL_vr ih hys r)

noncomputable def FnC (prog : Program) (w : World) (TT : Tabs) (GL : List (Str × Value)) (K : Frag) (n : Nat) (t : List Value → Sem Value) (g : List VV → Option VV) : Prop :=
  ∀ (A : Around) (ok : Addr → Prop) (s : Shared) (xs : List VV) (ws : List Value), Tp TT GL K s.heap → Bud A n → TT.Inv s.heap → (∀ a, s.heap.get? a = none → ok a) → VRs s.heap [] ok xs ws →
    ∀ v, g xs = some v → ∀ (Q Err : Value → Shared → Prop), Post TT [] ok v Q s → wpAny (model prog w) A (t ws) Q Err s
theorem FnC.le {m : Nat} {t : List Value → Sem Value} {g : List VV → Option VV} (h : FnC prog w TT GL K n t g) (hm : n ≤ m) : FnC prog w TT GL K m t g :=
  fun A ok s xs ws T B => h A ok s xs ws T (B.le hm)
noncomputable def OpF (prog : Program) (w : World) (TT : Tabs) (B0 : Heap) (n : Nat) (t : List Value → Sem Value) (g : List VV → Hp → Option VV) : Prop :=
  ∀ (A : Around) (ρ : List Addr) (ok : Addr → Prop) (H : Hp) (s : Shared) (xs : List VV) (ws : List Value), Bud A n → SV0 TT B0 ρ ok H s.heap → VRs s.heap ρ ok xs ws →
    ∀ v, g xs H = some v → ∀ (Q Err : Value → Shared → Prop), Post TT ρ ok v Q s → wpAny (model prog w) A (t ws) Q Err s
noncomputable def gP (g : List VV → Option VV) : List VV → Hp → Option VV := fun xs _ => (frzL (frz 8 []) xs).bind g
theorem FnC.pure {t : List Value → Sem Value} {g : List VV → Option VV} (h : FnC prog w TT GL K n t g) (T : Tp TT GL K B0) : OpF prog w TT B0 n t (gP g) := by
  intro A ρ ok H s xs ws B S r v e Q Err P
  refine bindSome e fun ys hys e => ?_
  refine h A ok s ys ws (T.kp S.good.keep) B S.good.inv S.free (frzL_vr (frz_vr (fun _ _ _ h => h) (fun i vo a e => by cases e) 8) hys r) v e Q Err fun w h' tk k i q => ?_
  exact P w h' tk k i (q.mono (fun _ _ _ _ e => e) (fun i a e => by cases e) fun _ _ _ h => h)
noncomputable def flat : VV → Bool
  | .none | .bool _ | .int _ | .str _ => true
  | _ => false
theorem flat_vr {h h' : Heap} {ρ ρ2 : List Addr} {ok ok2 : Addr → Prop} {v : VV} {w : Value} (hf : flat v = true) (q : VR h ρ ok v w) : VR h' ρ2 ok2 v w := by
  cases q with
  | none => exact .none
  | bool b => exact .bool b
  | int i t => exact .int i t
  | str l t => exact .str l t
  | _ => cases hf
noncomputable def gM (g : List VV → Option VV) : List VV → Hp → Option VV := fun xs H => (frzL (frz 8 H) xs).bind fun ys => (g ys).bind fun v => if flat v = true then some v else none
theorem FnC.frozen {t : List Value → Sem Value} {g : List VV → Option VV} (h : FnC prog w TT GL K n t g) (T : Tp TT GL K B0) : OpF prog w TT B0 n t (gM g) := by
  intro A ρ ok H s xs ws B S r v e Q Err P
  refine bindSome e fun ys hys e => ?_
  refine bindSome e fun u hu e => ?_
  split at e
  · rename_i hf
    cases e
    refine h A (fun _ => True) s ys ws (T.kp S.good.keep) B S.good.inv (fun _ _ => trivial) (frzL_vr (frz_vr (fun _ _ _ _ => trivial) (fun i vo a e ea => ?_) 8) hys r) v hu Q Err fun w h' tk k i q => P w h' tk k i (flat_vr hf q)
    obtain ⟨a', ea', o⟩ := S.objs i vo e
    rw [ea] at ea'; cases ea'
    exact ⟨o, trivial⟩
  · cases e

theorem d_fn (T : Tp TT GL K B0) {x : Str} {f : Value} {es : List Expr} {fs : List EvF} {g : List VV → Hp → Option VV} {pos pos' : Pos} (hm : (x, f) ∈ GL) (hl : sc.lookup x = some .globalImplicit) (hg : OpF prog w TT B0 n (fun ws => call f ws) g) (hf : DenEs prog w TT B0 n sc es fs)
    (hk : keepIn K f = true) (hd : (x == ("__debug__" : Str)) = false := by decide) : DenE prog w TT B0 n sc (.Call (.Name x pos') es [] pos) (dCall g fs) := by
  intro A env ρ ok H E s B hs S V v e Q Err P
  unfold dCall at e
  refine bindSome e fun xs exs e => ?_
  refine Call_ (d_glob (n := n) T.base hm hl hd A env ρ ok H E s B hs S V (.raw f) rfl _ _ fun wf h₁ tk₁ k₁ i₁ q => ?_)
  cases q.rawI
  refine callWith_v hf (s := { s with heap := h₁, toks := tk₁ }) (P0 := fun _ => True) B hs (S.keep k₁ i₁) (V.keep S.good.inv k₁) (fun h G => keeps_K hk h (T.kp G.keep).kin) exs fun ws h₂ tk₂ k₂ i₂ r => ?_
  exact hg A ρ ok H { s with heap := h₂, toks := tk₂ } xs ws B (S.keep (k₁.trans k₂) i₂) r v e Q Err (P.after (k₁.trans k₂))
end
end Mine
namespace Mine

section
variable {prog : Program} {w : World} {TT : Tabs} {B0 : Heap} {n : Nat} {sc : Sc} {GL : List (Str × Value)} {K : Frag}

theorem cellsFrom_some : ∀ (names : Sc) (n : Nat) (acc : List (Str × Addr)) (x : Str), ((x, NameKind.cell) ∈ names ∨ (acc.lookup x).isSome = true) → ((cellsFrom n names acc).lookup x).isSome = true
  | [], _, _, _, h => h.elim (fun q => by cases q) id
  | (y, k) :: r, n, acc, x, h => by
    unfold cellsFrom
    split
    · refine cellsFrom_some r (n + 1) _ x ?_
      by_cases hy : x = y
      · subst hy; right; rw [List.lookup_cons_self]; rfl
      · have hb : (x == y) = false := by
          cases q : x == y with
          | false => rfl
          | true => exact absurd (eq_of_beq q) hy
        rcases h with h | h
        · rcases List.mem_cons.mp h with e | e
          · cases e; exact absurd rfl hy
          · exact .inl e
        · right; rw [List.lookup_cons, hb]; exact h
    · rename_i hk
      refine cellsFrom_some r n acc x (h.imp (fun h => ?_) id)
      rcases List.mem_cons.mp h with e | e
      · cases e; exact absurd rfl hk
      · exact e

structure LC (names : Sc) (h : Heap) (ρ : List Addr) (ok : Addr → Prop) (E : Lo) (m cm : Str → Option Value) : Prop where
  loc : ∀ (i : Nat) x v, names[i]? = some (x, .local) → E[i]? = some (some v) → ∃ w, m x = some w ∧ VR h ρ ok v w
  cel : ∀ (i : Nat) x v, names[i]? = some (x, .cell) → E[i]? = some (some v) → ∃ w, cm x = some w ∧ VR h ρ ok v w

inductive PsM (sc : Sc) : List Str → List Nat → Prop
  | nil : PsM sc [] []
  | cons {x : Str} {xs : List Str} {i : Nat} {is : List Nat} {k : NameKind} : sc[i]? = some (x, k) → (k = .local ∨ k = .cell) → PsM sc xs is → PsM sc (x :: xs) (i :: is)

theorem LC.bind {names : Sc} {h : Heap} {ρ : List Addr} {ok : Addr → Prop} (hn : (names.map (·.1)).Nodup) (kindOf : Str → Option NameKind) (hk : ∀ x, kindOf x = names.lookup x) :
    ∀ {pn : List Str} {ps : List Nat} {xs : List VV} {ws : List Value} {E : Lo} {m cm : Str → Option Value}, PsM names pn ps → VRs h ρ ok xs ws → xs.length = pn.length → LC names h ρ ok E m cm →
      LC names h ρ ok (setL ps xs E) (bindL kindOf (pn.zip ws) m) (bindC kindOf (pn.zip ws) cm) := by
  intro pn ps xs ws E m cm hp
  induction hp generalizing xs ws E m cm with
  | nil =>
    intro q hl L
    cases xs with
    | nil => exact L
    | cons _ _ => cases hl
  | @cons x pn i ps k hi hki r ih =>
    intro q hl L
    cases xs with
    | nil => cases hl
    | cons v vs =>
    obtain ⟨wv, ws, rfl, q1, q2⟩ := q.consI
    have hkx := hk x
    rw [lookup_at hn hi] at hkx
    show LC names h ρ ok (setL _ vs (E.set i (some v))) (bindL kindOf (_ :: _) m) (bindC kindOf (_ :: _) cm)
    unfold bindL bindC
    rcases hki with rfl | rfl
    · rw [if_pos hkx, if_pos hkx]
      refine ih q2 (Nat.succ.inj hl) ⟨fun j y u e1 e2 => ?_, fun j y u e1 e2 => ?_⟩
      · by_cases hj : i = j
        · subst hj
          rw [hi] at e1; cases e1
          obtain ⟨hl, e2⟩ := List.getElem?_eq_some_iff.mp e2
          rw [List.getElem_set_self] at e2
          cases e2
          exact ⟨wv, if_pos rfl, q1⟩
        · rw [List.getElem?_set_ne hj] at e2
          obtain ⟨w, a, b⟩ := L.loc j y u e1 e2
          exact ⟨w, by rw [if_neg (fun e => hj (idx_at hn hi (e ▸ e1)))]; exact a, b⟩
      · have hj : i ≠ j := fun q => by rw [← q, hi] at e1; cases e1
        rw [List.getElem?_set_ne hj] at e2
        exact L.cel j y u e1 e2
    · have hnl : ¬ kindOf x = some .local := by rw [hkx]; nofun
      rw [if_neg hnl, if_neg hnl]
      refine ih q2 (Nat.succ.inj hl) ⟨fun j y u e1 e2 => ?_, fun j y u e1 e2 => ?_⟩
      · have hj : i ≠ j := fun q => by rw [← q, hi] at e1; cases e1
        rw [List.getElem?_set_ne hj] at e2
        exact L.loc j y u e1 e2
      · by_cases hj : i = j
        · subst hj
          rw [hi] at e1; cases e1
          obtain ⟨hl, e2⟩ := List.getElem?_eq_some_iff.mp e2
          rw [List.getElem_set_self] at e2
          cases e2
          exact ⟨wv, if_pos rfl, q1⟩
        · rw [List.getElem?_set_ne hj] at e2
          obtain ⟨w, a, b⟩ := L.cel j y u e1 e2
          exact ⟨w, by rw [if_neg (fun e => hj (idx_at hn hi (e ▸ e1)))]; exact a, b⟩

noncomputable def bindE (ps : List Nat) (len : Nat) (xs : List VV) : Lo := setL ps xs (List.replicate len none)
noncomputable def outF : Fl → Hp → Option VV
  | .ret u, H => frz 8 H u
  | .next, _ => some .none
  | .brk, _ => none

theorem PsM.kinds {pn : List Str} {ps : List Nat} (h : PsM sc pn ps) : ∀ x ∈ pn, ∃ (i : Nat) (k : NameKind), sc[i]? = some (x, k) ∧ (k = .local ∨ k = .cell) := by
  induction h with
  | nil => intro x hx; cases hx
  | cons hi hk _ ih =>
    intro x hx
    rcases List.mem_cons.mp hx with rfl | hx
    · exact ⟨_, _, hi, hk⟩
    · exact ih x hx

theorem Bud.deeper {A : Around} (B : Bud A (n + 1)) (env : Env) : Bud (A.deeper env) n := ⟨B.hh, by have := B.depth; show A.depth + 1 + n < _; omega, by have := B.units; show A.units + 3 + 10 * n + 100 < _; omega⟩

theorem fn_enterY {fa : Addr} {fo : Obj} {fd : FuncData} {body : List Stmt} {pn : List Str} {ps : List Nat} (hK : K.lookup fa = some fo) (hd : fo.data = .func fd) (hb : fd.body = .stmts body) (hcl : fd.closure = [])
    (hnd : (fd.scope.names.map (·.1)).Nodup) (hfree : ∀ y ∈ fd.scope.names, y.2 ≠ .free) (hglob : fd.globals = mainGlobals) (hblt : fd.builtins = builtinsNs) (hcode : ∀ h, K.In h → h.CodeRec fd.code fd.qualname)
    (hbind : ∀ ws : List Value, ws.length = pn.length → bindArgs fd ⟨ws, []⟩ = pure (pn.zip ws)) (hps : PsM fd.scope.names pn ps) (hco : fd.scope.isCoroutine = false) (hgen : fd.scope.isGenerator = false) (hk : fd.scope.kind = .function) {A : Around} {ρ : List Addr} {ok : Addr → Prop} {H : Hp} {s : Shared} {xs : List VV} {ws : List Value} (T : Tp TT GL K B0) (B : Bud A (n + 1))
    (S : SV0 TT B0 ρ ok H s.heap) (nd : ρ.Nodup) (okn : ∀ a ∈ ρ, ¬ ok a) (oldn : ∀ a ∈ ρ, B0.get? a = none) (r : VRs s.heap ρ ok xs ws) (hlen : xs.length = pn.length) {R : Result → Shared → Prop}
    (h : ∀ (env : Env) (M : List Addr) (h₁ : Heap) (tk : Nat) (ok1 : Addr → Prop) (Err' : Value → Shared → Prop), env.frame = some env.locals → (∀ b ∈ M, s.heap.get? b = none) → Err' = (fun e s' => wpAny (model prog w) (A.deeper env) (leaving env e) (fun _ s'' => R (.error e) s'') (fun e' s'' => R (.error e') s'') s') → env.scope = fd.scope → env.code = fd.code → env.qual = fd.qualname ++ ".<locals>." → (∀ a, ok1 a → ok a) → (∀ a o, s.heap.get? a = some o → ok a → ok1 a) → Bud (A.deeper env) n →
      KP TT.TB s.heap h₁ → SV TT B0 env ρ ok1 (bindE ps fd.scope.names.length xs) H M h₁ →
      wpAny (model prog w) (A.deeper env) (execs body env) (fun fl s' => R (.ok (.ret (match fl with | .ret v => v | _ => .none))) s') Err' { s with heap := h₁, toks := tk }) :
    codeAny (model prog w) A (.call (.ref fa) ⟨ws, []⟩) R s := by
  have Ts := T.kp S.good.keep
  have i := S.good.inv
  have hwl : ws.length = pn.length := by rw [← r.length]; exact hlen
  have kinds := hps.kinds
  have hroom : A.depth < recursionLimit := by have := B.depth; omega
  have hcells : ∀ m x, (x, NameKind.cell) ∈ fd.scope.names → ∃ c, (cellsFrom m fd.scope.names []).lookup x = some c := fun m x hx =>
    Option.isSome_iff_exists.mp (cellsFrom_some fd.scope.names m [] x (.inl hx))
  refine codeAny_call_cells hroom (Ts.kin fa fo hK) hd Ts.base.lim (hcode _ Ts.kin) hb (hbind ws hwl) hcl (fun p hp => ?_) (fun s₁ X => ?_) hco hgen hk
  · obtain ⟨x, wv⟩ := p
    have hx : x ∈ pn := (List.of_mem_zip hp).1
    obtain ⟨j, k, hj, hkk⟩ := kinds x hx
    rcases hkk with rfl | rfl
    · exact .inl (lookup_at hnd hj)
    · obtain ⟨c, hc⟩ := hcells (s.heap.objs.size + 1) x (List.mem_of_getElem? hj)
      exact .inr ⟨lookup_at hnd hj, by rw [hc]; rfl⟩
  · obtain ⟨h₁, tk, rfl, keep⟩ := X.done
    have hns := X.toInCall.ns
    generalize hL : s.heap.objs.size = L at *
    have hsz : ∀ b, L ≤ b → s.heap.get? b = none := fun b hb => by
      cases q : s.heap.get? b with
      | none => rfl
      | some o => have := Heap.lt_size q; rw [hL] at this; exact absurd this (Nat.not_lt.mpr hb)
    let cs := cellsFrom (L + 1) fd.scope.names []
    let M : List Addr := L :: fd.scope.names.filterMap fun p => if (p.2 == NameKind.cell) = true then cs.lookup p.1 else none
    have inM : ∀ b ∈ M, b = L ∨ ∃ x, cs.lookup x = some b := fun b hb => by
      rcases List.mem_cons.mp hb with q | hb
      · exact .inl q
      · obtain ⟨p, hp, e⟩ := List.mem_filterMap.mp hb
        split at e
        · exact .inr ⟨_, e⟩
        · cases e
    have toM : ∀ x c, (x, NameKind.cell) ∈ fd.scope.names → cs.lookup x = some c → c ∈ M := fun x c hx hc =>
      List.mem_cons_of_mem _ (List.mem_filterMap.mpr ⟨(x, .cell), hx, by rw [if_pos (show ((x, NameKind.cell).2 == NameKind.cell) = true from rfl)]; exact hc⟩)
    have fresh : ∀ b ∈ M, s.heap.get? b = none := fun b hb => by
      rcases inM b hb with rfl | ⟨x, hx⟩
      · exact hsz _ (Nat.le_refl _)
      · exact hsz _ (Nat.le_of_lt (X.above x b (mem_of_lookup hx)))
    have i₁ : TT.Inv h₁ := TT.mono _ _ keep i
    have tab : ∀ b, s.heap.get? b = none → b ∉ TT.TB := fun b e q => by
      obtain ⟨o, e', _⟩ := TT.there _ i b q
      rw [e] at e'; cases e'
    let ok1 : Addr → Prop := fun a => ok a ∧ a ∉ M
    have ho1 : ∀ a o, s.heap.get? a = some o → ok a → ok1 a := fun a o e h => ⟨h, fun q => by rw [fresh a q] at e; cases e⟩
    have r1 : VRs h₁ ρ ok1 xs ws := (r.okm ho1).keep (KP.of keep) i
    have L0 : LC fd.scope.names h₁ ρ ok1 (List.replicate fd.scope.names.length none) (fun _ => none) (fun _ => none) := ⟨fun j x v _ e => (by
        rw [List.getElem?_replicate] at e; split at e <;> cases e), fun j x v _ e => (by rw [List.getElem?_replicate] at e; split at e <;> cases e)⟩
    have LL := LC.bind hnd (callEnvC fd L fa).kindOf (fun _ => rfl) hps r1 hlen L0
    have live : ∀ b ∈ M, h₁.get? b ≠ none := fun b hb => by
      rcases inM b hb with rfl | ⟨x, hx⟩
      · obtain ⟨o, _, _, e, _⟩ := hns
        have e' : h₁.get? b = some o := e
        rw [e']; nofun
      · obtain ⟨o, e, _⟩ := X.cell x b hx
        rw [show h₁.get? b = some o from e]; nofun
    have S0 : SV0 TT B0 ρ ok1 H h₁ := ⟨S.good.step (KP.of keep) i₁, S.len, fun j vo e => (by
        obtain ⟨a, ea, o⟩ := S.objs j vo e
        refine ⟨a, ea, ?_⟩
        exact (o.okm ho1).keepX (X := []) (by simp) (by simp) ((KP.of keep).toX []) i), fun a e => ⟨S.free a (by
        cases q : s.heap.get? a with
        | none => rfl
        | some o => rw [keep a o q] at e; cases e), fun q => live a q e⟩⟩
    have V : EnvV TT (callEnvC fd L fa) ρ ok1 (bindE ps fd.scope.names.length xs) h₁ := {
      kind := hk
      glo := hglob
      blt := hblt
      lTB := tab _ (fresh _ List.mem_cons_self)
      ns := ⟨_, hns, LL.loc⟩
      cells := fun j x k e hkk => by
        have hkc : k = .cell := by
          rcases hkk with h | h
          · exact h
          · subst h; exact absurd rfl (hfree _ (List.mem_of_getElem? e))
        subst hkc
        obtain ⟨c, hc⟩ := hcells (L + 1) x (List.mem_of_getElem? e)
        obtain ⟨o, eo, ed⟩ := X.cell x c hc
        have hcM : c ∈ M := toM x c (List.mem_of_getElem? e) hc
        exact ⟨c, o, _, hc, eo, tab _ (fresh c hcM), ed, fun v ev => LL.cel j x v e ev⟩ }
    have FR : Frm TT B0 ρ ok1 (callEnvC fd L fa) true M := {
      ap := ⟨fun b q h => h.2 q, fun b hb q => (by
        obtain ⟨o, e⟩ := S.live q
        rw [fresh b hb] at e; cases e), fun b hb => S.good.old (fresh b hb)⟩
      tb := fun b q => tab b (fresh b q)
      lM := List.mem_cons_self
      cl := fun j x k a e hkk el q => by
        have := X.above x a (mem_of_lookup el)
        rw [q] at this
        exact absurd this (Nat.lt_irrefl _)
      cM := fun _ j x a e el => ⟨toM x a (List.mem_of_getElem? e) el, fun y ey => name_of_addr X.apart (mem_of_lookup ey) (mem_of_lookup el)⟩ }
    have SS : SV TT B0 (callEnvC fd L fa) ρ ok1 (bindE ps fd.scope.names.length xs) H M h₁ := ⟨S0, V, FR, nd, fun a ha h => okn a ha h.1, oldn, by show (fd.scope.kind == _ && _) = false; rw [hk]; rfl⟩
    exact h (callEnvC fd L fa) M h₁ tk ok1 _ rfl fresh rfl rfl rfl rfl (fun a h => h.1) ho1 (B.deeper _) (KP.of keep) SS

theorem fn_enterX {fa : Addr} {fo : Obj} {fd : FuncData} {body : List Stmt} {pn : List Str} {ps : List Nat} (hK : K.lookup fa = some fo) (hd : fo.data = .func fd) (hb : fd.body = .stmts body) (hcl : fd.closure = [])
    (hnd : (fd.scope.names.map (·.1)).Nodup) (hfree : ∀ y ∈ fd.scope.names, y.2 ≠ .free) (hglob : fd.globals = mainGlobals) (hblt : fd.builtins = builtinsNs) (hcode : ∀ h, K.In h → h.CodeRec fd.code fd.qualname)
    (hbind : ∀ ws : List Value, ws.length = pn.length → bindArgs fd ⟨ws, []⟩ = pure (pn.zip ws)) (hps : PsM fd.scope.names pn ps) (hco : fd.scope.isCoroutine = false) (hgen : fd.scope.isGenerator = false) (hk : fd.scope.kind = .function) {A : Around} {ρ : List Addr} {ok : Addr → Prop} {H : Hp} {s : Shared} {xs : List VV} {ws : List Value} (T : Tp TT GL K B0) (B : Bud A (n + 1))
    (S : SV0 TT B0 ρ ok H s.heap) (nd : ρ.Nodup) (okn : ∀ a ∈ ρ, ¬ ok a) (oldn : ∀ a ∈ ρ, B0.get? a = none) (r : VRs s.heap ρ ok xs ws) (hlen : xs.length = pn.length) {R : Result → Shared → Prop}
    (h : ∀ (env : Env) (M : List Addr) (h₁ : Heap) (tk : Nat) (ok1 : Addr → Prop) (Err' : Value → Shared → Prop), env.scope = fd.scope → env.code = fd.code → env.qual = fd.qualname ++ ".<locals>." → (∀ a, ok1 a → ok a) → (∀ a o, s.heap.get? a = some o → ok a → ok1 a) → Bud (A.deeper env) n →
      KP TT.TB s.heap h₁ → SV TT B0 env ρ ok1 (bindE ps fd.scope.names.length xs) H M h₁ →
      wpAny (model prog w) (A.deeper env) (execs body env) (fun fl s' => R (.ok (.ret (match fl with | .ret v => v | _ => .none))) s') Err' { s with heap := h₁, toks := tk }) :
    codeAny (model prog w) A (.call (.ref fa) ⟨ws, []⟩) R s :=
  fn_enterY hK hd hb hcl hnd hfree hglob hblt hcode hbind hps hco hgen hk T B S nd okn oldn r hlen fun env M h₁ tk ok1 Err' _ _ _ => h env M h₁ tk ok1 Err'

theorem fn_enter {fa : Addr} {fo : Obj} {fd : FuncData} {body : List Stmt} {pn : List Str} {ps : List Nat} (hK : K.lookup fa = some fo) (hd : fo.data = .func fd) (hb : fd.body = .stmts body) (hcl : fd.closure = [])
    (hnd : (fd.scope.names.map (·.1)).Nodup) (hfree : ∀ y ∈ fd.scope.names, y.2 ≠ .free) (hglob : fd.globals = mainGlobals) (hblt : fd.builtins = builtinsNs) (hcode : ∀ h, K.In h → h.CodeRec fd.code fd.qualname)
    (hbind : ∀ ws : List Value, ws.length = pn.length → bindArgs fd ⟨ws, []⟩ = pure (pn.zip ws)) (hps : PsM fd.scope.names pn ps) {A : Around} {ok : Addr → Prop} {s : Shared} {xs : List VV} {ws : List Value} (T : Tp TT GL K s.heap) (B : Bud A (n + 1)) (i : TT.Inv s.heap)
    (hfr : ∀ a, s.heap.get? a = none → ok a) (r : VRs s.heap [] ok xs ws) (hlen : xs.length = pn.length) {Q Err : Value → Shared → Prop}
    (h : ∀ (env : Env) (M : List Addr) (h₁ : Heap) (tk : Nat) (ok1 : Addr → Prop) (Err' : Value → Shared → Prop), env.scope = fd.scope → env.code = fd.code → env.qual = fd.qualname ++ ".<locals>." → (∀ a, ok1 a → ok a) → (∀ a o, s.heap.get? a = some o → ok a → ok1 a) → Bud (A.deeper env) n →
      KP TT.TB s.heap h₁ → SV TT s.heap env [] ok1 (bindE ps fd.scope.names.length xs) [] M h₁ →
      wpAny (model prog w) (A.deeper env) (execs body env) (fun fl s' => Q (match fl with | .ret v => v | _ => .none) s') Err' { s with heap := h₁, toks := tk })
    (hco : fd.scope.isCoroutine = false := by rfl) (hgen : fd.scope.isGenerator = false := by rfl) (hk : fd.scope.kind = .function := by rfl) :
    wpAny (model prog w) A (call (.ref fa) ws) Q Err s := by
  have S0 : SV0 TT s.heap [] ok [] s.heap := ⟨⟨KP.refl _, i⟩, rfl, fun j vo e => (by cases e), hfr⟩
  exact wpAny_call (fn_enterX hK hd hb hcl hnd hfree hglob hblt hcode hbind hps hco hgen hk T B S0 List.nodup_nil (fun a ha => (by cases ha)) (fun a ha => (by cases ha)) r hlen h)
theorem fn_call {fa : Addr} {fo : Obj} {fd : FuncData} {body : List Stmt} {pn : List Str} {ps : List Nat} {F : StF} {g : List VV → Option VV} (hK : K.lookup fa = some fo) (hd : fo.data = .func fd) (hb : fd.body = .stmts body) (hcl : fd.closure = [])
    (hnd : (fd.scope.names.map (·.1)).Nodup) (hfree : ∀ y ∈ fd.scope.names, y.2 ≠ .free) (hglob : fd.globals = mainGlobals) (hblt : fd.builtins = builtinsNs) (hcode : ∀ h, K.In h → h.CodeRec fd.code fd.qualname)
    (hbind : ∀ ws : List Value, ws.length = pn.length → bindArgs fd ⟨ws, []⟩ = pure (pn.zip ws)) (hps : PsM fd.scope.names pn ps)
    (hbody : ∀ B1, Tp TT GL K B1 → DenSs prog w TT B1 n fd.scope.names body F)
    (hg : ∀ xs v, g xs = some v → xs.length = pn.length ∧ ∃ r E' H', F (bindE ps fd.scope.names.length xs) [] = some (r, E', H') ∧ outF r H' = some v)
    (hco : fd.scope.isCoroutine = false := by rfl) (hgen : fd.scope.isGenerator = false := by rfl) (hk : fd.scope.kind = .function := by rfl) :
    FnC prog w TT GL K (n + 1) (fun ws => call (.ref fa) ws) g := by
  intro A ok s xs ws T B i hfr r v e Q Err P
  obtain ⟨hlen, rr, E', H', hF, hout⟩ := hg xs v e
  refine fn_enter hK hd hb hcl hnd hfree hglob hblt hcode hbind hps T B i hfr r hlen (fun env M h₁ tk ok1 Err' e1 _ _ hsub hoo B1 k1 SS => ?_) hco hgen hk
  refine hbody s.heap T (A.deeper env) env M [] ok1 [] (bindE ps fd.scope.names.length xs) { s with heap := h₁, toks := tk } B1 (by rw [e1]) SS rr E' H' hF _ _ fun fl ρ' ok' h' tk' N S' f => ?_
  have kf := S'.s0.good.keep
  have i' := S'.s0.good.inv
  cases f with
  | next => cases hout; exact P _ h' tk' kf i' .none
  | brk => cases hout
  | ret q =>
    refine P _ h' tk' kf i' (frz_vr (fun a o e h => hsub a (N.sub a h)) (fun j vo a e ea => ?_) 8 _ _ _ hout q)
    obtain ⟨a', ea', o⟩ := S'.s0.objs j vo e
    rw [ea] at ea'; cases ea'
    exact ⟨o, hfr a (S'.oldn a (List.mem_of_getElem? ea))⟩
end
end Mine
namespace Mine

section
variable {prog : Program} {w : World} {TT : Tabs} {B0 : Heap} {n : Nat} {sc : Sc} {GL : List (Str × Value)} {K : Frag}

theorem d_globI (X : Base TT B0 GL) {x : Str} {i : Int} {t : Tok} {pos : Pos} (hm : (x, .int i t) ∈ GL) (hl : sc.lookup x = some .globalImplicit) (hd : (x == ("__debug__" : Str)) = false := by decide) :
    DenE prog w TT B0 n sc (.Name x pos) (dI i) := by
  intro A env ρ ok H E s B hs S V u e Q Err P
  cases e
  refine d_glob (n := n) X hm hl hd A env ρ ok H E s B hs S V (.raw (.int i t)) rfl _ _ fun wf h₁ tk₁ k₁ i₁ q => ?_
  cases q
  exact P _ h₁ tk₁ k₁ i₁ (.int i t)

-- methods of built-in values
noncomputable def gBits : VV → Hp → Option VV
  | .int a, _ => some (.int (Builtin.Int.intBits a))
  | _, _ => none
theorem d_bits {o : Expr} {fo : EvF} {cpos apos : Pos} (ho : DenE prog w TT B0 n sc o fo) (hm : ∀ env, ∃ pl, MethEq o "bit_length" apos cpos [] env pl := by intro _; exact ⟨_, rfl⟩) :
    DenE prog w TT B0 n sc (.Call (.Attribute o "bit_length" apos) [] [] cpos) (dUn gBits fo) := by
  intro A env ρ ok H E s B hs S V v e Q Err P
  refine bindSome e fun x hx e => ?_
  unfold gBits at e
  split at e
  · cases e
    obtain ⟨pl, hm⟩ := hm env
    refine MethodCall_ ?_ hm
    refine ho A env ρ ok H E s B hs S V _ hx _ _ fun wo h₁ tk₁ k₁ i₁ q => ?_
    cases q
    refine getMethod_int_bit_length ?_
    refine callWith_v (P0 := fun _ => True) (s := { s with heap := h₁, toks := tk₁ }) .nil B hs (S.keep k₁ i₁) (V.keep S.good.inv k₁) (keep_blt rfl) (vs := []) rfl fun ws2 h₂ tk₂ k₂ i₂ r2 => ?_
    cases r2
    exact call_int_bit_length (P _ h₂ _ (k₁.trans k₂) i₂ (.int _ _))
  · cases e
theorem strs_are {h : Heap} {ρ : List Addr} {ok : Addr → Prop} {ns : List (List Nat)} : ∀ {ws : List Value}, VRs h ρ ok (ns.map .str) ws → StrsAre ws (ns.map fun l => ⟨l.toArray⟩) := by
  induction ns with
  | nil =>
    intro ws r
    rw [r.nilI]
    exact .nil
  | cons l ns ih =>
    intro ws r
    obtain ⟨w, us, rfl, q, r'⟩ := VRs.consI (v := .str l) (vs := ns.map .str) r
    obtain ⟨t, rfl⟩ := q.strI
    exact .cons _ t (ih r')
theorem join_fold : ∀ (ns : List (List Nat)) (acc : Array Nat), (ns.map fun l => (⟨l.toArray⟩ : Str)).foldl (fun acc p => acc ++ (⟨#[]⟩ : Str).cps ++ p.cps) acc = acc ++ ns.flatten.toArray
  | [], acc => by simp
  | l :: ns, acc => by
    rw [List.map_cons, List.foldl_cons, join_fold ns]
    apply Array.ext'
    simp
theorem join_empty (ns : List (List Nat)) : Txt.join ⟨#[]⟩ (ns.map fun l => (⟨l.toArray⟩ : Str)) = ⟨ns.flatten.toArray⟩ := by
  unfold Txt.join Builtin.Str.glued
  cases ns with
  | nil => rfl
  | cons l ns =>
    have := join_fold ns l.toArray
    simp only [List.map_cons, List.drop_succ_cons, List.drop_zero, List.headD_cons]
    rw [this]
    congr 1
    apply Array.ext'
    simp
noncomputable def gJoin : VV → Hp → Option VV
  | v, H => (items v H).bind fun xs => (asStrs xs).bind fun ns => if (ns.map (·.length)).sum + ns.length ≤ 1048576 then some (.str ns.flatten) else none
theorem d_join {k : Nat} {x : Str} {spos : Pos} {a : Expr} {fa : EvF} {cpos apos : Pos} (hx : x = ⟨#[]⟩) (ha : DenE prog w TT B0 n sc a fa) (hst : ∀ rest env, starEach (a :: rest) env = (false, eval a env) :: starEach rest env := by intro _ _; rfl)
    (hm : ∀ env, ∃ pl, MethEq (.Constant (.str x) k spos) "join" apos cpos [a] env pl := by intro _; exact ⟨_, rfl⟩) :
    DenE prog w TT B0 n sc (.Call (.Attribute (.Constant (.str x) k spos) "join" apos) [a] [] cpos) (dUn gJoin fa) := by
  intro A env ρ ok H E s B hs S V v e Q Err P
  refine bindSome e fun xv hxv e => ?_
  unfold gJoin at e
  refine bindSome e fun xs hxs e => ?_
  refine bindSome e fun ns hns e => ?_
  split at e
  · rename_i hz
    cases e
    subst hx
    obtain ⟨pl, hm⟩ := hm env
    refine MethodCall_ (wpAny_Constant_str ?_) hm
    refine GM.join ?_
    refine callWith_v (P0 := fun _ => True) (s := { s with toks := s.toks + 1 }) (.cons ha .nil hst) B hs S V (keep_blt rfl) (vs := [xv]) (by simp [evs, hxv]) fun ws2 h₂ tk₂ k₂ i₂ r2 => ?_
    cases r2 with
    | cons q2 r2 =>
    cases r2
    obtain ⟨l, ws, kk, rfl, h1, r⟩ := items_at (S.keep k₂ i₂) q2 hxs
    rw [asStrs_eq hns] at r
    refine join_listW (s := { s with heap := h₂, toks := tk₂ }) (isList_of h1) (strs_are r) (by show (#[] : Array Nat).size ≤ 16; decide) ?_ fun t' tk => ?_
    · rw [List.map_map, List.length_map]
      have : (fun l : List Nat => (⟨l.toArray⟩ : Str).length) = fun l => l.length := by funext l; show (List.toArray l).size = _; simp
      rw [show ((fun x => Str.length x) ∘ fun l : List Nat => (⟨l.toArray⟩ : Str)) = fun l => l.length from this]
      exact hz
    · rw [join_empty]
      exact P _ h₂ tk k₂ i₂ (.str _ _)
  · cases e

noncomputable def gDivmod : List VV → Hp → Option VV
  | [.int a, .int b], _ => if b ≠ 0 ∧ b.natAbs < lim9 then some (.tup [.int (a.fdiv b), .int (a.fmod b)]) else none
  | _, _ => none
theorem b_divmod : OpN prog w TT B0 (fun ws => call (.builtin "divmod") ws) gDivmod := by
  intro A ρ ok H s xs ws B S hx v e Q Err P
  unfold gDivmod at e
  split at e
  · split at e
    · rename_i hz
      cases e
      obtain ⟨t, t', rfl⟩ := hx.int2
      refine divmod_int hz.1 (P.push S rfl fun g o kk => .tup (ws := [_, _]) g o (.cons (.int _ _) (.cons (.int _ _) .nil))) (.inl (PyProof.noPylong_of_log2 (lim9_log hz.2)))
    · cases e
  · cases e
noncomputable def gList : List VV → Hp → Option VV
  | [.tup xs], _ => if xs.length ≤ 16777216 then some (.lv xs) else none
  | [v], H => (items v H).bind fun xs => if xs.length ≤ 16777216 then some (.lv xs) else none
  | _, _ => none
theorem list_seq_v {A : Around} {ρ : List Addr} {ok : Addr → Prop} {H : Hp} {s : Shared} {l : Addr} {T : String} {o : Obj} {ws : List Value} {k : Nat} {xs : List VV} {Q Err : Value → Shared → Prop} (S : SV0 TT B0 ρ ok H s.heap) (hT : T = "list" ∨ T = "tuple")
    (ho : s.heap.get? l = some o) (hc : o.cls = .type T) (hd : o.data = .seq ws.toArray k) (r : VRs s.heap ρ ok xs ws) (hz : xs.length ≤ 16777216) (P : Post TT ρ ok (.lv xs) Q s) : wpAny (model prog w) A (call (.type "list") [.ref l]) Q Err s := by
  refine call_list_seq l hT ho hc hd (fun h' c' hk e => ?_) (by rw [List.size_toArray, ← r.length]; simpa [sizeLine] using hz)
  exact P.made (tk := s.toks) S hk (free_size _) fun ok' kk => .lv e ok' (r.keep kk S.good.inv)
theorem b_list : OpN prog w TT B0 (fun ws => call (.type "list") ws) gList := by
  intro A ρ ok H s xs ws B S hx v e Q Err P
  unfold gList at e
  split at e
  · split at e
    · rename_i hz
      cases e
      obtain ⟨aq, rfl, q⟩ := hx.oneI
      cases q with
      | tup h1 o1 r => exact list_seq_v S (.inr rfl) h1 rfl rfl r hz P
    · cases e
  · refine bindSome e fun ys ey e => ?_
    split at e
    · rename_i hz
      cases e
      obtain ⟨aq, rfl, q⟩ := hx.oneI
      obtain ⟨l, us, kk, rfl, h1, r⟩ := items_at S q ey
      exact list_seq_v S (.inl rfl) h1 rfl rfl r hz P
    · cases e
  · cases e
noncomputable def dItR (f : EvF) : Lo → Hp → Option (List VV) := fun E H => (f E H).bind fun v => match v with | .lv xs => if xs.length ≤ 16777216 then some xs.reverse else none | _ => none
theorem it_rev (X : Base TT B0 GL) {a : Expr} {fa : EvF} {pos pos' : Pos} (hm : (("reversed" : Str), Value.type "reversed") ∈ GL) (hl : sc.lookup ("reversed" : Str) = some .globalImplicit) (ha : DenE prog w TT B0 n sc a fa)
    (hst : ∀ rest env, starEach (a :: rest) env = (false, eval a env) :: starEach rest env := by intro _ _; rfl) : DenIt prog w TT B0 true n sc (.Call (.Name "reversed" pos') [a] [] pos) (dItR fa) := by
  intro A env ρ ok H E s B hs S V xs e Q Err P
  refine bindSome e fun v hv e => ?_
  split at e
  · split at e
    · rename_i ys hz
      cases e
      refine Call_ (d_glob (n := n) X hm hl (by decide) A env ρ ok H E s B hs S V _ rfl _ _ fun wf h₁ tk₁ k₁ i₁ q => ?_)
      cases q
      refine callWith_v (.cons ha .nil hst) (s := { s with heap := h₁, toks := tk₁ }) (P0 := fun _ => True) B hs (S.keep k₁ i₁) (V.keep S.good.inv k₁) (keep_blt rfl) (vs := [.lv ys]) (by simp [evs, hv]) fun ws h₂ tk₂ k₂ i₂ r => ?_
      cases r with
      | cons q r =>
      cases r
      cases q with
      | lv h1 o1 r =>
      rename_i l us kk
      have S2 := S.keep (k₁.trans k₂) i₂
      refine call_reversed_list (s := { s with heap := h₂, toks := tk₂ }) (isList_of h1) ?_
      have kp : ∀ b o', h₂.get? b = some o' → (h₂.push (revObj l ((us.toArray.size : Int) - 1))).get? b = some o' := fun b o' e => Heap.get?_push_of_some _ e
      have hit : (h₂.push (revObj l ((us.toArray.size : Int) - 1))).IsRevIter h₂.objs.size l ((us.toArray.size : Int) - 1) := ⟨_, Heap.get?_push_size _ rfl, rfl, rfl⟩
      refine wpAny_pyIter_revIter hit ?_
      have hne : l ≠ h₂.objs.size := Nat.ne_of_lt (Heap.lt_size h1)
      have hlen : ys.length = us.length := r.length
      have W := Walks.listRev (prog := prog) (w := w) (A := A) B.hh h₂.objs.size l hne us.toArray
      have hsz : ys.reverse.length = us.toArray.size := by rw [List.length_reverse, hlen, List.size_toArray]
      refine P _ [h₂.objs.size, l] (fun i v => us.toArray[us.toArray.size - 1 - i]? = some v ∧ i < us.toArray.size) (fun i h => i ≤ us.toArray.size ∧ h.IsRevIter h₂.objs.size l ((us.toArray.size : Int) - 1 - (i : Int)) ∧ h.IsList l us.toArray) _ tk₂ ((k₁.trans k₂).free i₂ (free_size _)) ((k₁.trans k₂).trans (KP.of kp)) (TT.mono _ _ kp i₂) ⟨?_, ⟨Nat.zero_le _, by simpa using hit, ⟨_, kp _ _ h1, rfl, _, rfl⟩⟩, fun b hb => ?_, fun i v hv => ?_, ⟨"list_reverseiterator", by decide +kernel, fun i h q => let ⟨o, e, c, d⟩ := q.2.1; ⟨o, e, c, .at d (by intro _ _; nofun)⟩⟩, by rw [List.length_reverse]; exact hz⟩
      · rw [hsz]
        exact { sub := W.sub, frame := W.frame, done := W.done, self := W.self, item := fun i s Q E hi st hQ => W.item i s Q E hi st fun v h' tk hP => hQ v h' tk ⟨hP, hi⟩ }
      · rcases List.mem_cons.mp hb with rfl | hb
        · exact .inl rfl
        · rw [List.mem_singleton.mp hb]
          exact .inr ⟨_, kp _ _ h1, by nofun, .inl o1⟩
      · obtain ⟨hv, hi⟩ := hv
        rw [List.size_toArray] at hv hi
        have hv' : us[us.length - 1 - i]? = some v := by simpa using hv
        have hil : us.length - 1 - i < ys.length := by omega
        obtain ⟨v', e', q⟩ := r.get (List.getElem?_eq_getElem hil)
        rw [hv'] at e'; cases e'
        refine ⟨_, ?_, q.mono (fun b o _ _ e => kp b o e) (fun _ _ e => e) fun a o e ha => ⟨ha, Nat.ne_of_lt (Heap.lt_size e)⟩⟩
        rw [List.getElem?_reverse (by omega)]
        have : ys.length - 1 - i = us.length - 1 - i := by omega
        rw [this]
        exact List.getElem?_eq_getElem hil
    · cases e
  · cases e
end
end Mine
namespace Mine

section
variable {prog : Program} {w : World} {TT : Tabs} {B0 : Heap} {n : Nat} {sc : Sc} {GL : List (Str × Value)} {K : Frag}

inductive NmsB (sc : Sc) (fn : Bool) : List Str → List Nat → Prop
  | nil : NmsB sc fn [] []
  | cons {x : Str} {xs : List Str} {i : Nat} {is : List Nat} {pos : Pos} : NmM sc fn (.Name x pos) i → NmsB sc fn xs is → NmsB sc fn (x :: xs) (i :: is)
theorem NmsB.length {fn : Bool} {ns : List Str} {is : List Nat} (h : NmsB sc fn ns is) : ns.length = is.length := by
  induction h with
  | nil => rfl
  | cons _ _ ih => rw [List.length_cons, List.length_cons, ih]
theorem stb_names {A : Around} {env : Env} {ρ : List Addr} {ok : Addr → Prop} {H : Hp} {fn : Bool} {M : List Addr} (F : Frm TT B0 ρ ok env fn M) (hn : (env.scope.names.map (·.1)).Nodup) {Q : Unit → Shared → Prop} {Err : Value → Shared → Prop} :
    ∀ {es : List Str} {is : List Nat} {vs : List VV} {ws : List Value} {E : Lo} {s : Shared}, NmsB env.scope.names fn es is → SV0 TT B0 ρ ok H s.heap → EnvV TT env ρ ok E s.heap → is.length = vs.length → VRs s.heap ρ ok vs ws →
    (∀ h' tk, KP (TT.TB ++ M) s.heap h' → SV0 TT B0 ρ ok H h' → EnvV TT env ρ ok (setL is vs E) h' → Q () { s with heap := h', toks := tk }) → wpAny (model prog w) A (assignInOrder (es.map fun n => bindName env n) ws) Q Err s
  | _, _, _, _, E, s, .nil, S, V, hl, q, P => by
    exact assignInOrder_nil (P s.heap s.toks (fun _ _ _ e => e) S (by
      unfold setL; exact V))
  | _, _, _, _, E, s, .cons h r, S, V, hl, q, P => by
    cases q with
    | nil => cases hl
    | cons q1 q2 =>
    refine assignInOrder_cons (wpAny_bindName (st_store S V F hn h q1 fun h₁ tk₁ k₁ S₁ V₁ => ?_))
    refine stb_names (s := { s with heap := h₁, toks := tk₁ }) F hn r S₁ V₁ (by simpa using hl) (q2.keepX F.ap.ok k₁ S.good.inv) fun h₂ tk₂ k₂ S₂ V₂ => ?_
    exact P h₂ tk₂ (k₁.trans k₂) S₂ V₂

noncomputable def sAsgR (is : List Nat) (f : EvF) : StF := fun E H => (f E H).bind fun v => match v with
  | .tup xs => if is.length = xs.length then some (.next, setL is xs.reverse E, H) else none
  | _ => none
theorem s_asgR {ts : List Expr} {tk : Nat} {tp : Pos} {e : Expr} {names : List Str} {is : List Nat} {f : EvF} {pos : Pos} (hnd : (sc.map (·.1)).Nodup) (hns : NmsB sc true names.reverse is) (hf : DenE prog w TT B0 n sc e f)
    (hw : ∀ env : Env, env.scope.names = sc → env.scope.kind = .function → swappedStores [.Tuple ts tk tp] e env = pure (some names)) (hsw : ∀ env : Env, swapsWith e (some (.Tuple ts tk tp)) pos.line env = pure false := by intro _; rfl) :
    DenS prog w TT B0 n sc (.Assign [.Tuple ts tk tp] e pos) (sAsgR is f) := by
  intro A env M ρ ok H E s B hs S r E' H' e Q Err P
  refine bindSome e fun v ev e => ?_
  split at e
  · split at e
    · rename_i xs hl
      cases e
      rw [exec_Assign_arm]
      refine wpAny_bind (wpAny_standAt ?_)
      rw [show swapsWithSole [.Tuple ts tk tp] _ pos.line env = pure false from hsw env]
      refine wpAny_bind (wpAny_pure ?_)
      rw [if_neg (by decide)]
      refine wpAny_bind (hf A env ρ ok H E s B hs S.s0 S.ev _ ev _ _ fun wv h₁ tk₁ k₁ i₁ q => ?_)
      rw [hw env hs S.ev.kind]
      refine wpAny_bind (wpAny_pure ?_)
      unfold assignStores
      refine wpAny_bind (wpAny_rule ?_)
      obtain ⟨l, ws, k, rfl, h1, o1, r⟩ := q.tupI
      have hlen : names.length = ws.toArray.size := by
        rw [List.size_toArray, ← r.length, ← hl, ← List.length_reverse (as := names)]
        exact hns.length
      rw [hlen]
      refine wpAny_bind (wpAny_unpackItems_tuple (s := { s with heap := h₁, toks := tk₁ }) B.hh ⟨_, h1, rfl, k, rfl⟩ fun h₂ k₂ => ?_)
      have kp : ∀ b o, h₁.get? b = some o → h₂.get? b = some o := fun b o e => k₂ b o (Nat.ne_of_lt (Heap.lt_size e)) e
      have i₂ := TT.mono _ _ kp i₁
      have S2 := (S.keep k₁ i₁).keep (KP.of kp) i₂
      refine wpAny_bind (stb_names (s := { s with heap := h₂, toks := tk₁ }) S.frm (hs ▸ hnd) (hs ▸ hns) S2.s0 S2.ev (by rw [List.length_reverse]; exact hl) (by
        have := (r.keep (KP.of kp) i₁).reverse
        exact this) fun h₃ tk₃ k₃ S3 V3 => ?_)
      exact wpAny_pure (P _ _ _ h₃ tk₃ (Nx.ofM (((k₁.trans (KP.of kp)).toX M).trans k₃)) ⟨S3, V3, S.frm, S.nd, S.okn, S.oldn, S.dep⟩ .next)
    · cases e
  · cases e

noncomputable def sAsg3 (i j k : Nat) (f : EvF) : StF := fun E H => (f E H).map fun v => (.next, ((E.set i (some v)).set j (some v)).set k (some v), H)
theorem s_asg3 {t1 t2 t3 e : Expr} {i j k : Nat} {f : EvF} {pos : Pos} (hnd : (sc.map (·.1)).Nodup) (h1 : NmM sc true t1 i) (h2 : NmM sc true t2 j) (h3 : NmM sc true t3 k) (hf : DenE prog w TT B0 n sc e f)
    (hw : ∀ env : Env, swappedStores [t1, t2, t3] e env = pure none := by intro _; rfl) : DenS prog w TT B0 n sc (.Assign [t1, t2, t3] e pos) (sAsg3 i j k f) := by
  intro A env M ρ ok H E s B hs S r E' H' e Q Err P
  refine mapSome e fun v ev e => ?_
  cases e
  have he : (assignEach [t1, t2, t3] env).map (·.2) = [assign t1 env, assign t2 env, assign t3 env] := by cases h1 <;> cases h2 <;> cases h3 <;> rfl
  refine wpAny_Assign_three (hf A env ρ ok H E s B hs S.s0 S.ev v ev _ _ fun wv h₁ tk₁ k₁ i₁ q => ?_) he (hw env)
  have S1 := S.keep k₁ i₁
  refine st_name (s := { s with heap := h₁, toks := tk₁ }) S1.s0 S1.ev S.frm (hs ▸ hnd) (hs ▸ h1) q fun h₂ tk₂ k₂ S2 V2 => ?_
  have q2 := q.keepX S.frm.ap.ok k₂ i₁
  refine st_name (s := { s with heap := h₂, toks := tk₂ }) S2 V2 S.frm (hs ▸ hnd) (hs ▸ h2) q2 fun h₃ tk₃ k₃ S3 V3 => ?_
  have q3 := q2.keepX S.frm.ap.ok k₃ S2.good.inv
  refine st_name (s := { s with heap := h₃, toks := tk₃ }) S3 V3 S.frm (hs ▸ hnd) (hs ▸ h3) q3 fun h₄ tk₄ k₄ S4 V4 => ?_
  exact P _ _ _ h₄ tk₄ (Nx.ofM ((((k₁.toX M).trans k₂).trans k₃).trans k₄)) ⟨S4, V4, S.frm, S.nd, S.okn, S.oldn, S.dep⟩ .next

noncomputable def sAsgC (i : Nat) (f : Lo → Hp → Option (List VV)) : StF := fun E H => (f E H).map fun xs => (.next, E.set i (some (.lv xs)), H)
theorem s_asgC {y : Str} {py : Pos} {i : Nat} {elt target iter : Expr} {ifs : List Expr} {cs : List Comprehension} {scope : Scope} {pos spos : Pos} {imp : List (Option Nat)} {g : G} {gs : List G} {fe : EvF} (hnd : (sc.map (·.1)).Nodup) (ht : NmM sc true (.Name y py) i)
    (Mc : CompM prog w TT B0 n sc elt target iter ifs cs scope imp g gs fe)
    (hsw : ∀ env : Env, env.scope.names = sc → env.scope.kind = .function → swapsWith (.ListComp elt (⟨target, iter, ifs, 0⟩ :: cs) scope pos) (some (.Name y py)) spos.line env = pure true) :
    DenS prog w TT B0 n sc (.Assign [.Name y py] (.ListComp elt (⟨target, iter, ifs, 0⟩ :: cs) scope pos) spos) (sAsgC i (dCompL imp g gs fe)) := by
  intro A env M ρ ok H E s B hs S r E' H' e Q Err P
  refine mapSome e fun xs ev e => ?_
  cases e
  rw [exec_Assign_Name_used _ _ _ _ (hsw env hs S.ev.kind)]
  refine wpAny_bind (wpAny_standAt (wpAny_bind ?_))
  show wpAny _ A (do let _ ← comprehension (.ListComp elt (⟨target, iter, ifs, 0⟩ :: cs) scope pos) scope env _ (newList []) false (eval iter env) (some (assign (.Name y py) env))) _ _ s
  refine wpAny_bind (comp_core Mc B hs S.s0 S.ev ev (use := some (assign (.Name y py) env)) fun D C ws k h' tk hD hC hne hTC hTD kp i' hNs e1 r S' V' hfree => ?_)
  obtain ⟨m, hm⟩ := hNs
  have hCl : ∃ o, h'.get? C = some o := let ⟨o, _, _, e, _⟩ := hm; ⟨o, e⟩
  have SA := S.apart hC kp i' hCl
  have q : VR h' ρ (Without ok C) (.lv xs) (.ref D) := .lv e1 ⟨S.s0.free D hD, hne.symm⟩ (r.okm fun _ _ _ h => ⟨h.1, h.2.1⟩)
  show wpAny _ A (assign (.Name y py) env (.ref D)) _ _ _
  refine st_name (s := { s with heap := h', toks := tk }) SA.s0 SA.ev SA.frm (hs ▸ hnd) (hs ▸ ht) q fun h₂ tk₂ k₂ S2 V2 => ?_
  have hCM : C ∉ M := fun q => S.frm.ap.ok C q (S.s0.free C hC)
  have hCρ : C ∉ ρ := fun q => S.okn C q (S.s0.free C hC)
  have hm₂ := nsAt hm fun o e => k₂ C o (fun q => (List.mem_append.mp q).elim hTC hCM) e
  refine ⟨m, hm₂, fun h₃ hs₃ => ?_⟩
  have SV2 : SV TT B0 env ρ (Without ok C) (E.set i (some (.lv xs))) H M h₂ := ⟨S2, V2, SA.frm, SA.nd, SA.okn, SA.oldn, SA.dep⟩
  have kC : KP (TT.TB ++ [C]) h₂ h₃ := KP.ofBut fun b o hb e => hs₃.extBut b o (fun q => hb (List.mem_singleton.mpr q)) e
  have i₃ : TT.Inv h₃ := TT.oneNs S2.good.inv hTC hm₂ fun b o hb e => hs₃.extBut b o hb e
  have clC : ClN env (· ≠ C) := fun j x kd a e hk el q => by
    obtain ⟨a', o, _, e1, e2, _⟩ := S.ev.cells j x kd e hk
    rw [el] at e1; cases e1
    rw [q, hC] at e2; cases e2
  have SB := SV2.back (fun h => h.2 rfl) hCM hCρ (S.s0.good.old hC) kC i₃ clC
  refine wpAny_pure (wpAny_pure (P _ _ _ h₃ tk₂ ⟨⟨[], by simp⟩, fun _ q => .inl q, fun a h => h.elim (fun h => h.1) fun q => q ▸ S.s0.free C hC, fun a o e h => .inl ⟨h, fun q => by rw [q, hC] at e; cases e⟩, fun b o nb e => ?_⟩ SB .next))
  have nT : b ∉ TT.TB := fun q => nb (List.mem_append_left _ q)
  have nM : b ∉ M := fun q => nb (List.mem_append_right _ (List.mem_append_left _ q))
  exact kC b o (fun q => (List.mem_append.mp q).elim nT fun q => by rw [List.mem_singleton.mp q, hC] at e; cases e) (k₂ b o (fun q => (List.mem_append.mp q).elim nT nM) (kp b o nT e))
end
end Mine
namespace Mine

noncomputable def tabsOf (tl : List (Addr × Str)) : Tabs where
  TB := tl.map (·.1)
  Inv := fun h => ∀ p ∈ tl, ∃ ps, h.get? p.1 = some (tabObj ps) ∧ TriplesOk ps.toList ∧ ∀ pos cv, codeAmong pos ps.toList = some cv → h.CodeRec cv p.2 ∧ ∀ c0, cv = .ref c0 → c0 ∉ tl.map (·.1)
  there := fun h i P hP => by
    obtain ⟨p, hp, rfl⟩ := List.mem_map.mp hP
    obtain ⟨ps, e, _⟩ := i p hp
    exact ⟨_, e, rfl⟩
  only := fun h h' kT kC i p hp => by
    obtain ⟨ps, e, t, c⟩ := i p hp
    refine ⟨ps, kT p.1 (List.mem_map_of_mem hp) _ e, t, fun pos cv q => ?_⟩
    obtain ⟨⟨c0, o, vs, tk, e1, e2, e3, e4⟩, hn⟩ := c pos cv q
    exact ⟨⟨c0, o, vs, tk, e1, kC c0 o (fun n => n vs _ _ e3 e4) e2, e3, e4⟩, hn⟩
theorem tabs_new {tl : List (Addr × Str)} {h : Heap} (e : ∀ p ∈ tl, h.get? p.1 = some (tabObj #[])) : (tabsOf tl).Inv h := fun p hp => ⟨#[], e p hp, trivial, fun pos cv q => by cases q⟩

theorem codeAmong_more {pos pos' : Pos} {c cv : Value} (l : List Value) (h : TriplesOk l) (e : codeAmong pos (l ++ [rawInt pos'.line, rawInt pos'.col, c]) = some cv) : codeAmong pos l = some cv ∨ cv = c := by
  fun_induction TriplesOk l with
  | case1 =>
    simp only [List.nil_append, codeAmong, rawInt] at e
    split at e
    · cases e; exact .inr rfl
    · cases e
  | case2 a t b u x rest ih =>
    simp only [List.cons_append, codeAmong] at e ⊢
    split at e
    · rename_i hc; rw [if_pos hc]; exact .inl e
    · rename_i hc; rw [if_neg hc]; exact ih h e
  | case3 l h1 h2 => exact h.elim

section
variable {prog : Program} {w : World} {B0 : Heap} {n : Nat} {sc : Sc} {GL : List (Str × Value)} {K : Frag} {tl : List (Addr × Str)}

noncomputable abbrev madeFn (name qual : Str) (params : Arguments) (body : List Stmt) (scope : Scope) (clos : List (Str × Addr)) (doc pm cv ctv : Value) : Obj :=
  { cls := .type "function", data := .func (fnX name qual params body scope clos .none .none doc pm none cv ctv) }

theorem tabs_grown {h h' : Heap} {P : Addr} {q : Str} {ps : Array Value} {pos : Pos} {c' : Value} (hnd : (tl.map (·.1)).Nodup) (i : (tabsOf tl).Inv h) (hx : Heap.ExtBut P h h') (hP : (P, q) ∈ tl) (e : h.get? P = some (tabObj ps)) (hc : h'.CodeRec c' q)
    (hcn : ∀ c0, c' = .ref c0 → c0 ∉ tl.map (·.1)) (e' : h'.get? P = some (tabObj (ps ++ #[rawInt pos.line, rawInt pos.col, c']))) : (tabsOf tl).Inv h' := fun p hp => by
  have hPm : P ∈ tl.map (·.1) := List.mem_map.mpr ⟨_, hP, rfl⟩
  by_cases hpP : p.1 = P
  · have hpe : p = (P, q) := by
      obtain ⟨i1, h1⟩ := List.getElem?_of_mem hp
      obtain ⟨i2, h2⟩ := List.getElem?_of_mem hP
      have e1 : (tl.map (·.1))[i1]? = some P := by rw [List.getElem?_map, h1, ← hpP]; rfl
      have e2 : (tl.map (·.1))[i2]? = some P := by rw [List.getElem?_map, h2]; rfl
      obtain ⟨hl, _⟩ := List.getElem?_eq_some_iff.mp e1
      have := (List.getElem?_inj hl hnd).mp (e1.trans e2.symm)
      rw [this, h2] at h1
      exact (Option.some.inj h1).symm
    subst hpe
    obtain ⟨ps0, e0, t, c⟩ := i (P, q) hP
    have e0' : h.get? P = some (tabObj ps0) := e0
    rw [e0'] at e; cases e
    refine ⟨_, e', by rw [Array.toList_append]; exact TriplesOk_snoc _ _ _ _ t, fun pos1 cv hcv => ?_⟩
    rw [Array.toList_append] at hcv
    rcases codeAmong_more _ t hcv with hcv | rfl
    · obtain ⟨⟨c0, o, vs, tk, e1, e2, e3, e4⟩, hn⟩ := c pos1 cv hcv
      exact ⟨⟨c0, o, vs, tk, e1, hx c0 o (fun q => hn c0 e1 (q ▸ hPm)) e2, e3, e4⟩, hn⟩
    · exact ⟨hc, hcn⟩
  · obtain ⟨ps0, e0, t, c⟩ := i p hp
    refine ⟨ps0, hx _ _ hpP e0, t, fun pos1 cv hcv => ?_⟩
    obtain ⟨⟨c0, o, vs, tk, e1, e2, e3, e4⟩, hn⟩ := c pos1 cv hcv
    exact ⟨⟨c0, o, vs, tk, e1, hx c0 o (fun q => hn c0 e1 (q ▸ hPm)) e2, e3, e4⟩, hn⟩

noncomputable def _root_.Mine.Tabs.also (TT : Tabs) (cv : Value) (q : Str) : Tabs where
  TB := TT.TB
  Inv := fun h => TT.Inv h ∧ h.CodeRec cv q
  there := fun h i => TT.there h i.1
  only := fun h h' kT kC i => ⟨TT.only h h' kT kC i.1, let ⟨c0, o, vs, t, e1, e2, e3, e4⟩ := i.2; ⟨c0, o, vs, t, e1, kC c0 o (fun n => n vs _ _ e3 e4) e2, e3, e4⟩⟩
section
variable {TT : Tabs} {cv : Value} {q : Str} {h h' : Heap} {ρ ρ' M : List Addr} {ok ok' : Addr → Prop} {H : Hp} {E : Lo} {env : Env}
theorem SV0.also (S : SV0 TT B0 ρ ok H h) (c : h.CodeRec cv q) : SV0 (TT.also cv q) B0 ρ ok H h := ⟨⟨S.good.keep, S.good.inv, c⟩, S.len, S.objs, S.free⟩
theorem SV0.less (S : SV0 (TT.also cv q) B0 ρ ok H h) : SV0 TT B0 ρ ok H h := ⟨⟨S.good.keep, S.good.inv.1⟩, S.len, S.objs, S.free⟩
theorem EnvV.also (V : EnvV TT env ρ ok E h) : EnvV (TT.also cv q) env ρ ok E h := ⟨V.kind, V.glo, V.blt, V.lTB, V.ns, V.cells⟩
theorem EnvV.less (V : EnvV (TT.also cv q) env ρ ok E h) : EnvV TT env ρ ok E h := ⟨V.kind, V.glo, V.blt, V.lTB, V.ns, V.cells⟩
theorem Frm.also {fn : Bool} (F : Frm TT B0 ρ ok env fn M) : Frm (TT.also cv q) B0 ρ ok env fn M := ⟨F.ap, F.tb, F.lM, F.cl, F.cM⟩
theorem Frm.less {fn : Bool} (F : Frm (TT.also cv q) B0 ρ ok env fn M) : Frm TT B0 ρ ok env fn M := ⟨F.ap, F.tb, F.lM, F.cl, F.cM⟩
theorem SV.also (S : SV TT B0 env ρ ok E H M h) (c : h.CodeRec cv q) : SV (TT.also cv q) B0 env ρ ok E H M h := ⟨S.s0.also c, S.ev.also, S.frm.also, S.nd, S.okn, S.oldn, S.dep⟩
theorem SV.less (S : SV (TT.also cv q) B0 env ρ ok E H M h) : SV TT B0 env ρ ok E H M h := ⟨S.s0.less, S.ev.less, S.frm.less, S.nd, S.okn, S.oldn, S.dep⟩
theorem Nx.less (a : Nx (TT.also cv q) M ρ ok h ρ' ok' h') : Nx TT M ρ ok h ρ' ok' h' := ⟨a.pre, a.new, a.sub, a.okk, a.kp⟩
theorem Nx.also (a : Nx TT M ρ ok h ρ' ok' h') : Nx (TT.also cv q) M ρ ok h ρ' ok' h' := ⟨a.pre, a.new, a.sub, a.okk, a.kp⟩
theorem Tp.also (T : Tp TT GL K h) : Tp (TT.also cv q) GL K h := ⟨⟨T.base.lim, T.base.stTB, T.base.mgTB, T.base.mbTB, T.base.glo⟩, T.kin, T.ktb, T.bm⟩
end

theorem def_step {A : Around} {env : Env} {M ρ : List Addr} {ok : Addr → Prop} {H : Hp} {E : Lo} {s : Shared} (S : SV (tabsOf tl) B0 env ρ ok E H M s.heap) (htl : (tl.map (·.1)).Nodup) (hnd : (env.scope.names.map (·.1)).Nodup) (T : Tp (tabsOf tl) GL K s.heap)
    {c P : Addr} {q : Str} (hcode : env.code = .ref c) (C : CodeHd s.heap c P) (hP : (P, q) ∈ tl) {name : Str} {params : Arguments} {body : List Stmt} {scope : Scope} {pos npos : Pos} {i : Nat} {clos : List (Str × Addr)} (hq : qualnameIn env name name = q)
    (hcl : closureFor scope env = pure clos) (ht : NmM env.scope.names true (.Name name npos) i) (hd0 : params.defaults = []) (hk0 : params.kw_defaults = []) (ha : annTrees params none env = []) {Q : Flow → Shared → Prop} {Err : Value → Shared → Prop}
    (h : ∀ f cv ctv doc pm h' tk, s.heap.get? f = none → ok f → Nx ((tabsOf tl).also cv q) M ρ ok s.heap ρ ok h' → SV ((tabsOf tl).also cv q) B0 env ρ ok (E.set i (some (.raw (.ref f)))) H M h' → h'.get? f = some (madeFn name q params body scope clos doc pm cv ctv) → Q .next { s with heap := h', toks := tk }) :
    wpAny (model prog w) A (exec (.FunctionDef name params body [] none [] scope none name pos) env) Q Err s := by
  have hPT : P ∈ (tabsOf tl).TB := List.mem_map.mpr ⟨_, hP, rfl⟩
  obtain ⟨ps, e0, t, cc⟩ := S.s0.good.inv (P, q) hP
  have e0' : s.heap.get? P = some (tabObj ps) := e0
  obtain ⟨mg, bm, ob, b1, b2, b3, b4, b5, b6, b7, b8⟩ := T.bm
  have hgP : mainGlobals ≠ P := fun q => T.base.mgTB (q ▸ hPT)
  have hbG : bm ≠ mainGlobals := fun q => by
    obtain ⟨o, es, ep, e, hd, _⟩ := b1
    rw [q, e] at b5; cases b5; rw [hd] at b8; cases b8
  have hbP : bm ≠ P := fun q => b4 (q ▸ hPT)
  have BA : s.heap.BuiltinsAt mg P := ⟨bm, ob, b2, b3, hbG, hbP, b5, b6, b7, b8⟩
  refine nestDef_K hd0 hk0 ha ?_
  rw [hq]
  have fin : ∀ (h' : Heap) (cv ctv doc pm : Value) (tk : Nat), KP (tabsOf tl).TB s.heap h' → (∀ b ∈ (tabsOf tl).TB, ∃ o, h'.get? b = some o) → (tabsOf tl).Inv (h'.push (madeFn name q params body scope clos doc pm cv ctv)) → (h'.push (madeFn name q params body scope clos doc pm cv ctv)).CodeRec cv q →
      wpAny (model prog w) A (storeName env name (.ref h'.objs.size)) (fun _ s'' => Q .next s'') Err { s with heap := h'.push (madeFn name q params body scope clos doc pm cv ctv), toks := tk } := by
    intro h' cv ctv doc pm tk kp lv i'' hrec
    have kp'' : KP (tabsOf tl).TB s.heap (h'.push (madeFn name q params body scope clos doc pm cv ctv)) := kp.trans (KP.of fun b o e => Heap.get?_push_of_some _ e)
    have hf : s.heap.get? h'.objs.size = none := by
      cases e : s.heap.get? h'.objs.size with
      | none => rfl
      | some o =>
        by_cases hT : h'.objs.size ∈ (tabsOf tl).TB
        · obtain ⟨o', e'⟩ := lv _ hT
          exact absurd (Heap.lt_size e') (Nat.lt_irrefl _)
        · exact absurd (Heap.lt_size (kp _ o hT e)) (Nat.lt_irrefl _)
    have okf := S.s0.free _ hf
    have S1 := (S.keep kp'' i'').also hrec
    refine st_store (s := { s with heap := h'.push (madeFn name q params body scope clos doc pm cv ctv), toks := tk }) S1.s0 S1.ev S1.frm hnd ht (.raw _) fun h₂ tk₂ k₂ S2 V2 => ?_
    have hfo : (h'.push (madeFn name q params body scope clos doc pm cv ctv)).get? h'.objs.size = some (madeFn name q params body scope clos doc pm cv ctv) := Heap.get?_push_size _ rfl
    refine h h'.objs.size cv ctv doc pm h₂ tk₂ hf okf (Nx.ofM (KP.trans (KP.toX (TT := (tabsOf tl).also cv q) kp'' M) k₂)) ⟨S2, V2, S1.frm, S1.nd, S1.okn, S1.oldn, S1.dep⟩ (k₂ _ _ (fun q => ?_) hfo)
    rcases List.mem_append.mp q with q | q
    · obtain ⟨o, e⟩ := lv _ q
      exact absurd (Heap.lt_size e) (Nat.lt_irrefl _)
    · exact S.frm.ap.ok _ q okf
  have tabLive : ∀ h' : Heap, (∀ b o, b ≠ P → s.heap.get? b = some o → h'.get? b = some o) → (∃ o, h'.get? P = some o) → ∀ b ∈ (tabsOf tl).TB, ∃ o, h'.get? b = some o := fun h' k eP b hb => by
    by_cases hbP : b = P
    · rw [hbP]; exact eP
    · obtain ⟨o, e, _⟩ := (tabsOf tl).there _ S.s0.good.inv b hb
      exact ⟨o, k b o hbP e⟩
  cases hca : codeAmong pos ps.toList with
  | none =>
    refine makeFunction_K (mg := mg) hcl S.ev.glo b1 hcode C e0' t hca hgP BA fun c' ctv doc h' tk hx hge hlt hrec htb => ?_
    have kp : KP (tabsOf tl).TB s.heap h' := fun b o nb e => hx b o (fun q => nb (q ▸ hPT)) e
    have hcn : ∀ c0, Value.ref c' = .ref c0 → c0 ∉ tl.map (·.1) := fun c0 e q => by
      cases e
      obtain ⟨o, e, _⟩ := (tabsOf tl).there _ S.s0.good.inv c' q
      exact absurd (Heap.lt_size e) (Nat.not_lt.mpr hge)
    have i1 : (tabsOf tl).Inv h' := tabs_grown htl S.s0.good.inv hx hP e0' hrec hcn htb
    have kpp : ∀ b o, h'.get? b = some o → (h'.push (madeFn name q params body scope clos doc ((mg "__name__").getD .none) (.ref c') ctv)).get? b = some o := fun b o e => Heap.get?_push_of_some _ e
    exact fin h' (.ref c') ctv doc _ tk kp (tabLive h' (fun b o nb e => hx b o nb e) ⟨_, htb⟩) ((tabsOf tl).mono _ _ kpp i1) (hrec.keeps kpp)
  | some cv =>
    refine makeFunction_hit (mg := mg) hcl S.ev.glo b1 hcode C e0' t hca BA fun ctv doc h' tk hk hsz => ?_
    have kpp : ∀ b o, h'.get? b = some o → (h'.push (madeFn name q params body scope clos doc ((mg "__name__").getD .none) cv ctv)).get? b = some o := fun b o e => Heap.get?_push_of_some _ e
    have i1 := (tabsOf tl).mono _ _ (fun b o e => kpp b o (hk b o e)) S.s0.good.inv
    exact fin h' cv ctv doc _ tk (KP.of hk) (tabLive h' (fun b o _ e => hk b o e) ⟨_, hk _ _ e0'⟩) i1 ((cc pos cv hca).1.keeps fun b o e => kpp b o (hk b o e))
end
end Mine
namespace Mine

section
variable {prog : Program} {w : World} {TT : Tabs} {B0 : Heap} {n : Nat} {sc : Sc} {GL : List (Str × Value)} {K : Frag}

theorem bindL_eq {kindOf : Str → Option NameKind} : ∀ (l : List (Str × Value)) (m : Str → Option Value), (∀ p ∈ l, kindOf p.1 = some .local) → bindL kindOf l m = fun x => (l.reverse.lookup x).or (m x)
  | [], m, _ => by unfold bindL; funext x; simp
  | (y, v) :: r, m, h => by
    unfold bindL
    rw [if_pos (h (y, v) List.mem_cons_self), bindL_eq r _ fun p hp => h p (List.mem_cons_of_mem _ hp)]
    funext x
    rw [List.reverse_cons, List.lookup_append]
    cases q : List.lookup x r.reverse with
    | some u => simp
    | none =>
      simp only [Option.none_or, List.lookup_cons, List.lookup_nil]
      by_cases hx : x = y
      · subst hx; simp
      · have hb : (x == y) = false := by
          cases q : x == y with
          | false => rfl
          | true => exact absurd (eq_of_beq q) hx
        rw [if_neg hx, hb]; simp

inductive PsL (sc : Sc) : List Str → List Nat → Prop
  | nil : PsL sc [] []
  | cons {x : Str} {xs : List Str} {i : Nat} {is : List Nat} : sc[i]? = some (x, .local) → PsL sc xs is → PsL sc (x :: xs) (i :: is)
theorem PsL.toM {pn : List Str} {ps : List Nat} (h : PsL sc pn ps) : PsM sc pn ps := by
  induction h with
  | nil => exact .nil
  | cons h1 _ ih => exact .cons h1 (.inl rfl) ih
theorem PsL.kinds {pn : List Str} {ps : List Nat} (h : PsL sc pn ps) : ∀ x ∈ pn, ∃ i : Nat, sc[i]? = some (x, NameKind.local) := by
  induction h with
  | nil => intro x hx; cases hx
  | cons hi _ ih =>
    intro x hx
    rcases List.mem_cons.mp hx with rfl | hx
    · exact ⟨_, hi⟩
    · exact ih x hx

noncomputable def closEnv (fd : FuncData) (L f : Addr) : Env := newEnv fd.scope L fd.globals fd.closure (fd.qualname ++ ".<locals>.") (some f) fd.code none fd.builtins

theorem clos_enter {f : Addr} {fo : Obj} {fd : FuncData} {body : List Stmt} {pn : List Str} {ps : List Nat} {base : Lo} {A : Around} {s : Shared} {xs : List VV} {ws : List Value} {ρ : List Addr} {ok : Addr → Prop} {H : Hp}
    (S : SV0 TT B0 ρ ok H s.heap) (hρd : ρ.Nodup) (hρo : ∀ a ∈ ρ, ¬ ok a) (hρB : ∀ a ∈ ρ, B0.get? a = none) (lim : s.heap.NoLimit) (B : Bud A (n + 1)) (ho : s.heap.get? f = some fo) (hd : fo.data = .func fd) (hb : fd.body = .stmts body)
    (hnd : (fd.scope.names.map (·.1)).Nodup) (hnc : ∀ y ∈ fd.scope.names, y.2 ≠ .cell) (hglob : fd.globals = mainGlobals) (hblt : fd.builtins = builtinsNs) (hcd : s.heap.CodeRec fd.code fd.qualname)
    (hbind : bindArgs fd ⟨ws, []⟩ = pure (pn.zip ws)) (hps : PsL fd.scope.names pn ps) (hlen : xs.length = pn.length) (r : VRs s.heap ρ ok xs ws)
    (hbase : ∀ (i : Nat) x v, fd.scope.names[i]? = some (x, .local) → base[i]? ≠ some (some v))
    (hfree : ∀ (i : Nat) x, fd.scope.names[i]? = some (x, .free) → ∃ a o v₀, fd.closure.lookup x = some a ∧ s.heap.get? a = some o ∧ a ∉ TT.TB ∧ o.data = .cell v₀ ∧ ∀ v, (setL ps xs base)[i]? = some (some v) → ∃ w, v₀ = some w ∧ VR s.heap ρ ok v w)
    {Q Err : Value → Shared → Prop}
    (h : ∀ (L : Addr) (h₁ : Heap) (tk : Nat) (ok1 : Addr → Prop) (Err' : Value → Shared → Prop), s.heap.get? L = none → (∀ b o, s.heap.get? b = some o → h₁.get? b = some o) → TT.Inv h₁ → (∀ a, ok1 a → ok a) → (∀ a o, s.heap.get? a = some o → ok a → ok1 a) → Bud (A.deeper (closEnv fd L f)) n →
      SV TT B0 (closEnv fd L f) ρ ok1 (setL ps xs base) H [L] h₁ →
      wpAny (model prog w) (A.deeper (closEnv fd L f)) (execs body (closEnv fd L f)) (fun fl s' => Q (match fl with | .ret v => v | _ => .none) s') Err' { s with heap := h₁, toks := tk })
    (hco : fd.scope.isCoroutine = false := by rfl) (hgen : fd.scope.isGenerator = false := by rfl) (hk : fd.scope.kind = .function := by rfl) :
    wpAny (model prog w) A (call (.ref f) ws) Q Err s := by
  have hroom : A.depth < recursionLimit := by have := B.depth; omega
  have kinds := hps.kinds
  have hloc : ∀ x ∈ pn.zip ws, fd.scope.names.lookup x.1 = some .local := fun p hp => by
    obtain ⟨x, wv⟩ := p
    obtain ⟨i, hi⟩ := kinds x (List.of_mem_zip hp).1
    exact lookup_at hnd hi
  refine wpAny_call (codeAny_call_function hroom ho hd hco hgen hb hcd ?_)
  rw [hbind]
  refine wpAny_pure (wpAny_newFunctionEnv hnc hloc (fun h₁ hns hsb => ?_) hk)
  have hLn : s.heap.get? s.heap.objs.size = none := free_size _
  have keep : ∀ b o, s.heap.get? b = some o → h₁.get? b = some o := fun b o e => hsb.extBut b o (Nat.ne_of_lt (Heap.lt_size e)) (Heap.get?_push_of_some _ e)
  generalize hL : s.heap.objs.size = L at *
  have i₁ : TT.Inv h₁ := TT.mono _ _ keep S.good.inv
  refine ⟨lim.keeps keep, codeAny_func ?_⟩
  have ho1 : ∀ a o, s.heap.get? a = some o → ok a → Without ok L a := fun a o e h => ⟨h, fun q => by rw [q, hLn] at e; cases e⟩
  have hLT : L ∉ TT.TB := fun q => by
    obtain ⟨o, e', _⟩ := TT.there _ S.good.inv L q
    rw [hLn] at e'; cases e'
  have hLρ : L ∉ ρ := fun q => by
    obtain ⟨o, e⟩ := S.live q
    rw [hLn] at e; cases e
  have hLl : ∃ o, h₁.get? L = some o := let ⟨o, _, _, e, _⟩ := hns; ⟨o, e⟩
  have S1 : SV0 TT B0 ρ (Without ok L) H h₁ := ⟨(S.keep (KP.of keep) i₁).good, S.len, fun j vo e => let ⟨a, ea, o⟩ := S.objs j vo e; ⟨a, ea, (o.okm ho1).keepX (X := []) (by simp) (by simp) ((KP.of keep : KP TT.TB _ _).toX []) S.good.inv⟩,
    fun a e => ⟨(S.keep (KP.of keep) i₁).free a e, fun q => (by
      obtain ⟨o, e'⟩ := hLl
      rw [q, e'] at e; cases e)⟩⟩
  have L0 : LC fd.scope.names h₁ ρ (Without ok L) base (fun _ => none) (fun _ => none) := ⟨fun j x v e1 e2 => absurd e2 (hbase j x v e1), fun j x v e1 _ => absurd rfl (hnc _ (List.mem_of_getElem? e1))⟩
  have r1 : VRs h₁ ρ (Without ok L) xs ws := (r.okm ho1).keep (KP.of keep) S.good.inv
  have LL := LC.bind hnd (closEnv fd L f).kindOf (fun _ => rfl) hps.toM r1 hlen L0
  rw [bindL_eq (pn.zip ws) (fun _ => none) hloc] at LL
  have V : EnvV TT (closEnv fd L f) ρ (Without ok L) (setL ps xs base) h₁ := {
    kind := hk
    glo := hglob
    blt := hblt
    lTB := hLT
    ns := ⟨_, hns, fun j x v e1 e2 => by
      obtain ⟨w, a, b⟩ := LL.loc j x v e1 e2
      exact ⟨w, by simpa using a, b⟩⟩
    cells := fun j x k e hkk => by
      have hkf : k = .free := by
        rcases hkk with h | h
        · subst h; exact absurd rfl (hnc _ (List.mem_of_getElem? e))
        · exact h
      subst hkf
      obtain ⟨a, o, v₀, e1, e2, e3, e4, r⟩ := hfree j x e
      exact ⟨a, o, v₀, e1, keep _ _ e2, e3, e4, fun v ev => let ⟨w, p, q⟩ := r v ev; ⟨w, p, (q.okm ho1).keep (KP.of keep) S.good.inv⟩⟩ }
  have FR : Frm TT B0 ρ (Without ok L) (closEnv fd L f) true [L] := {
    ap := ⟨without_self, fun b q => by rw [List.mem_singleton.mp q]; exact hLρ, fun b q => by rw [List.mem_singleton.mp q]; exact S.good.old hLn⟩
    tb := fun b q => by rw [List.mem_singleton.mp q]; exact hLT
    lM := List.mem_singleton.mpr rfl
    cl := fun j x k a e hkk el q => by
      have hkf : k = .free := by
        rcases hkk with h | h
        · subst h; exact absurd rfl (hnc _ (List.mem_of_getElem? e))
        · exact h
      subst hkf
      obtain ⟨a', o, v₀, e1, e2, _⟩ := hfree j x e
      have : fd.closure.lookup x = some a := el
      rw [this] at e1; cases e1
      have q' : a = L := q
      rw [q', hLn] at e2; cases e2
    cM := fun _ j x a e _ => absurd rfl (hnc _ (List.mem_of_getElem? e)) }
  have SS : SV TT B0 (closEnv fd L f) ρ (Without ok L) (setL ps xs base) H [L] h₁ := ⟨S1, V, FR, hρd, fun a ha h => hρo a ha h.1, hρB, by show (fd.scope.kind == _ && _) = false; rw [hk]; rfl⟩
  exact h L h₁ _ (Without ok L) _ hLn keep i₁ (fun a h => h.1) ho1 (B.deeper _) SS
end
end Mine
namespace Mine

noncomputable def dval (n : Nat) : List Int → Int
  | [] => 0
  | d :: ds => d + 2 ^ n * dval n ds
theorem dval_append (n : Nat) : ∀ (a b : List Int), dval n (a ++ b) = dval n a + 2 ^ (n * a.length) * dval n b
  | [], b => by simp [dval]
  | d :: a, b => by
    simp only [List.cons_append, dval, List.length_cons]
    rw [dval_append n a b, Nat.mul_succ, Int.pow_add, Int.mul_add]
    have : (2 : Int) ^ n * (2 ^ (n * a.length) * dval n b) = 2 ^ (n * a.length) * 2 ^ n * dval n b := by
      rw [← Int.mul_assoc, Int.mul_comm (2 ^ n) (2 ^ (n * a.length))]
    rw [this]; omega
theorem dval_bound (n : Nat) : ∀ (ds : List Int), (∀ d ∈ ds, d.natAbs < 2 ^ n) → (dval n ds).natAbs < 2 ^ (n * ds.length)
  | [], _ => by simp [dval]
  | d :: ds, h => by
    have ih := dval_bound n ds fun x hx => h x (List.mem_cons_of_mem _ hx)
    have h0 := h d List.mem_cons_self
    simp only [dval, List.length_cons]
    have h1 : (d + 2 ^ n * dval n ds).natAbs ≤ d.natAbs + 2 ^ n * (dval n ds).natAbs := by
      refine Nat.le_trans (Int.natAbs_add_le _ _) ?_
      rw [Int.natAbs_mul, Int.natAbs_pow]
      exact Nat.le_refl _
    have h2 : 2 ^ n * (dval n ds).natAbs + 2 ^ n ≤ 2 ^ n * 2 ^ (n * ds.length) := by
      rw [← Nat.mul_succ]; exact Nat.mul_le_mul_left _ ih
    have h3 : 2 ^ (n * (ds.length + 1)) = 2 ^ n * 2 ^ (n * ds.length) := by rw [Nat.mul_succ, Nat.pow_add, Nat.mul_comm]
    omega
noncomputable def seg (ds : List Int) (L R : Nat) : List Int := (ds.drop L).take (R - L)
theorem seg_split {ds : List Int} {L M R : Nat} (h1 : L ≤ M) (h2 : M ≤ R) : seg ds L R = seg ds L M ++ seg ds M R := by
  unfold seg
  have e : R - L = (M - L) + (R - M) := by omega
  rw [e, List.take_add, List.drop_drop]
  congr 3
  omega
theorem seg_length {ds : List Int} {L R : Nat} (h : L ≤ R) (hR : R ≤ ds.length) : (seg ds L R).length = R - L := by
  unfold seg; rw [List.length_take, List.length_drop]; omega
theorem seg_one {ds : List Int} {L : Nat} (h : L < ds.length) : seg ds L (L + 1) = [ds[L]] := by
  unfold seg
  have e : L + 1 - L = 1 := by omega
  rw [e, List.drop_eq_getElem_cons h]; rfl
theorem seg_all (ds : List Int) : seg ds 0 ds.length = ds := by unfold seg; simp
theorem seg_mem {ds : List Int} {L R : Nat} {d : Int} (h : d ∈ seg ds L R) : d ∈ ds := List.mem_of_mem_drop (List.mem_of_mem_take h)

section
variable {prog : Program} {w : World} {TT : Tabs} {B0 : Heap} {n : Nat} {sc : Sc} {GL : List (Str × Value)} {K : Frag}

noncomputable def dCallV (f : Addr) (g : List VV → Hp → Option VV) (fx : EvF) (fs : List EvF) : EvF := fun E H => (fx E H).bind fun v => match v with
  | .raw (.ref a) => if a = f then (evs fs E H).bind fun xs => g xs H else none
  | _ => none
theorem d_callV {f : Addr} {x : Str} {fx : EvF} {es : List Expr} {fs : List EvF} {g : List VV → Hp → Option VV} {pos pos' : Pos} (hx : DenE prog w TT B0 n sc (.Name x pos') fx) (hg : OpF prog w TT B0 n (fun ws => call (.ref f) ws) g) (hf : DenEs prog w TT B0 n sc es fs)
    (hk : ∀ h, Good TT B0 h → ∃ k, (k = Keeper.frame ∨ k = Keeper.machine ∨ k = Keeper.boundFrame) ∧ Looks (model prog w) h (keeperOf (.ref f)) k) : DenE prog w TT B0 n sc (.Call (.Name x pos') es [] pos) (dCallV f g fx fs) := by
  intro A env ρ ok H E s B hs S V v e0 Q Err P
  refine bindSome e0 fun u hu e1 => ?_
  split at e1
  · rename_i a
    by_cases ha : a = f
    · rw [if_pos ha] at e1
      refine bindSome e1 fun xs exs e2 => ?_
      refine Call_ (hx A env ρ ok H E s B hs S V _ hu _ _ fun wf h₁ tk₁ k₁ i₁ q => ?_)
      cases q.rawI
      rw [ha]
      refine callWith_v hf (s := { s with heap := h₁, toks := tk₁ }) (P0 := fun _ => True) B hs (S.keep k₁ i₁) (V.keep S.good.inv k₁) hk exs fun ws h₂ tk₂ k₂ i₂ r => ?_
      exact hg A ρ ok H { s with heap := h₂, toks := tk₂ } xs ws B (S.keep (k₁.trans k₂) i₂) r v e2 Q Err (P.after (k₁.trans k₂))
    · rw [if_neg ha] at e1; cases e1
  · cases e1

theorem idx_nat {xs : List VV} {l : Nat} (h : l < xs.length) (hz : l ≤ 1000000000) : idx xs (l : Int) = some xs[l] := by
  have h1 : -1000000000 ≤ (l : Int) ∧ (l : Int) ≤ 1000000000 := by omega
  unfold idx
  rw [if_pos h1]
  have h2 : seqIndex? (l : Int) xs.length = some l := by
    unfold seqIndex?
    have h3 : ¬ (l : Int) < 0 := by omega
    simp only [h3, if_false]
    rw [if_pos (by simp [h])]
    simp
  rw [h2, Option.bind_some, List.getElem?_eq_getElem h]
theorem shr1 (a : Int) : gShr a 1 = some (a / 2) := by
  unfold gShr
  rw [if_pos (by decide)]
  rw [Int.fdiv_eq_ediv_of_nonneg _ (by decide)]
  rfl

theorem q_bin {g : VV → VV → Hp → Option VV} {fa fb : EvF} {E : Lo} {H : Hp} {x y : VV} (ha : fa E H = some x) (hb : fb E H = some y) : dBin g fa fb E H = g x y H := by unfold dBin; rw [ha, Option.bind_some, hb, Option.bind_some]
theorem q_seqN {f g : StF} {E E1 : Lo} {H H1 : Hp} (h : f E H = some (.next, E1, H1)) : sSeq f g E H = g E1 H1 := by unfold sSeq; rw [h]; rfl
theorem q_seqR {f g : StF} {E E1 : Lo} {H H1 : Hp} {v : VV} (h : f E H = some (.ret v, E1, H1)) : sSeq f g E H = some (.ret v, E1, H1) := by unfold sSeq; rw [h]; rfl
theorem q_if {t : TvF} {f g : StF} {E : Lo} {H : Hp} {c : Bool} (h : t E H = some c) : sIf t f g E H = if c = true then f E H else g E H := by unfold sIf; rw [h]; rfl
theorem q_ret {f : EvF} {E : Lo} {H : Hp} {v : VV} (h : f E H = some v) : sRet f E H = some (.ret v, E, H) := by unfold sRet; rw [h]; rfl
theorem q_asg {i : Nat} {f : EvF} {E : Lo} {H : Hp} {v : VV} (h : f E H = some v) : sAsg (.nm i) f E H = some (.next, E.set i (some v), H) := by unfold sAsg; rw [h]; rfl
theorem q_call {f : Addr} {g : List VV → Hp → Option VV} {fx : EvF} {fs : List EvF} {E : Lo} {H : Hp} {xs : List VV} (h : fx E H = some (.raw (.ref f))) (hx : evs fs E H = some xs) : dCallV f g fx fs E H = g xs H := by
  unfold dCallV
  rw [h, Option.bind_some]
  dsimp only
  rw [if_pos rfl, hx]
  rfl
-- _digits2int
noncomputable def F_d2i (f : Addr) (g : List VV → Hp → Option VV) : StF :=
  sSeq (sIf (tCmp (cmI fun a b => decide (a = b)) (dBin (opI gAdd) (dV 0) (dI 1)) (dV 1)) (sRet (dBin opIdx (dV 4) (dV 0))) sNil)
    (sSeq (sAsg (.nm 2) (dBin (opI gShr) (dBin (opI gAdd) (dV 0) (dV 1)) (dI 1)))
      (sSeq (sAsg (.nm 3) (dBin (opI gMul) (dBin (opI gSub) (dV 2) (dV 0)) (dV 6)))
        (sRet (dBin (opI gAdd) (dBin (opI gShl) (dCallV f g (dV 5) [dV 2, dV 1]) (dV 3)) (dCallV f g (dV 5) [dV 0, dV 2])))))
noncomputable def gD2I (n : Nat) (ds : List Int) (k : Nat) : List VV → Hp → Option VV
  | [.int L, .int R], _ => if 0 ≤ L ∧ L < R ∧ R ≤ ds.length ∧ R - L ≤ k then some (.int (dval n (seg ds L.toNat R.toNat))) else none
  | _, _ => none
theorem F_d2i_eq {f : Addr} {n : Nat} {ds : List Int} {k : Nat} (hds : ∀ d ∈ ds, d.natAbs < 2 ^ n) (hn : n * ds.length ≤ 4000) (hlen : ds.length ≤ 1000) {L R : Int} (h0 : 0 ≤ L) (h1 : L < R) (h2 : R ≤ ds.length) (h3 : R - L ≤ k + 1) (H : Hp) :
    ∃ E', F_d2i f (gD2I n ds k) [some (.int L), some (.int R), none, none, some (.lv (ds.map .int)), some (.raw (.ref f)), some (.int n)] H = some (.ret (.int (dval n (seg ds L.toNat R.toNat))), E', H) := by
  obtain ⟨l, rfl⟩ := Int.eq_ofNat_of_zero_le h0
  obtain ⟨r, rfl⟩ := Int.eq_ofNat_of_zero_le (Int.le_trans h0 (Int.le_of_lt h1))
  have hlr : l < r := Int.ofNat_lt.mp h1
  have hrl : r ≤ ds.length := Int.ofNat_le.mp h2
  have hk : r ≤ k + 1 + l := Int.ofNat_le.mp (Int.le_add_of_sub_right_le h3)
  clear h0 h1 h2 h3
  have hll : l < ds.length := Nat.lt_of_lt_of_le hlr hrl
  by_cases hr : (l : Int) + 1 = r
  · obtain rfl : l + 1 = r := Int.ofNat_inj.mp hr
    have hi := idx_nat (xs := ds.map VV.int) (l := l) (by rw [List.length_map]; exact hll) (Nat.le_trans (Nat.le_of_lt hll) (Nat.le_trans hlen (by decide)))
    refine ⟨[some (.int l), some (.int (l + 1 : Nat)), none, none, some (.lv (ds.map .int)), some (.raw (.ref f)), some (.int n)], ?_⟩
    unfold F_d2i
    refine q_seqR ((q_if (c := true) (congrArg some (decide_eq_true (Int.natCast_add l 1).symm))).trans ((if_pos rfl).trans (q_ret ((q_bin (x := .lv (ds.map .int)) (y := .int (l : Int)) rfl rfl).trans (hi.trans ?_)))))
    rw [Int.toNat_natCast, Int.toNat_natCast, seg_one hll, List.getElem_map]
    simp [dval]
  · have hne : l + 1 < r := Nat.lt_of_le_of_ne hlr fun q => hr (by rw [← q]; rfl)
    have hmid : ((l : Int) + r) / 2 = ((l + r) / 2 : Nat) := by rw [← Int.natCast_add]; rfl
    generalize hm : (l + r) / 2 = m at hmid
    have hlm : l < m := by clear hmid hk hrl hr hlen hn hds; omega
    have hmr : m < r := by clear hmid hk hrl hr hlen hn hds; omega
    have hml : m ≤ ds.length := Nat.le_trans (Nat.le_of_lt hmr) hrl
    have gd : ∀ a b : Nat, a < b → b ≤ ds.length → b ≤ k + a → gD2I n ds k [.int a, .int b] H = some (.int (dval n (seg ds a b))) := fun a b h1 h2 h3 => by
      show (if 0 ≤ (a : Int) ∧ (a : Int) < b ∧ (b : Int) ≤ ds.length ∧ (b : Int) - a ≤ k then some (VV.int (dval n (seg ds (a : Int).toNat (b : Int).toNat))) else none) = _
      rw [if_pos ⟨Int.natCast_nonneg a, Int.ofNat_lt.mpr h1, Int.ofNat_le.mpr h2, Int.sub_right_le_of_le_add (Int.ofNat_le.mpr h3)⟩, Int.toNat_natCast, Int.toNat_natCast]
    have g1 := gd m r hmr hrl (by clear hmid hr hlen hn hds hm; omega)
    have g2 := gd l m hlm hml (by clear hmid hr hlen hn hds hm; omega)
    have hbnd : ∀ a b : Nat, a ≤ b → b ≤ ds.length → (dval n (seg ds a b)).natAbs < lim9 := fun a b hab hb => by
      refine Nat.lt_of_lt_of_le (dval_bound n _ fun d hd => hds d (seg_mem hd)) ?_
      unfold lim9
      refine Nat.pow_le_pow_right (by decide) ?_
      rw [seg_length hab hb]
      exact Nat.le_trans (Nat.mul_le_mul_left _ (Nat.le_trans (Nat.sub_le b a) hb)) (Nat.le_trans hn (by decide))
    have hnl : n * (m - l) ≤ 4000 := Nat.le_trans (Nat.mul_le_mul_left _ (Nat.le_trans (Nat.sub_le m l) hml)) hn
    have hcast : (m : Int) - l = ((m - l : Nat) : Int) := (Int.natCast_sub (Nat.le_of_lt hlm)).symm
    have gm : gMul ((m : Int) - l) n = some ((n * (m - l) : Nat) : Int) := by
      unfold gMul
      have hn9 : n < lim9 := lt_lim9 (k := n) Nat.lt_two_pow_self (Nat.le_trans (Nat.le_trans (Nat.le_mul_of_pos_right n (Nat.sub_pos_of_lt hlm)) hnl) (by decide))
      have hml9 : ((m : Int) - l).natAbs < lim9 := lt_lim9 (k := 20) (by rw [hcast, Int.natAbs_natCast]; exact Nat.lt_of_le_of_lt (Nat.le_trans (Nat.sub_le m l) (Nat.le_trans hml hlen)) (by decide))
      rw [if_pos ⟨hml9, by rw [Int.natAbs_natCast]; exact hn9⟩, hcast, ← Int.natCast_mul, Nat.mul_comm]
    have gs : gShl (dval n (seg ds m r)) ((n * (m - l) : Nat) : Int) = some (dval n (seg ds m r) * 2 ^ (n * (m - l))) := by
      unfold gShl
      rw [if_pos ⟨Int.natCast_nonneg _, Int.ofNat_le.mpr (Nat.le_trans hnl (by decide)), hbnd m r (Nat.le_of_lt hmr) hrl⟩, Int.toNat_natCast]
    have hfin : dval n (seg ds m r) * 2 ^ (n * (m - l)) + dval n (seg ds l m) = dval n (seg ds l r) := by
      rw [seg_split (Nat.le_of_lt hlm) (Nat.le_of_lt hmr), dval_append, seg_length (Nat.le_of_lt hlm) hml, Int.mul_comm, Int.add_comm]
    generalize n * (m - l) = sh at gm gs hfin
    refine ⟨[some (.int l), some (.int r), some (.int m), some (.int (sh : Int)), some (.lv (ds.map .int)), some (.raw (.ref f)), some (.int n)], ?_⟩
    unfold F_d2i
    refine (q_seqN (E1 := [some (.int l), some (.int r), none, none, some (.lv (ds.map .int)), some (.raw (.ref f)), some (.int n)]) ((q_if (c := false) (congrArg some (decide_eq_false hr))).trans ((if_neg (by decide)).trans rfl))).trans
      ((q_seqN (q_asg (v := .int (m : Int)) ?_)).trans ((q_seqN (q_asg (v := .int (sh : Int)) ?_)).trans ((q_ret (v := .int (dval n (seg ds l r))) ?_).trans rfl)))
    · show (gShr ((l : Int) + (r : Int)) 1).map VV.int = _
      rw [shr1, hmid]; rfl
    · show (gMul ((m : Int) - (l : Int)) (n : Int)).map VV.int = _
      rw [gm]; rfl
    · refine (q_bin (x := .int (dval n (seg ds m r) * 2 ^ sh)) ((q_bin ((q_call rfl (xs := [.int m, .int r]) rfl).trans g1) (y := .int (sh : Int)) rfl).trans ?_) ((q_call rfl (xs := [.int l, .int m]) rfl).trans g2)).trans (congrArg (fun z => some (VV.int z)) hfin)
      show (gShl (dval n (seg ds m r)) (sh : Int)).map VV.int = _
      rw [gs]; rfl
end
end Mine
namespace Mine

section
variable {prog : Program} {w : World} {TT : Tabs} {B0 : Heap} {n : Nat} {sc : Sc} {GL : List (Str × Value)} {K : Frag}

structure Stands (TT : Tabs) (f : Addr) (fd : FuncData) (base : Lo) (h : Heap) : Prop where
  fn : ∃ fo, h.get? f = some fo ∧ fo.cls ≠ .none ∧ fo.data = .func fd
  free : ∀ (i : Nat) x, fd.scope.names[i]? = some (x, .free) → ∃ a o v₀, fd.closure.lookup x = some a ∧ h.get? a = some o ∧ a ∉ TT.TB ∧ o.data = .cell v₀ ∧ ∀ v, base[i]? = some (some v) → ∃ w, v₀ = some w ∧ VR h [] (fun _ => True) v w
theorem Stands.keep {f : Addr} {fd : FuncData} {base : Lo} {h h' : Heap} (J : Stands TT f fd base h) (i : TT.Inv h) (k : KP TT.TB h h') : Stands TT f fd base h' := by
  obtain ⟨⟨fo, e1, e2, e3⟩, fr⟩ := J
  refine ⟨⟨fo, k.get i e2 e1, e2, e3⟩, fun j x e => ?_⟩
  obtain ⟨a, o, v₀, f1, f2, f3, f4, r⟩ := fr j x e
  exact ⟨a, o, v₀, f1, k a o f3 f2, f3, f4, fun v ev => let ⟨w, p, q⟩ := r v ev; ⟨w, p, q.keep k i⟩⟩
theorem Stands.keeps {f : Addr} {fd : FuncData} {base : Lo} {h : Heap} (J : Stands TT f fd base h) : ∃ k, (k = Keeper.frame ∨ k = Keeper.machine ∨ k = Keeper.boundFrame) ∧ Looks (model prog w) h (keeperOf (.ref f)) k := by
  obtain ⟨⟨⟨c, d, dt, sl⟩, e1, _, e3⟩, _⟩ := J
  simp only at e3
  subst e3
  exact keeps_F h ⟨_, _, _, _, e1⟩

theorem setL_ne {i : Nat} : ∀ {is : List Nat} {xs : List VV} {E : Lo}, i ∉ is → (setL is xs E)[i]? = E[i]?
  | [], xs, E, _ => by unfold setL; rfl
  | j :: js, [], E, _ => by unfold setL; rfl
  | j :: js, x :: xs, E, h => by
    unfold setL
    rw [setL_ne fun q => h (List.mem_cons_of_mem _ q), List.getElem?_set_ne fun q => h (List.mem_cons.mpr (.inl q.symm))]
theorem PsL.ne {pn : List Str} {ps : List Nat} (h : PsL sc pn ps) : ∀ {i : Nat} {x : Str} {k : NameKind}, sc[i]? = some (x, k) → k ≠ .local → i ∉ ps := by
  induction h with
  | nil => intro i x k _ _ q; cases q
  | cons hi _ ih =>
    intro i x k e hk q
    rcases List.mem_cons.mp q with rfl | q
    · rw [hi] at e; cases e; exact hk rfl
    · exact ih e hk q

noncomputable def baseD2I (f : Addr) (n : Nat) (ds : List Int) : Lo := [none, none, none, none, some (.lv (ds.map .int)), some (.raw (.ref f)), some (.int n)]

theorem Post.flat {ρ : List Addr} {ok : Addr → Prop} {v : VV} {Q : Value → Shared → Prop} {s : Shared} (P : Post TT ρ ok v Q s) (hf : flat v = true) {h' : Heap} {tk : Nat} {w : Value} {ρ2 : List Addr} {ok2 : Addr → Prop} (k : KP TT.TB s.heap h') (i : TT.Inv h') (q : VR h' ρ2 ok2 v w) : Q w { s with heap := h', toks := tk } :=
  P w h' tk k i (flat_vr hf q)

theorem d2i_rec {f : Addr} {fd : FuncData} {body : List Stmt} {nn : Nat} {ds : List Int} (hb : fd.body = .stmts body) (hnd : (fd.scope.names.map (·.1)).Nodup) (hnc : ∀ y ∈ fd.scope.names, y.2 ≠ .cell) (hglob : fd.globals = mainGlobals) (hblt : fd.builtins = builtinsNs)
    (hcd : ∀ h, TT.Inv h → h.CodeRec fd.code fd.qualname) {p1 p2 : Str} (hbind : ∀ a b : Value, bindArgs fd ⟨[a, b], []⟩ = pure [(p1, a), (p2, b)]) (hps : PsL fd.scope.names [p1, p2] [0, 1])
    (hbase : ∀ (i : Nat) x v, fd.scope.names[i]? = some (x, .local) → (baseD2I f nn ds)[i]? ≠ some (some v)) (hds : ∀ d ∈ ds, d.natAbs < 2 ^ nn) (hn : nn * ds.length ≤ 4000) (hlen : ds.length ≤ 1000)
    (hco : fd.scope.isCoroutine = false) (hgen : fd.scope.isGenerator = false) (hk : fd.scope.kind = .function)
    (hbody : ∀ B1 m g, Stands TT f fd (baseD2I f nn ds) B1 → TT.Inv B1 → OpF prog w TT B1 m (fun ws => call (.ref f) ws) g → DenSs prog w TT B1 m fd.scope.names body (F_d2i f g)) :
    ∀ (k : Nat) (B0 : Heap), Tp TT GL K B0 → TT.Inv B0 → Stands TT f fd (baseD2I f nn ds) B0 → OpF prog w TT B0 (k + 1) (fun ws => call (.ref f) ws) (gD2I nn ds k) := by
  intro k
  induction k with
  | zero =>
    intro B0 T I J A ρ ok H s xs ws B S r v e
    unfold gD2I at e
    split at e
    · split at e
      · rename_i hz; omega
      · cases e
    · cases e
  | succ k ih =>
    intro B0 T I J A ρ ok H s xs ws B S r v e Q Err P
    unfold gD2I at e
    split at e
    · split at e
      · rename_i L R hz
        cases e
        cases r with
        | cons q1 r =>
        cases r with
        | cons q2 r =>
        cases r
        cases q1; cases q2
        rename_i t1 t2
        have i := S.good.inv
        have J1 := J.keep I S.good.keep
        have T1 := T.kp S.good.keep
        obtain ⟨fo, ho, hcl, hd⟩ := J1.fn
        have S0 : SV0 TT s.heap [] (fun _ => True) [] s.heap := ⟨⟨KP.refl _, i⟩, rfl, fun j vo e => (by cases e), fun _ _ => trivial⟩
        have rr : VRs s.heap [] (fun _ => True) [.int L, .int R] [.int L t1, .int R t2] := .cons (.int _ _) (.cons (.int _ _) .nil)
        refine clos_enter (n := k + 1) (ps := [0, 1]) (pn := [p1, p2]) (base := baseD2I f nn ds) S0 (by simp) (by simp) (by simp) T1.base.lim B ho hd hb hnd hnc hglob hblt (hcd _ i) (hbind _ _) hps rfl rr hbase (fun j x e => ?_)
          (fun L0 h₁ tk ok1 Err' hL0 keep i₁ hsub hsup B1 SS => ?_) hco hgen hk
        · obtain ⟨a, o, v₀, f1, f2, f3, f4, r⟩ := J1.free j x e
          exact ⟨a, o, v₀, f1, f2, f3, f4, fun v ev => r v (by rw [setL_ne (hps.ne e (by nofun))] at ev; exact ev)⟩
        · obtain ⟨E', hF⟩ := F_d2i_eq (f := f) (n := nn) (ds := ds) (k := k) hds hn hlen hz.1 hz.2.1 hz.2.2.1 (by have := hz.2.2.2; omega) []
          have D := hbody s.heap (k + 1) _ J1 i (ih s.heap T1 i J1)
          refine D _ _ _ _ ok1 [] _ _ B1 rfl SS _ E' [] hF _ Err' fun fl ρ' ok' h' tk' N S' fr => ?_
          cases fr with
          | ret q => exact P.flat rfl S'.s0.good.keep S'.s0.good.inv q
      · cases e
    · cases e
end
end Mine
namespace Mine

noncomputable def scDI : Sc := [("L", .local), ("R", .local), ("mid", .local), ("shift", .local), ("digits", .free), ("inner", .free), ("n", .free)]
noncomputable def scDO : Sc := [("digits", .cell), ("n", .cell), ("inner", .cell), ("len", .globalImplicit)]
noncomputable def E_d2r (f : Addr) (g : List VV → Hp → Option VV) : EvF := dIf (tE (dV 0)) (dCallV f g (dV 2) [dI 0, dCall gLen [dV 0]]) (dI 0)
noncomputable def gDig : List VV → Option VV
  | [.lv ds, .int n] => (asInts ds).bind fun ns => if 0 ≤ n ∧ ns.all (fun d => decide (d.natAbs < 2 ^ n.toNat)) = true ∧ n.toNat * ns.length ≤ 4000 ∧ ns.length ≤ 60 then some (.int (dval n.toNat ns)) else none
  | _ => none

section
variable {prog : Program} {w : World} {n : Nat} {sc : Sc} {GL : List (Str × Value)} {K : Frag} {tl : List (Addr × Str)}

theorem E_d2r_eq {f : Addr} {nn : Nat} {ds : List Int} (hlen : ds.length ≤ 60) :
    E_d2r f (gD2I nn ds 60) [some (.lv (ds.map .int)), some (.int nn), some (.raw (.ref f)), none] [] = some (.int (dval nn ds)) := by
  have q_dif : ∀ {t : TvF} {fa fb : EvF} {E : Lo} {H : Hp} {c : Bool}, t E H = some c → dIf t fa fb E H = if c = true then fa E H else fb E H := fun {t fa fb E H c} h => by unfold dIf; rw [h]; rfl
  have hz : (ds.map VV.int).length ≤ 16777216 := by rw [List.length_map]; exact Nat.le_trans hlen (by decide)
  have ht : tE (dV 0) [some (.lv (ds.map .int)), some (.int nn), some (.raw (.ref f)), none] [] = some (!(ds.map VV.int).isEmpty) := by
    show (if (ds.map VV.int).length ≤ 16777216 then some (!(ds.map VV.int).isEmpty) else none) = _
    rw [if_pos hz]
  unfold E_d2r
  rw [q_dif ht]
  cases ds with
  | nil => rfl
  | cons d ds =>
    have h1 : gD2I nn (d :: ds) 60 [.int 0, .int ((d :: ds).length : Nat)] [] = some (.int (dval nn (d :: ds))) := by
      show (if 0 ≤ (0 : Int) ∧ (0 : Int) < ((d :: ds).length : Nat) ∧ (((d :: ds).length : Nat) : Int) ≤ (d :: ds).length ∧ (((d :: ds).length : Nat) : Int) - 0 ≤ (60 : Nat) then some (VV.int (dval nn (seg (d :: ds) (0 : Int).toNat (((d :: ds).length : Nat) : Int).toNat))) else none) = _
      rw [if_pos ⟨Int.le_refl _, Int.natCast_pos.mpr (Nat.succ_pos _), Int.le_refl _, by rw [Int.sub_zero]; exact Int.ofNat_le.mpr hlen⟩]
      rw [show (0 : Int).toNat = 0 from rfl, Int.toNat_natCast, seg_all]
    rw [if_pos (show (!(List.map VV.int (d :: ds)).isEmpty) = true from rfl)]
    refine (q_call rfl (xs := [.int 0, .int ((d :: ds).length : Nat)]) ?_).trans h1
    have hl : dCall gLen [dV 0] [some (.lv ((d :: ds).map .int)), some (.int nn), some (.raw (.ref f)), none] [] = some (.int ((d :: ds).length : Nat)) := by
      show (if ((d :: ds).map VV.int).length ≤ 16777216 then some (((d :: ds).map VV.int).length : Int) else none).map VV.int = _
      rw [if_pos hz, List.length_map]; rfl
    show ((dCall gLen [dV 0] [some (.lv ((d :: ds).map .int)), some (.int nn), some (.raw (.ref f)), none] []).bind fun y => some [y]).map (fun ys => VV.int 0 :: ys) = _
    rw [hl]; rfl

theorem d2i_fn {fa : Addr} {fo : Obj} {fd : FuncData} {params : Arguments} {bodyI : List Stmt} {scopeI : Scope} {dpos : Pos} {eR : Expr} {posR : Pos} {c P : Addr} (hK : K.lookup fa = some fo) (hd : fo.data = .func fd)
    (hb : fd.body = .stmts [.FunctionDef "inner" params bodyI [] none [] scopeI none "inner" dpos, .Return (some eR) posR]) (hcl : fd.closure = []) (hsc : fd.scope.names = scDO) (hglob : fd.globals = mainGlobals) (hblt : fd.builtins = builtinsNs)
    (hcode : ∀ h, K.In h → h.CodeRec fd.code fd.qualname) (hcd : fd.code = .ref c) (hC : ∀ h, K.In h → CodeHd h c P) (hP : (P, fd.qualname ++ ".<locals>." ++ "inner") ∈ tl) (htl : (tl.map (·.1)).Nodup)
    (hbind : ∀ a b : Value, bindArgs fd ⟨[a, b], []⟩ = pure [(("digits" : Str), a), (("n" : Str), b)])
    (hscI : scopeI.names = scDI) (hd0 : params.defaults = []) (hk0 : params.kw_defaults = []) (ha : ∀ env, annTrees params none env = [])
    (hbindI : ∀ clos doc pm cv ctv, ∀ a b : Value, bindArgs (fnX "inner" (fd.qualname ++ ".<locals>." ++ "inner") params bodyI scopeI clos .none .none doc pm none cv ctv) ⟨[a, b], []⟩ = pure [(("L" : Str), a), (("R" : Str), b)])
    (hcoI : scopeI.isCoroutine = false) (hgenI : scopeI.isGenerator = false) (hkI : scopeI.kind = .function)
    (hbodyI : ∀ (TT : Tabs) B1 m f g, (∀ h, Good TT B1 h → ∃ k, (k = Keeper.frame ∨ k = Keeper.machine ∨ k = Keeper.boundFrame) ∧ Looks (model prog w) h (keeperOf (.ref f)) k) → OpF prog w TT B1 m (fun ws => call (.ref f) ws) g → DenSs prog w TT B1 m scDI bodyI (F_d2i f g))
    (hret : ∀ (TT : Tabs) B1 m f g, Tp TT GL K B1 → (∀ h, Good TT B1 h → ∃ k, (k = Keeper.frame ∨ k = Keeper.machine ∨ k = Keeper.boundFrame) ∧ Looks (model prog w) h (keeperOf (.ref f)) k) → OpF prog w TT B1 m (fun ws => call (.ref f) ws) g → DenE prog w TT B1 m scDO eR (E_d2r f g))
    (hco : fd.scope.isCoroutine = false := by rfl) (hgen : fd.scope.isGenerator = false := by rfl) (hk : fd.scope.kind = .function := by rfl) :
    FnC prog w (tabsOf tl) GL K 62 (fun ws => call (.ref fa) ws) gDig := by
  intro A ok s xs ws T B i hfr r v e Q Err P
  unfold gDig at e
  split at e
  · refine bindSome e fun ns hns e => ?_
    split at e
    · rename_i nz hz
      cases e
      obtain ⟨nn, rfl⟩ := Int.eq_ofNat_of_zero_le hz.1
      rw [Int.toNat_natCast] at hz P
      rw [asInts_eq hns] at r
      have hds : ∀ d ∈ ns, d.natAbs < 2 ^ nn := fun d hd => by simpa using List.all_eq_true.mp hz.2.1 d hd
      have hnd : (fd.scope.names.map (·.1)).Nodup := by rw [hsc]; decide
      have hps : PsM fd.scope.names ["digits", "n"] [0, 1] := by rw [hsc]; exact .cons rfl (.inr rfl) (.cons rfl (.inr rfl) .nil)
      have hfree : ∀ y ∈ fd.scope.names, y.2 ≠ .free := by rw [hsc]; decide
      refine fn_enter (n := 61) (pn := ["digits", "n"]) (ps := [0, 1]) hK hd hb hcl hnd hfree hglob hblt hcode (fun ws hl => ?_) hps T B i hfr r rfl (fun env M h₁ tk ok1 Err' hes hec heq hsub hsup B1 kp S => ?_) hco hgen hk
      · match ws, hl with
        | [a, b], _ => exact hbind a b
      · have hE : bindE [0, 1] fd.scope.names.length [.lv (ns.map .int), .int nn] = [some (.lv (ns.map .int)), some (.int nn), none, none] := by rw [hsc]; rfl
        rw [hE] at S
        have hen : env.scope.names = scDO := by rw [hes]; exact hsc
        have hcells : ∀ x, (x, NameKind.free) ∈ scopeI.names → ∃ a, env.cells.lookup x = some a := fun x hx => by
          rw [hscI] at hx
          have : x = "digits" ∨ x = "inner" ∨ x = "n" := by
            have all : ∀ p ∈ scDI, p.2 = NameKind.free → p.1 = ("digits" : Str) ∨ p.1 = ("inner" : Str) ∨ p.1 = ("n" : Str) := by decide
            exact all _ hx rfl
          rcases this with rfl | rfl | rfl
          · obtain ⟨a, _, _, e, _⟩ := S.ev.cells 0 "digits" .cell (by rw [hen]; rfl) (.inl rfl); exact ⟨a, e⟩
          · obtain ⟨a, _, _, e, _⟩ := S.ev.cells 2 "inner" .cell (by rw [hen]; rfl) (.inl rfl); exact ⟨a, e⟩
          · obtain ⟨a, _, _, e, _⟩ := S.ev.cells 1 "n" .cell (by rw [hen]; rfl) (.inl rfl); exact ⟨a, e⟩
        obtain ⟨clos, hclos, hlook⟩ := closure_of hcells
        have T1 := T.kp kp
        have hq : qualnameIn env "inner" "inner" = fd.qualname ++ ".<locals>." ++ "inner" := by
          unfold qualnameIn Env.kindOf
          rw [hen, heq]
          rfl
        refine wpAny_execs_cons (def_step (s := { s with heap := h₁, toks := tk }) (npos := dpos) (i := 2) S htl (by rw [hen]; decide) T1 (hec.trans hcd) (hC _ T1.kin) hP hq hclos (.cel rfl (by rw [hen]; rfl)) hd0 hk0 (ha env)
          fun f cv ctv doc pm h₂ tk₂ hf okf N S2 hfo => ?_)
        have hE2 : [some (VV.lv (ns.map .int)), some (.int nn), none, none].set 2 (some (.raw (.ref f))) = [some (.lv (ns.map .int)), some (.int nn), some (.raw (.ref f)), none] := rfl
        rw [hE2] at S2
        let fi : FuncData := fnX "inner" (fd.qualname ++ ".<locals>." ++ "inner") params bodyI scopeI clos .none .none doc pm none cv ctv
        have J : Stands ((tabsOf tl).also cv (fd.qualname ++ ".<locals>." ++ "inner")) f fi (baseD2I f nn ns) h₂ := by
          refine ⟨⟨_, hfo, by nofun, rfl⟩, fun j x e => ?_⟩
          have e' : scDI[j]? = some (x, .free) := by rw [← hscI]; exact e
          have hx : (x, NameKind.free) ∈ scopeI.names := List.mem_of_getElem? e
          have hl := hlook x hx
          have three : (j = 4 ∧ x = "digits") ∨ (j = 5 ∧ x = "inner") ∨ (j = 6 ∧ x = "n") := by
            match j, e' with
            | 0, e' => cases e'
            | 1, e' => cases e'
            | 2, e' => cases e'
            | 3, e' => cases e'
            | 4, e' => cases e'; exact .inl ⟨rfl, rfl⟩
            | 5, e' => cases e'; exact .inr (.inl ⟨rfl, rfl⟩)
            | 6, e' => cases e'; exact .inr (.inr ⟨rfl, rfl⟩)
            | j + 7, e' => cases e'
          rcases three with ⟨rfl, rfl⟩ | ⟨rfl, rfl⟩ | ⟨rfl, rfl⟩
          · obtain ⟨a, o, v₀, f1, f2, f3, f4, r⟩ := S2.ev.cells 0 "digits" .cell (by rw [hen]; rfl) (.inl rfl)
            exact ⟨a, o, v₀, hl.trans f1, f2, f3, f4, fun v ev => by
              cases ev
              obtain ⟨w, p, q⟩ := r _ rfl
              exact ⟨w, p, q.okm fun _ _ _ _ => trivial⟩⟩
          · obtain ⟨a, o, v₀, f1, f2, f3, f4, r⟩ := S2.ev.cells 2 "inner" .cell (by rw [hen]; rfl) (.inl rfl)
            exact ⟨a, o, v₀, hl.trans f1, f2, f3, f4, fun v ev => by
              cases ev
              obtain ⟨w, p, q⟩ := r _ rfl
              exact ⟨w, p, q.okm fun _ _ _ _ => trivial⟩⟩
          · obtain ⟨a, o, v₀, f1, f2, f3, f4, r⟩ := S2.ev.cells 1 "n" .cell (by rw [hen]; rfl) (.inl rfl)
            exact ⟨a, o, v₀, hl.trans f1, f2, f3, f4, fun v ev => by
              cases ev
              obtain ⟨w, p, q⟩ := r _ rfl
              exact ⟨w, p, q.okm fun _ _ _ _ => trivial⟩⟩
        -- the rest of the body stands on the heap as it is now
        have I2 := S2.s0.good.inv
        have kp2 := S2.s0.good.keep
        have T2 : Tp ((tabsOf tl).also cv (fd.qualname ++ ".<locals>." ++ "inner")) GL K h₂ := (T.kp kp2).also
        have S3 : SV0 ((tabsOf tl).also cv (fd.qualname ++ ".<locals>." ++ "inner")) h₂ [] ok1 [] h₂ := ⟨⟨KP.refl _, I2⟩, S2.s0.len, S2.s0.objs, S2.s0.free⟩
        have hrc := d2i_rec (prog := prog) (w := w) (GL := GL) (K := K) (TT := (tabsOf tl).also cv (fd.qualname ++ ".<locals>." ++ "inner")) (f := f) (fd := fi) (body := bodyI) (nn := nn) (ds := ns) rfl (by show (scopeI.names.map (·.1)).Nodup; rw [hscI]; decide) (by show ∀ y ∈ scopeI.names, _; rw [hscI]; decide) rfl rfl
          (fun h I => I.2) (hbindI clos doc pm cv ctv) (by show PsL scopeI.names _ _; rw [hscI]; exact .cons rfl (.cons rfl .nil)) (fun j x v e => ?_) hds hz.2.2.1 (by omega) hcoI hgenI hkI
          (fun B1 m g J1 I1 hg => ?_) 60 h₂ T2 I2 J
        · refine wpAny_execs_cons (wpAny_Return_some ?_)
          refine hret _ h₂ 61 f _ T2 (fun h G => (J.keep I2 G.keep).keeps) hrc _ _ [] ok1 [] _ { s with heap := h₂, toks := tk₂ } B1 hen S3 S2.ev _ (E_d2r_eq hz.2.2.2) _ _ fun wv h₃ tk₃ k₃ i₃ q => ?_
          exact P.flat rfl (kp2.trans k₃) i₃.1 q
        · have e' : scDI[j]? = some (x, .local) := by rw [← hscI]; exact e
          match j, e' with
          | 0, e' => nofun
          | 1, e' => nofun
          | 2, e' => nofun
          | 3, e' => nofun
          | 4, e' => cases e'
          | 5, e' => cases e'
          | 6, e' => cases e'
          | j + 7, e' => cases e'
        · show DenSs prog w _ B1 m scopeI.names bodyI _
          rw [hscI]
          exact hbodyI _ B1 m f g (fun h G => (J1.keep I1 G.keep).keeps) hg
    · cases e
  · cases e
end
end Mine
namespace Mine

noncomputable def dg (n x : Nat) : Nat → List Int
  | 0 => []
  | k + 1 => ((x % 2 ^ n : Nat) : Int) :: dg n (x / 2 ^ n) k
theorem dg_length (n : Nat) : ∀ (k x : Nat), (dg n x k).length = k
  | 0, _ => rfl
  | k + 1, x => by simp only [dg, List.length_cons, dg_length n k]
theorem dg_split (n b : Nat) : ∀ (a x : Nat), dg n x (a + b) = dg n (x % 2 ^ (n * a)) a ++ dg n (x / 2 ^ (n * a)) b
  | 0, x => by simp [dg]
  | a + 1, x => by
    have e : a + 1 + b = (a + b) + 1 := by omega
    rw [e]
    simp only [dg, List.cons_append]
    rw [dg_split n b a]
    have e1 : 2 ^ (n * (a + 1)) = 2 ^ n * 2 ^ (n * a) := by rw [Nat.mul_succ, Nat.pow_add, Nat.mul_comm]
    congr 1
    · rw [e1, Nat.mod_mul_right_mod]
    · congr 1
      · congr 1
        rw [e1, Nat.mod_mul_right_div_self]
      · congr 1
        rw [e1, Nat.div_div_eq_div_mul]
theorem dg_one (n x : Nat) (h : x < 2 ^ n) : dg n x 1 = [(x : Int)] := by simp [dg, Nat.mod_eq_of_lt h]
noncomputable def put (ns : List Int) (l : Nat) (ds : List Int) : List Int := ns.take l ++ ds ++ ns.drop (l + ds.length)
theorem put_length {ns ds : List Int} {l : Nat} (h : l + ds.length ≤ ns.length) : (put ns l ds).length = ns.length := by
  unfold put
  rw [List.length_append, List.length_append, List.length_take, List.length_drop]
  omega
theorem put_put {ns a b : List Int} {l : Nat} (h : l + a.length + b.length ≤ ns.length) : put (put ns l a) (l + a.length) b = put ns l (a ++ b) := by
  unfold put
  have h1 : (ns.take l).length = l := by rw [List.length_take]; omega
  have e1 : (ns.take l ++ a ++ ns.drop (l + a.length)).take (l + a.length) = ns.take l ++ a := by
    rw [List.take_append_of_le_length (by rw [List.length_append, h1]; omega)]
    exact List.take_of_length_le (by rw [List.length_append, h1]; omega)
  have e2 : (ns.take l ++ a ++ ns.drop (l + a.length)).drop (l + a.length + b.length) = ns.drop (l + a.length + b.length) := by
    rw [List.drop_append, List.length_append, h1]
    rw [List.drop_of_length_le (by rw [List.length_append, h1]; omega), List.nil_append, List.drop_drop]
    congr 1
    omega
  rw [e1, e2, List.length_append]
  simp [List.append_assoc, Nat.add_assoc]
theorem put_one {ns : List Int} {l : Nat} {x : Int} (h : l < ns.length) : put ns l [x] = ns.set l x := by
  unfold put
  rw [List.set_eq_take_append_cons_drop, if_pos h]
  simp
theorem and_high (x s : Nat) : x &&& ((x / 2 ^ s) * 2 ^ s) = (x / 2 ^ s) * 2 ^ s := by
  apply Nat.eq_of_testBit_eq
  intro i
  rw [← Nat.shiftRight_eq_div_pow, ← Nat.shiftLeft_eq, Nat.testBit_and, Nat.testBit_shiftLeft, Nat.testBit_shiftRight]
  by_cases h : s ≤ i
  · have e : s + (i - s) = i := by omega
    simp [h, e]
  · simp [h]
theorem bitXor_low (x s : Nat) : Builtin.bitXor (x : Int) (((x / 2 ^ s) * 2 ^ s : Nat) : Int) = ((x % 2 ^ s : Nat) : Int) := by
  rw [bitXor_and]
  have h1 : Builtin.bitAnd (x : Int) (((x / 2 ^ s) * 2 ^ s : Nat) : Int) = (((x / 2 ^ s) * 2 ^ s : Nat) : Int) := by
    have h2 := and_high x s
    generalize (x / 2 ^ s) * 2 ^ s = y at h2 ⊢
    unfold Builtin.bitAnd
    simp [h2]
  rw [h1]
  have := Nat.div_add_mod x (2 ^ s)
  rw [Nat.mul_comm] at this
  omega
end Mine
namespace Mine

noncomputable def DigAt (h : Heap) (D : Addr) (ns : List Int) : Prop := ∃ ws k, h.get? D = some (listO (List.toArray ws) k) ∧ IntsAre ws ns
structure Stand2 (TT : Tabs) (f D : Addr) (fd : FuncData) (nn : Nat) (h : Heap) : Prop where
  fn : ∃ fo, h.get? f = some fo ∧ fo.cls ≠ .none ∧ fo.data = .func fd
  cd : ∃ a o, fd.closure.lookup ("a_digits" : Str) = some a ∧ h.get? a = some o ∧ a ∉ TT.TB ∧ o.data = .cell (some (.ref D))
  ci : ∃ a o, fd.closure.lookup ("inner" : Str) = some a ∧ h.get? a = some o ∧ a ∉ TT.TB ∧ o.data = .cell (some (.ref f))
  cn : ∃ a o t, fd.closure.lookup ("n" : Str) = some a ∧ h.get? a = some o ∧ a ∉ TT.TB ∧ o.data = .cell (some (.int nn t))

section
variable {prog : Program} {w : World} {TT : Tabs} {B0 : Heap} {n : Nat} {sc : Sc} {GL : List (Str × Value)} {K : Frag}

theorem Stand2.keepX {f D : Addr} {fd : FuncData} {nn : Nat} {h h' : Heap} {X : List Addr} (J : Stand2 TT f D fd nn h) (hX : ∀ b ∈ X, ∀ o, h.get? b = some o → (∀ fd, o.data ≠ .func fd) ∧ ∀ v, o.data ≠ .cell v) (i : TT.Inv h) (k : KP (TT.TB ++ X) h h') : Stand2 TT f D fd nn h' := by
  obtain ⟨⟨fo, e1, e2, e3⟩, ⟨a, o, a1, a2, a3, a4⟩, ⟨b, p, b1, b2, b3, b4⟩, ⟨c, q, t, c1, c2, c3, c4⟩⟩ := J
  have cell : ∀ {a : Addr} {o : Obj} {v : Option Value}, h.get? a = some o → a ∉ TT.TB → o.data = .cell v → h'.get? a = some o := fun {a o v} e nt hd =>
    k a o (fun q => (List.mem_append.mp q).elim nt fun q => (hX a q o e).2 v hd) e
  exact ⟨⟨fo, k.at i (fun q => (hX f q fo e1).1 fd e3) e2 e1, e2, e3⟩, ⟨a, o, a1, cell a2 a3 a4, a3, a4⟩, ⟨b, p, b1, cell b2 b3 b4, b3, b4⟩, ⟨c, q, t, c1, cell c2 c3 c4, c3, c4⟩⟩
theorem Stand2.keep {f D : Addr} {fd : FuncData} {nn : Nat} {h h' : Heap} (J : Stand2 TT f D fd nn h) (i : TT.Inv h) (k : KP TT.TB h h') : Stand2 TT f D fd nn h' := J.keepX (X := []) (by simp) i (k.toX [])

theorem SV.updK {env : Env} {M ρ : List Addr} {ok : Addr → Prop} {E : Lo} {H : Hp} {h : Heap} {j : Nat} {xs : List VV} (S : SV TT B0 env ρ ok E H M h) (hj : H[j]? = some (.list xs)) :
    ∃ a ws k, ρ[j]? = some a ∧ PySem.IsL h a (List.toArray ws) k ∧ VRs h ρ ok xs ws ∧ ∀ h' ws' k' xs', KP (TT.TB ++ [a]) h h' → TT.Inv h' → PySem.IsL h' a (List.toArray ws') k' → VRs h' ρ ok xs' ws' →
      SV TT B0 env ρ ok E (H.set j (.list xs')) M h' ∧ Nx TT M ρ ok h ρ ok h' := by
  obtain ⟨a, ea, ws, k, e1, r⟩ := S.s0.objs j _ hj
  have ham : a ∈ ρ := List.mem_of_getElem? ea
  have ha : ¬ ok a := S.okn a ham
  have haM : a ∉ M := fun q => S.frm.ap.rho a q ham
  refine ⟨a, ws, k, ea, e1, r, fun h' ws' k' xs' kp i' e' r' => ?_⟩
  have hX : ∀ b ∈ [a], ¬ ok b := fun b q => by rw [List.mem_singleton.mp q]; exact ha
  have cl : ClN env (· ∉ [a]) := fun i x kd b e hk el q => by
    obtain ⟨b', o, v₀, f1, f2, f3, f4, _⟩ := S.ev.cells i x kd e hk
    rw [el] at f1; cases f1
    rw [List.mem_singleton.mp q, e1] at f2
    cases f2
    cases f4
  refine ⟨⟨⟨⟨fun b o n e => kp b o (fun q => (List.mem_append.mp q).elim n fun q => ?_) (S.s0.good.keep b o n e), i'⟩, by rw [List.length_set]; exact S.s0.len, fun i vo ei => ?_, fun b e => ?_⟩,
    S.ev.keepX S.s0.good.inv hX (fun q => haM (by rw [← List.mem_singleton.mp q]; exact S.frm.lM)) cl kp, S.frm, S.nd, S.okn, S.oldn, S.dep⟩, .of (kp.inX fun b q => by rw [List.mem_singleton.mp q]; exact List.mem_append_right _ ham)⟩
  · rw [List.mem_singleton.mp q, S.oldn a ham] at e; cases e
  · by_cases hij : j = i
    · subst hij
      obtain ⟨hl, ei⟩ := List.getElem?_eq_some_iff.mp ei
      rw [List.getElem_set_self] at ei
      subst ei
      exact ⟨a, ea, ws', k', e', r'⟩
    · rw [List.getElem?_set_ne hij] at ei
      obtain ⟨b, eb, o⟩ := S.s0.objs i vo ei
      refine ⟨b, eb, o.keepX (fun q => hij ?_) hX kp S.s0.good.inv⟩
      rw [List.mem_singleton.mp q] at eb
      obtain ⟨hl, _⟩ := List.getElem?_eq_some_iff.mp ea
      exact (List.getElem?_inj hl S.nd).mp (ea.trans eb.symm)
  · cases q : h.get? b with
    | none => exact S.s0.free b q
    | some o =>
      by_cases hT : b ∈ TT.TB
      · obtain ⟨o', e2, _⟩ := TT.there h' i' b hT
        rw [e] at e2; cases e2
      · by_cases hba : b = a
        · rw [hba, show h'.get? a = _ from e'] at e; cases e
        · have := kp b o (fun q => (List.mem_append.mp q).elim hT fun q => hba (List.mem_singleton.mp q)) q
          rw [e] at this; cases this

noncomputable def scII : Sc := [("x", .local), ("L", .local), ("R", .local), ("mid", .local), ("shift", .local), ("upper", .local), ("lower", .local), ("a_digits", .free), ("inner", .free), ("n", .free)]
noncomputable def baseI2D (f : Addr) (nn : Nat) : Lo := [none, none, none, none, none, none, none, some (.lst 0), some (.raw (.ref f)), some (.int nn)]
noncomputable def F_i1 : StF := sIf (tCmp (cmI fun a b => decide (a = b)) (dBin (opI gAdd) (dV 1) (dI 1)) (dV 2)) (sSeq (sSet (dV 0) (dV 7) (dV 1)) sRetN) sNil
noncomputable def F_i2 : StF := sAsg (.nm 3) (dBin (opI gShr) (dBin (opI gAdd) (dV 1) (dV 2)) (dI 1))
noncomputable def F_i3 : StF := sAsg (.nm 4) (dBin (opI gMul) (dBin (opI gSub) (dV 3) (dV 1)) (dV 9))
noncomputable def F_i4 : StF := sAsg (.nm 5) (dBin (opI gShr) (dV 0) (dV 4))
noncomputable def F_i5 : StF := sAsg (.nm 6) (dBin (opI gXor) (dV 0) (dBin (opI gShl) (dV 5) (dV 4)))

theorem F_i1_one {f : Addr} {nn x l r : Nat} {ns : List Int} (h : l < ns.length) (hr : r = l + 1) (hz : l ≤ 1000000) :
    F_i1 [some (.int x), some (.int l), some (.int r), none, none, none, none, some (.lst 0), some (.raw (.ref f)), some (.int nn)] [.list (ns.map .int)] =
      some (.ret .none, [some (.int x), some (.int l), some (.int r), none, none, none, none, some (.lst 0), some (.raw (.ref f)), some (.int nn)], [.list ((put ns l [(x : Int)]).map .int)]) := by
  have hs : setAt (ns.map VV.int) (l : Int) (.int x) = some ((put ns l [(x : Int)]).map .int) := by
    have h1 : -1000000000 ≤ (l : Int) ∧ (l : Int) ≤ 1000000000 := by omega
    unfold setAt
    rw [if_pos h1]
    have h2 : seqIndex? (l : Int) (ns.map VV.int).length = some l := by
      unfold seqIndex?
      have h3 : ¬ (l : Int) < 0 := by omega
      simp only [h3, if_false, List.length_map]
      rw [if_pos (by simp [h])]
      simp
    rw [h2, Option.map_some, put_one h, List.map_set]
  have h' : (l : Int) + 1 = r := by omega
  generalize (put ns l [(x : Int)]).map VV.int = ys at hs ⊢
  generalize ns.map VV.int = xs at hs ⊢
  have t : tCmp (cmI fun a b => decide (a = b)) (dBin (opI gAdd) (dV 1) (dI 1)) (dV 2) [some (.int x), some (.int l), some (.int r), none, none, none, none, some (.lst 0), some (.raw (.ref f)), some (.int nn)] [.list xs] = some true := by
    show (some (decide ((l : Int) + 1 = r)) : Option Bool) = _
    rw [h']; simp
  have o : onList (.lst 0) [.list xs] (fun xs => setAt xs (l : Int) (.int x)) = some [.list ys] := by
    show (setAt xs l (.int x)).map (fun ys => [VO.list xs].set 0 (.list ys)) = _
    rw [hs]; rfl
  unfold F_i1 sIf
  rw [t]
  show (((onList (.lst 0) [.list xs] fun xs => setAt xs (l : Int) (.int x)).map fun H' => (Fl.next, [some (.int x), some (.int l), some (.int r), none, none, none, none, some (.lst 0), some (.raw (.ref f)), some (.int nn)], H')).bind fun p => match p with
    | (.next, E1, H1) => sRetN E1 H1
    | p => some p) = _
  rw [o]
  rfl
theorem F_i1_more {f : Addr} {nn x l r : Nat} {H : Hp} (h : l + 1 ≠ r) :
    F_i1 [some (.int x), some (.int l), some (.int r), none, none, none, none, some (.lst 0), some (.raw (.ref f)), some (.int nn)] H = some (.next, [some (.int x), some (.int l), some (.int r), none, none, none, none, some (.lst 0), some (.raw (.ref f)), some (.int nn)], H) := by
  have h' : ¬ (l : Int) + 1 = r := by omega
  have t : tCmp (cmI fun a b => decide (a = b)) (dBin (opI gAdd) (dV 1) (dI 1)) (dV 2) [some (.int x), some (.int l), some (.int r), none, none, none, none, some (.lst 0), some (.raw (.ref f)), some (.int nn)] H = some false := by
    show (some (decide ((l : Int) + 1 = r)) : Option Bool) = _
    rw [decide_eq_false h']
  unfold F_i1 sIf
  rw [t]
  rfl
theorem F_i2_eq {f : Addr} {nn x l r : Nat} {H : Hp} :
    F_i2 [some (.int x), some (.int l), some (.int r), none, none, none, none, some (.lst 0), some (.raw (.ref f)), some (.int nn)] H = some (.next, [some (.int x), some (.int l), some (.int r), some (.int ((l + r) / 2 : Nat)), none, none, none, some (.lst 0), some (.raw (.ref f)), some (.int nn)], H) := by
  have h' : ((l : Int) + r) / 2 = ((l + r) / 2 : Nat) := by omega
  generalize (l + r) / 2 = m at h' ⊢
  unfold F_i2
  refine (q_asg (v := .int (m : Int)) ?_).trans rfl
  show (gShr ((l : Int) + (r : Int)) 1).map VV.int = _
  rw [shr1, h']; rfl
theorem F_i3_eq {f : Addr} {nn x l r m : Nat} {H : Hp} (hlm : l ≤ m) (h1 : nn < 10000) (h2 : m < 10000) :
    F_i3 [some (.int x), some (.int l), some (.int r), some (.int m), none, none, none, some (.lst 0), some (.raw (.ref f)), some (.int nn)] H = some (.next, [some (.int x), some (.int l), some (.int r), some (.int m), some (.int (nn * (m - l) : Nat)), none, none, some (.lst 0), some (.raw (.ref f)), some (.int nn)], H) := by
  have gm : gMul ((m : Int) - l) nn = some ((nn * (m - l) : Nat) : Int) := by
    unfold gMul
    rw [if_pos ⟨lt_lim9 (k := 20) (by omega), lt_lim9 (k := 20) (by omega)⟩]
    congr 1
    rw [show (m : Int) - l = ((m - l : Nat) : Int) by omega, ← Int.natCast_mul, Nat.mul_comm]
  generalize nn * (m - l) = sh at gm ⊢
  unfold F_i3
  refine (q_asg (v := .int (sh : Int)) ?_).trans rfl
  show (gMul ((m : Int) - (l : Int)) (nn : Int)).map VV.int = _
  rw [gm]; rfl
theorem shr_nat (x s : Nat) : gShr (x : Int) (s : Int) = some ((x / 2 ^ s : Nat) : Int) := by
  unfold gShr
  rw [if_pos (by omega), Int.toNat_natCast, Int.fdiv_eq_ediv_of_nonneg _ (Int.pow_nonneg (by decide))]
  congr 1
theorem F_i4_eq {f : Addr} {nn x l r m sh : Nat} {H : Hp} :
    F_i4 [some (.int x), some (.int l), some (.int r), some (.int m), some (.int sh), none, none, some (.lst 0), some (.raw (.ref f)), some (.int nn)] H = some (.next, [some (.int x), some (.int l), some (.int r), some (.int m), some (.int sh), some (.int (x / 2 ^ sh : Nat)), none, some (.lst 0), some (.raw (.ref f)), some (.int nn)], H) := by
  have h := shr_nat x sh
  generalize x / 2 ^ sh = u at h ⊢
  unfold F_i4
  refine (q_asg (v := .int (u : Int)) ?_).trans rfl
  show (gShr (x : Int) (sh : Int)).map VV.int = _
  rw [h]; rfl
theorem F_i5_eq {f : Addr} {nn x l r m sh : Nat} {H : Hp} (hx : x < lim9) (hs : sh ≤ 4000) :
    F_i5 [some (.int x), some (.int l), some (.int r), some (.int m), some (.int sh), some (.int (x / 2 ^ sh : Nat)), none, some (.lst 0), some (.raw (.ref f)), some (.int nn)] H =
      some (.next, [some (.int x), some (.int l), some (.int r), some (.int m), some (.int sh), some (.int (x / 2 ^ sh : Nat)), some (.int (x % 2 ^ sh : Nat)), some (.lst 0), some (.raw (.ref f)), some (.int nn)], H) := by
  have h1 : gShl ((x / 2 ^ sh : Nat) : Int) sh = some (((x / 2 ^ sh) * 2 ^ sh : Nat) : Int) := by
    unfold gShl
    rw [if_pos ⟨by omega, by omega, Nat.lt_of_le_of_lt (by rw [Int.natAbs_natCast]; exact Nat.div_le_self _ _) hx⟩, Int.toNat_natCast]
    congr 1
  have h2 := bitXor_low x sh
  generalize (x / 2 ^ sh) * 2 ^ sh = y at h1 h2
  generalize x / 2 ^ sh = u at h1 ⊢
  generalize x % 2 ^ sh = v at h2 ⊢
  unfold F_i5
  refine (q_asg (v := .int (v : Int)) ((q_bin (x := .int (x : Int)) (y := .int (y : Int)) rfl ?_).trans ?_)).trans rfl
  · show (gShl (u : Int) (sh : Int)).map VV.int = _
    rw [h1]; rfl
  · show some (VV.int (Builtin.bitXor (x : Int) (y : Int))) = _
    rw [h2]
end
end Mine
namespace Mine

section
variable {prog : Program} {w : World} {TT : Tabs} {B0 : Heap} {n : Nat} {sc : Sc} {GL : List (Str × Value)} {K : Frag}

theorem callWith_j {J : Heap → Prop} (hJ : ∀ h h', J h → TT.Inv h → KP TT.TB h h' → J h') {es : List Expr} {fs : List EvF} (hf : DenEs prog w TT B0 n sc es fs) {f : Value} {A : Around} {env : Env} {ρ : List Addr} {ok : Addr → Prop} {H : Hp} {E : Lo} {s : Shared} (B : Bud A n) (hs : env.scope.names = sc) (S : SV0 TT B0 ρ ok H s.heap)
    (V : EnvV TT env ρ ok E s.heap) (j : J s.heap) (hk : ∀ h, J h → ∃ k, (k = Keeper.frame ∨ k = Keeper.machine ∨ k = Keeper.boundFrame) ∧ Looks (model prog w) h (keeperOf f) k)
    {vs : List VV} (e : evs fs E H = some vs) {pos pos' : Pos} {Q Err : Value → Shared → Prop}
    (P : ∀ ws h' tk, KP TT.TB s.heap h' → TT.Inv h' → VRs h' ρ ok vs ws → wpAny (model prog w) A (call f ws) Q Err { s with heap := h', toks := tk }) :
    wpAny (model prog w) A (callWith pos' f [] (backTo pos (starEach es env)) []) Q Err s := by
  refine callWith_of (P := J) (by rw [anyStar hf]; rfl) hk ?_
  have main : wpAny (model prog w) A (spliced (backTo pos (starEach es env))) (fun ws s₁ => J s₁.heap ∧ wpAny (model prog w) A (call f ([] ++ ws)) Q Err s₁) Err s :=
    spliced_v hf B hs S V e fun ws h' tk k i r => ⟨hJ _ _ j S.good.inv k, P ws h' tk k i r⟩
  cases hf with
  | nil => exact evalArgs_nil3 (by
      cases e
      exact ⟨j, by have := P [] s.heap s.toks (KP.refl _) S.good.inv .nil; exact this⟩)
  | cons h1 r hst =>
    rw [hst] at main ⊢
    exact evalArgs_plain main

theorem step1 {st : Stmt} {rest : List Stmt} {F : StF} {A : Around} {env : Env} {M : List Addr} {D : Addr} {ok : Addr → Prop} {E E' : Lo} {vo vo' : VO} {s : Shared} (hst : DenS prog w TT B0 n sc st F) (B : Bud A n) (hs : env.scope.names = sc) (S : SV TT B0 env [D] ok E [vo] M s.heap)
    (e : F E [vo] = some (.next, E', [vo'])) {Q : Flow → Shared → Prop} {Err : Value → Shared → Prop}
    (h : ∀ ok' h' tk, KP (TT.TB ++ (M ++ [D])) s.heap h' → SV TT B0 env [D] ok' E' [vo'] M h' → wpAny (model prog w) A (execs rest env) Q Err { s with heap := h', toks := tk }) : wpAny (model prog w) A (execs (st :: rest) env) Q Err s := by
  refine wpAny_execs_cons (hst A env M [D] ok [vo] E s B hs S _ E' [vo'] e _ Err fun fl ρ' ok' h' tk N S' f => ?_)
  cases f
  have hρ : ρ' = [D] := by
    obtain ⟨σ, rfl⟩ := N.pre
    have := S'.s0.len
    simp only [List.length_append, List.length_cons, List.length_nil] at this
    have : σ = [] := List.length_eq_zero_iff.mp (by omega)
    rw [this]; rfl
  subst hρ
  exact h ok' h' tk N.kp S'

noncomputable def InnerDoes (prog : Program) (w : World) (TT : Tabs) (B0 : Heap) (f D : Addr) (fd : FuncData) (nn k : Nat) : Prop :=
  ∀ (A : Around) (s : Shared) (ns : List Int) (x l r : Nat) (t1 t2 t3 : Tok), Bud A (k + 1) → Good TT B0 s.heap → Stand2 TT f D fd nn s.heap → DigAt s.heap D ns → nn * ns.length ≤ 4000 → ns.length ≤ 1000 → l < r → r ≤ ns.length → r - l ≤ k → x < 2 ^ (nn * (r - l)) →
    ∀ (Q Err : Value → Shared → Prop), (∀ h' tk, KP (TT.TB ++ [D]) s.heap h' → TT.Inv h' → DigAt h' D (put ns l (dg nn x (r - l))) → Q .none { s with heap := h', toks := tk }) →
      wpAny (model prog w) A (call (.ref f) [.int x t1, .int l t2, .int r t3]) Q Err s

theorem Stand2.keeps {f D : Addr} {fd : FuncData} {nn : Nat} {h : Heap} (J : Stand2 TT f D fd nn h) : ∃ k, (k = Keeper.frame ∨ k = Keeper.machine ∨ k = Keeper.boundFrame) ∧ Looks (model prog w) h (keeperOf (.ref f)) k := by
  obtain ⟨⟨c, d, dt, sl⟩, e1, _, e3⟩ := J.fn
  simp only at e3
  subst e3
  exact keeps_F h ⟨_, _, _, _, e1⟩
theorem digAt_of {env : Env} {M : List Addr} {D : Addr} {ok : Addr → Prop} {E : Lo} {ns : List Int} {h : Heap} (S : SV TT B0 env [D] ok E [.list (ns.map .int)] M h) : DigAt h D ns := by
  obtain ⟨a, ea, ws, k, e, r⟩ := S.s0.objs 0 _ rfl
  cases ea
  exact ⟨ws, k, e, r.ints⟩

theorem callstep {f D : Addr} {fd : FuncData} {nn k x l r j : Nat} {ns : List Int} {q1 q2 q3 : Pos} {nm : Str} {es : List Expr} {fs : List EvF} {rest : List Stmt} {A : Around} {env : Env} {M : List Addr} {ok : Addr → Prop} {E : Lo} {s : Shared} (B : Bud A (k + 1)) (hs : env.scope.names = sc)
    (hn : DenE prog w TT B0 (k + 1) sc (.Name nm q1) (dV j)) (he : DenEs prog w TT B0 (k + 1) sc es fs) (ih : InnerDoes prog w TT B0 f D fd nn k) (S : SV TT B0 env [D] ok E [.list (ns.map .int)] M s.heap) (J : Stand2 TT f D fd nn s.heap) (hj : dV j E [.list (ns.map .int)] = some (.raw (.ref f)))
    (ev : evs fs E [.list (ns.map .int)] = some [.int x, .int l, .int r]) (h1 : nn * ns.length ≤ 4000) (h2 : ns.length ≤ 1000) (h3 : l < r) (h4 : r ≤ ns.length) (h5 : r - l ≤ k) (h6 : x < 2 ^ (nn * (r - l))) {Q : Flow → Shared → Prop} {Err : Value → Shared → Prop}
    (h : ∀ h' tk, KP (TT.TB ++ [D]) s.heap h' → SV TT B0 env [D] ok E [.list ((put ns l (dg nn x (r - l))).map .int)] M h' → Stand2 TT f D fd nn h' → wpAny (model prog w) A (execs rest env) Q Err { s with heap := h', toks := tk })
    : wpAny (model prog w) A (execs (.Expr (.Call (.Name nm q1) es [] q2) q3 :: rest) env) Q Err s := by
  refine wpAny_execs_cons (wpAny_Expr_any (Call_ ?_) S.dep rfl)
  refine hn A env [D] ok _ E s B hs S.s0 S.ev _ hj _ _ fun wf h₁ tk₁ k₁ i₁ q => ?_
  cases q
  have S1 := S.keep k₁ i₁
  refine callWith_j (J := Stand2 TT f D fd nn) (fun h h' j i k => j.keep i k) (s := { s with heap := h₁, toks := tk₁ }) he B hs S1.s0 S1.ev (J.keep S.s0.good.inv k₁) (fun h j => j.keeps) ev fun ws h₂ tk₂ k₂ i₂ r2 => ?_
  cases r2 with
  | cons qa r2 =>
  cases r2 with
  | cons qb r2 =>
  cases r2 with
  | cons qc r2 =>
  cases r2; cases qa; cases qb; cases qc
  have S2 := S1.keep k₂ i₂
  have J2 := (J.keep S.s0.good.inv k₁).keep i₁ k₂
  refine ih A { s with heap := h₂, toks := tk₂ } ns x l r _ _ _ B S2.s0.good J2 (digAt_of S2) h1 h2 h3 h4 h5 h6 _ _ fun h₃ tk₃ k₃ i₃ dg₃ => ?_
  obtain ⟨a, ws, kk, ea, e1, _, up⟩ := S2.updK (j := 0) rfl
  cases ea
  obtain ⟨ws3, k3, e3, r3⟩ := dg₃
  obtain ⟨S3, N3⟩ := up h₃ ws3 k3 _ k₃ i₃ e3 (VRs.of_ints r3)
  have noD : ∀ o, h₂.get? D = some o → (∀ fd, o.data ≠ .func fd) ∧ ∀ v, o.data ≠ .cell v := fun o e => by
    have e2 : some (listO (List.toArray ws) kk) = some o := (show h₂.get? D = some (listO (List.toArray ws) kk) from e1).symm.trans e
    have e3 := Option.some.inj e2
    refine ⟨fun fd h => ?_, fun v h => ?_⟩
    · rw [← e3] at h; cases h
    · rw [← e3] at h; cases h
  have J3 : Stand2 TT f D fd nn h₃ := J2.keepX (X := [D]) (fun b hb o e => noD o (by rw [← List.mem_singleton.mp hb]; exact e)) i₂ k₃
  exact h h₃ tk₃ (((k₁.trans k₂).toX [D]).trans k₃) S3 J3
end
end Mine
namespace Mine

section
variable {prog : Program} {w : World} {TT : Tabs} {B0 : Heap} {n : Nat} {sc : Sc} {GL : List (Str × Value)} {K : Frag}

structure InnerTexts (prog : Program) (w : World) (TT : Tabs) (B0 : Heap) (m : Nat) (s1 s2 s3 s4 s5 : Stmt) (es1 es2 : List Expr) (q1 q4 : Pos) : Prop where
  h1 : DenS prog w TT B0 m scII s1 F_i1
  h2 : DenS prog w TT B0 m scII s2 F_i2
  h3 : DenS prog w TT B0 m scII s3 F_i3
  h4 : DenS prog w TT B0 m scII s4 F_i4
  h5 : DenS prog w TT B0 m scII s5 F_i5
  e1 : DenEs prog w TT B0 m scII es1 [dV 6, dV 1, dV 3]
  e2 : DenEs prog w TT B0 m scII es2 [dV 5, dV 3, dV 2]

theorem i2d_rec {f D : Addr} {fd : FuncData} {nn : Nat} {s1 s2 s3 s4 s5 : Stmt} {es1 es2 : List Expr} {q1 q2 q3 q4 q5 q6 : Pos} (T0 : Tp TT GL K B0) (hD0 : B0.get? D = none)
    (hb : fd.body = .stmts [s1, s2, s3, s4, s5, .Expr (.Call (.Name "inner" q1) es1 [] q2) q3, .Expr (.Call (.Name "inner" q4) es2 [] q5) q6]) (hsc : fd.scope.names = scII) (hglob : fd.globals = mainGlobals) (hblt : fd.builtins = builtinsNs)
    (hcd : ∀ h, TT.Inv h → h.CodeRec fd.code fd.qualname) (hbind : ∀ a b c : Value, bindArgs fd ⟨[a, b, c], []⟩ = pure [(("x" : Str), a), (("L" : Str), b), (("R" : Str), c)]) (hnn : nn < 10000)
    (hco : fd.scope.isCoroutine = false) (hgen : fd.scope.isGenerator = false) (hk : fd.scope.kind = .function) (X : ∀ m, InnerTexts prog w TT B0 m s1 s2 s3 s4 s5 es1 es2 q1 q4) :
    ∀ k, InnerDoes prog w TT B0 f D fd nn k := by
  intro k
  induction k with
  | zero => intro A s ns x l r t1 t2 t3 B G J DG a1 a2 a3 a4 a5; omega
  | succ k ih =>
    intro A s ns x l r t1 t2 t3 B G J DG a1 a2 a3 a4 a5 a6 Q Err P
    obtain ⟨ws, kk, e0, hI⟩ := DG
    have i := G.inv
    have T1 := T0.kp G.keep
    obtain ⟨fo, ho, hcl, hd⟩ := J.fn
    have S0 : SV0 TT B0 [D] (fun a => a ≠ D) [.list (ns.map .int)] s.heap := ⟨G, rfl, fun j vo ej => (by
      match j, ej with
      | 0, ej =>
        cases ej
        exact ⟨D, rfl, ws, kk, e0, VRs.of_ints hI⟩
      | j + 1, ej => cases ej), fun a e q => (by rw [q, e0] at e; cases e)⟩
    have rr : VRs s.heap [D] (fun a => a ≠ D) [.int x, .int l, .int r] [.int x t1, .int l t2, .int r t3] := .cons (.int _ _) (.cons (.int _ _) (.cons (.int _ _) .nil))
    have hps : PsL fd.scope.names ["x", "L", "R"] [0, 1, 2] := by rw [hsc]; exact .cons rfl (.cons rfl (.cons rfl .nil))
    refine clos_enter (n := k + 1) (ps := [0, 1, 2]) (pn := ["x", "L", "R"]) (base := baseI2D f nn) S0 (by simp) (fun a ha h => h (List.mem_singleton.mp ha)) (fun a ha => by rw [List.mem_singleton.mp ha]; exact hD0) T1.base.lim B ho hd hb (by rw [hsc]; decide) (by rw [hsc]; decide)
      hglob hblt (hcd _ i) (hbind _ _ _) hps rfl rr (fun j y v e => ?_) (fun j y e => ?_) (fun L h₁ tk ok1 Err' hLn keep i₁ hsub hsup B1 SS => ?_) hco hgen hk
    · rw [hsc] at e
      match j, e with
      | 0, _ => nofun
      | 1, _ => nofun
      | 2, _ => nofun
      | 3, _ => nofun
      | 4, _ => nofun
      | 5, _ => nofun
      | 6, _ => nofun
      | 7, e => cases e
      | 8, e => cases e
      | 9, e => cases e
      | j + 10, e => cases e
    · rw [hsc] at e
      match j, e with
      | 0, e => cases e
      | 1, e => cases e
      | 2, e => cases e
      | 3, e => cases e
      | 4, e => cases e
      | 5, e => cases e
      | 6, e => cases e
      | 7, e =>
        cases e
        obtain ⟨a, o, f1, f2, f3, f4⟩ := J.cd
        exact ⟨a, o, _, f1, f2, f3, f4, fun v ev => by cases ev; exact ⟨_, rfl, .lst rfl⟩⟩
      | 8, e =>
        cases e
        obtain ⟨a, o, f1, f2, f3, f4⟩ := J.ci
        exact ⟨a, o, _, f1, f2, f3, f4, fun v ev => by cases ev; exact ⟨_, rfl, .raw _⟩⟩
      | 9, e =>
        cases e
        obtain ⟨a, o, t, f1, f2, f3, f4⟩ := J.cn
        exact ⟨a, o, _, f1, f2, f3, f4, fun v ev => by cases ev; exact ⟨_, rfl, .int _ _⟩⟩
      | j + 10, e => cases e
    · have hen : (closEnv fd L f).scope.names = scII := hsc
      have XX := X (k + 1)
      have hE : setL [0, 1, 2] [VV.int x, .int l, .int r] (baseI2D f nn) = [some (.int x), some (.int l), some (.int r), none, none, none, none, some (.lst 0), some (.raw (.ref f)), some (.int nn)] := rfl
      rw [hE] at SS
      -- what is kept from the call on
      have kept : ∀ {h' : Heap}, KP (TT.TB ++ ([L] ++ [D])) h₁ h' → KP (TT.TB ++ [D]) s.heap h' := fun {h'} kp b o nb e => kp b o (fun q => by
        rcases List.mem_append.mp q with q | q
        · exact nb (List.mem_append_left _ q)
        · rcases List.mem_append.mp q with q | q
          · rw [List.mem_singleton.mp q, hLn] at e; cases e
          · exact nb (List.mem_append_right _ q)) (keep b o e)
      have J₁ : Stand2 TT f D fd nn h₁ := J.keep i (KP.of keep)
      have stand : ∀ {h' : Heap}, KP (TT.TB ++ ([L] ++ [D])) h₁ h' → Stand2 TT f D fd nn h' := fun {h'} kp => by
        refine J.keepX (X := [D]) (fun b hb o e => ?_) i (kept kp)
        have e1 : some (listO (List.toArray ws) kk) = some o := e0.symm.trans (by rw [← List.mem_singleton.mp hb]; exact e)
        have e2 := Option.some.inj e1
        refine ⟨fun fd h => ?_, fun v h => ?_⟩
        · rw [← e2] at h; cases h
        · rw [← e2] at h; cases h
      by_cases hr : l + 1 = r
      · refine wpAny_execs_cons (XX.h1 _ _ [L] [D] ok1 _ _ { s with heap := h₁, toks := tk } B1 hen SS _ _ _ (F_i1_one (by omega) hr.symm (by omega)) _ Err' fun fl ρ' ok' h' tk' N S' fr => ?_)
        cases fr with
        | ret q =>
        cases q
        have hρ : ρ' = [D] := by
          obtain ⟨σ, rfl⟩ := N.pre
          have := S'.s0.len
          simp only [List.length_append, List.length_cons, List.length_nil] at this
          have : σ = [] := List.length_eq_zero_iff.mp (by omega)
          rw [this]; rfl
        subst hρ
        have hdg : dg nn x (r - l) = [(x : Int)] := by
          have e : r - l = 1 := by omega
          rw [e]
          exact dg_one nn x (by rw [e, Nat.mul_one] at a6; exact a6)
        exact P h' tk' (kept N.kp) S'.s0.good.inv (by rw [hdg]; exact digAt_of S')
      · refine step1 (s := { s with heap := h₁, toks := tk }) XX.h1 B1 hen SS (F_i1_more hr) fun okA hA tkA kA SA => ?_
        refine step1 (s := { s with heap := hA, toks := tkA }) XX.h2 B1 hen SA F_i2_eq fun okB hB tkB kB SB => ?_
        have hlm : l < (l + r) / 2 := by omega
        have hmr : (l + r) / 2 < r := by omega
        generalize (l + r) / 2 = m at hlm hmr SB
        refine step1 (s := { s with heap := hB, toks := tkB }) XX.h3 B1 hen SB (F_i3_eq (Nat.le_of_lt hlm) hnn (by omega)) fun okC hC tkC kC SC => ?_
        have hsh : nn * (m - l) ≤ 4000 := Nat.le_trans (Nat.mul_le_mul_left _ (by omega)) a1
        have hsplit : nn * (r - l) = nn * (m - l) + nn * (r - m) := by rw [← Nat.mul_add]; congr 1; omega
        have hdgs : dg nn x (r - l) = dg nn (x % 2 ^ (nn * (m - l))) (m - l) ++ dg nn (x / 2 ^ (nn * (m - l))) (r - m) := by
          have e : r - l = (m - l) + (r - m) := by omega
          rw [e]; exact dg_split nn (r - m) (m - l) x
        have hx9 : x < lim9 := Nat.lt_of_lt_of_le a6 (by unfold lim9; exact Nat.pow_le_pow_right (by decide) (by have : nn * (r - l) ≤ nn * ns.length := Nat.mul_le_mul_left _ (by omega); omega))
        have hlow : x % 2 ^ (nn * (m - l)) < 2 ^ (nn * (m - l)) := Nat.mod_lt _ (Nat.two_pow_pos _)
        have hup : x / 2 ^ (nn * (m - l)) < 2 ^ (nn * (r - m)) := by
          rw [hsplit, Nat.pow_add] at a6
          exact Nat.div_lt_of_lt_mul a6
        refine step1 (s := { s with heap := hC, toks := tkC }) XX.h4 B1 hen SC F_i4_eq fun okD hD tkD kD SD => ?_
        refine step1 (s := { s with heap := hD, toks := tkD }) XX.h5 B1 hen SD (F_i5_eq hx9 hsh) fun okE hE' tkE kE SE => ?_
        have kAll := (((kA.trans kB).trans kC).trans kD).trans kE
        refine callstep (s := { s with heap := hE', toks := tkE }) (j := 8) (x := x % 2 ^ (nn * (m - l))) (l := l) (r := m) B1 hen (d_cel 8 rfl rfl (.inr rfl)) XX.e1 ih SE (stand kAll) rfl rfl a1 a2 hlm (by omega) (by omega) hlow fun hF tkF kF SF JF => ?_
        have len1 : (put ns l (dg nn (x % 2 ^ (nn * (m - l))) (m - l))).length = ns.length := put_length (by rw [dg_length]; omega)
        refine callstep (s := { s with heap := hF, toks := tkF }) (j := 8) (x := x / 2 ^ (nn * (m - l))) (l := m) (r := r) B1 hen (d_cel 8 rfl rfl (.inr rfl)) XX.e2 ih SF JF rfl rfl (by rw [len1]; exact a1) (by rw [len1]; exact a2) hmr (by rw [len1]; exact a4) (by omega) hup fun hG tkG kG SG JG => ?_
        have kEnd : KP (TT.TB ++ ([L] ++ [D])) h₁ hG := (kAll.trans (kF.inX fun b q => by simp [List.mem_singleton.mp q])).trans (kG.inX fun b q => by simp [List.mem_singleton.mp q])
        refine wpAny_execs_nil (P hG tkG (kept kEnd) SG.s0.good.inv ?_)
        have := digAt_of SG
        have e1 : m = l + (dg nn (x % 2 ^ (nn * (m - l))) (m - l)).length := by rw [dg_length]; omega
        rw [hdgs]
        rw [← put_put (by rw [dg_length, dg_length]; omega)]
        rw [← e1]
        exact this
end
end Mine
namespace Mine

noncomputable def scIO : Sc := [("a", .local), ("n", .cell), ("a_digits", .cell), ("inner", .cell), ("len", .globalImplicit)]
noncomputable def F_o1 : StF := sAsgL 2 (dBinL opMulLL (dF (evs [dI 0])) (dBin (opI gDiv) (dBin (opI gSub) (dBin (opI gAdd) (dUn gBits (dV 0)) (dV 1)) (dI 1)) (dV 1)))
noncomputable def dgN (n a : Nat) : Nat := (Builtin.Int.intBits (a : Int) + n - 1) / n
noncomputable def gInt : List VV → Option VV
  | [.int a, .int n] => if 0 ≤ a ∧ 1 ≤ n ∧ n < 10000 ∧ n.toNat * dgN n.toNat a.toNat ≤ 4000 ∧ dgN n.toNat a.toNat ≤ 60 then some (.lv ((dg n.toNat a.toNat (dgN n.toNat a.toNat)).map .int)) else none
  | _ => none
theorem bits_lt (a : Nat) : a < 2 ^ Builtin.Int.intBits (a : Int) := by
  unfold Builtin.Int.intBits
  split
  · rename_i h
    have : a = 0 := by simpa using h
    subst this; decide
  · rw [Int.natAbs_natCast]
    exact Nat.lt_log2_self
theorem dgN_enough {n a : Nat} (hn : 1 ≤ n) : a < 2 ^ (n * dgN n a) := by
  refine Nat.lt_of_lt_of_le (bits_lt a) (Nat.pow_le_pow_right (by decide) ?_)
  unfold dgN
  generalize Builtin.Int.intBits (a : Int) = b
  have h := Nat.lt_mul_div_succ (b + n - 1) (show 0 < n by omega)
  rw [Nat.mul_succ] at h
  omega
theorem F_o1_eq {n a : Nat} (h1 : 1 ≤ n) (h2 : n < 10000) (hz : dgN n a ≤ 1000) :
    F_o1 [some (.int a), some (.int n), none, none, none] [] = some (.next, [some (.int a), some (.int n), some (.lst 0), none, none], [.list ((List.replicate (dgN n a) (0 : Int)).map .int)]) := by
  have hg : gDiv ((Builtin.Int.intBits (a : Int) : Int) + n - 1) n = some ((dgN n a : Nat) : Int) := by
    unfold gDiv
    rw [if_pos ⟨by omega, lt_lim9 (k := 20) (by omega)⟩, Int.fdiv_eq_ediv_of_nonneg _ (by omega)]
    congr 1
    unfold dgN
    generalize Builtin.Int.intBits (a : Int) = b
    rw [show ((b : Int) + n - 1) = ((b + n - 1 : Nat) : Int) by omega]
    exact (Int.natCast_ediv _ _).symm
  generalize dgN n a = k at hg hz ⊢
  have hm : mul1L [.int 0] (.int (k : Int)) = some (List.replicate k (.int 0)) := by
    show (if -1000000 ≤ (k : Int) ∧ (k : Int) ≤ 1000000 then some (List.replicate (k : Int).toNat (VV.int 0)) else none) = _
    rw [if_pos (by omega), Int.toNat_natCast]
  have hrep : (List.replicate k (0 : Int)).map VV.int = List.replicate k (.int 0) := by simp
  rw [hrep]
  generalize List.replicate k (VV.int 0) = zs at hm ⊢
  have e : dBinL opMulLL (dF (evs [dI 0])) (dBin (opI gDiv) (dBin (opI gSub) (dBin (opI gAdd) (dUn gBits (dV 0)) (dV 1)) (dI 1)) (dV 1)) [some (.int a), some (.int n), none, none, none] [] = some zs := by
    unfold dBinL
    rw [show dF (evs [dI 0]) [some (.int a), some (.int n), none, none, none] [] = some (.lv [.int 0]) from rfl, Option.bind_some, show dBin (opI gDiv) (dBin (opI gSub) (dBin (opI gAdd) (dUn gBits (dV 0)) (dV 1)) (dI 1)) (dV 1) [some (.int a), some (.int n), none, none, none] [] = some (.int (k : Int)) from (by
      show (gDiv ((Builtin.Int.intBits (a : Int) : Int) + n - 1) n).map VV.int = _
      rw [hg]; rfl), Option.bind_some]
    exact hm
  unfold F_o1 sAsgL
  rw [e]
  rfl
theorem frzL_ints (k : Nat) (H : Hp) : ∀ ns : List Int, frzL (frz (k + 1) H) (ns.map .int) = some (ns.map .int)
  | [] => rfl
  | n :: ns => by
    simp only [List.map_cons, frzL]
    rw [frzL_ints k H ns]
    rfl
end Mine
namespace Mine

section
variable {prog : Program} {w : World} {n : Nat} {sc : Sc} {GL : List (Str × Value)} {K : Frag} {tl : List (Addr × Str)}

theorem one_left {TT : Tabs} {B0 : Heap} {env : Env} {M ρ σ : List Addr} {ok : Addr → Prop} {E : Lo} {vo : VO} {h : Heap} (S : SV TT B0 env ρ ok E [vo] M h) : ∃ D, ρ = [D] := by
  have := S.s0.len
  match ρ, this with
  | [D], _ => exact ⟨D, rfl⟩

theorem i2d_fn {fa : Addr} {fo : Obj} {fd : FuncData} {params : Arguments} {s0 s1 s2 s3 s4 s5 : Stmt} {es0 es1 es2 : List Expr} {q1 q2 q3 q4 q5 q6 q7 q8 q9 ipos rpos : Pos} {tE' rE : Expr} {scopeI : Scope} {dpos : Pos} {c Pt : Addr} (hK : K.lookup fa = some fo) (hd : fo.data = .func fd)
    (hb : fd.body = .stmts [s0, .FunctionDef "inner" params [s1, s2, s3, s4, s5, .Expr (.Call (.Name "inner" q1) es1 [] q2) q3, .Expr (.Call (.Name "inner" q4) es2 [] q5) q6] [] none [] scopeI none "inner" dpos,
      .If tE' [.Expr (.Call (.Name "inner" q7) es0 [] q8) q9] [] ipos, .Return (some rE) rpos]) (hcl : fd.closure = []) (hsc : fd.scope.names = scIO) (hglob : fd.globals = mainGlobals) (hblt : fd.builtins = builtinsNs)
    (hcode : ∀ h, K.In h → h.CodeRec fd.code fd.qualname) (hcd : fd.code = .ref c) (hC : ∀ h, K.In h → CodeHd h c Pt) (hP : (Pt, fd.qualname ++ ".<locals>." ++ "inner") ∈ tl) (htl : (tl.map (·.1)).Nodup)
    (hbind : ∀ a b : Value, bindArgs fd ⟨[a, b], []⟩ = pure [(("a" : Str), a), (("n" : Str), b)])
    (hscI : scopeI.names = scII) (hd0 : params.defaults = []) (hk0 : params.kw_defaults = []) (ha : ∀ env, annTrees params none env = [])
    (hbindI : ∀ (body : List Stmt) clos doc pm cv ctv, ∀ a b c : Value, bindArgs (fnX "inner" (fd.qualname ++ ".<locals>." ++ "inner") params body scopeI clos .none .none doc pm none cv ctv) ⟨[a, b, c], []⟩ = pure [(("x" : Str), a), (("L" : Str), b), (("R" : Str), c)])
    (hcoI : scopeI.isCoroutine = false) (hgenI : scopeI.isGenerator = false) (hkI : scopeI.kind = .function)
    (hX : ∀ (TT : Tabs) B1 m, InnerTexts prog w TT B1 m s1 s2 s3 s4 s5 es1 es2 q1 q4)
    (h0 : ∀ (TT : Tabs) B1 m, Tp TT GL K B1 → DenS prog w TT B1 m scIO s0 F_o1) (ht : ∀ (TT : Tabs) B1 m, DenT prog w TT B1 m scIO tE' (tE (dV 0))) (he : ∀ (TT : Tabs) B1 m, Tp TT GL K B1 → DenEs prog w TT B1 m scIO es0 [dV 0, dI 0, dCall gLen [dV 2]]) (hr : ∀ (TT : Tabs) B1 m, DenE prog w TT B1 m scIO rE (dV 2))
    (hco : fd.scope.isCoroutine = false := by rfl) (hgen : fd.scope.isGenerator = false := by rfl) (hk : fd.scope.kind = .function := by rfl) :
    FnC prog w (tabsOf tl) GL K 62 (fun ws => call (.ref fa) ws) gInt := by
  intro A ok s xs ws T B i hfr r v e Q Err P
  unfold gInt at e
  split at e
  · split at e
    · rename_i az nz hz
      cases e
      obtain ⟨a, rfl⟩ := Int.eq_ofNat_of_zero_le hz.1
      obtain ⟨nn, rfl⟩ := Int.eq_ofNat_of_zero_le (show 0 ≤ nz by omega)
      rw [Int.toNat_natCast, Int.toNat_natCast] at hz P
      obtain ⟨_, z1, z2, z3, z4⟩ := hz
      have z1' : 1 ≤ nn := by omega
      have z2' : nn < 10000 := by omega
      have hnd : (fd.scope.names.map (·.1)).Nodup := by rw [hsc]; decide
      have hps : PsM fd.scope.names ["a", "n"] [0, 1] := by rw [hsc]; exact .cons rfl (.inl rfl) (.cons rfl (.inr rfl) .nil)
      have hfree : ∀ y ∈ fd.scope.names, y.2 ≠ .free := by rw [hsc]; decide
      refine fn_enter (n := 61) (pn := ["a", "n"]) (ps := [0, 1]) hK hd hb hcl hnd hfree hglob hblt hcode (fun ws hl => ?_) hps T B i hfr r rfl (fun env M h₁ tk ok1 Err' hes hec heq hsub hsup B1 kp S => ?_) hco hgen hk
      · match ws, hl with
        | [a, b], _ => exact hbind a b
      · have hE : bindE [0, 1] fd.scope.names.length [.int a, .int nn] = [some (.int a), some (.int nn), none, none, none] := by rw [hsc]; rfl
        rw [hE] at S
        have hen : env.scope.names = scIO := by rw [hes]; exact hsc
        refine wpAny_execs_cons (h0 _ s.heap 61 T _ env M [] ok1 [] _ { s with heap := h₁, toks := tk } B1 hen S _ _ _ (F_o1_eq z1' z2' (by omega)) _ Err' fun fl ρ' ok2 h₂ tk₂ N2 S2 fr => ?_)
        cases fr
        obtain ⟨D, rfl⟩ := one_left (σ := []) S2
        have hcells : ∀ x, (x, NameKind.free) ∈ scopeI.names → ∃ a, env.cells.lookup x = some a := fun x hx => by
          rw [hscI] at hx
          have : x = "a_digits" ∨ x = "inner" ∨ x = "n" := by
            have all : ∀ p ∈ scII, p.2 = NameKind.free → p.1 = ("a_digits" : Str) ∨ p.1 = ("inner" : Str) ∨ p.1 = ("n" : Str) := by decide
            exact all _ hx rfl
          rcases this with rfl | rfl | rfl
          · obtain ⟨a, _, _, e, _⟩ := S2.ev.cells 2 "a_digits" .cell (by rw [hen]; rfl) (.inl rfl); exact ⟨a, e⟩
          · obtain ⟨a, _, _, e, _⟩ := S2.ev.cells 3 "inner" .cell (by rw [hen]; rfl) (.inl rfl); exact ⟨a, e⟩
          · obtain ⟨a, _, _, e, _⟩ := S2.ev.cells 1 "n" .cell (by rw [hen]; rfl) (.inl rfl); exact ⟨a, e⟩
        obtain ⟨clos, hclos, hlook⟩ := closure_of hcells
        have T2 := T.kp S2.s0.good.keep
        have hq : qualnameIn env "inner" "inner" = fd.qualname ++ ".<locals>." ++ "inner" := by
          unfold qualnameIn Env.kindOf
          rw [hen, heq]
          rfl
        refine wpAny_execs_cons (def_step (s := { s with heap := h₂, toks := tk₂ }) (npos := dpos) (i := 3) S2 htl (by rw [hen]; decide) T2 (hec.trans hcd) (hC _ T2.kin) hP hq hclos (.cel rfl (by rw [hen]; rfl)) hd0 hk0 (ha env)
          fun f cv ctv doc pm h₃ tk₃ hf okf N3 S3 hfo => ?_)
        have hE3 : [some (VV.int a), some (.int nn), some (.lst 0), none, none].set 3 (some (.raw (.ref f))) = [some (.int a), some (.int nn), some (.lst 0), some (.raw (.ref f)), none] := rfl
        rw [hE3] at S3
        let q : Str := fd.qualname ++ ".<locals>." ++ "inner"
        let fi : FuncData := fnX "inner" q params [s1, s2, s3, s4, s5, .Expr (.Call (.Name "inner" q1) es1 [] q2) q3, .Expr (.Call (.Name "inner" q4) es2 [] q5) q6] scopeI clos .none .none doc pm none cv ctv
        have inI : ∀ (j : Nat) x, scII[j]? = some (x, NameKind.free) → (x, NameKind.free) ∈ scopeI.names := fun j x e => by rw [hscI]; exact List.mem_of_getElem? e
        have J : Stand2 ((tabsOf tl).also cv q) f D fi nn h₃ := by
          refine ⟨⟨_, hfo, by nofun, rfl⟩, ?_, ?_, ?_⟩
          · obtain ⟨a, o, v₀, f1, f2, f3, f4, r⟩ := S3.ev.cells 2 "a_digits" .cell (by rw [hen]; rfl) (.inl rfl)
            obtain ⟨w, rfl, q⟩ := r _ rfl
            cases q with
            | lst hr =>
            cases hr
            exact ⟨a, o, (hlook _ (inI 7 _ rfl)).trans f1, f2, f3, f4⟩
          · obtain ⟨a, o, v₀, f1, f2, f3, f4, r⟩ := S3.ev.cells 3 "inner" .cell (by rw [hen]; rfl) (.inl rfl)
            obtain ⟨w, rfl, q⟩ := r _ rfl
            cases q
            exact ⟨a, o, (hlook _ (inI 8 _ rfl)).trans f1, f2, f3, f4⟩
          · obtain ⟨a, o, v₀, f1, f2, f3, f4, r⟩ := S3.ev.cells 1 "n" .cell (by rw [hen]; rfl) (.inl rfl)
            obtain ⟨w, rfl, q⟩ := r _ rfl
            cases q with
            | int _ t => exact ⟨a, o, t, (hlook _ (inI 9 _ rfl)).trans f1, f2, f3, f4⟩
        have T3 : Tp ((tabsOf tl).also cv q) GL K s.heap := T.also
        have hD0 : s.heap.get? D = none := S3.oldn D (List.mem_singleton.mpr rfl)
        have does := i2d_rec (prog := prog) (w := w) (TT := (tabsOf tl).also cv q) (B0 := s.heap) (f := f) (D := D) (fd := fi) (nn := nn) T3 hD0 rfl hscI rfl rfl (fun h I => I.2) (hbindI _ clos doc pm cv ctv) z2' hcoI hgenI hkI (fun m => hX _ _ m) 60
        -- the end: a_digits comes back
        have fin : ∀ {ns : List Int} {h₄ : Heap} {tk₄ : Nat}, ns = dg nn a (dgN nn a) → SV ((tabsOf tl).also cv q) s.heap env [D] ok2 [some (.int a), some (.int nn), some (.lst 0), some (.raw (.ref f)), none] [.list (ns.map .int)] M h₄ →
            wpAny (model prog w) (A.deeper env) (execs [.Return (some rE) rpos] env) (fun fl s' => Q (match fl with | .ret v => v | _ => .none) s') Err' { s with heap := h₄, toks := tk₄ } := by
          intro ns h₄ tk₄ hns S4
          refine wpAny_execs_cons (wpAny_Return_some ?_)
          refine hr _ s.heap 61 (A.deeper env) env [D] ok2 _ _ { s with heap := h₄, toks := tk₄ } B1 hen S4.s0 S4.ev (.lst 0) rfl _ _ fun wv h₅ tk₅ k₅ i₅ qv => ?_
          have S5 := S4.keep k₅ i₅
          have hfz : frz 8 [.list (ns.map .int)] (.lst 0) = some (.lv (ns.map .int)) := by
            show (frzL (frz 7 _) (ns.map .int)).map VV.lv = _
            rw [frzL_ints]; rfl
          refine P wv h₅ tk₅ S5.s0.good.keep i₅.1 ?_
          rw [← hns]
          refine frz_vr (fun b o e hb => hsub b (N2.sub b hb)) (fun j vo b ej eb => ?_) 8 _ _ _ hfz qv
          obtain ⟨b', eb', o⟩ := S5.s0.objs j vo ej
          rw [eb] at eb'; cases eb'
          exact ⟨o, hfr b (S5.oldn b (List.mem_of_getElem? eb))⟩
        refine wpAny_execs_cons (wpAny_If ?_)
        refine ht _ s.heap 61 (A.deeper env) env [D] ok2 _ _ { s with heap := h₃, toks := tk₃ } B1 hen S3.s0 S3.ev (decide ((a : Int) ≠ 0)) rfl _ _ fun h₄ tk₄ k₄ i₄ => ?_
        have S4 := S3.keep k₄ i₄
        have J4 := J.keep S3.s0.good.inv k₄
        by_cases ha0 : a = 0
        · subst ha0
          rw [if_neg (by decide)]
          refine wpAny_execs_nil (fin ?_ S4)
          have : dgN nn 0 = 0 := by
            unfold dgN
            have : Builtin.Int.intBits ((0 : Nat) : Int) = 0 := by decide
            rw [this]
            exact Nat.div_eq_of_lt (by omega)
          rw [this]; rfl
        · have hdec : decide ((a : Int) ≠ 0) = true := by simp [ha0]
          rw [hdec, if_pos rfl]
          have hpos : 0 < dgN nn a := by
            rcases Nat.eq_zero_or_pos (dgN nn a) with h | h
            · have := dgN_enough (n := nn) (a := a) z1'
              rw [h, Nat.mul_zero] at this
              omega
            · exact h
          have hlenr : (List.replicate (dgN nn a) (0 : Int)).length = dgN nn a := by simp
          refine callstep (s := { s with heap := h₄, toks := tk₄ }) (k := 60) (j := 3) (x := a) (l := 0) (r := dgN nn a) B1 hen (d_cel 3 rfl rfl (.inl rfl)) (he _ s.heap 61 T3) does S4 J4 rfl ?_ (by rw [hlenr]; exact z3) (by rw [hlenr]; omega) hpos (by rw [hlenr]; exact Nat.le_refl _) (by omega) (dgN_enough z1') fun h₅ tk₅ k₅ S5 J5 => ?_
          · have hl : ((List.replicate (dgN nn a) (0 : Int)).map VV.int).length = dgN nn a := by simp
            have hll : (List.replicate (dgN nn a) (0 : Int)).map VV.int ≠ [] := fun q => by rw [q] at hl; simp at hl; omega
            generalize (List.replicate (dgN nn a) (0 : Int)).map VV.int = zs at hl
            have hc : dCall gLen [dV 2] [some (VV.int a), some (.int nn), some (.lst 0), some (.raw (.ref f)), none] [.list zs] = some (.int (dgN nn a : Nat)) := by
              show ((if zs.length ≤ 16777216 then some (zs.length : Int) else none).map VV.int) = _
              rw [if_pos (by omega), hl]
              rfl
            simp only [evs]
            rw [hc]
            rfl
          · refine wpAny_execs_nil (fin ?_ S5)
            unfold put
            rw [dg_length]
            simp
    · cases e
  · cases e
end
end Mine
namespace Mine

-- _div2n1n: its first branch alone
noncomputable def F_d2n : StF := sSeq (sIf (tCmp (cmI fun a b => decide (a ≤ b)) (dBin (opI gSub) (dUn gBits (dV 0)) (dV 2)) (dI 4000)) (sRet (dCall gDivmod [dV 0, dV 1])) sNil) sNo
noncomputable def gD2n : List VV → Option VV
  | [.int a, .int b, .int n] => if (Builtin.Int.intBits a : Int) - n ≤ 4000 ∧ b ≠ 0 ∧ b.natAbs < lim9 then some (.tup [.int (a.fdiv b), .int (a.fmod b)]) else none
  | _ => none
theorem F_d2n_eq {a b n : Int} {E : Lo} {H : Hp} (h1 : (Builtin.Int.intBits a : Int) - n ≤ 4000) (h2 : b ≠ 0 ∧ b.natAbs < lim9) :
    F_d2n (some (.int a) :: some (.int b) :: some (.int n) :: E) H = some (.ret (.tup [.int (a.fdiv b), .int (a.fmod b)]), some (.int a) :: some (.int b) :: some (.int n) :: E, H) := by
  have t : tCmp (cmI fun a b => decide (a ≤ b)) (dBin (opI gSub) (dUn gBits (dV 0)) (dV 2)) (dI 4000) (some (.int a) :: some (.int b) :: some (.int n) :: E) H = some true := by
    show (some (decide ((Builtin.Int.intBits a : Int) - n ≤ 4000)) : Option Bool) = _
    rw [decide_eq_true h1]
  have d : dCall gDivmod [dV 0, dV 1] (some (.int a) :: some (.int b) :: some (.int n) :: E) H = some (.tup [.int (a.fdiv b), .int (a.fmod b)]) := by
    show (if b ≠ 0 ∧ b.natAbs < lim9 then some (VV.tup [.int (a.fdiv b), .int (a.fmod b)]) else none) = _
    rw [if_pos h2]
  unfold F_d2n sSeq sIf
  rw [t]
  show ((sRet (dCall gDivmod [dV 0, dV 1]) (some (.int a) :: some (.int b) :: some (.int n) :: E) H).bind _) = _
  unfold sRet
  rw [d]
  rfl

-- _divmod_pos
noncomputable def B_dmp : StF := sSeq (sAsg (.tp [7, 4]) (dCall (gP gD2n) [dBin (opI gAdd) (dBin (opI gShl) (dV 4) (dV 2)) (dV 6), dV 1, dV 2])) (sApp (dV 5) (dV 7))
theorem B_dmp_eq {a b n d r : Nat} {ads : VV} {x7 x8 : Option VV} {qs : List VV} {E : Lo} (hb : 0 < b) (hr : r < b) (hn : n ≤ 4000) (hb9 : b < lim9) (hd : d < 2 ^ n) (hbn : b < 2 ^ n) (hq : qs.length ≤ 1000000) :
    B_dmp (some (.int a) :: some (.int b) :: some (.int n) :: some ads :: some (.int r) :: some (.lst 0) :: some (.int d) :: x7 :: x8 :: E) [.list qs] =
      some (.next, some (.int a) :: some (.int b) :: some (.int n) :: some ads :: some (.int ((r * 2 ^ n + d) % b : Nat)) :: some (.lst 0) :: some (.int d) :: some (.int ((r * 2 ^ n + d) / b : Nat)) :: x8 :: E, [.list (qs ++ [.int ((r * 2 ^ n + d) / b : Nat)])]) := by
  have h1 : gShl (r : Int) (n : Int) = some ((r * 2 ^ n : Nat) : Int) := by
    unfold gShl
    rw [if_pos ⟨by omega, by omega, by rw [Int.natAbs_natCast]; omega⟩, Int.toNat_natCast]
    congr 1
  have hbits : (Builtin.Int.intBits ((r * 2 ^ n + d : Nat) : Int) : Int) - n ≤ 4000 := by
    have h2 : r * 2 ^ n + d < 2 ^ (n + n) := by
      have : r + 1 ≤ 2 ^ n := by omega
      have := Nat.mul_le_mul_right (2 ^ n) this
      rw [Nat.add_mul, Nat.one_mul, ← Nat.pow_add] at this
      omega
    have h3 : Builtin.Int.intBits ((r * 2 ^ n + d : Nat) : Int) ≤ n + n := by
      unfold Builtin.Int.intBits
      split
      · omega
      · rename_i h0
        rw [Int.natAbs_natCast]
        have hne : r * 2 ^ n + d ≠ 0 := by
          intro h; rw [h] at h0; exact h0 rfl
        have := (Nat.log2_lt hne).mpr h2
        omega
    omega
  have h4 : gP gD2n [.int ((r * 2 ^ n : Nat) + (d : Int)), .int b, .int n] [.list qs] = some (.tup [.int ((r * 2 ^ n + d) / b : Nat), .int ((r * 2 ^ n + d) % b : Nat)]) := by
    have e : ((r * 2 ^ n : Nat) : Int) + d = ((r * 2 ^ n + d : Nat) : Int) := by omega
    rw [e]
    generalize r * 2 ^ n + d = t at hbits ⊢
    show gD2n [.int t, .int b, .int n] = _
    show (if (Builtin.Int.intBits (t : Int) : Int) - (n : Int) ≤ 4000 ∧ (b : Int) ≠ 0 ∧ (b : Int).natAbs < lim9 then some (VV.tup [.int ((t : Int).fdiv b), .int ((t : Int).fmod b)]) else none) = _
    rw [if_pos ⟨hbits, by omega, by rw [Int.natAbs_natCast]; exact hb9⟩]
    rw [Int.fdiv_eq_ediv_of_nonneg _ (by omega), Int.fmod_eq_emod_of_nonneg _ (by omega), ← Int.natCast_ediv, ← Int.natCast_emod]
  generalize (r * 2 ^ n + d) / b = q at h4 ⊢
  generalize (r * 2 ^ n + d) % b = m at h4 ⊢
  generalize r * 2 ^ n = sh at h1 h4
  have hc : dCall (gP gD2n) [dBin (opI gAdd) (dBin (opI gShl) (dV 4) (dV 2)) (dV 6), dV 1, dV 2] (some (.int a) :: some (.int b) :: some (.int n) :: some ads :: some (.int r) :: some (.lst 0) :: some (.int d) :: x7 :: x8 :: E) [.list qs] = some (.tup [.int q, .int m]) := by
    have hs : dBin (opI gAdd) (dBin (opI gShl) (dV 4) (dV 2)) (dV 6) (some (.int a) :: some (.int b) :: some (.int n) :: some ads :: some (.int r) :: some (.lst 0) :: some (.int d) :: x7 :: x8 :: E) [.list qs] = some (.int ((sh : Int) + d)) := by
      show ((((gShl (r : Int) n).map VV.int).bind fun x => opI gAdd x (.int d) [.list qs])) = _
      rw [h1]; rfl
    unfold dCall
    simp only [evs]
    rw [hs]
    exact h4
  unfold B_dmp sSeq sAsg
  rw [hc]
  show ((onList (.lst 0) [.list qs] fun xs => if xs.length ≤ 1000000 then some (xs ++ [VV.int q]) else none).map _) = _
  have ho : onList (.lst 0) [.list qs] (fun xs => if xs.length ≤ 1000000 then some (xs ++ [VV.int q]) else none) = some [.list (qs ++ [.int q])] := by
    show ((if qs.length ≤ 1000000 then some (qs ++ [VV.int q]) else none).map fun ys => [VO.list qs].set 0 (.list ys)) = _
    rw [if_pos hq]; rfl
  rw [ho]
  rfl
end Mine
namespace Mine

noncomputable def NoBrk (body : StF) : Prop := ∀ E H r E' H', body E H = some (r, E', H') → r = .next
theorem sAsg_no {tg : Tg} {f : EvF} : NoBrk (sAsg tg f) := fun E H r E' H' e => by
  refine bindSome e fun v _ e => ?_
  refine mapSome e fun E1 _ e => ?_
  cases e; rfl
theorem sApp_no {fo fe : EvF} : NoBrk (sApp fo fe) := fun E H r E' H' e => by
  refine bindSome e fun v _ e => ?_
  refine bindSome e fun x _ e => ?_
  refine mapSome e fun H1 _ e => ?_
  cases e; rfl
theorem sSeq_no {f g : StF} (hf : NoBrk f) (hg : NoBrk g) : NoBrk (sSeq f g) := fun E H r E' H' e => by
  obtain ⟨⟨r1, E1, H1⟩, e1, e⟩ := Option.bind_eq_some_iff.mp e
  have := hf _ _ _ _ _ e1
  subst this
  exact hg _ _ _ _ _ e
theorem forF_app {body : StF} (hbd : NoBrk body) {tg : Tg} {ys : List VV} : ∀ {xs : List VV} {E E1 : Lo} {H H1 : Hp}, forF body tg xs E H = some (.next, E1, H1) → forF body tg (xs ++ ys) E H = forF body tg ys E1 H1
  | [], E, E1, H, H1, h => by cases h; rfl
  | x :: xs, E, E1, H, H1, h => by
    simp only [List.cons_append, forF] at h ⊢
    refine bindSome h fun E2 e2 h => ?_
    obtain ⟨⟨r, E3, H3⟩, e3, h⟩ := Option.bind_eq_some_iff.mp h
    rw [e2, Option.bind_some, e3, Option.bind_some]
    have := hbd _ _ _ _ _ e3
    subst this
    exact forF_app hbd h
theorem B_dmp_no : NoBrk B_dmp := sSeq_no sAsg_no sApp_no

noncomputable def nval (n : Nat) : List Nat → Nat
  | [] => 0
  | d :: ds => d + 2 ^ n * nval n ds
noncomputable def qdg (n b : Nat) : List Nat → List Nat
  | [] => []
  | d :: ds => ((nval n ds % b) * 2 ^ n + d) / b :: qdg n b ds
theorem qdg_val (n b : Nat) (hb : 0 < b) : ∀ ds, nval n (qdg n b ds) = nval n ds / b
  | [] => by simp [nval, qdg]
  | d :: ds => by
    simp only [qdg, nval]
    rw [qdg_val n b hb ds]
    have h := Nat.div_add_mod (nval n ds) b
    generalize nval n ds / b = q at h ⊢
    generalize nval n ds % b = r at h ⊢
    rw [← h]
    have e : d + 2 ^ n * (b * q + r) = b * (2 ^ n * q) + (r * 2 ^ n + d) := by
      rw [Nat.mul_add, Nat.mul_comm r, ← Nat.mul_assoc, ← Nat.mul_assoc, Nat.mul_comm b]
      omega
    rw [e, Nat.mul_add_div hb]
    omega
theorem qdg_mod (n b d : Nat) (ds : List Nat) : ((nval n ds % b) * 2 ^ n + d) % b = nval n (d :: ds) % b := by
  simp only [nval]
  rw [Nat.add_mod, Nat.mod_mul_mod, ← Nat.add_mod, Nat.mul_comm, Nat.add_comm]
theorem qdg_lt {n b : Nat} (hb : 0 < b) : ∀ ds, (∀ d ∈ ds, d < 2 ^ n) → ∀ q ∈ qdg n b ds, q < 2 ^ n
  | [], _, q, h => by cases h
  | d :: ds, hd, q, h => by
    simp only [qdg] at h
    rcases List.mem_cons.mp h with rfl | h
    · have h0 := hd d List.mem_cons_self
      have h1 : nval n ds % b < b := Nat.mod_lt _ hb
      refine Nat.div_lt_of_lt_mul ?_
      have : (nval n ds % b + 1) * 2 ^ n ≤ b * 2 ^ n := Nat.mul_le_mul_right _ h1
      rw [Nat.add_mul, Nat.one_mul] at this
      omega
    · exact qdg_lt hb ds (fun x hx => hd x (List.mem_cons_of_mem _ hx)) q h
theorem qdg_length (n b : Nat) : ∀ ds, (qdg n b ds).length = ds.length
  | [] => rfl
  | d :: ds => by simp only [qdg, List.length_cons, qdg_length n b ds]
noncomputable def vN (l : List Nat) : List VV := l.map fun x : Nat => .int (x : Int)
theorem dmp_loop {a b n : Nat} {ads : VV} {x6 x7 x8 : Option VV} {E : Lo} (hb : 0 < b) (hn : n ≤ 4000) (hb9 : b < lim9) (hbn : b < 2 ^ n) : ∀ (ds : List Nat), (∀ d ∈ ds, d < 2 ^ n) → ds.length ≤ 1000 →
    ∃ y6 y7, forF B_dmp (.nm 6) (vN ds.reverse) (some (.int a) :: some (.int b) :: some (.int n) :: some ads :: some (.int (0 : Nat)) :: some (.lst 0) :: x6 :: x7 :: x8 :: E) [.list []] =
      some (.next, (some (.int a) :: some (.int b) :: some (.int n) :: some ads :: some (.int (nval n ds % b : Nat)) :: some (.lst 0) :: y6 :: y7 :: x8 :: E), [.list (vN (qdg n b ds).reverse)])
  | [], _, _ => ⟨x6, x7, by simp [vN, forF, nval, qdg]⟩
  | d :: ds, hd, hl => by
    obtain ⟨y6, y7, ih⟩ := dmp_loop (x6 := x6) (x7 := x7) (x8 := x8) (E := E) (a := a) (ads := ads) hb hn hb9 hbn ds (fun x hx => hd x (List.mem_cons_of_mem _ hx)) (by simp only [List.length_cons] at hl; omega)
    refine ⟨some (.int d), some (.int ((nval n ds % b * 2 ^ n + d) / b : Nat)), ?_⟩
    have e : vN (d :: ds).reverse = vN ds.reverse ++ [.int (d : Int)] := by simp [vN]
    rw [e, forF_app B_dmp_no ih]
    have hB := B_dmp_eq (a := a) (ads := ads) (x7 := y7) (x8 := x8) (qs := vN (qdg n b ds).reverse) (E := E) hb (Nat.mod_lt (nval n ds) hb) hn hb9 (hd d List.mem_cons_self) hbn (by
      simp only [vN, List.length_map, List.length_reverse, qdg_length]
      simp only [List.length_cons] at hl; omega)
    have hset : bindT (.nm 6) (.int (d : Int)) (some (.int a) :: some (.int b) :: some (.int n) :: some ads :: some (.int (nval n ds % b : Nat)) :: some (.lst 0) :: y6 :: y7 :: x8 :: E) =
      some (some (.int a) :: some (.int b) :: some (.int n) :: some ads :: some (.int (nval n ds % b : Nat)) :: some (.lst 0) :: some (.int d) :: y7 :: x8 :: E) := rfl
    simp only [forF]
    rw [hset, Option.bind_some, hB, Option.bind_some, qdg_mod]
    have e2 : vN (qdg n b (d :: ds)).reverse = vN (qdg n b ds).reverse ++ [.int ((nval n ds % b * 2 ^ n + d) / b : Nat)] := by simp [vN, qdg]
    rw [e2]
end Mine
namespace Mine

noncomputable def dgNat (n x : Nat) : Nat → List Nat
  | 0 => []
  | k + 1 => x % 2 ^ n :: dgNat n (x / 2 ^ n) k
theorem dg_nat (n : Nat) : ∀ (k x : Nat), dg n x k = (dgNat n x k).map fun d : Nat => (d : Int)
  | 0, _ => rfl
  | k + 1, x => by simp only [dg, dgNat, List.map_cons, dg_nat n k]
theorem dgNat_lt (n : Nat) : ∀ (k x : Nat), ∀ d ∈ dgNat n x k, d < 2 ^ n
  | 0, _, d, h => by cases h
  | k + 1, x, d, h => by
    simp only [dgNat] at h
    rcases List.mem_cons.mp h with rfl | h
    · exact Nat.mod_lt _ (Nat.two_pow_pos n)
    · exact dgNat_lt n k _ d h
theorem dgNat_length (n : Nat) : ∀ (k x : Nat), (dgNat n x k).length = k
  | 0, _ => rfl
  | k + 1, x => by simp only [dgNat, List.length_cons, dgNat_length n k]
theorem dgNat_val (n : Nat) : ∀ (k x : Nat), x < 2 ^ (n * k) → nval n (dgNat n x k) = x
  | 0, x, h => by simp at h; simp [dgNat, nval, h]
  | k + 1, x, h => by
    simp only [dgNat, nval]
    rw [dgNat_val n k (x / 2 ^ n) (Nat.div_lt_of_lt_mul (by rw [Nat.mul_succ, Nat.add_comm, Nat.pow_add] at h; exact h))]
    have := Nat.div_add_mod x (2 ^ n)
    omega
theorem dval_nat (n : Nat) : ∀ ds : List Nat, dval n (ds.map fun d : Nat => (d : Int)) = (nval n ds : Nat)
  | [] => rfl
  | d :: ds => by
    simp only [List.map_cons, dval, nval]
    rw [dval_nat n ds, Int.natCast_add, Int.natCast_mul, Int.natCast_pow]
    rfl
theorem vN_eq (l : List Nat) : vN l = (l.map fun d : Nat => (d : Int)).map .int := by
  unfold vN; rw [List.map_map]; rfl

noncomputable def F_dmp : StF := sSeq (sAsg (.nm 2) (dUn gBits (dV 1))) (sSeq (sAsg (.nm 3) (dCall (gP gInt) [dV 0, dV 2])) (sSeq (sAsg (.nm 4) (dI 0)) (sSeq (sAsgL 5 (evs [])) (sSeq (sFor (.nm 6) (dItR (dV 3)) B_dmp) (sSeq (sRev (dV 5))
  (sSeq (sAsg (.nm 8) (dCall (gM gDig) [dV 5, dV 2])) (sRet (dTup [dV 8, dV 4]))))))))
noncomputable def gDmp : List VV → Option VV
  | [.int a, .int b] => if 0 ≤ a ∧ 1 ≤ b ∧ Builtin.Int.intBits b * dgN (Builtin.Int.intBits b) a.toNat ≤ 4000 ∧ Builtin.Int.intBits b ≤ 4000 ∧ dgN (Builtin.Int.intBits b) a.toNat ≤ 60 then some (.tup [.int (a / b), .int (a % b)]) else none
  | _ => none
theorem sSeq_next {f g : StF} {E E1 : Lo} {H H1 : Hp} (h : f E H = some (.next, E1, H1)) : sSeq f g E H = g E1 H1 := by unfold sSeq; rw [h]; rfl
theorem F_dmp_eq {a b : Nat} (hb : 1 ≤ b) {n k : Nat} (hn : n = Builtin.Int.intBits (b : Int)) (hk : k = dgN n a) (h1 : n * k ≤ 4000) (h2 : n ≤ 4000) (h3 : k ≤ 60) {x4 x5 x6 x7 x8 x2 x3 : Option VV} {E : Lo} :
    ∃ E', F_dmp (some (.int a) :: some (.int b) :: x2 :: x3 :: x4 :: x5 :: x6 :: x7 :: x8 :: E) [] = some (.ret (.tup [.int (a / b : Nat), .int (a % b : Nat)]), E', [.list (vN (qdg n b (dgNat n a k)))]) := by
  have hbn : b < 2 ^ n := by rw [hn]; exact bits_lt b
  have hb9 : b < lim9 := lt_lim9 (k := n) hbn (by omega)
  have hn1 : 1 ≤ n := by
    rcases Nat.eq_zero_or_pos n with h | h
    · rw [h] at hbn; omega
    · exact h
  have hval : nval n (dgNat n a k) = a := dgNat_val n k a (by rw [hk]; exact dgN_enough hn1)
  have hlen := dgNat_length n k a
  have e1 : sAsg (.nm 2) (dUn gBits (dV 1)) (some (.int a) :: some (.int b) :: x2 :: x3 :: x4 :: x5 :: x6 :: x7 :: x8 :: E) [] = some (.next, some (.int a) :: some (.int b) :: some (.int n) :: x3 :: x4 :: x5 :: x6 :: x7 :: x8 :: E, []) := by
    rw [hn]; rfl
  have g2 : gInt [.int a, .int n] = some (.lv ((dg n a k).map .int)) := by
    show (if 0 ≤ (a : Int) ∧ 1 ≤ (n : Int) ∧ (n : Int) < 10000 ∧ (n : Int).toNat * dgN (n : Int).toNat (a : Int).toNat ≤ 4000 ∧ dgN (n : Int).toNat (a : Int).toNat ≤ 60 then some (VV.lv ((dg (n : Int).toNat (a : Int).toNat (dgN (n : Int).toNat (a : Int).toNat)).map .int)) else none) = _
    rw [Int.toNat_natCast, Int.toNat_natCast, ← hk, if_pos ⟨by omega, by omega, by omega, h1, h3⟩]
  generalize hads : VV.lv ((dg n a k).map .int) = ads at g2
  have e2 : sAsg (.nm 3) (dCall (gP gInt) [dV 0, dV 2]) (some (.int a) :: some (.int b) :: some (.int n) :: x3 :: x4 :: x5 :: x6 :: x7 :: x8 :: E) [] = some (.next, some (.int a) :: some (.int b) :: some (.int n) :: some ads :: x4 :: x5 :: x6 :: x7 :: x8 :: E, []) := by
    have : dCall (gP gInt) [dV 0, dV 2] (some (.int a) :: some (.int b) :: some (.int n) :: x3 :: x4 :: x5 :: x6 :: x7 :: x8 :: E) [] = some ads := by
      show gInt [.int a, .int n] = _
      exact g2
    unfold sAsg; rw [this]; rfl
  have e3 : sAsg (.nm 4) (dI 0) (some (.int a) :: some (.int b) :: some (.int n) :: some ads :: x4 :: x5 :: x6 :: x7 :: x8 :: E) [] = some (.next, some (.int a) :: some (.int b) :: some (.int n) :: some ads :: some (.int (0 : Nat)) :: x5 :: x6 :: x7 :: x8 :: E, []) := rfl
  have e4 : sAsgL 5 (evs []) (some (.int a) :: some (.int b) :: some (.int n) :: some ads :: some (.int (0 : Nat)) :: x5 :: x6 :: x7 :: x8 :: E) [] = some (.next, some (.int a) :: some (.int b) :: some (.int n) :: some ads :: some (.int (0 : Nat)) :: some (.lst 0) :: x6 :: x7 :: x8 :: E, [.list []]) := rfl
  obtain ⟨y6, y7, hloop⟩ := dmp_loop (a := a) (b := b) (n := n) (ads := ads) (x6 := x6) (x7 := x7) (x8 := x8) (E := E) hb h2 hb9 hbn (dgNat n a k) (dgNat_lt n k a) (by omega)
  have e5 : sFor (.nm 6) (dItR (dV 3)) B_dmp (some (.int a) :: some (.int b) :: some (.int n) :: some ads :: some (.int (0 : Nat)) :: some (.lst 0) :: x6 :: x7 :: x8 :: E) [.list []] =
      some (.next, some (.int a) :: some (.int b) :: some (.int n) :: some ads :: some (.int (a % b : Nat)) :: some (.lst 0) :: y6 :: y7 :: x8 :: E, [.list (vN (qdg n b (dgNat n a k)).reverse)]) := by
    have : dItR (dV 3) (some (.int a) :: some (.int b) :: some (.int n) :: some ads :: some (.int (0 : Nat)) :: some (.lst 0) :: x6 :: x7 :: x8 :: E) [.list []] = some (vN (dgNat n a k).reverse) := by
      rw [← hads]
      show (if ((dg n a k).map VV.int).length ≤ 16777216 then some ((dg n a k).map VV.int).reverse else none) = _
      rw [if_pos (by rw [List.length_map, dg_length]; omega), dg_nat, ← vN_eq]
      unfold vN
      rw [List.map_reverse]
    unfold sFor
    rw [this, Option.bind_some, hloop, hval]
  have e6 : sRev (dV 5) (some (.int a) :: some (.int b) :: some (.int n) :: some ads :: some (.int (a % b : Nat)) :: some (.lst 0) :: y6 :: y7 :: x8 :: E) [.list (vN (qdg n b (dgNat n a k)).reverse)] =
      some (.next, some (.int a) :: some (.int b) :: some (.int n) :: some ads :: some (.int (a % b : Nat)) :: some (.lst 0) :: y6 :: y7 :: x8 :: E, [.list (vN (qdg n b (dgNat n a k)))]) := by
    have hr : (vN (qdg n b (dgNat n a k)).reverse).reverse = vN (qdg n b (dgNat n a k)) := by unfold vN; rw [← List.map_reverse, List.reverse_reverse]
    have hl : (vN (qdg n b (dgNat n a k)).reverse).length ≤ 1000000 := by unfold vN; rw [List.length_map, List.length_reverse, qdg_length]; omega
    generalize vN (qdg n b (dgNat n a k)).reverse = zs at hr hl
    show ((if zs.length ≤ 1000000 then some zs.reverse else none).map fun ys => [VO.list zs].set 0 (.list ys)).map _ = _
    rw [if_pos hl, hr]
    rfl
  have g7 : dCall (gM gDig) [dV 5, dV 2] (some (.int a) :: some (.int b) :: some (.int n) :: some ads :: some (.int (a % b : Nat)) :: some (.lst 0) :: y6 :: y7 :: x8 :: E) [.list (vN (qdg n b (dgNat n a k)))] = some (.int (a / b : Nat)) := by
    have hf : frzL (frz 8 [.list (vN (qdg n b (dgNat n a k)))]) [.lst 0, .int n] = some [.lv (vN (qdg n b (dgNat n a k))), .int n] := by
      have : frzL (frz 7 [.list (vN (qdg n b (dgNat n a k)))]) (vN (qdg n b (dgNat n a k))) = some (vN (qdg n b (dgNat n a k))) := by
        rw [vN_eq]; exact frzL_ints 6 _ _
      show (((frzL (frz 7 _) (vN (qdg n b (dgNat n a k)))).map VV.lv).bind _) = _
      rw [this]; rfl
    have hg : gDig [.lv (vN (qdg n b (dgNat n a k))), .int n] = some (.int (a / b : Nat)) := by
      rw [vN_eq]
      show ((asInts (((qdg n b (dgNat n a k)).map fun d : Nat => (d : Int)).map .int)).bind fun ns => if 0 ≤ (n : Int) ∧ ns.all (fun d => decide (d.natAbs < 2 ^ (n : Int).toNat)) = true ∧ (n : Int).toNat * ns.length ≤ 4000 ∧ ns.length ≤ 60 then some (VV.int (dval (n : Int).toNat ns)) else none) = _
      have hall : ((qdg n b (dgNat n a k)).map fun d : Nat => (d : Int)).all (fun d => decide (d.natAbs < 2 ^ n)) = true := by
        rw [List.all_eq_true]
        intro d hd
        obtain ⟨q, hq, rfl⟩ := List.mem_map.mp hd
        simpa using qdg_lt hb _ (dgNat_lt n k a) q hq
      have hl : ((qdg n b (dgNat n a k)).map fun d : Nat => (d : Int)).length = k := by rw [List.length_map, qdg_length, hlen]
      have hv : dval n ((qdg n b (dgNat n a k)).map fun d : Nat => (d : Int)) = (a / b : Nat) := by rw [dval_nat, qdg_val n b hb, hval]
      generalize (qdg n b (dgNat n a k)).map (fun d : Nat => (d : Int)) = zs at hall hl hv
      rw [asInts_map]
      show (if 0 ≤ (n : Int) ∧ zs.all (fun d => decide (d.natAbs < 2 ^ n)) = true ∧ n * zs.length ≤ 4000 ∧ zs.length ≤ 60 then some (VV.int (dval n zs)) else none) = _
      rw [if_pos ⟨Int.natCast_nonneg n, hall, by rw [hl]; exact h1, by rw [hl]; exact h3⟩, hv]
    unfold dCall
    show (gM gDig [.lst 0, .int n] _) = _
    unfold gM
    rw [hf, Option.bind_some, hg]
    rfl
  refine ⟨some (.int a) :: some (.int b) :: some (.int n) :: some ads :: some (.int (a % b : Nat)) :: some (.lst 0) :: y6 :: y7 :: some (.int (a / b : Nat)) :: E, ?_⟩
  unfold F_dmp
  rw [sSeq_next e1, sSeq_next e2, sSeq_next e3, sSeq_next e4, sSeq_next e5, sSeq_next e6]
  unfold sSeq sAsg
  rw [g7]
  rfl
end Mine
namespace Mine

structure TopFn (K : Frag) (fa : Addr) (fd : FuncData) (body : List Stmt) (sc : Sc) (pn : List Str) (ps : List Nat) : Prop where
  look : ∃ fo, K.lookup fa = some fo ∧ fo.data = .func fd
  body : fd.body = .stmts body
  clo : fd.closure = []
  names : fd.scope.names = sc
  nd : (sc.map (·.1)).Nodup
  nofree : ∀ y ∈ sc, y.2 ≠ .free
  glob : fd.globals = mainGlobals
  blt : fd.builtins = builtinsNs
  code : ∀ h, K.In h → h.CodeRec fd.code fd.qualname
  bind : ∀ ws : List Value, ws.length = pn.length → bindArgs fd ⟨ws, []⟩ = pure (pn.zip ws)
  ps : PsM sc pn ps
  co : fd.scope.isCoroutine = false
  gen : fd.scope.isGenerator = false
  kind : fd.scope.kind = .function

section
variable {prog : Program} {w : World} {TT : Tabs} {n : Nat} {sc : Sc} {GL : List (Str × Value)} {K : Frag} {fa : Addr} {fd : FuncData} {body : List Stmt} {pn : List Str} {ps : List Nat}
theorem TopFn.fnc (X : TopFn K fa fd body sc pn ps) {F : StF} {g : List VV → Option VV} (hbody : ∀ B1, Tp TT GL K B1 → DenSs prog w TT B1 n sc body F)
    (hg : ∀ xs v, g xs = some v → xs.length = pn.length ∧ ∃ r E' H', F (bindE ps sc.length xs) [] = some (r, E', H') ∧ outF r H' = some v) : FnC prog w TT GL K (n + 1) (fun ws => call (.ref fa) ws) g := by
  obtain ⟨fo, hK, hd⟩ := X.look
  have hn := X.names
  subst hn
  exact fn_call hK hd X.body X.clo X.nd X.nofree X.glob X.blt X.code X.bind X.ps hbody hg X.co X.gen X.kind

theorem d2n_fnc (X : TopFn K fa fd body sc pn [0, 1, 2]) {k : Nat} (hl : sc.length = k + 3) (hp : pn.length = 3) (hbody : ∀ B1, Tp TT GL K B1 → DenSs prog w TT B1 n sc body F_d2n) : FnC prog w TT GL K (n + 1) (fun ws => call (.ref fa) ws) gD2n := by
  refine X.fnc hbody fun xs v e => ?_
  unfold gD2n at e
  split at e
  · split at e
    · rename_i a b m hz
      cases e
      have h := F_d2n_eq (a := a) (b := b) (n := m) (E := List.replicate k none) (H := []) hz.1 hz.2
      exact ⟨hp.symm, _, _, _, (by rw [hl]; exact h), rfl⟩
    · cases e
  · cases e
theorem dmp_fnc (X : TopFn K fa fd body sc pn [0, 1]) {E : Lo} (hl : ∀ x y : VV, bindE [0, 1] sc.length [x, y] = some x :: some y :: none :: none :: none :: none :: none :: none :: none :: E) (hp : pn.length = 2) (hbody : ∀ B1, Tp TT GL K B1 → DenSs prog w TT B1 n sc body F_dmp) :
    FnC prog w TT GL K (n + 1) (fun ws => call (.ref fa) ws) gDmp := by
  refine X.fnc hbody fun xs v e => ?_
  unfold gDmp at e
  split at e
  · split at e
    · rename_i a b hz
      cases e
      obtain ⟨a, rfl⟩ := Int.eq_ofNat_of_zero_le hz.1
      obtain ⟨b, rfl⟩ := Int.eq_ofNat_of_zero_le (show 0 ≤ b by omega)
      rw [Int.toNat_natCast] at hz
      obtain ⟨E', h⟩ := F_dmp_eq (a := a) (b := b) (by omega) rfl rfl hz.2.2.1 hz.2.2.2.1 hz.2.2.2.2 (x2 := none) (x3 := none) (x4 := none) (x5 := none) (x6 := none) (x7 := none) (x8 := none) (E := E)
      refine ⟨hp.symm, _, E', _, (by rw [hl]; exact h), ?_⟩
      rw [← Int.natCast_ediv, ← Int.natCast_emod]
      rfl
    · cases e
  · cases e
end

-- int_divmod
noncomputable def F_idm (g : List VV → Hp → Option VV) : StF :=
  sIf (tCmp (cmI fun a b => decide (a = b)) (dV 1) (dI 0)) sNo (sIf (tCmp (cmI fun a b => decide (a < b)) (dV 1) (dI 0)) (sSeq (sAsg (.tp [2, 3]) (dCall g [dUn opNeg (dV 0), dUn opNeg (dV 1)])) (sRet (dTup [dV 2, dUn opNeg (dV 3)])))
    (sIf (tCmp (cmI fun a b => decide (a < b)) (dV 0) (dI 0)) (sSeq (sAsg (.tp [2, 3]) (dCall g [dUn opInv (dV 0), dV 1])) (sRet (dTup [dUn opInv (dV 2), dBin (opI gAdd) (dV 1) (dUn opInv (dV 3))]))) (sRet (dCall (gP gDmp) [dV 0, dV 1]))))
end Mine
namespace Mine

noncomputable abbrev szOk (A B : Nat) : Prop := Builtin.Int.intBits (B : Int) * dgN (Builtin.Int.intBits (B : Int)) A ≤ 4000 ∧ Builtin.Int.intBits (B : Int) ≤ 4000 ∧ dgN (Builtin.Int.intBits (B : Int)) A ≤ 60
theorem q_asgT {is : List Nat} {f : EvF} {E : Lo} {H : Hp} {vs : List VV} (h : f E H = some (.tup vs)) (hl : is.length = vs.length) : sAsg (.tp is) f E H = some (.next, setL is vs E, H) := by
  unfold sAsg
  rw [h, Option.bind_some]
  show (if is.length = vs.length then some (setL is vs E) else none).map _ = _
  rw [if_pos hl]
  rfl
theorem F_idm0 {g : List VV → Hp → Option VV} {a b : Int} {E : Lo} {H : Hp} {v : VV} (ha : 0 ≤ a) (hb : 0 < b) (hv : gP gDmp [.int a, .int b] H = some v) :
    F_idm g (some (.int a) :: some (.int b) :: E) H = some (.ret v, some (.int a) :: some (.int b) :: E, H) := by
  have h1 : ¬ b = 0 := by omega
  have h2 : ¬ b < 0 := by omega
  have h3 : ¬ a < 0 := by omega
  unfold F_idm
  refine (q_if (c := false) (congrArg some (decide_eq_false h1))).trans ((if_neg (by decide)).trans ((q_if (c := false) (congrArg some (decide_eq_false h2))).trans ((if_neg (by decide)).trans ((q_if (c := false) (congrArg some (decide_eq_false h3))).trans ((if_neg (by decide)).trans (q_ret ?_))))))
  exact hv
theorem F_idm1 {g : List VV → Hp → Option VV} {a b q r : Int} {x y : Option VV} {E : Lo} {H : Hp} (ha : a < 0) (hb : 0 < b) (hv : g [.int (-a - 1), .int b] H = some (.tup [.int q, .int r])) :
    F_idm g (some (.int a) :: some (.int b) :: x :: y :: E) H = some (.ret (.tup [.int (-q - 1), .int (b + (-r - 1))]), some (.int a) :: some (.int b) :: some (.int q) :: some (.int r) :: E, H) := by
  have h1 : ¬ b = 0 := by omega
  have h2 : ¬ b < 0 := by omega
  unfold F_idm
  refine (q_if (c := false) (congrArg some (decide_eq_false h1))).trans ((if_neg (by decide)).trans ((q_if (c := false) (congrArg some (decide_eq_false h2))).trans ((if_neg (by decide)).trans ((q_if (c := true) (congrArg some (decide_eq_true ha))).trans ((if_pos rfl).trans
    ((q_seqN (E1 := some (.int a) :: some (.int b) :: some (.int q) :: some (.int r) :: E) (q_asgT (vs := [.int q, .int r]) hv rfl)).trans (q_ret rfl)))))))
theorem F_idm2 {g : List VV → Hp → Option VV} {a b q r : Int} {x y : Option VV} {E : Lo} {H : Hp} (hb : b < 0) (hv : g [.int (-a), .int (-b)] H = some (.tup [.int q, .int r])) :
    F_idm g (some (.int a) :: some (.int b) :: x :: y :: E) H = some (.ret (.tup [.int q, .int (-r)]), some (.int a) :: some (.int b) :: some (.int q) :: some (.int r) :: E, H) := by
  have h1 : ¬ b = 0 := by omega
  unfold F_idm
  refine (q_if (c := false) (congrArg some (decide_eq_false h1))).trans ((if_neg (by decide)).trans ((q_if (c := true) (congrArg some (decide_eq_true hb))).trans ((if_pos rfl).trans
    ((q_seqN (E1 := some (.int a) :: some (.int b) :: some (.int q) :: some (.int r) :: E) (q_asgT (vs := [.int q, .int r]) hv rfl)).trans (q_ret rfl)))))
noncomputable def gI0 : List VV → Option VV
  | [.int a, .int b] => if 0 ≤ a ∧ 0 < b ∧ szOk a.toNat b.toNat then some (.tup [.int (a.fdiv b), .int (a.fmod b)]) else none
  | _ => none
noncomputable def gI1 : List VV → Option VV
  | [.int a, .int b] => if 0 < b ∧ szOk (if a < 0 then (-a - 1).toNat else a.toNat) b.toNat then some (.tup [.int (a.fdiv b), .int (a.fmod b)]) else none
  | _ => none
noncomputable def gIdm : List VV → Option VV
  | [.int a, .int b] => if b ≠ 0 ∧ szOk (if 0 < b then (if a < 0 then (-a - 1).toNat else a.toNat) else (if 0 < a then (a - 1).toNat else (-a).toNat)) b.natAbs then some (.tup [.int (a.fdiv b), .int (a.fmod b)]) else none
  | _ => none
theorem fdiv_low {a b : Int} (ha : a < 0) (hb : 0 < b) : a.fdiv b = -((-a - 1) / b) - 1 ∧ a.fmod b = b + (-((-a - 1) % b) - 1) := by
  have h1 := Int.mul_ediv_add_emod (-a - 1) b
  have h2 := Int.emod_nonneg (-a - 1) (show b ≠ 0 by omega)
  have h3 := Int.emod_lt_of_pos (-a - 1) hb
  have h4 := Int.mul_ediv_add_emod a b
  have h5 := Int.emod_nonneg a (show b ≠ 0 by omega)
  have h6 := Int.emod_lt_of_pos a hb
  rw [Int.fdiv_eq_ediv_of_nonneg _ (by omega), Int.fmod_eq_emod_of_nonneg _ (by omega)]
  generalize (-a - 1) / b = q at *
  generalize (-a - 1) % b = r at *
  generalize a / b = q' at *
  generalize a % b = r' at *
  have e : b * (q + q' + 1) = b - 1 - r - r' := by rw [Int.mul_add, Int.mul_add, Int.mul_one]; omega
  have hz : q + q' + 1 = 0 := by
    rcases Int.lt_trichotomy (q + q' + 1) 0 with h | h | h
    · have : b * (q + q' + 1) ≤ b * (-1) := Int.mul_le_mul_of_nonneg_left (by omega) (by omega)
      omega
    · exact h
    · have : b * 1 ≤ b * (q + q' + 1) := Int.mul_le_mul_of_nonneg_left (by omega) (by omega)
      omega
  rw [hz, Int.mul_zero] at e
  omega
end Mine
namespace Mine
section
variable {prog : Program} {w : World} {TT : Tabs} {n : Nat} {sc : Sc} {GL : List (Str × Value)} {K : Frag} {fa : Addr} {fd : FuncData} {body : List Stmt} {pn : List Str}
theorem gP_ints {g : List VV → Option VV} {a b : Int} {H : Hp} : gP g [.int a, .int b] H = g [.int a, .int b] := rfl
theorem idm_fnc (X : TopFn K fa fd body sc pn [0, 1]) {E : Lo} (hl : ∀ x y : VV, bindE [0, 1] sc.length [x, y] = some x :: some y :: none :: none :: E) (hp : pn.length = 2)
    (hbody : ∀ B1 m g, 63 ≤ m → Tp TT GL K B1 → OpF prog w TT B1 m (fun ws => call (.ref fa) ws) g → DenSs prog w TT B1 m sc body (F_idm g)) : FnC prog w TT GL K 66 (fun ws => call (.ref fa) ws) gIdm := by
  have L0 : FnC prog w TT GL K 64 (fun ws => call (.ref fa) ws) gI0 := by
    refine X.fnc (n := 63) (fun B1 T => hbody B1 63 (fun _ _ => none) (Nat.le_refl _) T (fun A ρ ok H s xs ws B S r v e => by cases e)) fun xs v e => ?_
    unfold gI0 at e
    split at e
    · split at e
      · rename_i a b hz
        cases e
        have hv : gP gDmp [.int a, .int b] [] = some (.tup [.int (a / b), .int (a % b)]) := by
          rw [gP_ints]
          unfold gDmp
          have e : ((b.toNat : Nat) : Int) = b := Int.toNat_of_nonneg (by omega)
          have z := hz.2.2
          unfold szOk at z
          rw [e] at z
          show (if 0 ≤ a ∧ 1 ≤ b ∧ Builtin.Int.intBits b * dgN (Builtin.Int.intBits b) a.toNat ≤ 4000 ∧ Builtin.Int.intBits b ≤ 4000 ∧ dgN (Builtin.Int.intBits b) a.toNat ≤ 60 then some (VV.tup [.int (a / b), .int (a % b)]) else none) = _
          rw [if_pos ⟨hz.1, by omega, z⟩]
        have h := F_idm0 (g := fun _ _ => none) (E := none :: none :: E) hz.1 hz.2.1 hv
        refine ⟨hp.symm, _, _, _, (by rw [hl]; exact h), ?_⟩
        rw [Int.fdiv_eq_ediv_of_nonneg _ (by omega), Int.fmod_eq_emod_of_nonneg _ (by omega)]
        rfl
      · cases e
    · cases e
  have L1 : FnC prog w TT GL K 65 (fun ws => call (.ref fa) ws) gI1 := by
    refine X.fnc (n := 64) (fun B1 T => hbody B1 64 _ (by decide) T (L0.pure T)) fun xs v e => ?_
    unfold gI1 at e
    split at e
    · rename_i a b
      by_cases hz : 0 < b ∧ szOk (if a < 0 then (-a - 1).toNat else a.toNat) b.toNat
      · rw [if_pos hz] at e
        cases e
        by_cases ha : a < 0
        · rw [if_pos ha] at hz
          have hv : gP gI0 [.int (-a - 1), .int b] [] = some (.tup [.int ((-a - 1).fdiv b), .int ((-a - 1).fmod b)]) := by
            rw [gP_ints]
            show (if 0 ≤ -a - 1 ∧ 0 < b ∧ szOk (-a - 1).toNat b.toNat then some (VV.tup [.int ((-a - 1).fdiv b), .int ((-a - 1).fmod b)]) else none) = _
            rw [if_pos ⟨by omega, hz.1, hz.2⟩]
          have h := F_idm1 (x := none) (y := none) (E := E) (H := []) ha hz.1 hv
          refine ⟨hp.symm, _, _, _, (by rw [hl]; exact h), ?_⟩
          obtain ⟨e1, e2⟩ := fdiv_low ha hz.1
          rw [e1, e2, Int.fdiv_eq_ediv_of_nonneg _ (by omega), Int.fmod_eq_emod_of_nonneg _ (by omega)]
          rfl
        · rw [if_neg ha] at hz
          have hv : gP gDmp [.int a, .int b] [] = some (.tup [.int (a / b), .int (a % b)]) := by
            rw [gP_ints]
            have e : ((b.toNat : Nat) : Int) = b := Int.toNat_of_nonneg (by omega)
            have z := hz.2
            unfold szOk at z
            rw [e] at z
            show (if 0 ≤ a ∧ 1 ≤ b ∧ Builtin.Int.intBits b * dgN (Builtin.Int.intBits b) a.toNat ≤ 4000 ∧ Builtin.Int.intBits b ≤ 4000 ∧ dgN (Builtin.Int.intBits b) a.toNat ≤ 60 then some (VV.tup [.int (a / b), .int (a % b)]) else none) = _
            rw [if_pos ⟨by omega, by omega, z⟩]
          have h := F_idm0 (g := gP gI0) (E := none :: none :: E) (show 0 ≤ a by omega) hz.1 hv
          refine ⟨hp.symm, _, _, _, (by rw [hl]; exact h), ?_⟩
          rw [Int.fdiv_eq_ediv_of_nonneg _ (by omega), Int.fmod_eq_emod_of_nonneg _ (by omega)]
          rfl
      · rw [if_neg hz] at e; cases e
    · cases e
  refine X.fnc (n := 65) (fun B1 T => hbody B1 65 _ (by decide) T (L1.pure T)) fun xs v e => ?_
  unfold gIdm at e
  split at e
  · rename_i a b
    by_cases hz : b ≠ 0 ∧ szOk (if 0 < b then (if a < 0 then (-a - 1).toNat else a.toNat) else (if 0 < a then (a - 1).toNat else (-a).toNat)) b.natAbs
    · rw [if_pos hz] at e
      cases e
      by_cases hb : 0 < b
      · rw [if_pos hb, show b.natAbs = b.toNat by omega] at hz
        by_cases ha : a < 0
        · rw [if_pos ha] at hz
          have hv : gP gI1 [.int (-a - 1), .int b] [] = some (.tup [.int ((-a - 1).fdiv b), .int ((-a - 1).fmod b)]) := by
            rw [gP_ints]
            show (if 0 < b ∧ szOk (if -a - 1 < 0 then (-(-a - 1) - 1).toNat else (-a - 1).toNat) b.toNat then some (VV.tup [.int ((-a - 1).fdiv b), .int ((-a - 1).fmod b)]) else none) = _
            rw [if_neg (show ¬ -a - 1 < 0 by omega), if_pos ⟨hb, hz.2⟩]
          have h := F_idm1 (x := none) (y := none) (E := E) (H := []) ha hb hv
          refine ⟨hp.symm, _, _, _, (by rw [hl]; exact h), ?_⟩
          obtain ⟨e1, e2⟩ := fdiv_low ha hb
          rw [e1, e2, Int.fdiv_eq_ediv_of_nonneg _ (by omega), Int.fmod_eq_emod_of_nonneg _ (by omega)]
          rfl
        · rw [if_neg ha] at hz
          have hv : gP gDmp [.int a, .int b] [] = some (.tup [.int (a / b), .int (a % b)]) := by
            rw [gP_ints]
            have e : ((b.toNat : Nat) : Int) = b := Int.toNat_of_nonneg (by omega)
            have z := hz.2
            unfold szOk at z
            rw [e] at z
            show (if 0 ≤ a ∧ 1 ≤ b ∧ Builtin.Int.intBits b * dgN (Builtin.Int.intBits b) a.toNat ≤ 4000 ∧ Builtin.Int.intBits b ≤ 4000 ∧ dgN (Builtin.Int.intBits b) a.toNat ≤ 60 then some (VV.tup [.int (a / b), .int (a % b)]) else none) = _
            rw [if_pos ⟨by omega, by omega, z⟩]
          have h := F_idm0 (g := gP gI1) (E := none :: none :: E) (show 0 ≤ a by omega) hb hv
          refine ⟨hp.symm, _, _, _, (by rw [hl]; exact h), ?_⟩
          rw [Int.fdiv_eq_ediv_of_nonneg _ (by omega), Int.fmod_eq_emod_of_nonneg _ (by omega)]
          rfl
      · rw [if_neg hb] at hz
        have hb' : b < 0 := by omega
        have hsz : szOk (if -a < 0 then (-(-a) - 1).toNat else (-a).toNat) (-b).toNat := by
          have e1 : (-b).toNat = b.natAbs := by omega
          have e2 : (if -a < 0 then (-(-a) - 1).toNat else (-a).toNat) = (if 0 < a then (a - 1).toNat else (-a).toNat) := by
            by_cases h : 0 < a
            · rw [if_pos h, if_pos (by omega), Int.neg_neg]
            · rw [if_neg h, if_neg (by omega)]
          rw [e1, e2]; exact hz.2
        have hv : gP gI1 [.int (-a), .int (-b)] [] = some (.tup [.int ((-a).fdiv (-b)), .int ((-a).fmod (-b))]) := by
          rw [gP_ints]
          show (if 0 < -b ∧ szOk (if -a < 0 then (-(-a) - 1).toNat else (-a).toNat) (-b).toNat then some (VV.tup [.int ((-a).fdiv (-b)), .int ((-a).fmod (-b))]) else none) = _
          rw [if_pos ⟨by omega, hsz⟩]
        have h := F_idm2 (x := none) (y := none) (E := E) (H := []) hb' hv
        refine ⟨hp.symm, _, _, _, (by rw [hl]; exact h), ?_⟩
        rw [Int.neg_fdiv_neg, Int.neg_fmod_neg, Int.neg_neg]
        rfl
    · rw [if_neg hz] at e; cases e
  · cases e
end
end Mine
namespace Mine

noncomputable def notRaw : VV → Bool
  | .raw _ => false
  | _ => true
noncomputable def fieldOf (fs : List (Str × VV)) (name : Str) : Option VV := (fs.lookup name).bind fun v => if notRaw v = true then some v else none
noncomputable def gAttr (C : Addr) (name : Str) : VV → Hp → Option VV
  | .inst C' fs, _ => if C' = C then fieldOf fs name else none
  | .ins C' j, H => if C' = C then (match H[j]? with | some (.ns fs) => fieldOf fs name | _ => none) else none
  | _, _ => none
theorem keyed_get {h : Heap} {ρ : List Addr} {ok : Addr → Prop} {name : Str} {v : VV} {fs : List (Str × VV)} : ∀ {es : List DictEntry}, Keyed fs es → VRs h ρ ok (fs.map (·.2)) (es.map (·.val)) → fs.lookup name = some v → ∃ e, es.find? (·.key.isStr name) = some e ∧ VR h ρ ok v e.val := by
  induction fs with
  | nil => intro es kd r hl; cases hl
  | cons f fs ih =>
    intro es kd r hl
    cases es with
    | nil => exact False.elim kd
    | cons e es =>
    have q := VRs.head r
    have r := VRs.tail r
    obtain ⟨⟨t, hk⟩, kd⟩ := kd
    rw [List.lookup_cons] at hl
    rw [List.find?_cons]
    by_cases hx : name = f.1
    · subst hx
      rw [beq_self_eq_true] at hl
      cases hl
      have h2 : e.key.isStr f.1 = true := by rw [hk]; exact beq_self_eq_true _
      rw [h2]
      exact ⟨e, rfl, q⟩
    · have hb : (name == f.1) = false := beq_eq_false_iff_ne.mpr hx
      rw [hb] at hl
      have h2 : e.key.isStr name = false := by rw [hk]; exact beq_eq_false_iff_ne.mpr (Ne.symm hx)
      rw [h2]
      exact ih kd r hl
theorem handed {h : Heap} {ρ : List Addr} {ok : Addr → Prop} {v : VV} {w : Value} (q : VR h ρ ok v w) (hr : notRaw v = true) : handedIn w = true := by
  cases q <;> first | rfl | cases hr

section
variable {prog : Program} {w : World} {TT : Tabs} {B0 : Heap} {n : Nat} {sc : Sc} {GL : List (Str × Value)} {K : Frag}
theorem d_attr (T : Tp TT GL K B0) {C : Addr} {name : Str} {attr : Option Value} (hg : plainGet K C name = true) (hh : hasDictIn K C = true) (ha : findIn K (.ref C) name = some attr) (hn : noGet K attr = true) {o : Expr} {fo : EvF} {pos : Pos} (ho : DenE prog w TT B0 n sc o fo)
    (he : ∀ env, eval (.Attribute o name pos) env = (do
      let ov ← eval o env
      standAt pos.atName
      let r ← holding [ov] (getAttr ov name true)
      letTemporaryGo o ov r
      pure r) := by intro _; with_unfolding_all rfl) : DenE prog w TT B0 n sc (.Attribute o name pos) (dUn (gAttr C name) fo) := by
  intro A env ρ ok H E s B hs S V v e Q Err P
  refine bindSome e fun x hx e => ?_
  refine Attribute_any_ ?_ (he env)
  refine ho A env ρ ok H E s B hs S V _ hx _ _ fun wo h₁ tk₁ k₁ i₁ q => ?_
  have S1 := S.keep k₁ i₁
  have X := (T.kp S1.good.keep).kin
  have read : ∀ {a d : Addr} {fs : List (Str × VV)} {es : List DictEntry} {m : Nat}, wo = .ref a → h₁.get? a = some (W.instObj C d) → h₁.get? d = some (W.dictOf es m) → Keyed fs es → VRs h₁ ρ ok (fs.map (·.2)) (es.map (·.val)) → fieldOf fs name = some v →
      wpAny (model prog w) A (getAttr wo name true) Q Err { s with heap := h₁, toks := tk₁ } := by
    intro a d fs es m hwo h1 h2 kd r hf
    subst hwo
    refine bindSome hf fun u hu hf => ?_
    split at hf
    · rename_i hr
      cases hf
      obtain ⟨en, hen, qv⟩ := keyed_get kd r hu
      have hget : getL name es = some (some en.val) := by unfold getL; rw [hen]
      have I : InstAt h₁ a (W.instObj C d) C (some (W.dictOf es m)) := ⟨h1, rfl, rfl, h2⟩
      exact get_value (s := { s with heap := h₁, toks := tk₁ }) X I (plainGet_of hg).1 (findObj_own hh ha hn (by rw [lookIn_dict]; exact hget)) (handed qv hr) (P _ h₁ _ k₁ i₁ qv)
    · cases hf
  cases q with
  | inst h1 h2 o1 o2 kd r =>
    rename_i a d C' fs es m
    have e' : (if C' = C then fieldOf fs name else none) = some v := e
    split at e'
    · rename_i hC
      subst hC
      exact read rfl h1 h2 kd r e'
    · cases e'
  | ins h1 o1 hr =>
    rename_i C' j a d
    have e' : (if C' = C then (match H[j]? with | some (.ns fs) => fieldOf fs name | _ => none) else none) = some v := e
    split at e'
    · rename_i hC
      subst hC
      cases qj : H[j]? with
      | none => rw [qj] at e'; cases e'
      | some vo =>
        rw [qj] at e'
        cases vo with
        | list xs => cases e'
        | ns fs =>
          obtain ⟨d', ed, es, m, e1, kd, r⟩ := S1.objs j _ qj
          rw [hr] at ed; cases ed
          exact read rfl h1 e1 kd r e'
    · cases e'
  | _ => cases e
end
end Mine
namespace Mine

noncomputable def isInst (C : Addr) (name : Str) : VV → Bool
  | .inst C' fs => decide (C' = C) && (fs.lookup name).isNone
  | _ => false
noncomputable def dMeth (C : Addr) (name : Str) (g : List VV → Hp → Option VV) (fo : EvF) (fs : List EvF) : EvF := fun E H => (fo E H).bind fun v => (evs fs E H).bind fun xs => if isInst C name v = true then g (v :: xs) H else none
theorem keyed_none {name : Str} {fs : List (Str × VV)} : ∀ {es : List DictEntry}, Keyed fs es → fs.lookup name = none → es.find? (·.key.isStr name) = none ∧ es.any (·.refKey) = false := by
  induction fs with
  | nil =>
    intro es kd hl
    cases es with
    | nil => exact ⟨rfl, rfl⟩
    | cons e es => exact False.elim kd
  | cons f fs ih =>
    intro es kd hl
    cases es with
    | nil => exact False.elim kd
    | cons e es =>
    obtain ⟨⟨t, hk⟩, kd⟩ := kd
    rw [List.lookup_cons] at hl
    have hx : name ≠ f.1 := fun q => by
      rw [q, beq_self_eq_true] at hl; cases hl
    have hb : (name == f.1) = false := beq_eq_false_iff_ne.mpr hx
    rw [hb] at hl
    obtain ⟨i1, i2⟩ := ih kd hl
    have h2 : e.key.isStr name = false := by rw [hk]; exact beq_eq_false_iff_ne.mpr (Ne.symm hx)
    have h3 : e.refKey = false := by unfold DictEntry.refKey; rw [hk]
    rw [List.find?_cons, h2, List.any_cons, h3]
    exact ⟨i1, i2⟩
theorem len1 {P : List Value → Prop} (h : ∀ a, P [a]) (ws : List Value) (hl : ws.length = 1) : P ws := by
  obtain ⟨a, rfl⟩ := List.length_eq_one_iff.mp hl
  exact h a
theorem len2 {P : List Value → Prop} (h : ∀ a b, P [a, b]) (ws : List Value) (hl : ws.length = 2) : P ws := by
  cases ws with
  | nil => cases hl
  | cons a ws => exact len1 (P := fun ws => P (a :: ws)) (h a) ws (Nat.succ.inj hl)
theorem len3 {P : List Value → Prop} (h : ∀ a b c, P [a, b, c]) (ws : List Value) (hl : ws.length = 3) : P ws := by
  cases ws with
  | nil => cases hl
  | cons a ws => exact len2 (P := fun ws => P (a :: ws)) (h a) ws (Nat.succ.inj hl)
theorem len4 {P : List Value → Prop} (h : ∀ a b c d, P [a, b, c, d]) (ws : List Value) (hl : ws.length = 4) : P ws := by
  cases ws with
  | nil => cases hl
  | cons a ws => exact len3 (P := fun ws => P (a :: ws)) (h a) ws (Nat.succ.inj hl)
section
variable {prog : Program} {w : World} {TT : Tabs} {B0 : Heap} {n : Nat} {sc : Sc} {GL : List (Str × Value)} {K : Frag}
theorem d_meth (T : Tp TT GL K B0) {C f : Addr} {name : Str} (hg : plainGet K C name = true) (hf : findIn K (.ref C) name = some (some (.ref f))) (ht : isFn K (.ref f) = true) (hk : keepIn K (.ref f) = true) {o : Expr} {fo : EvF} {es : List Expr} {fs : List EvF} {g : List VV → Hp → Option VV} {apos cpos : Pos}
    (ho : DenE prog w TT B0 n sc o fo) (hfs : DenEs prog w TT B0 n sc es fs) (hgf : OpF prog w TT B0 n (fun ws => call (.ref f) ws) g) (hm : ∀ env, ∃ pl, MethEq o name apos cpos es env pl := by intro _; exact ⟨_, rfl⟩) :
    DenE prog w TT B0 n sc (.Call (.Attribute o name apos) es [] cpos) (dMeth C name g fo fs) := by
  intro A env ρ ok H E s B hs S V v e0 Q Err P
  refine bindSome e0 fun x hx e1 => ?_
  refine bindSome e1 fun xs hxs e2 => ?_
  split at e2
  · rename_i hi
    obtain ⟨pl, hm⟩ := hm env
    refine MethodCall_ ?_ hm
    refine ho A env ρ ok H E s B hs S V _ hx _ _ fun wo h₁ tk₁ k₁ i₁ q => ?_
    have S1 := S.keep k₁ i₁
    have X := (T.kp S1.good.keep).kin
    have q0 := q
    cases q with
    | @inst a d C' fs' es' m h1 h2 o1 o2 kd r =>
      simp only [isInst, Bool.and_eq_true, decide_eq_true_eq, Option.isNone_iff_eq_none] at hi
      obtain ⟨hC, hn⟩ := hi
      subst hC
      obtain ⟨n1, n2⟩ := keyed_none kd hn
      have hget : getL name es' = some none := by unfold getL; rw [n1, n2]; rfl
      have I : InstAt h₁ a (W.instObj C' d) C' (some (W.dictOf es' m)) := ⟨h1, rfl, rfl, h2⟩
      refine method_fn (s := { s with heap := h₁, toks := tk₁ }) X I (plainGet_of hg).1 (plainGet_of hg).2 hf (beq_iff_eq.mp ht) (by show (lookIn name (W.dictOf es' m)).map _ = _; rw [lookIn_dict, hget]; rfl) ?_
      refine callWith_v hfs (s := { s with heap := h₁, toks := tk₁ }) (P0 := fun _ => True) B hs S1 (V.keep S.good.inv k₁) (fun h G => keeps_K hk h (T.kp G.keep).kin) hxs fun ws h₂ tk₂ k₂ i₂ r2 => ?_
      exact hgf A ρ ok H { s with heap := h₂, toks := tk₂ } _ (.ref a :: ws) B (S.keep (k₁.trans k₂) i₂) (.cons (q0.keep k₂ i₁) r2) v e2 Q Err (P.after (k₁.trans k₂))
    | _ => cases hi
  · cases e2
end
end Mine
namespace Mine

noncomputable def putF (name : Str) (v : VV) : List (Str × VV) → List (Str × VV)
  | [] => [(name, v)]
  | f :: r => if f.1 = name then (f.1, v) :: r else f :: putF name v r
theorem putF_length (name : Str) (v : VV) : ∀ fs : List (Str × VV), (putF name v fs).length ≤ fs.length + 1
  | [] => Nat.le_refl _
  | f :: r => by
    have := putF_length name v r
    unfold putF
    split
    · simp
    · simpa using this
theorem Keyed.length {fs : List (Str × VV)} : ∀ {es : List DictEntry}, Keyed fs es → fs.length = es.length := by
  induction fs with
  | nil =>
    intro es k
    cases es with
    | nil => rfl
    | cons e es => exact False.elim k
  | cons f fs ih =>
    intro es k
    cases es with
    | nil => exact False.elim k
    | cons e es => rw [List.length_cons, List.length_cons, ih k.2]
theorem Keyed.noref {fs : List (Str × VV)} : ∀ {es : List DictEntry}, Keyed fs es → es.any (·.refKey) = false := by
  induction fs with
  | nil =>
    intro es k
    cases es with
    | nil => rfl
    | cons e es => exact False.elim k
  | cons f fs ih =>
    intro es k
    cases es with
    | nil => exact False.elim k
    | cons e es =>
      obtain ⟨⟨t, hk⟩, kd⟩ := k
      rw [List.any_cons, ih kd]
      unfold DictEntry.refKey
      rw [hk]
      rfl
theorem keyed_put {h : Heap} {ρ : List Addr} {ok : Addr → Prop} {name : Str} {hsh : Int} {t : Tok} {v : VV} {wv : Value} (q : VR h ρ ok v wv) {fs : List (Str × VV)} : ∀ {es : List DictEntry}, Keyed fs es → VRs h ρ ok (fs.map (·.2)) (es.map (·.val)) →
    Keyed (putF name v fs) (putL name hsh (.str name t) wv es) ∧ VRs h ρ ok ((putF name v fs).map (·.2)) ((putL name hsh (.str name t) wv es).map (·.val)) := by
  induction fs with
  | nil =>
    intro es k r
    cases es with
    | nil => exact ⟨⟨⟨t, rfl⟩, trivial⟩, .cons q .nil⟩
    | cons e es => exact False.elim k
  | cons f fs ih =>
    intro es k r
    cases es with
    | nil => exact False.elim k
    | cons e es =>
      have q1 := VRs.head r
      have r := VRs.tail r
      obtain ⟨⟨t', hk⟩, kd⟩ := k
      obtain ⟨i1, i2⟩ := ih kd r
      by_cases hx : f.1 = name
      · have h2 : e.key.isStr name = true := by rw [hk, hx]; exact beq_self_eq_true _
        simp only [putF, putL, hx, h2, if_true]
        exact ⟨⟨⟨t', by rw [hk, hx]⟩, kd⟩, .cons q r⟩
      · have h2 : e.key.isStr name = false := by rw [hk]; exact beq_eq_false_iff_ne.mpr hx
        simp only [putF, putL, hx, h2, if_false, Bool.false_eq_true]
        exact ⟨⟨⟨t', hk⟩, i1⟩, .cons q1 i2⟩

section
variable {prog : Program} {w : World} {TT : Tabs} {B0 : Heap} {n : Nat} {sc : Sc} {GL : List (Str × Value)} {K : Frag}

theorem SV.updN {env : Env} {M ρ : List Addr} {ok : Addr → Prop} {E : Lo} {H : Hp} {h : Heap} {j : Nat} {fs : List (Str × VV)} (S : SV TT B0 env ρ ok E H M h) (hj : H[j]? = some (.ns fs)) :
    ∃ a es k, ρ[j]? = some a ∧ h.get? a = some (W.dictOf es k) ∧ Keyed fs es ∧ VRs h ρ ok (fs.map (·.2)) (es.map (·.val)) ∧ ∀ h' es' k' fs', Heap.SameBut a h h' → h'.get? a = some (W.dictOf es' k') → Keyed fs' es' → VRs h ρ ok (fs'.map (·.2)) (es'.map (·.val)) →
      SV TT B0 env ρ ok E (H.set j (.ns fs')) M h' ∧ Nx TT M ρ ok h ρ ok h' := by
  obtain ⟨a, ea, es, k, e1, kd, r⟩ := S.s0.objs j _ hj
  have ham : a ∈ ρ := List.mem_of_getElem? ea
  have ha : ¬ ok a := S.okn a ham
  have haT : a ∉ TT.TB := notTab S.s0.good.inv e1 (by nofun)
  have haM : a ∉ M := fun q => S.frm.ap.rho a q ham
  refine ⟨a, es, k, ea, e1, kd, r, fun h' ws' k' xs' hs e' kd' r' => ?_⟩
  have hX : ∀ b ∈ [a], ¬ ok b := fun b q => by rw [List.mem_singleton.mp q]; exact ha
  have kp : KP (TT.TB ++ [a]) h h' := KP.ofBut fun b o hb e => hs.extBut b o (fun q => hb (List.mem_singleton.mpr q)) e
  have i' : TT.Inv h' := TT.one S.s0.good.inv haT (fun o e => .of fun vs hd => (by rw [e1] at e; cases e; cases hd)) fun b o hb e => hs.extBut b o hb e
  have cl : ClN env (· ∉ [a]) := fun i x kd b e hk el q => by
    obtain ⟨b', o, v₀, f1, f2, f3, f4, _⟩ := S.ev.cells i x kd e hk
    rw [el] at f1; cases f1
    rw [List.mem_singleton.mp q, e1] at f2
    cases f2
    cases f4
  refine ⟨⟨⟨⟨fun b o n e => kp b o (fun q => (List.mem_append.mp q).elim n fun q => ?_) (S.s0.good.keep b o n e), i'⟩, by rw [List.length_set]; exact S.s0.len, fun i vo ei => ?_, fun b e => ?_⟩,
    S.ev.keepX S.s0.good.inv hX (fun q => haM (by rw [← List.mem_singleton.mp q]; exact S.frm.lM)) cl kp, S.frm, S.nd, S.okn, S.oldn, S.dep⟩, .of (kp.inX fun b q => by rw [List.mem_singleton.mp q]; exact List.mem_append_right _ ham)⟩
  · rw [List.mem_singleton.mp q, S.oldn a ham] at e; cases e
  · by_cases hij : j = i
    · subst hij
      obtain ⟨hl, ei⟩ := List.getElem?_eq_some_iff.mp ei
      rw [List.getElem_set_self] at ei
      subst ei
      exact ⟨a, ea, ws', k', e', kd', r'.keepX hX kp S.s0.good.inv⟩
    · rw [List.getElem?_set_ne hij] at ei
      obtain ⟨b, eb, o⟩ := S.s0.objs i vo ei
      refine ⟨b, eb, o.keepX (fun q => hij ?_) hX kp S.s0.good.inv⟩
      rw [List.mem_singleton.mp q] at eb
      obtain ⟨hl, _⟩ := List.getElem?_eq_some_iff.mp ea
      exact (List.getElem?_inj hl S.nd).mp (ea.trans eb.symm)
  · by_cases hba : b = a
    · rw [hba, e'] at e; cases e
    · rw [hs.2 b hba] at e
      exact S.s0.free b e

noncomputable def fldH (C : Addr) (name : Str) (v : VV) (H : Hp) : VV → Option Hp
  | .ins C' j => if C' = C then (match H[j]? with
    | some (.ns fs) => if fs.length ≤ 100 then some (H.set j (.ns (putF name v fs))) else none
    | _ => none) else none
  | _ => none
noncomputable def sFld (C : Addr) (name : Str) (fo f : EvF) : StF := fun E H => (f E H).bind fun v => (fo E H).bind fun o => (fldH C name v H o).map fun H' => (.next, E, H')
theorem s_fld (T : Tp TT GL K B0) {C : Addr} {name : Str} (hs : findIn K (.ref C) "__setattr__" = some (some (.builtin "object.__setattr__"))) (hp : plainOver K C = true) (ht : takerIn K C name = some none) (hh : hasDictIn K C = true) {o value : Expr} {fo f : EvF} {tpos pos : Pos}
    (hf : DenE prog w TT B0 n sc value f) (ho : DenE prog w TT B0 n sc o fo) (hsw : ∀ env : Env, swapsWith value (some (.Attribute o name tpos)) pos.line env = pure false := by intro _; rfl) :
    DenS prog w TT B0 n sc (.Assign [.Attribute o name tpos] value pos) (sFld C name fo f) := by
  intro A env M ρ ok H E s B hsc S r E' H' ev Q Err P
  refine bindSome ev fun v hv ev => ?_
  refine bindSome ev fun ov hov ev => ?_
  refine mapSome ev fun H1 hH1 ev => ?_
  cases ev
  refine plainObj_wpAny_Assign_Attribute ?_ (hsw env)
  refine hf A env ρ ok H E s B hsc S.s0 S.ev _ hv _ _ fun wv h₁ tk₁ k₁ i₁ q => ?_
  have S1 := S.keep k₁ i₁
  refine ho A env ρ ok H E { s with heap := h₁, toks := tk₁ } B hsc S1.s0 S1.ev _ hov _ _ fun wo h₂ tk₂ k₂ i₂ qo => ?_
  have S2 := S1.keep k₂ i₂
  have q2 := q.keep k₂ i₁
  cases qo with
  | ins h1 o1 hr =>
    rename_i C' j a d
    change (if C' = C then (match H[j]? with | some (.ns fs) => if fs.length ≤ 100 then some (H.set j (.ns (putF name v fs))) else none | _ => none) else none) = some _ at hH1
    split at hH1
    · rename_i hC
      subst hC
      split at hH1
      · rename_i fs hfs
        split at hH1
        · rename_i hlen
          cases hH1
          obtain ⟨d', es, k, ea, e1, kd, rr, up⟩ := S2.updN hfs
          rw [hr] at ea; cases ea
          have X := (T.kp S2.s0.good.keep).kin
          have I : InstAt h₂ a (W.instObj C' d) C' (some (W.dictOf es k)) := ⟨h1, rfl, rfl, e1⟩
          refine set_plain (s := { s with heap := h₂, toks := tk₂ }) X I hs (osa_open (s := { s with heap := h₂, toks := tk₂ + 1 }) X I hp ht fun b => ?_)
          obtain ⟨cd, hc, hd'⟩ := any_some hh
          refine wpAny_bind (wpAny_pure (wpAny_bind (wpAny_bind (wpAny_loadPart h1 (wpAny_bind ((looks_clsIn X hc).here ?_))))))
          rw [hd']
          refine wpAny_pure (a := some d) (wpAny_bind (wpAny_pure (wpAny_bind ?_)))
          unfold nsSet
          refine wpAny_bind (wpAny_bind (wpAny_askSetting (wpAny_pure (wpAny_bind (wpAny_mkText (wpAny_bind (wpAny_loadPart e1 ?_)))))))
          dsimp only
          have c : (!es.any (·.key.isStr name) && es.any (·.refKey)) = false := by rw [kd.noref, Bool.and_false]
          have c' : (!es.toArray.any (·.key.isStr name) && es.toArray.any (·.refKey)) = false := by
            rw [← Array.any_toList, ← Array.any_toList]
            exact c
          rw [aRefKeyMayBeTheName_at, c']
          refine wpAny_updatePart e1 ?_
          obtain ⟨kd2, r2⟩ := keyed_put (name := name) (hsh := PyData.keyHash w.params name) (t := tk₂ + 1) q2 kd rr
          have eu : (h₂.update d (Obj.putName name (PyData.keyHash w.params name) (.str name (tk₂ + 1)) wv)).get? d = some (W.dictOf (putL name (PyData.keyHash w.params name) (.str name (tk₂ + 1)) wv es) (putN name es k)) := by
            rw [← putName_dict]
            exact Heap.get?_update_self _ e1 (by rw [putName_dict]; rfl)
          refine wpAny_bind (wpAny_lookBehind (s := { s with heap := h₂.update d (Obj.putName name (PyData.keyHash w.params name) (.str name (tk₂ + 1)) wv), toks := tk₂ + 2 }) eu (pastItsLine_dict (by
            have l1 := Keyed.length kd2
            have l2 := putF_length name v fs
            rw [List.size_toArray, sizeLine_eq, ← l1]; omega)) ?_)
          obtain ⟨S3, N3⟩ := up _ _ _ (putF name v fs) (Heap.SameBut.update ..) eu kd2 r2
          exact wpAny_pure (P _ _ _ _ _ ((Nx.ofP (k₁.trans k₂)).trans N3 i₂ S.dis S3.frm.ap.rho) S3 .next)
        · cases hH1
      · cases hH1
    · cases hH1
  | _ => cases hH1

theorem d_cattr (T : Tp TT GL K B0) {x y : Str} {C : Addr} {mc : Value} {name : Str} {l : List Nat} {t : Tok} (hr : readsIn K C mc = true) (he : findCls K (.ref C) mc name = some (.val (.str y t))) (hy : y = ⟨l.toArray⟩) (hm : (x, Value.ref C) ∈ GL) (hl : sc.lookup x = some .globalImplicit)
    {pos pos' : Pos} (hd : (x == ("__debug__" : Str)) = false := by decide)
    (hq : ∀ env, eval (.Attribute (.Name x pos') name pos) env = (do
      let ov ← eval (.Name x pos') env
      standAt pos.atName
      let r ← holding [ov] (getAttr ov name true)
      letTemporaryGo (.Name x pos') ov r
      pure r) := by intro _; with_unfolding_all rfl) : DenE prog w TT B0 n sc (.Attribute (.Name x pos') name pos) (dS l) := by
  intro A env ρ ok H E s B hs S V v e Q Err P
  cases e
  subst hy
  refine Attribute_any_ ?_ (hq env)
  refine d_glob (n := n) T.base hm hl hd A env ρ ok H E s B hs S V (.raw (.ref C)) rfl _ _ fun wf h₁ tk₁ k₁ i₁ q => ?_
  cases q.rawI
  have S1 := S.keep k₁ i₁
  have X := (T.kp S1.good.keep).kin
  exact cls_value (s := { s with heap := h₁, toks := tk₁ }) X hr he rfl (P _ h₁ _ k₁ i₁ (.str _ _))
end
end Mine
namespace Mine

section
variable {prog : Program} {w : World} {TT : Tabs} {B0 : Heap} {n : Nat} {sc : Sc} {GL : List (Str × Value)} {K : Frag}

theorem fn_enterG {fa : Addr} {fd : FuncData} {body : List Stmt} {pn : List Str} {ps : List Nat} (X0 : TopFn K fa fd body sc pn ps) {A : Around} {ρ : List Addr} {ok : Addr → Prop} {H : Hp} {s : Shared} {xs : List VV} {ws : List Value} (T : Tp TT GL K B0) (B : Bud A (n + 1))
    (S : SV0 TT B0 ρ ok H s.heap) (nd : ρ.Nodup) (okn : ∀ a ∈ ρ, ¬ ok a) (oldn : ∀ a ∈ ρ, B0.get? a = none) (r : VRs s.heap ρ ok xs ws) (hlen : xs.length = pn.length) {R : Result → Shared → Prop}
    (h : ∀ (env : Env) (M : List Addr) (h₁ : Heap) (tk : Nat) (ok1 : Addr → Prop) (Err' : Value → Shared → Prop), env.scope.names = sc → (∀ a, ok1 a → ok a) → (∀ a o, s.heap.get? a = some o → ok a → ok1 a) → Bud (A.deeper env) n →
      KP TT.TB s.heap h₁ → SV TT B0 env ρ ok1 (bindE ps sc.length xs) H M h₁ →
      wpAny (model prog w) (A.deeper env) (execs body env) (fun fl s' => R (.ok (.ret (match fl with | .ret v => v | _ => .none))) s') Err' { s with heap := h₁, toks := tk }) :
    codeAny (model prog w) A (.call (.ref fa) ⟨ws, []⟩) R s := by
  obtain ⟨⟨fo, hK, hd⟩, hb, hcl, hn, hnd, hfree, hglob, hblt, hcode, hbind, hps, hco, hgen, hk⟩ := X0
  subst hn
  exact fn_enterX hK hd hb hcl hnd hfree hglob hblt hcode hbind hps hco hgen hk T B S nd okn oldn r hlen fun env M h₁ tk ok1 Err' e1 _ _ => h env M h₁ tk ok1 Err' (by rw [e1])

theorem Bud.create {A : Around} (B : Bud A (n + 1)) (C : Addr) (ws : List Value) : Bud (A.under (.builtin "type.__call__" ⟨.ref C :: ws, []⟩)) n := by
  have hw : (Code.builtin "type.__call__" ⟨Value.ref C :: ws, []⟩).weight = 1 := by kernel_rfl
  have hu : (Code.builtin "type.__call__" ⟨Value.ref C :: ws, []⟩).cUnits = 1 := by kernel_rfl
  refine ⟨B.hh, ?_, ?_⟩
  · have := B.depth
    show A.depth + (Code.builtin "type.__call__" ⟨Value.ref C :: ws, []⟩).weight + n < _
    rw [hw]; omega
  · have := B.units
    show A.units + (Code.builtin "type.__call__" ⟨Value.ref C :: ws, []⟩).cUnits + 10 * n + 100 < _
    rw [hu]; omega

theorem make_fnc {C fI : Addr} {fd : FuncData} {body : List Stmt} {pn : List Str} {ps : List Nat} (X0 : TopFn K fI fd body sc pn ps) (hm : makesIn K C = true) (hi : findIn K (.ref C) "__init__" = some (some (.ref fI))) (hf : typeIn K (.ref fI) = some (.type "function")) {F : StF} {g : List VV → Option VV}
    (hbody : ∀ B1, Tp TT GL K B1 → DenSs prog w TT B1 n sc body F)
    (hg : ∀ xs v, g xs = some v → xs.length + 1 = pn.length ∧ ∃ E' H', F (bindE ps sc.length (.ins C 0 :: xs)) [.ns []] = some (.next, E', H') ∧ frz 8 H' (.ins C 0) = some v) : FnC prog w TT GL K (n + 2) (fun ws => call (.ref C) ws) g := by
  intro A ok s xs ws T B i hfr r v e Q Err P
  obtain ⟨hlen, E', H', hF, hfz⟩ := hg xs v e
  obtain ⟨h, gs, dr, t, os⟩ := s
  refine wpAny_call (make_core (makes_of T.kin hm) (looks_findIn T.kin hi) (fun self => bind_fn T.kin self hf) (.inl rfl) ?_)
  have hsz : ∀ b, h.objs.size ≤ b → h.get? b = none := fun b hb => by
    cases q : h.get? b with
    | none => rfl
    | some o => have := Heap.lt_size q; exact absurd this (Nat.not_lt.mpr hb)
  have keep : ∀ b o, h.get? b = some o → ((h.push emptyDict).push (instObj C h.objs.size)).get? b = some o := fun b o e => Heap.get?_push_of_some _ (Heap.get?_push_of_some _ e)
  have hd : ((h.push emptyDict).push (instObj C h.objs.size)).get? h.objs.size = some emptyDict := by heap_get
  have hx : ((h.push emptyDict).push (instObj C h.objs.size)).get? (h.objs.size + 1) = some (instObj C h.objs.size) := by heap_get
  let ok0 : Addr → Prop := Without ok h.objs.size
  have ho0 : ∀ a o, h.get? a = some o → ok a → ok0 a := fun a o e k => ⟨k, fun q => by rw [q, hsz _ (Nat.le_refl _)] at e; cases e⟩
  have hinv := TT.mono _ _ keep i
  have S0 : SV0 TT h [h.objs.size] ok0 [.ns []] ((h.push emptyDict).push (instObj C h.objs.size)) := by
    refine ⟨⟨KP.of keep, hinv⟩, rfl, fun j vo e => ?_, fun a e => ⟨hfr a ?_, fun q => by rw [q, hd] at e; cases e⟩⟩
    · cases j with
      | zero => cases e; exact ⟨_, rfl, [], _, hd, trivial, .nil⟩
      | succ j => cases e
    · cases q : h.get? a with
      | none => rfl
      | some o => rw [keep a o q] at e; cases e
  have q0 : VR ((h.push emptyDict).push (instObj C h.objs.size)) [h.objs.size] ok0 (.ins C 0) (.ref (h.objs.size + 1)) := .ins hx ⟨hfr _ (hsz _ (Nat.le_succ _)), Nat.succ_ne_self _⟩ rfl
  have rr : VRs ((h.push emptyDict).push (instObj C h.objs.size)) [h.objs.size] ok0 (.ins C 0 :: xs) (.ref (h.objs.size + 1) :: ws) :=
    .cons q0 (((r.okm ho0).keep (KP.of keep) i).mono (fun _ _ _ _ e => e) (fun j a e => by cases e) fun _ _ _ h => h)
  refine fn_enterG (s := ⟨(h.push emptyDict).push (instObj C h.objs.size), gs, dr, t, os⟩) X0 T (B.create C ws) S0 (by simp) (fun a ha k => k.2 (List.mem_singleton.mp ha)) (fun a ha => by rw [List.mem_singleton.mp ha]; exact hsz _ (Nat.le_refl _)) rr (by rw [List.length_cons]; exact hlen)
    fun env M h₁ tk ok1 Err' hsc hsub hoo B1 k1 SS => ?_
  refine hbody h T _ env M _ ok1 [.ns []] _ ⟨h₁, gs, dr, tk, os⟩ B1 hsc SS .next E' H' hF _ _ fun fl ρ' ok' h' tk' N S' f => ?_
  cases f
  refine And.intro rfl ?_
  have q1 : VR h₁ [h.objs.size] ok1 (.ins C 0) (.ref (h.objs.size + 1)) := (q0.okm hoo).keep k1 hinv
  have q2 := N.vr SS.s0.good.inv SS.dis q1
  refine P _ h' tk' S'.s0.good.keep S'.s0.good.inv (frz_vr (fun a o e h => (hsub a (N.sub a h)).1) (fun j vo a e ea => ?_) 8 _ _ _ hfz q2)
  obtain ⟨a', ea', o⟩ := S'.s0.objs j vo e
  rw [ea] at ea'; cases ea'
  exact ⟨o, hfr a (S'.oldn a (List.mem_of_getElem? ea))⟩
end
end Mine
namespace Mine

theorem namePos (x : Str) (p : Pos) : (Expr.Name x p).pos = p := rfl
theorem swap_two {sc : Sc} {x y : Str} {px py tp tp' : Pos} {a b : Expr} {tk tk' : Nat} (hx : sc.lookup x = some .local) (hy : sc.lookup y = some .local) (hne : [x, y].eraseDups = [x, y]) (h1 : px.line = py.line)
    (hst : ([a, b].any fun | .Starred .. => true | _ => false) = false := by rfl) (hf : ([a, b].all (foldedForSure 8)) = false := by rfl) (hc : ([a, b].all (constantsAlone 8)) = false := by rfl) :
    ∀ env : Env, env.scope.names = sc → env.scope.kind = .function → swappedStores [.Tuple [.Name x px, .Name y py] tk tp] (.Tuple [a, b] tk' tp') env = pure (some [x, y]) := by
  intro env hs hk
  have kx : env.kindOf x = some .local := by unfold Env.kindOf; rw [hs]; exact hx
  have ky : env.kindOf y = some .local := by unfold Env.kindOf; rw [hs]; exact hy
  have hb : env.blockKind = .function := by unfold Env.blockKind; simp [hk]
  have hb2 : (env.blockKind != .function) = false := by rw [hb]; rfl
  have e1 : (env.kindOf x == some .local && px.line == py.line) = true := by rw [kx, h1]; simp
  have e2 : (env.kindOf y == some .local && py.line == py.line) = true := by rw [ky]; simp
  have e0 : (env.kindOf x == some .local && px.line == px.line) = true := by rw [kx]; simp
  have e3 : (env.kindOf y == some .local && py.line == px.line) = true := by rw [ky, h1]; simp
  unfold swappedStores
  simp only [hb2, List.length_cons, List.length_nil, hf, hc, Bool.or_false, Bool.false_eq_true, if_false, List.head?_cons, Option.map_some, Option.getD_some, namePos, List.filterMap_cons, List.filterMap_nil, e0, e3, if_true]
  rw [hne]
  exact (if_neg (by decide)).trans ((if_neg fun q => Bool.noConfusion (hst.symm.trans q)).trans (if_neg (by simp)))

-- Whitespace.__init__
noncomputable abbrev gcS : List Nat := [32]
noncomputable abbrev gcT : List Nat := [9]
noncomputable def F_ch : StF :=
  sIf (tCmp cmEq (dV 8) (dV 2)) (sSeq (sAsg (.nm 6) (dBin (opI gAdd) (dV 6) (dI 1))) (sAsg (.nm 5) (dBin (opI gAdd) (dV 5) (dI 1))))
    (sIf (tCmp cmEq (dV 8) (dV 3)) (sSeq (sAsg (.nm 6) (dBin (opI gAdd) (dV 6) (dI 1))) (sSeq (sAsg (.nm 7) (dBin (opI gAdd) (dV 7) (dI 1)))
      (sSeq (sIf (tCmp (cmI fun a b => decide (b ≤ a)) (dV 5) (dCall gLen [dV 4])) (sAsgL 4 (dBinL opAddLL (dV 4) (dF (dBinL opMulLL (dF (evs [dI 0])) (dBin (opI gAdd) (dBin (opI gSub) (dV 5) (dCall gLen [dV 4])) (dI 1)))))) sNil)
        (sSeq (sSet (dBin (opI gAdd) (dBin opIdx (dV 4) (dV 5)) (dI 1)) (dV 4) (dV 5)) (sAsg (.nm 5) (dI 0)))))) sBrk)
noncomputable def F_ini (C : Addr) : StF :=
  sSeq (sFld C "raw" (dV 0) (dV 1)) (sSeq (sAsgR [3, 2] (dTup [dS gcS, dS gcT])) (sSeq (sAsgL 4 (evs [])) (sSeq (sAsg3 5 6 7 (dI 0)) (sSeq (sFor (.nm 8) (dIt (dUn (gAttr C "raw") (dV 0))) F_ch)
    (sSeq (sFld C "n" (dV 0) (dV 6)) (sSeq (sFld C "nt" (dV 0) (dV 7)) (sSeq (sFld C "norm" (dV 0) (dTup [dCall gTuple [dV 4], dV 5])) (sFld C "is_simple" (dV 0) (dCmp (cmI fun a b => decide (a ≤ b)) (dCall gLen [dV 4]) (dI 1))))))))))
-- indent_level
noncomputable def F_ind (C : Addr) : StF :=
  sSeq (sAsg (.tp [2, 3]) (dUn (gAttr C "norm") (dV 0))) (sSeq (sAsg (.nm 4) (dI 0)) (sSeq (sFor (.nm 5) (dIt (dCall gRange [dV 1, dCall gLen [dV 2]])) (sAsg (.nm 4) (dBin (opI gAdd) (dV 4) (dBin (opI gMul) (dBin (opI gDiv) (dV 5) (dV 1)) (dBin opIdx (dV 2) (dV 5))))))
    (sRet (dBin (opI gAdd) (dV 3) (dBin (opI gMul) (dV 1) (dBin (opI gAdd) (dV 4) (dUn (gAttr C "nt") (dV 0))))))))
end Mine
namespace Mine

noncomputable abbrev iV (l : List Nat) : List VV := l.map fun (k : Nat) => VV.int (k : Int)
noncomputable def grow (cnt : List Nat) (b : Nat) : List Nat := if cnt.length ≤ b then cnt ++ List.replicate (b - cnt.length + 1) 0 else cnt
noncomputable def bump (cnt : List Nat) (b : Nat) : List Nat := (grow cnt b).set b ((grow cnt b).getD b 0 + 1)
noncomputable def wsGo : List Nat → List Nat → Nat → Nat → Nat → List Nat × Nat × Nat × Nat
  | [], cnt, b, n, nt => (cnt, b, n, nt)
  | c :: cs, cnt, b, n, nt => if c = 32 then wsGo cs cnt (b + 1) (n + 1) nt else if c = 9 then wsGo cs (bump cnt b) 0 (n + 1) (nt + 1) else (cnt, b, n, nt)
theorem grow_length (cnt : List Nat) (b : Nat) : b < (grow cnt b).length ∧ (grow cnt b).length ≤ max cnt.length (b + 1) := by
  unfold grow
  split
  · rw [List.length_append, List.length_replicate]; omega
  · omega
theorem bump_length (cnt : List Nat) (b : Nat) : (bump cnt b).length ≤ max cnt.length (b + 1) := by
  unfold bump
  rw [List.length_set]
  exact (grow_length cnt b).2

theorem sIf_at {t : TvF} {f g : StF} {E : Lo} {H : Hp} {c : Bool} (h : t E H = some c) : sIf t f g E H = if c = true then f E H else g E H := by unfold sIf; rw [h]; rfl
theorem dBin_at {g : VV → VV → Hp → Option VV} {fa fb : EvF} {E : Lo} {H : Hp} {x y : VV} (ha : fa E H = some x) (hb : fb E H = some y) : dBin g fa fb E H = g x y H := by unfold dBin; rw [ha, Option.bind_some, hb, Option.bind_some]
theorem dBinL_at {g : VV → VV → Hp → Option (List VV)} {fa fb : EvF} {E : Lo} {H : Hp} {x y : VV} (ha : fa E H = some x) (hb : fb E H = some y) : dBinL g fa fb E H = g x y H := by unfold dBinL; rw [ha, Option.bind_some, hb, Option.bind_some]
theorem dF_at {f : Lo → Hp → Option (List VV)} {E : Lo} {H : Hp} {xs : List VV} (h : f E H = some xs) : dF f E H = some (.lv xs) := by unfold dF; rw [h]; rfl
theorem sAsgL_at {i : Nat} {f : Lo → Hp → Option (List VV)} {E : Lo} {H : Hp} {xs : List VV} (h : f E H = some xs) : sAsgL i f E H = some (.next, E.set i (some (.lst H.length)), H ++ [.list xs]) := by unfold sAsgL; rw [h]; rfl
theorem sSet_at {f fo fi : EvF} {E : Lo} {H : Hp} {v o : VV} {k : Int} {H' : Hp} (hf : f E H = some v) (ho : fo E H = some o) (hi : fi E H = some (.int k)) (hs : onList o H (fun xs => setAt xs k v) = some H') : sSet f fo fi E H = some (.next, E, H') := by
  unfold sSet
  rw [hf, Option.bind_some, ho, Option.bind_some, hi, Option.bind_some]
  show (onList o H fun xs => setAt xs k v).map _ = _
  rw [hs]; rfl
theorem onList_at {j : Nat} {H : Hp} {xs ys : List VV} {g : List VV → Option (List VV)} (hj : H[j]? = some (.list xs)) (hg : g xs = some ys) : onList (.lst j) H g = some (H.set j (.list ys)) := by
  show (match H[j]? with | some (.list xs) => (g xs).map fun ys => H.set j (.list ys) | _ => none) = _
  rw [hj]
  show (g xs).map _ = _
  rw [hg]; rfl
theorem opMulLL_at {x v : VV} {k : Int} {H : Hp} (hx : items x H = some [v]) (hk : -1000000 ≤ k ∧ k ≤ 1000000) : opMulLL x (.int k) H = some (List.replicate k.toNat v) := by
  unfold opMulLL
  rw [hx, Option.bind_some]
  simp only [mul1L]
  rw [if_pos hk]
theorem opAddLL_at {x y : VV} {xs ys : List VV} {H : Hp} (hx : items x H = some xs) (hy : items y H = some ys) (hk : xs.length + ys.length ≤ 16777216) : opAddLL x y H = some (xs ++ ys) := by
  unfold opAddLL
  rw [hx, Option.bind_some, hy, Option.bind_some, if_pos hk]
noncomputable abbrev eW (C : Addr) (l : List Nat) (j b n nt : Nat) (x : Option VV) (E : Lo) : Lo := some (.ins C 0) :: some (.str l) :: some (.str gcS) :: some (.str gcT) :: some (.lst j) :: some (.int b) :: some (.int n) :: some (.int nt) :: x :: E
section
variable {C : Addr} {l : List Nat} {j b n nt : Nat} {E : Lo} {H : Hp} {cnt : List Nat} {f0 : VO}
theorem F_ch_sp : F_ch (eW C l j b n nt (some (.str [32])) E) H = some (.next, eW C l j (b + 1) (n + 1) nt (some (.str [32])) E, H) := rfl
theorem F_ch_no {c : Nat} (h1 : c ≠ 32) (h2 : c ≠ 9) : F_ch (eW C l j b n nt (some (.str [c])) E) H = some (.brk, eW C l j b n nt (some (.str [c])) E, H) := by
  have e1 : (decide ([c] = gcS)) = false := by simp [h1]
  have e2 : (decide ([c] = gcT)) = false := by simp [h2]
  have t1 : tCmp cmEq (dV 8) (dV 2) (eW C l j b n nt (some (.str [c])) E) H = some false := by
    show some (decide ([c] = gcS)) = _
    rw [e1]
  have t2 : tCmp cmEq (dV 8) (dV 3) (eW C l j b n nt (some (.str [c])) E) H = some false := by
    show some (decide ([c] = gcT)) = _
    rw [e2]
  unfold F_ch
  rw [sIf_at t1, if_neg (by decide), sIf_at t2, if_neg (by decide)]
  rfl
theorem len_lst {j : Nat} {H : Hp} {xs : List VV} (hj : H[j]? = some (.list xs)) (hz : xs.length ≤ 16777216) : gLen [.lst j] H = some (.int xs.length) := by
  show ((items (.lst j) H).bind _).map _ = _
  have : items (.lst j) H = some xs := by show (match H[j]? with | some (.list xs) => some xs | _ => none) = _; rw [hj]
  rw [this]
  show (if xs.length ≤ 16777216 then some (xs.length : Int) else none).map VV.int = _
  rw [if_pos hz]
  rfl
theorem items_lst {j : Nat} {H : Hp} {xs : List VV} (hj : H[j]? = some (.list xs)) : items (.lst j) H = some xs := by
  show (match H[j]? with | some (.list xs) => some xs | _ => none) = _; rw [hj]
theorem idxq {xs : List VV} {k : Nat} (hk : k < xs.length) (hz : k ≤ 1000000) : idx xs (k : Int) = xs[k]? := by
  unfold idx
  rw [if_pos (by omega)]
  have : seqIndex? (k : Int) xs.length = some k := by
    unfold seqIndex?
    have h1 : ¬ (k : Int) < 0 := by omega
    have h2 : (k : Int) < xs.length := by omega
    have h0 : (0 : Int) ≤ k := by omega
    simp [h1, h2, h0]
  rw [this]; rfl
theorem setAt_nat {xs : List VV} {k : Nat} {v : VV} (hk : k < xs.length) (hz : k ≤ 1000000) : setAt xs (k : Int) v = some (xs.set k v) := by
  unfold setAt
  rw [if_pos (by omega)]
  have : seqIndex? (k : Int) xs.length = some k := by
    unfold seqIndex?
    have h1 : ¬ (k : Int) < 0 := by omega
    have h2 : (k : Int) < xs.length := by omega
    have h0 : (0 : Int) ≤ k := by omega
    simp [h1, h2, h0]
  rw [this]; rfl
theorem iV_get {l : List Nat} {k : Nat} (hk : k < l.length) : (iV l)[k]? = some (.int (l.getD k 0 : Nat)) := by
  rw [List.getElem?_map, List.getElem?_eq_getElem hk]
  simp [hk]
theorem iV_set {l : List Nat} {k v : Nat} : (iV l).set k (.int (v : Nat)) = iV (l.set k v) := by
  rw [iV, iV, List.map_set]

theorem F_ch_grow {x : Option VV} (h0 : H[0]? = some f0) (hj : H[j]? = some (.list (iV cnt))) (hj0 : 0 < j) (hl : cnt.length ≤ 1000000) (hb : b ≤ 500000) :
    ∃ j' H', sIf (tCmp (cmI fun a b => decide (b ≤ a)) (dV 5) (dCall gLen [dV 4])) (sAsgL 4 (dBinL opAddLL (dV 4) (dF (dBinL opMulLL (dF (evs [dI 0])) (dBin (opI gAdd) (dBin (opI gSub) (dV 5) (dCall gLen [dV 4])) (dI 1)))))) sNil (eW C l j b n nt x E) H = some (.next, eW C l j' b n nt x E, H') ∧
      H'[0]? = some f0 ∧ 0 < j' ∧ H'[j']? = some (.list (iV (grow cnt b))) := by
  have hlen : (iV cnt).length = cnt.length := by simp
  have e1 : dCall gLen [dV 4] (eW C l j b n nt x E) H = some (.int cnt.length) := by
    show gLen [.lst j] H = _
    rw [len_lst hj (by rw [hlen]; omega), hlen]
  have e2 : tCmp (cmI fun a b => decide (b ≤ a)) (dV 5) (dCall gLen [dV 4]) (eW C l j b n nt x E) H = some (decide ((cnt.length : Int) ≤ b)) := by
    show (dCall gLen [dV 4] (eW C l j b n nt x E) H).bind _ = _
    rw [e1]; rfl
  rw [sIf_at e2]
  unfold grow
  by_cases hc : cnt.length ≤ b
  · rw [if_pos (by simpa using hc), if_pos hc]
    have e4 : dBin (opI gAdd) (dBin (opI gSub) (dV 5) (dCall gLen [dV 4])) (dI 1) (eW C l j b n nt x E) H = some (.int ((b - cnt.length + 1 : Nat) : Int)) := by
      have z : dBin (opI gSub) (dV 5) (dCall gLen [dV 4]) (eW C l j b n nt x E) H = some (.int ((b : Int) - cnt.length)) := dBin_at (x := .int b) rfl e1
      refine (dBin_at z (y := .int 1) rfl).trans ?_
      show some (VV.int ((b : Int) - cnt.length + 1)) = _
      congr 2
      omega
    have e5 : dBinL opMulLL (dF (evs [dI 0])) (dBin (opI gAdd) (dBin (opI gSub) (dV 5) (dCall gLen [dV 4])) (dI 1)) (eW C l j b n nt x E) H = some (iV (List.replicate (b - cnt.length + 1) 0)) := by
      have z0 : dF (evs [dI 0]) (eW C l j b n nt x E) H = some (.lv [.int 0]) := rfl
      have z1 : items (.lv [.int 0]) H = some [VV.int 0] := rfl
      rw [dBinL_at z0 e4, opMulLL_at z1 (by omega), Int.toNat_natCast, iV, List.map_replicate]
      rfl
    have e6 : dBinL opAddLL (dV 4) (dF (dBinL opMulLL (dF (evs [dI 0])) (dBin (opI gAdd) (dBin (opI gSub) (dV 5) (dCall gLen [dV 4])) (dI 1)))) (eW C l j b n nt x E) H = some (iV (cnt ++ List.replicate (b - cnt.length + 1) 0)) := by
      have z0 : dV 4 (eW C l j b n nt x E) H = some (.lst j) := rfl
      have z1 : items (.lv (iV (List.replicate (b - cnt.length + 1) 0))) H = some (iV (List.replicate (b - cnt.length + 1) 0)) := rfl
      rw [dBinL_at z0 (dF_at e5), opAddLL_at (items_lst hj) z1 (by simp; omega), iV, iV, iV, List.map_append]
    refine ⟨H.length, H ++ [.list (iV (cnt ++ List.replicate (b - cnt.length + 1) 0))], ?_, ?_, ?_, ?_⟩
    · exact sAsgL_at e6
    · rw [List.getElem?_append_left (List.getElem?_eq_some_iff.mp h0).1]; exact h0
    · have := (List.getElem?_eq_some_iff.mp hj).1; omega
    · simp
  · rw [if_neg (by simpa using hc), if_neg hc]
    exact ⟨j, H, rfl, h0, hj0, hj⟩
theorem F_ch_tab (h0 : H[0]? = some f0) (hj : H[j]? = some (.list (iV cnt))) (hj0 : 0 < j) (hl : cnt.length ≤ 1000000) (hb : b ≤ 500000) :
    ∃ j' H', F_ch (eW C l j b n nt (some (.str [9])) E) H = some (.next, eW C l j' 0 (n + 1) (nt + 1) (some (.str [9])) E, H') ∧ H'[0]? = some f0 ∧ 0 < j' ∧ H'[j']? = some (.list (iV (bump cnt b))) := by
  obtain ⟨j', H', e, z0, zj0, zj⟩ := F_ch_grow (C := C) (l := l) (n := n + 1) (nt := nt + 1) (E := E) (x := some (.str [9])) h0 hj hj0 hl hb
  have hbl := (grow_length cnt b).1
  have hlen : (iV (grow cnt b)).length = (grow cnt b).length := by simp
  have es : sSet (dBin (opI gAdd) (dBin opIdx (dV 4) (dV 5)) (dI 1)) (dV 4) (dV 5) (eW C l j' b (n + 1) (nt + 1) (some (.str [9])) E) H' = some (.next, eW C l j' b (n + 1) (nt + 1) (some (.str [9])) E, H'.set j' (.list (iV (bump cnt b)))) := by
    have z : dBin opIdx (dV 4) (dV 5) (eW C l j' b (n + 1) (nt + 1) (some (.str [9])) E) H' = some (.int ((grow cnt b).getD b 0 : Nat)) := by
      refine (dBin_at (x := .lst j') (y := .int b) rfl rfl).trans ?_
      show (items (.lst j') H').bind (fun xs => idx xs (b : Int)) = _
      rw [items_lst zj]
      show idx (iV (grow cnt b)) (b : Int) = _
      rw [idxq (by rw [hlen]; exact hbl) (by omega), iV_get hbl]
    have e1 : dBin (opI gAdd) (dBin opIdx (dV 4) (dV 5)) (dI 1) (eW C l j' b (n + 1) (nt + 1) (some (.str [9])) E) H' = some (.int (((grow cnt b).getD b 0 + 1 : Nat) : Int)) := dBin_at z (y := .int 1) rfl
    refine sSet_at e1 (o := .lst j') (k := b) rfl rfl (onList_at zj ?_)
    rw [setAt_nat (by rw [hlen]; exact hbl) (by omega), iV_set]
    rfl
  refine ⟨j', H'.set j' (.list (iV (bump cnt b))), ?_, ?_, zj0, ?_⟩
  · show sSeq (sIf _ _ sNil) (sSeq (sSet _ _ _) (sAsg _ _)) (eW C l j b (n + 1) (nt + 1) (some (.str [9])) E) H = _
    rw [sSeq_next e, sSeq_next es]
    rfl
  · rw [List.getElem?_set_ne (by omega)]; exact z0
  · rw [List.getElem?_set_self (List.getElem?_eq_some_iff.mp zj).1]
theorem F_chs (N : Nat) (hN : N ≤ 500000) (h : True) : ∀ (cs cnt : List Nat) (j b n nt : Nat) (H : Hp) (x : Option VV), b + cs.length ≤ N → cnt.length ≤ N + 1 → H[0]? = some f0 → H[j]? = some (.list (iV cnt)) → 0 < j →
    ∃ j' H' x', forF F_ch (.nm 8) (cs.map fun c => .str [c]) (eW C l j b n nt x E) H = some (.next, eW C l j' (wsGo cs cnt b n nt).2.1 (wsGo cs cnt b n nt).2.2.1 (wsGo cs cnt b n nt).2.2.2 x' E, H') ∧ H'[0]? = some f0 ∧ 0 < j' ∧ H'[j']? = some (.list (iV (wsGo cs cnt b n nt).1)) ∧
      (wsGo cs cnt b n nt).1.length ≤ N + 1
  | [], cnt, j, b, n, nt, H, x, hb, hc, h0, hj, hj0 => ⟨j, H, x, rfl, h0, hj0, hj, hc⟩
  | c :: cs, cnt, j, b, n, nt, H, x, hb, hc, h0, hj, hj0 => by
    rw [List.length_cons] at hb
    have go : ∀ r, F_ch (eW C l j b n nt (some (.str [c])) E) H = some r → forF F_ch (.nm 8) ((c :: cs).map fun c => .str [c]) (eW C l j b n nt x E) H = (match r with
        | (.next, E2, H2) => forF F_ch (.nm 8) (cs.map fun c => .str [c]) E2 H2
        | (.brk, E2, H2) => some (.next, E2, H2)
        | (.ret v, E2, H2) => some (.ret v, E2, H2)) := fun r hr => by
      show (F_ch (eW C l j b n nt (some (.str [c])) E) H).bind _ = _
      rw [hr]; rfl
    by_cases h1 : c = 32
    · subst h1
      rw [go _ F_ch_sp]
      have hw : wsGo (32 :: cs) cnt b n nt = wsGo cs cnt (b + 1) (n + 1) nt := by simp [wsGo]
      rw [hw]
      exact F_chs N hN h cs cnt j (b + 1) (n + 1) nt H _ (by omega) hc h0 hj hj0
    · by_cases h2 : c = 9
      · subst h2
        obtain ⟨j', H', e, z0, zj0, zj⟩ := F_ch_tab (C := C) (l := l) (b := b) (n := n) (nt := nt) (E := E) h0 hj hj0 (by omega) (by omega)
        rw [go _ e]
        have hw : wsGo (9 :: cs) cnt b n nt = wsGo cs (bump cnt b) 0 (n + 1) (nt + 1) := by simp [wsGo]
        rw [hw]
        have := bump_length cnt b
        exact F_chs N hN h cs (bump cnt b) j' 0 (n + 1) (nt + 1) H' _ (by omega) (by omega) z0 zj zj0
      · rw [go _ (F_ch_no h1 h2)]
        have hw : wsGo (c :: cs) cnt b n nt = (cnt, b, n, nt) := by simp [wsGo, h1, h2]
        rw [hw]
        exact ⟨j, H, _, rfl, h0, hj0, hj, hc⟩
end
end Mine
namespace Mine

theorem sFld_at {C : Addr} {name : Str} {fo f : EvF} {E : Lo} {H : Hp} {v : VV} {j : Nat} {fs fs' : List (Str × VV)} (hf : f E H = some v) (ho : fo E H = some (.ins C j)) (hj : H[j]? = some (.ns fs)) (hl : fs.length ≤ 100) (hp : putF name v fs = fs') : sFld C name fo f E H = some (.next, E, H.set j (.ns fs')) := by
  unfold sFld
  rw [hf, Option.bind_some, ho, Option.bind_some]
  show (if C = C then (match H[j]? with | some (.ns fs) => if fs.length ≤ 100 then some (H.set j (.ns (putF name v fs))) else none | _ => none) else none).map _ = _
  rw [if_pos rfl, hj]
  show (if fs.length ≤ 100 then some (H.set j (.ns (putF name v fs))) else none).map _ = _
  rw [if_pos hl, hp]
  rfl
noncomputable def wsFs (l cnt : List Nat) (b n nt : Nat) : List (Str × VV) :=
  [("raw", .str l), ("n", .int n), ("nt", .int nt), ("norm", .tup [.tup (iV cnt), .int b]), ("is_simple", .bool (decide (cnt.length ≤ 1)))]
noncomputable def wsV (C : Addr) (l : List Nat) : VV := .inst C (wsFs l (wsGo l [] 0 0 0).1 (wsGo l [] 0 0 0).2.1 (wsGo l [] 0 0 0).2.2.1 (wsGo l [] 0 0 0).2.2.2)
theorem frzL_iV {k : Nat} {H : Hp} : ∀ l : List Nat, frzL (frz (k + 1) H) (iV l) = some (iV l)
  | [] => rfl
  | a :: l => by
    show (frz (k + 1) H (.int a)).bind _ = _
    rw [show frz (k + 1) H (.int a) = some (.int a) from rfl, Option.bind_some]
    show (frzL (frz (k + 1) H) (iV l)).map _ = _
    rw [frzL_iV l]
    rfl
theorem frz_ws {C : Addr} {l cnt : List Nat} {b n nt : Nat} {H : Hp} (h : H[0]? = some (.ns (wsFs l cnt b n nt))) : frz 8 H (.ins C 0) = some (.inst C (wsFs l cnt b n nt)) := by
  show (match H[0]? with | some (.ns fs) => (frzL (frz 7 H) (List.map (fun x : Str × VV => x.2) fs)).map fun ys => VV.inst C (rezip fs ys) | _ => none) = _
  rw [h]
  show (frzL (frz 7 H) [.str l, .int n, .int nt, .tup [.tup (iV cnt), .int b], .bool (decide (cnt.length ≤ 1))]).map _ = _
  have e : frz 7 H (.tup [.tup (iV cnt), .int b]) = some (.tup [.tup (iV cnt), .int b]) := by
    show (frzL (frz 6 H) [.tup (iV cnt), .int b]).map VV.tup = _
    have e2 : frz 6 H (.tup (iV cnt)) = some (.tup (iV cnt)) := by
      show (frzL (frz 5 H) (iV cnt)).map VV.tup = _
      rw [frzL_iV]; rfl
    simp only [frzL, e2, Option.bind_some]
    rfl
  simp only [frzL, e, Option.bind_some, show frz 7 H (.str l) = some (.str l) from rfl, show frz 7 H (.int n) = some (.int n) from rfl, show frz 7 H (.int nt) = some (.int nt) from rfl, show frz 7 H (.bool (decide (cnt.length ≤ 1))) = some (.bool (decide (cnt.length ≤ 1))) from rfl]
  rfl
theorem sFor_at {tg : Tg} {it : Lo → Hp → Option (List VV)} {body : StF} {E : Lo} {H : Hp} {xs : List VV} (h : it E H = some xs) : sFor tg it body E H = forF body tg xs E H := by unfold sFor; rw [h]; rfl
theorem sRet_at {f : EvF} {E : Lo} {H : Hp} {v : VV} (h : f E H = some v) : sRet f E H = some (.ret v, E, H) := by unfold sRet; rw [h]; rfl
theorem gAttr_ns {C : Addr} {j : Nat} {H : Hp} {fs : List (Str × VV)} {name : Str} {v : VV} (h : H[j]? = some (.ns fs)) (hv : fieldOf fs name = some v) : gAttr C name (.ins C j) H = some v := by
  show (if C = C then (match H[j]? with | some (.ns fs) => fieldOf fs name | _ => none) else none) = _
  rw [if_pos rfl, h]
  exact hv
theorem iter_str {l : List Nat} {H : Hp} (h : l.length ≤ 16777216) : iterOf (.str l) H = some (l.map fun c => .str [c]) := by
  show (if l.length ≤ 16777216 then _ else none) = _
  rw [if_pos h]
theorem F_ini_eq {C : Addr} {l : List Nat} (hl : l.length ≤ 500000) : ∃ E' H', F_ini C (bindE [0, 1] 12 [.ins C 0, .str l]) [.ns []] = some (.next, E', H') ∧ frz 8 H' (.ins C 0) = some (wsV C l) := by
  have h1 : sFld C "raw" (dV 0) (dV 1) (bindE [0, 1] 12 [.ins C 0, .str l]) [.ns []] = some (.next, bindE [0, 1] 12 [.ins C 0, .str l], [.ns [("raw", .str l)]]) := sFld_at (v := .str l) (j := 0) (fs := []) rfl rfl rfl (Nat.zero_le _) rfl
  unfold F_ini
  rw [sSeq_next h1, sSeq_next (E1 := some (.ins C 0) :: some (.str l) :: some (.str gcS) :: some (.str gcT) :: List.replicate 8 none) (H1 := [.ns [("raw", .str l)]]) rfl]
  rw [sSeq_next (E1 := some (.ins C 0) :: some (.str l) :: some (.str gcS) :: some (.str gcT) :: some (.lst 1) :: List.replicate 7 none) (H1 := [.ns [("raw", .str l)], .list []]) rfl]
  rw [sSeq_next (E1 := eW C l 1 0 0 0 none (List.replicate 3 none)) (H1 := [.ns [("raw", .str l)], .list []]) rfl]
  have hit : dIt (dUn (gAttr C "raw") (dV 0)) (eW C l 1 0 0 0 none (List.replicate 3 none)) [.ns [("raw", .str l)], .list []] = some (l.map fun c => .str [c]) := by
    show (gAttr C "raw" (.ins C 0) [.ns [("raw", .str l)], .list []]).bind _ = _
    rw [gAttr_ns (fs := [("raw", .str l)]) (v := .str l) rfl rfl, Option.bind_some]
    exact iter_str (by omega)
  obtain ⟨j', H', x', e5, z0, zj0, zj, zl⟩ := F_chs (C := C) (l := l) (E := List.replicate 3 none) (f0 := .ns [("raw", .str l)]) l.length hl trivial l [] 1 0 0 0 [.ns [("raw", .str l)], .list []] none (by omega) (by simp) rfl rfl (by omega)
  rw [sSeq_next ((sFor_at hit).trans e5)]
  unfold wsV
  generalize wsGo l [] 0 0 0 = r at *
  obtain ⟨cnt, b, n, nt⟩ := r
  dsimp only at *
  have hlen : (iV cnt).length = cnt.length := by simp
  rw [sSeq_next (sFld_at (v := .int n) (j := 0) (fs' := [("raw", .str l), ("n", .int n)]) rfl rfl z0 (by simp) rfl)]
  have y0 : (H'.set 0 (.ns [("raw", .str l), ("n", .int n)]))[0]? = some (.ns [("raw", .str l), ("n", .int n)]) := List.getElem?_set_self (List.getElem?_eq_some_iff.mp z0).1
  rw [sSeq_next (sFld_at (v := .int nt) (j := 0) (fs' := [("raw", .str l), ("n", .int n), ("nt", .int nt)]) rfl rfl y0 (by simp) rfl), List.set_set]
  have x0 : (H'.set 0 (.ns [("raw", .str l), ("n", .int n), ("nt", .int nt)]))[0]? = some (.ns [("raw", .str l), ("n", .int n), ("nt", .int nt)]) := List.getElem?_set_self (List.getElem?_eq_some_iff.mp z0).1
  have xj : (H'.set 0 (.ns [("raw", .str l), ("n", .int n), ("nt", .int nt)]))[j']? = some (.list (iV cnt)) := by rw [List.getElem?_set_ne (by omega)]; exact zj
  have hn : dTup [dCall gTuple [dV 4], dV 5] (eW C l j' b n nt x' (List.replicate 3 none)) (H'.set 0 (.ns [("raw", .str l), ("n", .int n), ("nt", .int nt)])) = some (.tup [.tup (iV cnt), .int b]) := by
    have : dCall gTuple [dV 4] (eW C l j' b n nt x' (List.replicate 3 none)) (H'.set 0 (.ns [("raw", .str l), ("n", .int n), ("nt", .int nt)])) = some (.tup (iV cnt)) := by
      show (items (.lst j') (H'.set 0 (.ns [("raw", .str l), ("n", .int n), ("nt", .int nt)]))).bind (fun xs => if xs.length ≤ 16777216 then some (VV.tup xs) else none) = _
      rw [items_lst xj, Option.bind_some, if_pos (by rw [hlen]; omega)]
    show ((dCall gTuple [dV 4] (eW C l j' b n nt x' (List.replicate 3 none)) (H'.set 0 (.ns [("raw", .str l), ("n", .int n), ("nt", .int nt)]))).bind _).map _ = _
    rw [this]
    rfl
  rw [sSeq_next (sFld_at hn (j := 0) (fs' := [("raw", .str l), ("n", .int n), ("nt", .int nt), ("norm", .tup [.tup (iV cnt), .int b])]) rfl x0 (by simp) rfl), List.set_set]
  have w0 : (H'.set 0 (.ns [("raw", .str l), ("n", .int n), ("nt", .int nt), ("norm", .tup [.tup (iV cnt), .int b])]))[0]? = some (.ns [("raw", .str l), ("n", .int n), ("nt", .int nt), ("norm", .tup [.tup (iV cnt), .int b])]) := List.getElem?_set_self (List.getElem?_eq_some_iff.mp z0).1
  have wj : (H'.set 0 (.ns [("raw", .str l), ("n", .int n), ("nt", .int nt), ("norm", .tup [.tup (iV cnt), .int b])]))[j']? = some (.list (iV cnt)) := by rw [List.getElem?_set_ne (by omega)]; exact zj
  have hb : dCmp (cmI fun a b => decide (a ≤ b)) (dCall gLen [dV 4]) (dI 1) (eW C l j' b n nt x' (List.replicate 3 none)) (H'.set 0 (.ns [("raw", .str l), ("n", .int n), ("nt", .int nt), ("norm", .tup [.tup (iV cnt), .int b])])) = some (.bool (decide (cnt.length ≤ 1))) := by
    have : dCall gLen [dV 4] (eW C l j' b n nt x' (List.replicate 3 none)) (H'.set 0 (.ns [("raw", .str l), ("n", .int n), ("nt", .int nt), ("norm", .tup [.tup (iV cnt), .int b])])) = some (.int cnt.length) := by
      show gLen [.lst j'] (H'.set 0 (.ns [("raw", .str l), ("n", .int n), ("nt", .int nt), ("norm", .tup [.tup (iV cnt), .int b])])) = _
      rw [len_lst wj (by rw [hlen]; omega), hlen]
    unfold dCmp
    rw [this, Option.bind_some]
    show some (VV.bool (decide ((cnt.length : Int) ≤ 1))) = _
    congr 2
    exact decide_eq_decide.mpr (by omega)
  rw [sFld_at hb (j := 0) (fs' := wsFs l cnt b n nt) rfl w0 (by simp) rfl, List.set_set]
  exact ⟨_, _, rfl, frz_ws (List.getElem?_set_self (List.getElem?_eq_some_iff.mp z0).1)⟩
noncomputable def gWs (C : Addr) : List VV → Option VV
  | [.str l] => if l.length ≤ 500000 then some (wsV C l) else none
  | _ => none
section
variable {prog : Program} {w : World} {TT : Tabs} {n : Nat} {sc : Sc} {GL : List (Str × Value)} {K : Frag}
theorem ws_fnc {C fI : Addr} {fd : FuncData} {body : List Stmt} {pn : List Str} (X0 : TopFn K fI fd body sc pn [0, 1]) (hl : sc.length = 12) (hp : pn.length = 2) (hm : makesIn K C = true) (hi : findIn K (.ref C) "__init__" = some (some (.ref fI))) (hf : typeIn K (.ref fI) = some (.type "function"))
    (hbody : ∀ B1, Tp TT GL K B1 → DenSs prog w TT B1 n sc body (F_ini C)) : FnC prog w TT GL K (n + 2) (fun ws => call (.ref C) ws) (gWs C) := by
  refine make_fnc X0 hm hi hf hbody fun xs v e => ?_
  unfold gWs at e
  split at e
  · split at e
    · rename_i l hz
      cases e
      refine ⟨hp.symm, ?_⟩
      rw [hl]
      exact F_ini_eq hz
    · cases e
  · cases e
end

-- indent_level
noncomputable def indIl (cnt : List Int) (ts : Int) : Int := (rngL ts cnt.length 1).foldl (fun il i => il + i.fdiv ts * cnt.getD i.toNat 0) 0
noncomputable def indZ (cnt : List Int) (tr nt ts : Int) : Int := tr + ts * (indIl cnt ts + nt)
noncomputable def indOk (cnt : List Int) (nt ts : Int) : Bool := decide (1 ≤ ts ∧ ts ≤ 1000000 ∧ cnt.length ≤ 1000000 ∧ (indIl cnt ts + nt).natAbs < 2 ^ 64) && cnt.all fun c => decide (c.natAbs < 2 ^ 64)
noncomputable def gInd (C : Addr) : List VV → Option VV
  | [.inst C' fs, .int ts] => if C' = C then (fieldOf fs "norm").bind fun nv => (fieldOf fs "nt").bind fun ntv => match nv, ntv with
      | .tup [.tup cs, .int tr], .int nt => (asInts cs).bind fun cnt => if indOk cnt nt ts = true then some (.int (indZ cnt tr nt ts)) else none
      | _, _ => none
    else none
  | _ => none
theorem F_ind_loop {cnt : List Int} {ts tr : Int} {self x6 x7 : Option VV} {H : Hp} (h1 : 1 ≤ ts) (h2 : ts ≤ 1000000) (h3 : cnt.length ≤ 1000000) (h4 : ∀ c ∈ cnt, c.natAbs < 2 ^ 64) : ∀ (is : List Int) (il : Int) (x : Option VV), (∀ i ∈ is, 0 ≤ i ∧ i < cnt.length) →
    ∃ x', forF (sAsg (.nm 4) (dBin (opI gAdd) (dV 4) (dBin (opI gMul) (dBin (opI gDiv) (dV 5) (dV 1)) (dBin opIdx (dV 2) (dV 5))))) (.nm 5) (is.map .int) [self, some (.int ts), some (.tup (cnt.map .int)), some (.int tr), some (.int il), x, x6, x7] H =
      some (.next, [self, some (.int ts), some (.tup (cnt.map .int)), some (.int tr), some (.int (is.foldl (fun il i => il + i.fdiv ts * cnt.getD i.toNat 0) il)), x', x6, x7], H)
  | [], il, x, hi => ⟨x, rfl⟩
  | i :: is, il, x, hi => by
    obtain ⟨p1, p2⟩ := hi i List.mem_cons_self
    obtain ⟨k, rfl⟩ := Int.eq_ofNat_of_zero_le p1
    have hk : k < cnt.length := by omega
    have z1 : dBin (opI gDiv) (dV 5) (dV 1) [self, some (.int ts), some (.tup (cnt.map .int)), some (.int tr), some (.int il), some (.int (k : Int)), x6, x7] H = some (.int ((k : Int).fdiv ts)) := by
      refine (dBin_at (x := .int (k : Int)) (y := .int ts) rfl rfl).trans ?_
      show (gDiv (k : Int) ts).map VV.int = _
      unfold gDiv
      rw [if_pos ⟨by omega, lt_lim9 (k := 64) (by omega)⟩]
      rfl
    have z2 : dBin opIdx (dV 2) (dV 5) [self, some (.int ts), some (.tup (cnt.map .int)), some (.int tr), some (.int il), some (.int (k : Int)), x6, x7] H = some (.int (cnt.getD (k : Int).toNat 0)) := by
      refine (dBin_at (x := .tup (cnt.map .int)) (y := .int (k : Int)) rfl rfl).trans ?_
      show idx (cnt.map .int) (k : Int) = _
      rw [idxq (by rw [List.length_map]; exact hk) (by omega), List.getElem?_map, List.getElem?_eq_getElem hk, Int.toNat_natCast]
      simp [hk]
    have z3 : dBin (opI gMul) (dBin (opI gDiv) (dV 5) (dV 1)) (dBin opIdx (dV 2) (dV 5)) [self, some (.int ts), some (.tup (cnt.map .int)), some (.int tr), some (.int il), some (.int (k : Int)), x6, x7] H = some (.int ((k : Int).fdiv ts * cnt.getD (k : Int).toNat 0)) := by
      refine (dBin_at z1 z2).trans ?_
      show (gMul ((k : Int).fdiv ts) (cnt.getD (k : Int).toNat 0)).map VV.int = _
      unfold gMul
      have hd : (k : Int) / ts ≤ k := Int.ediv_le_self _ (by omega)
      have hd0 : 0 ≤ (k : Int) / ts := Int.ediv_nonneg (by omega) (by omega)
      have g1 : ((k : Int).fdiv ts).natAbs < lim9 := by
        rw [Int.fdiv_eq_ediv_of_nonneg _ (by omega)]
        exact lt_lim9 (k := 64) (by omega)
      have g2 : (cnt.getD (k : Int).toNat 0).natAbs < lim9 := by
        rw [Int.toNat_natCast]
        have hm : cnt.getD k 0 ∈ cnt := by simp [hk]
        exact lt_lim9 (k := 64) (h4 _ hm)
      rw [if_pos ⟨g1, g2⟩]
      rfl
    have z4 : dBin (opI gAdd) (dV 4) (dBin (opI gMul) (dBin (opI gDiv) (dV 5) (dV 1)) (dBin opIdx (dV 2) (dV 5))) [self, some (.int ts), some (.tup (cnt.map .int)), some (.int tr), some (.int il), some (.int (k : Int)), x6, x7] H = some (.int (il + (k : Int).fdiv ts * cnt.getD (k : Int).toNat 0)) := dBin_at (x := .int il) rfl z3
    obtain ⟨x', e⟩ := F_ind_loop (self := self) (tr := tr) (x6 := x6) (x7 := x7) (H := H) h1 h2 h3 h4 is (il + (k : Int).fdiv ts * cnt.getD (k : Int).toNat 0) (some (.int (k : Int))) fun i h => hi i (List.mem_cons_of_mem _ h)
    refine ⟨x', ?_⟩
    rw [List.foldl_cons, ← e]
    show (sAsg (.nm 4) _ [self, some (.int ts), some (.tup (cnt.map .int)), some (.int tr), some (.int il), some (.int (k : Int)), x6, x7] H).bind _ = _
    unfold sAsg
    rw [z4]
    rfl
theorem F_ind_eq {C : Addr} {fs : List (Str × VV)} {cs : List VV} {cnt : List Int} {ts tr nt : Int} {H : Hp} (hn : fieldOf fs "norm" = some (.tup [.tup cs, .int tr])) (ht : fieldOf fs "nt" = some (.int nt)) (hc : asInts cs = some cnt) (hok : indOk cnt nt ts = true) :
    ∃ E', F_ind C [some (.inst C fs), some (.int ts), none, none, none, none, none, none] H = some (.ret (.int (indZ cnt tr nt ts)), E', H) := by
  have hcs := asInts_eq hc
  subst hcs
  simp only [indOk, Bool.and_eq_true, decide_eq_true_eq, List.all_eq_true] at hok
  obtain ⟨⟨h1, h2, h3, h5⟩, h4⟩ := hok
  have ga : ∀ E : Lo, dUn (gAttr C "norm") (dV 0) (some (.inst C fs) :: E) H = some (.tup [.tup (cnt.map .int), .int tr]) := fun E => by
    show (if C = C then fieldOf fs "norm" else none) = _
    rw [if_pos rfl, hn]
  have gt : ∀ E : Lo, dUn (gAttr C "nt") (dV 0) (some (.inst C fs) :: E) H = some (.int nt) := fun E => by
    show (if C = C then fieldOf fs "nt" else none) = _
    rw [if_pos rfl, ht]
  have e1 : sAsg (.tp [2, 3]) (dUn (gAttr C "norm") (dV 0)) [some (.inst C fs), some (.int ts), none, none, none, none, none, none] H = some (.next, [some (.inst C fs), some (.int ts), some (.tup (cnt.map .int)), some (.int tr), none, none, none, none], H) := by
    unfold sAsg
    rw [ga]; rfl
  have e2 : sAsg (.nm 4) (dI 0) [some (.inst C fs), some (.int ts), some (.tup (cnt.map .int)), some (.int tr), none, none, none, none] H = some (.next, [some (.inst C fs), some (.int ts), some (.tup (cnt.map .int)), some (.int tr), some (.int 0), none, none, none], H) := rfl
  have hlen : (cnt.map VV.int).length = cnt.length := List.length_map ..
  have hs : Builtin.Range.rangeSize ts cnt.length 1 ≤ 1000000 := by
    unfold Builtin.Range.rangeSize
    simp
    omega
  have e3 : dIt (dCall gRange [dV 1, dCall gLen [dV 2]]) [some (.inst C fs), some (.int ts), some (.tup (cnt.map .int)), some (.int tr), some (.int 0), none, none, none] H = some ((rngL ts cnt.length 1).map .int) := by
    have : dCall gLen [dV 2] [some (.inst C fs), some (.int ts), some (.tup (cnt.map .int)), some (.int tr), some (.int 0), none, none, none] H = some (.int cnt.length) := by
      show ((if (cnt.map VV.int).length ≤ 16777216 then some ((cnt.map VV.int).length : Int) else none).map VV.int) = _
      rw [if_pos (by rw [hlen]; omega), hlen]; rfl
    have g : dCall gRange [dV 1, dCall gLen [dV 2]] [some (.inst C fs), some (.int ts), some (.tup (cnt.map .int)), some (.int tr), some (.int 0), none, none, none] H = some (.rng ts cnt.length 1) := by
      unfold dCall
      simp only [evs]
      rw [show dCall gLen [dV 2] = fun E H => (evs [dV 2] E H).bind fun xs => gLen xs H from rfl] at this
      simp only [evs] at this
      rw [this]
      rfl
    unfold dIt
    rw [g, Option.bind_some]
    show (if Builtin.Range.small ts cnt.length 1 = true ∧ Builtin.Range.rangeSize ts cnt.length 1 ≤ 1000000 then _ else none) = _
    have sm : Builtin.Range.small ts cnt.length 1 = true := PySem.small_one (by omega) (by omega) (by omega) (by omega)
    rw [if_pos ⟨sm, hs⟩]
  have hmem : ∀ i ∈ rngL ts cnt.length 1, 0 ≤ i ∧ i < cnt.length := fun i hi => by
    unfold rngL at hi
    obtain ⟨k, hk, rfl⟩ := List.mem_map.mp hi
    rw [List.mem_range] at hk
    have hz : Builtin.Range.rangeSize ts cnt.length 1 = if ts < cnt.length then (cnt.length : Int) - ts else 0 := by
      unfold Builtin.Range.rangeSize
      rw [if_pos (by decide), Int.ediv_one]
      split <;> omega
    rw [hz] at hk
    split at hk <;> omega
  obtain ⟨x', e4⟩ := F_ind_loop (self := some (.inst C fs)) (tr := tr) (x6 := none) (x7 := none) (H := H) h1 h2 h3 h4 (rngL ts cnt.length 1) 0 none hmem
  unfold F_ind
  rw [sSeq_next e1, sSeq_next e2, sSeq_next ((sFor_at e3).trans e4)]
  refine ⟨[some (.inst C fs), some (.int ts), some (.tup (cnt.map .int)), some (.int tr), some (.int (indIl cnt ts)), x', none, none], ?_⟩
  have y1 : dBin (opI gAdd) (dV 4) (dUn (gAttr C "nt") (dV 0)) [some (.inst C fs), some (.int ts), some (.tup (cnt.map .int)), some (.int tr), some (.int (indIl cnt ts)), x', none, none] H = some (.int (indIl cnt ts + nt)) := dBin_at (x := .int (indIl cnt ts)) rfl (gt _)
  have y2 : dBin (opI gMul) (dV 1) (dBin (opI gAdd) (dV 4) (dUn (gAttr C "nt") (dV 0))) [some (.inst C fs), some (.int ts), some (.tup (cnt.map .int)), some (.int tr), some (.int (indIl cnt ts)), x', none, none] H = some (.int (ts * (indIl cnt ts + nt))) := by
    refine (dBin_at (x := .int ts) rfl y1).trans ?_
    show (gMul ts (indIl cnt ts + nt)).map VV.int = _
    unfold gMul
    rw [if_pos ⟨lt_lim9 (k := 64) (by omega), lt_lim9 h5⟩]
    rfl
  have y3 : dBin (opI gAdd) (dV 3) (dBin (opI gMul) (dV 1) (dBin (opI gAdd) (dV 4) (dUn (gAttr C "nt") (dV 0)))) [some (.inst C fs), some (.int ts), some (.tup (cnt.map .int)), some (.int tr), some (.int (indIl cnt ts)), x', none, none] H = some (.int (indZ cnt tr nt ts)) := dBin_at (x := .int tr) rfl y2
  exact sRet_at y3
section
variable {prog : Program} {w : World} {TT : Tabs} {n : Nat} {sc : Sc} {GL : List (Str × Value)} {K : Frag}
theorem ind_fnc {C fa : Addr} {fd : FuncData} {body : List Stmt} {pn : List Str} (X0 : TopFn K fa fd body sc pn [0, 1]) (hl : sc.length = 8) (hp : pn.length = 2) (hbody : ∀ B1, Tp TT GL K B1 → DenSs prog w TT B1 n sc body (F_ind C)) : FnC prog w TT GL K (n + 1) (fun ws => call (.ref fa) ws) (gInd C) := by
  refine X0.fnc hbody fun xs v e => ?_
  unfold gInd at e
  split at e
  · rename_i C' fs ts
    split at e
    · rename_i hC
      subst hC
      refine bindSome e fun nv hn e => ?_
      refine bindSome e fun ntv ht e => ?_
      split at e
      · refine bindSome e fun cnt hc e => ?_
        split at e
        · rename_i hok
          cases e
          obtain ⟨E', h⟩ := F_ind_eq (C := C') (H := []) hn ht hc hok
          exact ⟨hp.symm, _, _, _, (by rw [hl]; exact h), rfl⟩
        · cases e
      · cases e
    · cases e
  · cases e
end
end Mine
namespace Mine
noncomputable abbrev cmNe : VV → VV → Hp → Option Bool := fun x y H => (cmEq x y H).map not
theorem swaps_comp {sc : Sc} {y : Str} {py pos : Pos} {line : Nat} {elt : Expr} {gens : List Comprehension} {scope : Scope} (hy : sc.lookup y = some .local) (hl : py.line = pos.line) (hn : (scope.names.any fun p => p.1 == y && (p.2 == .local || p.2 == .cell)) = false) :
    ∀ env : Env, env.scope.names = sc → env.scope.kind = .function → swapsWith (.ListComp elt gens scope pos) (some (.Name y py)) line env = pure true := by
  intro env hs hk
  have ky : env.kindOf y = some .local := by unfold Env.kindOf; rw [hs]; exact hy
  have hb : env.blockKind = .function := by unfold Env.blockKind; simp [hk]
  show pure (env.blockKind == .function && env.kindOf y == some .local && py.line == pos.line && !(scope.names.any fun p => p.1 == y && (p.2 == .local || p.2 == .cell))) = _
  rw [hb, ky, hl, hn]
  simp
noncomputable def gOf (F : StF) (ps : List Nat) (len np : Nat) : List VV → Option VV := fun xs => if xs.length = np then (F (bindE ps len xs) []).bind fun r => outF r.1 r.2.2 else none
section
variable {prog : Program} {w : World} {TT : Tabs} {n : Nat} {sc : Sc} {GL : List (Str × Value)} {K : Frag}
theorem TopFn.of {fa : Addr} {fd : FuncData} {body : List Stmt} {pn : List Str} {ps : List Nat} (X : TopFn K fa fd body sc pn ps) {F : StF} {len np : Nat} (hl : sc.length = len) (hp : pn.length = np) (hbody : ∀ B1, Tp TT GL K B1 → DenSs prog w TT B1 n sc body F) :
    FnC prog w TT GL K (n + 1) (fun ws => call (.ref fa) ws) (gOf F ps len np) := by
  subst hl hp
  refine X.fnc hbody fun xs v e => ?_
  unfold gOf at e
  split at e
  · rename_i hz
    obtain ⟨⟨r, E', H'⟩, e1, e2⟩ := Option.bind_eq_some_iff.mp e
    exact ⟨hz, r, E', H', e1, e2⟩
  · cases e
end
end Mine
namespace Mine

theorem law_post {cw : ClaimW} {cl : Str → Option Addr} {mean : ExcName → Option Value} {args : List WData} {s₁ : Shared} {tl : List (Addr × Str)} {tabs : List (Addr × Addr)} (hT : TabsAt tabs s₁.heap) (htl : tl.map (·.1) = tabs.map (·.2)) (hr : ∀ x, cw.raises args x = false)
    (hp : cw.post args (.bool true) args = true) (hg : s₁.gens = #[]) {h' : Heap} {tk : Nat} (k : KP (tabsOf tl).TB s₁.heap h') (i : (tabsOf tl).Inv h') :
    GoodWG cw cl mean args s₁ (.ok (.ret (.bool true))) { s₁ with heap := h', toks := tk } := by
  have grown : ∀ b o, b ∈ (tabsOf tl).TB → s₁.heap.get? b = some o → isCodeTable s₁.heap b ∧ o = tabObj #[] ∧ ∃ ps, h'.get? b = some (tabObj ps) := fun b o hb e => by
    have hb' : b ∈ tabs.map (·.2) := by rw [← htl]; exact hb
    obtain ⟨q, hq, rfl⟩ := List.mem_map.mp hb'
    have e2 := (hT q hq).2
    rw [e] at e2
    obtain ⟨p, hp, hpe⟩ := List.mem_map.mp (show q.2 ∈ tl.map (·.1) from hb)
    obtain ⟨ps, e3, _⟩ := i p hp
    exact ⟨((hT q hq).1.tab (hT q hq).2).isCodeTable, Option.some.inj e2, ps, by rw [← hpe]; exact e3⟩
  refine ⟨.inl ⟨_, .bool true, [], rfl, hr, .bool true, hp, fun _ => ⟨List.nodup_nil, fun a ha => by cases ha⟩⟩, ⟨fun b o e => ?_, fun b o e => ?_⟩, rfl, .of_eq hg⟩
  · by_cases hb : b ∈ (tabsOf tl).TB
    · obtain ⟨ht, rfl, ps, hP⟩ := grown b o hb e
      exact .inr (.inl ⟨ht, rfl, #[], ps, rfl, by rw [Array.empty_append]; exact hP⟩)
    · exact .inl (k b o hb e)
  · by_cases hb : b ∈ (tabsOf tl).TB
    · obtain ⟨_, _, ps, hP⟩ := grown b o hb e
      exact ⟨_, hP⟩
    · exact ⟨o, k b o hb e⟩

theorem top_tp {q : Program} {loose : List Str} {mean : ExcName → Option Value} {mg mb : Str → Option Value} {h : Heap} {K : Frag} {tl : List (Addr × Str)} {GL : List (Str × Value)} (T : Top q loose mean mg mb h) (X : K.In h) (XT : ∀ P ∈ tl.map (·.1), h.get? P = some (tabObj #[]))
    (h1 : cStatics ∉ tl.map (·.1)) (h2 : mainGlobals ∉ tl.map (·.1)) (h3 : builtinsNs ∉ tl.map (·.1)) (hk : ∀ P ∈ tl.map (·.1), K.lookup P = none) (hn : ∀ p ∈ GL, nsIn K mainGlobals p.1 = some (some p.2) ∨ (nsIn K mainGlobals p.1 = some none ∧ bootBuiltins p.1 = some p.2 ∧ p.1 ≠ "__name__")) : Tp (tabsOf tl) GL K h := by
  refine ⟨⟨T.nolimit, h1, h2, h3, mg, mb, T.g, T.b, fun p hp => ?_⟩, X, hk, ?_⟩
  · rcases hn p hp with e | ⟨e1, e2, e3⟩
    · exact .inl (mg_of X T.g e)
    · exact .inr ⟨mg_none_of X T.g e1, (T.builtins p.1 e3).trans e2⟩
  · obtain ⟨bm, ob, a1, a2, a3, a4, a5, a6⟩ := T.bmain
    refine ⟨mg, bm, ob, T.g, a1, a2, fun q => ?_, a3, a4, a5, a6⟩
    have := XT bm q
    rw [a3] at this
    cases this
    cases a4
theorem script_vr {P : Params} {h : Heap} {a : Addr} {ws : List Value} {ns : List Int} (hL : h.IsList a ws.toArray) (hW : Well P h (.ref a) (ofPy (.list (ns.map .int)))) (hI : IntsAre ws ns) {ok : Addr → Prop} (hok : ok a) : VRs h [] ok [.lv (ns.map .int)] [.ref a] := by
  have hW' : Well P h (.ref a) (.list (ofPys (ns.map .int))) := hW
  cases hW' with
  | list e _ =>
  obtain ⟨o, e2, hc, n, hd⟩ := hL
  rw [e] at e2
  cases e2
  cases hd
  exact .cons (.lv e hok (VRs.of_ints hI)) .nil

theorem law_call {prog : Program} {w : World} {cw : ClaimW} {cl : Str → Option Addr} {mean : ExcName → Option Value} {ns : List Int} {s₁ : Shared} {K : Frag} {tl : List (Addr × Str)} {tabs : List (Addr × Addr)} {GL : List (Str × Value)} {fa : Addr} {m : Nat} {g : List VV → Option VV}
    (T : Tp (tabsOf tl) GL K s₁.heap) (hT : TabsAt tabs s₁.heap) (htl : tl.map (·.1) = tabs.map (·.2)) (hc : FnC prog w (tabsOf tl) GL K m (fun ws => call (.ref fa) ws) g) (hm : m ≤ 600) {a : Addr} {ws : List Value} {P : Params} (hL : s₁.heap.IsList a ws.toArray) (hW : Well P s₁.heap (.ref a) (ofPy (.list (ns.map .int)))) (hI : IntsAre ws ns)
    (hgens : s₁.gens = #[]) (hr : ∀ x, cw.raises [ofPy (.list (ns.map .int))] x = false) (hp : cw.post [ofPy (.list (ns.map .int))] (.bool true) [ofPy (.list (ns.map .int))] = true) (hlaw : g [.lv (ns.map .int)] = some (.bool true)) :
    wpAny (model prog w) callerA (call (.ref fa) [.ref a]) (fun v s' => GoodWG cw cl mean [ofPy (.list (ns.map .int))] s₁ (.ok (.ret v)) s') (fun e s' => GoodWG cw cl mean [ofPy (.list (ns.map .int))] s₁ (.error e) s') s₁ := by
  have i : (tabsOf tl).Inv s₁.heap := tabs_new fun p hp => by
    have : p.1 ∈ tabs.map (·.2) := by rw [← htl]; exact List.mem_map_of_mem hp
    obtain ⟨q, hq, e⟩ := List.mem_map.mp this
    rw [← e]
    exact (hT q hq).2
  refine hc callerA (fun _ => True) s₁ _ [.ref a] T ?_ i (fun _ _ => trivial) (script_vr hL hW hI trivial) (.bool true) hlaw _ _ fun v h' tk k i' q => ?_
  · refine ⟨rfl, ?_, ?_⟩
    · show 1 + claimMargin + m < recursionLimit
      simp only [claimMargin, recursionLimit]; omega
    · show 4 + 10 * m + 100 < cLine
      simp only [cLine]; omega
  · cases q
    exact law_post hT htl hr hp hgens k i'
end Mine
namespace Mine

-- plain laws: how the functions of a body answer
theorem bits_le {a m : Nat} (h : a < 2 ^ m) : Builtin.Int.intBits (a : Int) ≤ m := by
  unfold Builtin.Int.intBits
  split
  · exact Nat.zero_le _
  · rename_i hz
    rw [Int.natAbs_natCast]
    have h0 : a ≠ 0 := fun q => hz (by rw [q]; rfl)
    have := (Nat.log2_lt h0).mpr h
    omega
theorem fmod_pos (a : Int) {b : Int} (h : 0 < b) : 0 ≤ a.fmod b := by
  rw [Int.fmod_eq_emod_of_nonneg _ (by omega)]
  exact Int.emod_nonneg _ (by omega)
theorem sAsg_at {i : Nat} {f : EvF} {E : Lo} {H : Hp} {v : VV} (h : f E H = some v) : sAsg (.nm i) f E H = some (.next, E.set i (some v), H) := by unfold sAsg; rw [h]; rfl
theorem sAsgT_at {is : List Nat} {f : EvF} {E : Lo} {H : Hp} {vs : List VV} (h : f E H = some (.tup vs)) (hl : is.length = vs.length) : sAsg (.tp is) f E H = some (.next, setL is vs E, H) := by
  unfold sAsg
  rw [h, Option.bind_some]
  show (if is.length = vs.length then some (setL is vs E) else none).map _ = _
  rw [if_pos hl]
  rfl
theorem sAsgC_at {i : Nat} {f : Lo → Hp → Option (List VV)} {E : Lo} {H : Hp} {vs : List VV} (h : f E H = some vs) : sAsgC i f E H = some (.next, E.set i (some (.lv vs)), H) := by unfold sAsgC; rw [h]; rfl
theorem tCmp_at {g : VV → VV → Hp → Option Bool} {fa fb : EvF} {E : Lo} {H : Hp} {x y : VV} (ha : fa E H = some x) (hb : fb E H = some y) : tCmp g fa fb E H = g x y H := by unfold tCmp; rw [ha, Option.bind_some, hb, Option.bind_some]
theorem dCmp_at {g : VV → VV → Hp → Option Bool} {fa fb : EvF} {E : Lo} {H : Hp} {x y : VV} {c : Bool} (ha : fa E H = some x) (hb : fb E H = some y) (hc : g x y H = some c) : dCmp g fa fb E H = some (.bool c) := by unfold dCmp; rw [ha, Option.bind_some, hb, Option.bind_some, hc]; rfl
theorem dUn_at {g : VV → Hp → Option VV} {fa : EvF} {E : Lo} {H : Hp} {x : VV} (ha : fa E H = some x) : dUn g fa E H = g x H := by unfold dUn; rw [ha, Option.bind_some]
theorem dCall1 {g : List VV → Hp → Option VV} {f1 : EvF} {E : Lo} {H : Hp} {x : VV} (h1 : f1 E H = some x) : dCall g [f1] E H = g [x] H := by unfold dCall; simp only [evs, h1, Option.bind_some, Option.map_some]
theorem dCall2 {g : List VV → Hp → Option VV} {f1 f2 : EvF} {E : Lo} {H : Hp} {x y : VV} (h1 : f1 E H = some x) (h2 : f2 E H = some y) : dCall g [f1, f2] E H = g [x, y] H := by unfold dCall; simp only [evs, h1, h2, Option.bind_some, Option.map_some]
theorem dTup2 {f1 f2 : EvF} {E : Lo} {H : Hp} {x y : VV} (h1 : f1 E H = some x) (h2 : f2 E H = some y) : dTup [f1, f2] E H = some (.tup [x, y]) := by unfold dTup; simp only [evs, h1, h2, Option.bind_some, Option.map_some]
theorem mul_at {fa fb : EvF} {E : Lo} {H : Hp} {a b : Int} (ha : fa E H = some (.int a)) (hb : fb E H = some (.int b)) (h1 : a.natAbs < 2 ^ 250) (h2 : b.natAbs < 2 ^ 250) : dBin (opI gMul) fa fb E H = some (.int (a * b)) := by
  refine (dBin_at ha hb).trans ?_
  show (gMul a b).map VV.int = _
  unfold gMul
  rw [if_pos ⟨lt_lim9 h1, lt_lim9 h2⟩]
  rfl
theorem add_at {fa fb : EvF} {E : Lo} {H : Hp} {a b : Int} (ha : fa E H = some (.int a)) (hb : fb E H = some (.int b)) : dBin (opI gAdd) fa fb E H = some (.int (a + b)) := dBin_at ha hb
theorem sub_at {fa fb : EvF} {E : Lo} {H : Hp} {a b : Int} (ha : fa E H = some (.int a)) (hb : fb E H = some (.int b)) : dBin (opI gSub) fa fb E H = some (.int (a - b)) := dBin_at ha hb
theorem mod_at {fa fb : EvF} {E : Lo} {H : Hp} {a b : Int} (ha : fa E H = some (.int a)) (hb : fb E H = some (.int b)) (h1 : b ≠ 0) : dBin (opI gMod) fa fb E H = some (.int (a.fmod b)) := by
  refine (dBin_at ha hb).trans ?_
  show (gMod a b).map VV.int = _
  unfold gMod
  rw [if_pos h1]
  rfl

-- ints
theorem gSum_ints {l : List Int} {H : Hp} : gSum [.lv (l.map .int)] H = some (.int l.sum) := by
  show ((some (l.map VV.int)).bind fun xs => (asInts xs).map fun ns => VV.int ns.sum) = _
  rw [Option.bind_some, asInts_map]; rfl
theorem frz_ints {k : Nat} {H : Hp} : ∀ l : List Int, frzL (frz (k + 1) H) (l.map .int) = some (l.map .int)
  | [] => rfl
  | a :: l => by
    show (frz (k + 1) H (.int a)).bind _ = _
    rw [show frz (k + 1) H (.int a) = some (.int a) from rfl, Option.bind_some]
    show (frzL (frz (k + 1) H) (l.map VV.int)).map _ = _
    rw [frz_ints l]
    rfl
theorem gP_list {g : List VV → Option VV} {l : List Int} {H : Hp} : gP g [.lv (l.map .int)] H = g [.lv (l.map .int)] := by
  show (frzL (frz 8 []) [.lv (l.map .int)]).bind g = _
  have : frz 8 [] (.lv (l.map .int)) = some (.lv (l.map .int)) := by
    show (frzL (frz 7 []) (l.map VV.int)).map VV.lv = _
    rw [frz_ints]; rfl
  simp only [frzL, this, Option.bind_some, Option.map_some]
theorem filterMap_map {α β : Type} (f : α → β) (l : List α) : ∀ js : List Nat, js.filterMap (fun j => (l.map f)[j]?) = (js.filterMap (fun j => l[j]?)).map f
  | [] => rfl
  | j :: js => by
    rw [List.filterMap_cons, List.filterMap_cons, List.getElem?_map]
    cases l[j]? with
    | none => exact filterMap_map f l js
    | some a => 
      show f a :: _ = _
      rw [filterMap_map f l js]
      rfl
noncomputable def zslice {α : Type} (xs : List α) (lo hi st : Option Int) : List α := (sliceRange (sliceBounds lo hi st xs.length).1 (sliceBounds lo hi st xs.length).2.1 (sliceBounds lo hi st xs.length).2.2).filterMap fun j => xs[j]?
theorem vslice_map {α : Type} (f : α → VV) (l : List α) (lo hi st : Option Int) : vslice (l.map f) lo hi st = (zslice l lo hi st).map f := by
  unfold vslice zslice
  rw [List.length_map]
  exact filterMap_map f l _
theorem rngL_at (a b : Int) : rngL a b 1 = (List.range (b - a).toNat).map fun k : Nat => a + (k : Int) := by
  unfold rngL
  have : (Builtin.Range.rangeSize a b 1).toNat = (b - a).toNat := by rw [PySem.rangeSize_one]; split <;> omega
  rw [this]
  exact List.map_congr_left fun k _ => by omega
theorem iter_rng {a b : Int} {H : Hp} (h1 : -1000000 ≤ a) (h2 : a ≤ 1000000) (h3 : -1000000 ≤ b) (h4 : b - a ≤ 1000000) : iterMu (.rng a b 1) H = some ((rngL a b 1).map .int) := by
  show (if Builtin.Range.small a b 1 = true ∧ Builtin.Range.rangeSize a b 1 ≤ 1000000 then some ((rngL a b 1).map VV.int) else none) = _
  have hs : Builtin.Range.rangeSize a b 1 ≤ 1000000 := by rw [PySem.rangeSize_one]; split <;> omega
  rw [if_pos ⟨PySem.small_one (by omega) (by omega) (by omega) (by omega), hs⟩]

-- comprehensions of one clause
theorem loop_map {fe : EvF} {tg : Tg} {H : Hp} {P : Lo → Prop} {f : VV → VV} : ∀ (xs : List VV) (acc : List VV) (E : Lo), (∀ x ∈ xs, ∀ E, P E → ∃ E1, bindT tg x E = some E1 ∧ P E1 ∧ fe E1 H = some (f x)) → P E → acc.length + xs.length ≤ 1000000 →
    ∃ E', loopG (compG fe H []) tg [] H xs E acc = some (E', acc ++ xs.map f)
  | [], acc, E, hx, p, hl => ⟨E, by simp [loopG]⟩
  | x :: xs, acc, E, hx, p, hl => by
    rw [List.length_cons] at hl
    obtain ⟨E1, e1, p1, e2⟩ := hx x List.mem_cons_self E p
    obtain ⟨E', e⟩ := loop_map (f := f) xs (acc ++ [f x]) E1 (fun y hy => hx y (List.mem_cons_of_mem _ hy)) p1 (by rw [List.length_append]; simp; omega)
    refine ⟨E', ?_⟩
    show (bindT tg x E).bind _ = _
    rw [e1, Option.bind_some]
    show (some true).bind _ = _
    rw [Option.bind_some, if_pos rfl]
    show (if acc.length ≤ 1000000 then (fe E1 H).map fun v => (E1, acc ++ [v]) else none).bind _ = _
    rw [if_pos (by omega), e2]
    show loopG (compG fe H []) tg [] H xs E1 (acc ++ [f x]) = _
    rw [e]
    simp
theorem loop_filter {fe : EvF} {tg : Tg} {ifs : List TvF} {H : Hp} {P : Lo → Prop} {f : VV → VV} {c : VV → Bool} : ∀ (xs : List VV) (acc : List VV) (E : Lo), (∀ x ∈ xs, ∀ E, P E → ∃ E1, bindT tg x E = some E1 ∧ P E1 ∧ tAnd ifs E1 H = some (c x) ∧ (c x = true → fe E1 H = some (f x))) → P E → acc.length + xs.length ≤ 1000000 →
    ∃ E', loopG (compG fe H []) tg ifs H xs E acc = some (E', acc ++ (xs.filter c).map f)
  | [], acc, E, hx, p, hl => ⟨E, by simp [loopG]⟩
  | x :: xs, acc, E, hx, p, hl => by
    rw [List.length_cons] at hl
    obtain ⟨E1, e1, p1, e3, e2⟩ := hx x List.mem_cons_self E p
    cases hc : c x with
    | true =>
      obtain ⟨E', e⟩ := loop_filter (f := f) (c := c) xs (acc ++ [f x]) E1 (fun y hy => hx y (List.mem_cons_of_mem _ hy)) p1 (by rw [List.length_append]; simp; omega)
      refine ⟨E', ?_⟩
      show (bindT tg x E).bind _ = _
      rw [e1, Option.bind_some]
      show (tAnd ifs E1 H).bind _ = _
      rw [e3, hc, Option.bind_some, if_pos rfl]
      show (if acc.length ≤ 1000000 then (fe E1 H).map fun v => (E1, acc ++ [v]) else none).bind _ = _
      rw [if_pos (by omega), e2 hc]
      show loopG (compG fe H []) tg ifs H xs E1 (acc ++ [f x]) = _
      rw [e, List.filter_cons_of_pos hc]
      simp
    | false =>
      obtain ⟨E', e⟩ := loop_filter (f := f) (c := c) xs acc E1 (fun y hy => hx y (List.mem_cons_of_mem _ hy)) p1 (by omega)
      refine ⟨E', ?_⟩
      show (bindT tg x E).bind _ = _
      rw [e1, Option.bind_some]
      show (tAnd ifs E1 H).bind _ = _
      rw [e3, hc, Option.bind_some, if_neg (by decide), e, List.filter_cons_of_neg (by rw [hc]; decide)]
theorem comp_map {imp : List (Option Nat)} {fe : EvF} {tg : Tg} {it : Lo → Hp → Option (List VV)} {E : Lo} {H : Hp} {xs : List VV} (P : Lo → Prop) (f : VV → VV) (hi : it E H = some xs) (hp : P (importE imp E)) (hx : ∀ x ∈ xs, ∀ E, P E → ∃ E1, bindT tg x E = some E1 ∧ P E1 ∧ fe E1 H = some (f x)) (hl : xs.length ≤ 1000000) :
    dCompL imp ⟨tg, it, []⟩ [] fe E H = some (xs.map f) := by
  obtain ⟨E', e⟩ := loop_map (P := P) (f := f) xs [] _ hx hp (by simpa using hl)
  unfold dCompL
  show (it E H).bind _ = _
  rw [hi, Option.bind_some, e]
  simp
theorem comp_filter {imp : List (Option Nat)} {fe : EvF} {tg : Tg} {ifs : List TvF} {it : Lo → Hp → Option (List VV)} {E : Lo} {H : Hp} {xs : List VV} (P : Lo → Prop) (f : VV → VV) (c : VV → Bool) (hi : it E H = some xs) (hp : P (importE imp E))
    (hx : ∀ x ∈ xs, ∀ E, P E → ∃ E1, bindT tg x E = some E1 ∧ P E1 ∧ tAnd ifs E1 H = some (c x) ∧ (c x = true → fe E1 H = some (f x))) (hl : xs.length ≤ 1000000) :
    dCompL imp ⟨tg, it, ifs⟩ [] fe E H = some ((xs.filter c).map f) := by
  obtain ⟨E', e⟩ := loop_filter (P := P) (f := f) (c := c) xs [] _ hx hp (by simpa using hl)
  unfold dCompL
  show (it E H).bind _ = _
  rw [hi, Option.bind_some, e]
  simp
end Mine
namespace Mine
noncomputable def Ret (F : StF) (E : Lo) (H : Hp) (v : VV) : Prop := ∃ E' H', F E H = some (.ret v, E', H')
theorem Ret.seq {f g : StF} {E E1 : Lo} {H H1 : Hp} {v : VV} (h : f E H = some (.next, E1, H1)) (k : Ret g E1 H1 v) : Ret (sSeq f g) E H v := by
  obtain ⟨E', H', e⟩ := k
  exact ⟨E', H', (sSeq_next h).trans e⟩
theorem Ret.stop {f g : StF} {E : Lo} {H : Hp} {v : VV} (k : Ret f E H v) : Ret (sSeq f g) E H v := by
  obtain ⟨E', H', e⟩ := k
  exact ⟨E', H', by unfold sSeq; rw [e]; rfl⟩
theorem Ret.last {f : EvF} {E : Lo} {H : Hp} {v : VV} (h : f E H = some v) : Ret (sRet f) E H v := ⟨_, _, sRet_at h⟩
theorem Ret.no {t : TvF} {f g : StF} {E : Lo} {H : Hp} {v : VV} (h : t E H = some false) (k : Ret g E H v) : Ret (sIf t f g) E H v := by
  obtain ⟨E', H', e⟩ := k
  exact ⟨E', H', by rw [sIf_at h, if_neg (by decide)]; exact e⟩
theorem sIf_skip {t : TvF} {f : StF} {E : Lo} {H : Hp} (h : t E H = some false) : sIf t f sNil E H = some (.next, E, H) := by rw [sIf_at h, if_neg (by decide)]; rfl
theorem sIf_go {t : TvF} {f g : StF} {E : Lo} {H : Hp} (h : t E H = some true) : sIf t f g E H = f E H := by rw [sIf_at h, if_pos rfl]
theorem sIf_else {t : TvF} {f g : StF} {E : Lo} {H : Hp} (h : t E H = some false) : sIf t f g E H = g E H := by rw [sIf_at h, if_neg (by decide)]
theorem Ret.gOf {F : StF} {ps : List Nat} {len np : Nat} {xs : List VV} {v : VV} (hl : xs.length = np) (k : Ret F (bindE ps len xs) [] v) (hv : ∀ H, frz 8 H v = some v) : gOf F ps len np xs = some v := by
  obtain ⟨E', H', e⟩ := k
  unfold Mine.gOf
  rw [if_pos hl, e, Option.bind_some]
  exact hv H'
theorem tOr_no {f : TvF} {fs : List TvF} {E : Lo} {H : Hp} (h : f E H = some false) (k : tOr fs E H = some false) : tOr (f :: fs) E H = some false := by
  show (f E H).bind _ = _
  rw [h, Option.bind_some, if_neg (by decide)]
  exact k
theorem tOr_nil {E : Lo} {H : Hp} : tOr [] E H = some false := rfl
theorem tAnd_no {f : TvF} {fs : List TvF} {E : Lo} {H : Hp} (h : f E H = some false) : tAnd (f :: fs) E H = some false := by
  show (f E H).bind _ = _
  rw [h, Option.bind_some, if_neg (by decide)]
theorem tAnd_go {f : TvF} {fs : List TvF} {E : Lo} {H : Hp} {c : Bool} (h : f E H = some true) (k : tAnd fs E H = some c) : tAnd (f :: fs) E H = some c := by
  show (f E H).bind _ = _
  rw [h, Option.bind_some, if_pos rfl]
  exact k
theorem tAnd_one {f : TvF} {E : Lo} {H : Hp} {c : Bool} (h : f E H = some c) : tAnd [f] E H = some c := by
  show (f E H).bind _ = _
  rw [h, Option.bind_some]
  cases c <;> rfl
theorem pys_ints : ∀ l : List Int, pys (l.map .int) = some (l.map .int)
  | [] => rfl
  | a :: l => by
    show (some (PyData.int a)).bind _ = _
    rw [Option.bind_some, pys_ints l]
    rfl
theorem shaped_ints (l : List Int) : SeqAt.shaped (.list (l.map .int)) = true := by
  unfold SeqAt.shaped
  have h1 : (PyData.list (l.map .int)).canLay0 = true := by
    show PyData.canLayAll0 (l.map PyData.int) = true
    induction l with
    | nil => rfl
    | cons a l ih => simp only [List.map_cons, PyData.canLayAll0, PyData.canLay0, ih, Bool.and_self]
  have h2 : (PyData.list (l.map .int)).depth ≤ 64 := by
    have : PyData.depthAll (l.map PyData.int) = 0 := by
      clear h1
      induction l with
      | nil => rfl
      | cons a l ih => simp only [List.map_cons, PyData.depthAll, PyData.depth, ih, Nat.max_self]
    show PyData.depthAll (l.map PyData.int) + 1 ≤ 64
    omega
  rw [h1]
  simpa using h2
theorem eqvAll_ints : ∀ a b : List Int, PyData.eqvAll (a.map .int) (b.map .int) = decide (a = b)
  | [], [] => by simp [PyData.eqvAll]
  | [], _ :: _ => by simp [PyData.eqvAll]
  | _ :: _, [] => by simp [PyData.eqvAll]
  | x :: a, y :: b => by
    show (x == y && PyData.eqvAll (a.map .int) (b.map .int)) = _
    rw [eqvAll_ints a b]
    by_cases h1 : x = y <;> by_cases h2 : a = b <;> simp [h1, h2]
theorem cmEq_ints (a b : List Int) (H : Hp) : cmEq (.lv (a.map .int)) (.lv (b.map .int)) H = some (decide (a = b)) := by
  show (((pys (a.map VV.int)).map PyData.list).bind fun x => ((pys (b.map VV.int)).map PyData.list).bind fun y => if SeqAt.shaped x = true ∧ SeqAt.shaped y = true then some (PyData.eqv x y) else none) = _
  rw [pys_ints, pys_ints]
  show (if SeqAt.shaped (.list (a.map .int)) = true ∧ SeqAt.shaped (.list (b.map .int)) = true then some (PyData.eqvAll (a.map .int) (b.map .int)) else none) = _
  rw [if_pos ⟨shaped_ints a, shaped_ints b⟩, eqvAll_ints]
theorem cmNe_ints (a b : List Int) (H : Hp) : cmNe (.lv (a.map .int)) (.lv (b.map .int)) H = some (!decide (a = b)) := by
  show (cmEq _ _ H).map not = _
  rw [cmEq_ints]; rfl
theorem slice_at {fa : EvF} {fl fu fs : Option EvF} {E : Lo} {H : Hp} {α : Type} {f : α → VV} {l : List α} {lo hi st : Option Int} (ha : fa E H = some (.lv (l.map f))) (h1 : evp fl E H = some lo) (h2 : evp fu E H = some hi) (h3 : evp fs E H = some st) (hst : st ≠ some 0) (hl : l.length ≤ 16777216) :
    dSlice fa fl fu fs E H = some (.lv ((zslice l lo hi st).map f)) := by
  unfold dSlice
  rw [ha, Option.bind_some, h1, Option.bind_some, h2, Option.bind_some, h3, Option.bind_some]
  show ((some (l.map f)).bind _) = _
  rw [Option.bind_some, if_pos ⟨hst, by rw [List.length_map]; exact hl⟩, vslice_map]
theorem evp_some {f : EvF} {E : Lo} {H : Hp} {k : Int} (h : f E H = some (.int k)) : evp (some f) E H = some (some k) := by
  show (f E H).bind _ = _
  rw [h]; rfl
theorem evp_none {E : Lo} {H : Hp} : evp none E H = some none := rfl
theorem opIdx_nat {xs : List VV} {k : Nat} {H : Hp} {v : VV} (h : xs[k]? = some v) (hz : k ≤ 1000000) : opIdx (.lv xs) (.int k) H = some v := by
  show idx xs (k : Int) = _
  rw [idxq (List.getElem?_eq_some_iff.mp h).1 hz, h]
end Mine
namespace Mine
-- indent_level, told faster
noncomputable def goI : List Int → Int → Int → Int → Int
  | [], _, _, il => il
  | c :: cs, i, ts, il => if c = 0 then goI cs (i + 1) ts il else goI cs (i + 1) ts (il + i.fdiv ts * c)
theorem goI_eq {cnt : List Int} {ts : Int} : ∀ (m k : Nat) (il : Int), k + m = cnt.length →
    ((List.range m).map fun j : Nat => (k : Int) + (j : Int)).foldl (fun il i => il + i.fdiv ts * cnt.getD i.toNat 0) il = goI (cnt.drop k) k ts il
  | 0, k, il, h => by
    rw [List.drop_eq_nil_of_le (by omega)]
    rfl
  | m + 1, k, il, h => by
    rw [List.range_succ_eq_map, List.map_cons, List.foldl_cons, List.map_map]
    have hd : cnt.drop k = cnt.getD k 0 :: cnt.drop (k + 1) := by
      rw [List.drop_eq_getElem_cons (by omega)]
      congr 1
      rw [List.getD_eq_getElem?_getD, List.getElem?_eq_getElem (by omega)]
      rfl
    have e := goI_eq (cnt := cnt) (ts := ts) m (k + 1) (il + ((k : Int) + ((0 : Nat) : Int)).fdiv ts * cnt.getD ((k : Int) + ((0 : Nat) : Int)).toNat 0) (by omega)
    have e2 : (List.map ((fun j : Nat => (k : Int) + (j : Int)) ∘ Nat.succ) (List.range m)) = (List.range m).map fun j : Nat => ((k + 1 : Nat) : Int) + (j : Int) := by
      refine List.map_congr_left fun j _ => ?_
      show (k : Int) + ((j + 1 : Nat) : Int) = ((k + 1 : Nat) : Int) + (j : Int)
      omega
    rw [e2, e, hd]
    show _ = (if cnt.getD k 0 = 0 then goI (cnt.drop (k + 1)) ((k : Int) + 1) ts il else goI (cnt.drop (k + 1)) ((k : Int) + 1) ts (il + (k : Int).fdiv ts * cnt.getD k 0))
    have e3 : ((k : Int) + ((0 : Nat) : Int)) = (k : Int) := by omega
    rw [e3, Int.toNat_natCast]
    split
    · rename_i hz
      rw [hz, Int.mul_zero, Int.add_zero]
      rfl
    · rfl
noncomputable def indIlF (cnt : List Int) (ts : Int) : Int := goI (cnt.drop ts.toNat) ts ts 0
theorem indIlF_eq {cnt : List Int} {ts : Int} (h : 1 ≤ ts) : indIlF cnt ts = indIl cnt ts := by
  unfold indIlF indIl
  rw [rngL_at]
  obtain ⟨k, rfl⟩ := Int.eq_ofNat_of_zero_le (show 0 ≤ ts by omega)
  rw [Int.toNat_natCast]
  by_cases hk : k ≤ cnt.length
  · rw [← goI_eq (cnt.length - k) k 0 (by omega)]
    rw [show ((cnt.length : Int) - (k : Int)).toNat = cnt.length - k by omega]
  · rw [List.drop_eq_nil_of_le (by omega), show ((cnt.length : Int) - (k : Int)).toNat = 0 by omega]
    rfl
theorem FnC.sub {prog : Program} {w : World} {TT : Tabs} {n : Nat} {GL : List (Str × Value)} {K : Frag} {t : List Value → Sem Value} {g g' : List VV → Option VV} (h : FnC prog w TT GL K n t g) (s : ∀ xs v, g' xs = some v → g xs = some v) : FnC prog w TT GL K n t g' :=
  fun A ok s' xs ws T B i hf r v e => h A ok s' xs ws T B i hf r v (s xs v e)
end Mine
namespace Mine
-- a comprehension whose target is a cell (a comprehension within asks for it)
noncomputable def unC (x : Str) (names : Sc) : Sc := names.map fun p => if p.1 == x then (p.1, NameKind.local) else p
noncomputable def compEnv1 (scope : Scope) (cells : List (Str × Addr)) (C : Addr) (env : Env) : Env := { scope := relabel scope env, locals := C, globals := env.globals, cells := cells, qual := env.qual, func := none, code := env.code, frame := env.frame, builtins := env.builtins }
theorem closure_of2 {scope : Scope} {env : Env} (h : ∀ x, (x, NameKind.free) ∈ scope.names → ∃ a, env.cells.lookup x = some a) :
    ∃ cl, closureFor scope env = pure cl ∧ (∀ x, (x, NameKind.free) ∈ scope.names → cl.lookup x = env.cells.lookup x) ∧ ∀ x, (x, NameKind.free) ∉ scope.names → cl.lookup x = none := by
  obtain ⟨cl, e1, e2, e3⟩ := closure_go (env := env) (fun p c => if (p.2 == NameKind.free) = true then (do let a ← cellOf env p.1; pure (.yield ((p.1, a) :: c))) else pure (.yield c)) (fun _ _ => rfl) scope.names [] h
  obtain ⟨cl', f1, f2⟩ := closure_of h
  refine ⟨cl, ?_, e2, fun x hx => (e3 x hx).trans rfl⟩
  unfold closureFor
  have key : ∀ (f : Str × NameKind → List (Str × Addr) → Sem (ForInStep (List (Str × Addr)))), (∀ p c, f p c = if (p.2 == NameKind.free) = true then (do let a ← cellOf env p.1; pure (.yield ((p.1, a) :: c))) else pure (.yield c)) →
      (do let cs ← forIn scope.names [] f; pure cs) = (pure cl : Sem _) := by
    intro f hf
    have : f = fun p c => if (p.2 == NameKind.free) = true then (do let a ← cellOf env p.1; pure (.yield ((p.1, a) :: c))) else pure (.yield c) := by
      funext p c; exact hf p c
    subst this
    rw [e1]
  refine Eq.trans ?_ (key (fun p c => if (p.2 == NameKind.free) = true then (do let a ← cellOf env p.1; pure (.yield ((p.1, a) :: c))) else pure (.yield c)) fun _ _ => rfl)
  exact bind_pure (m := Sem) (forIn scope.names [] fun (p : Str × NameKind) c => if (p.2 == NameKind.free) = true then (do let a ← cellOf env p.1; pure (.yield ((p.1, a) :: c))) else pure (.yield c))
noncomputable def OneCell (x : Str) (names : Sc) : Prop := ∃ a b, names = a ++ (x, NameKind.cell) :: b ∧ (∀ y ∈ a, y.2 ≠ .cell) ∧ ∀ y ∈ b, y.2 ≠ .cell
theorem cells_no : ∀ (names : Sc) (n : Nat) (acc : List (Str × Addr)) (h : Heap), (∀ y ∈ names, y.2 ≠ .cell) → cellsFrom n names acc = acc ∧ pushCells h names = h
  | [], _, _, _, _ => ⟨rfl, rfl⟩
  | (y, k) :: r, n, acc, h, hy => by
    have hk : (k == NameKind.cell) = false := beq_eq_false_iff_ne.mpr (hy _ (.head _))
    obtain ⟨e1, e2⟩ := cells_no r n acc h fun y q => hy y (.tail _ q)
    unfold cellsFrom pushCells
    rw [hk]
    exact ⟨e1, e2⟩
theorem cells_one {x : Str} {b : Sc} (hb : ∀ y ∈ b, y.2 ≠ .cell) : ∀ (a : Sc) (n : Nat) (acc : List (Str × Addr)) (h : Heap), (∀ y ∈ a, y.2 ≠ .cell) → cellsFrom n (a ++ (x, NameKind.cell) :: b) acc = (x, n) :: acc ∧ pushCells h (a ++ (x, NameKind.cell) :: b) = h.push { cls := .type "cell", data := .cell none }
  | [], n, acc, h, _ => by
    obtain ⟨e1, _⟩ := cells_no b (n + 1) ((x, n) :: acc) h hb
    obtain ⟨_, e2⟩ := cells_no b (n + 1) acc (h.push { cls := .type "cell", data := .cell none }) hb
    exact ⟨e1, e2⟩
  | (y, k) :: r, n, acc, h, hy => by
    have hk : (k == NameKind.cell) = false := beq_eq_false_iff_ne.mpr (hy _ (.head _))
    obtain ⟨e1, e2⟩ := cells_one hb r n acc h fun y q => hy y (.tail _ q)
    rw [List.cons_append]
    unfold cellsFrom pushCells
    rw [hk]
    exact ⟨e1, e2⟩
theorem newEnv_one {M : Model} {A : Around} {E : Value → Shared → Prop} {s : Shared} {scope : Scope} {globals : Addr} {cl : List (Str × Addr)} {qual : Str} {env : Env} {x : Str} {Q : Env → Shared → Prop} (hx : OneCell x scope.names)
    (hQ : Q { scope := scope, locals := s.heap.objs.size, globals := globals, cells := (x, s.heap.objs.size + 1) :: cl, qual := qual, func := none, code := env.code, frame := env.frame, builtins := env.builtins } { s with heap := (s.heap.push { cls := .type "dict", data := .dict #[] }).push { cls := .type "cell", data := .cell none } }) :
    wpAny M A (newFunctionEnv scope globals cl [] qual none .none (some env)) Q E s := by
  obtain ⟨a, b, hn, ha, hb⟩ := hx
  simp only [newFunctionEnv, Option.isSome_some, if_true]
  refine wpAny_bind (wpAny_alloc ?_)
  refine wpAny_bind (wpAny_layCells _ (fun name kind cells => by cases hkc : kind == NameKind.cell <;> simp [hkc]) _ _ _ _ ?_)
  rw [hn]
  obtain ⟨e1, _⟩ := cells_one (x := x) hb a ({ s with heap := s.heap.push { cls := .type "dict", data := .dict #[] } } : Shared).heap.objs.size cl s.heap ha
  obtain ⟨_, e2⟩ := cells_one (x := x) hb a 0 cl (s.heap.push { cls := .type "dict", data := .dict #[] }) ha
  rw [e1]
  dsimp only
  rw [e2, Heap.size_push]
  refine wpAny_bind ?_
  rw [List.forIn_nil]
  exact wpAny_pure (wpAny_pure hQ)
section
variable {prog : Program} {w : World} {TT : Tabs} {B0 : Heap} {n : Nat} {sc sc' : Sc}
structure CompM1 (prog : Program) (w : World) (TT : Tabs) (B0 : Heap) (n : Nat) (sc : Sc) (elt : Expr) (x : Str) (iter : Expr) (scope : Scope) (imp : List (Option Nat)) (i0 : Nat) (it : Lo → Hp → Option (List VV)) (fe : EvF) : Prop where
  kind : scope.kind = .function
  ax : OneCell x scope.names
  i0 : (relSc sc scope.names)[i0]? = some (x, .cell)
  nodup : (scope.names.map (·.1)).Nodup
  imp : impOk sc (unC x (relSc sc scope.names)) imp = true
  it : DenIt prog w TT B0 false n sc iter it
  fold : ∀ env x, foldedSetIterable iter env x = pure x
  elt : DenE prog w TT B0 n (relSc sc scope.names) elt fe
section
variable {elt iter : Expr} {x : Str} {scope : Scope} {imp : List (Option Nat)} {i0 : Nat} {it : Lo → Hp → Option (List VV)} {fe : EvF}
theorem unC_at {names : Sc} {i : Nat} {y : Str} {k : NameKind} (e : names[i]? = some (y, k)) : (unC x names)[i]? = some (y, if y = x then .local else k) := by
  unfold unC
  rw [List.getElem?_map, e]
  show some (if (y == x) = true then (y, NameKind.local) else (y, k)) = _
  by_cases hy : y = x
  · rw [if_pos (show (y == x) = true from beq_iff_eq.mpr hy), if_pos hy]
  · rw [if_neg (show ¬ (y == x) = true from fun q => hy (beq_iff_eq.mp q)), if_neg hy]
theorem CompM1.at_old (M : CompM1 prog w TT B0 n sc elt x iter scope imp i0 it fe) {i : Nat} {y : Str} {k : NameKind} (e : (relSc sc scope.names)[i]? = some (y, k)) (hk : k = .cell ∨ k = .free) (hy : y ≠ x) : True ∧ ∃ j k', imp[i]? = some (some j) ∧ sc[j]? = some (y, k') ∧ (k' = .cell ∨ k' = .free) := by
  have e2 := unC_at (x := x) e
  rw [if_neg hy] at e2
  rcases impOk_at M.imp e2 with ⟨h1, _⟩ | ⟨_, h⟩
  · rcases hk with rfl | rfl <;> rcases h1 with h1 | h1 <;> cases h1
  · exact ⟨trivial, h⟩
theorem CompM1.at_x (M : CompM1 prog w TT B0 n sc elt x iter scope imp i0 it fe) {i : Nat} {k : NameKind} (e : (relSc sc scope.names)[i]? = some (x, k)) : imp[i]? = some none := by
  have e2 := unC_at (x := x) e
  rw [if_pos rfl] at e2
  rcases impOk_at M.imp e2 with ⟨_, h⟩ | ⟨h1, _⟩
  · exact h
  · rcases h1 with h1 | h1 <;> cases h1
theorem CompM1.at_loc (M : CompM1 prog w TT B0 n sc elt x iter scope imp i0 it fe) {i : Nat} {y : Str} (e : (relSc sc scope.names)[i]? = some (y, .local)) : imp[i]? = some none := by
  have e2 := unC_at (x := x) e
  have e3 : (unC x (relSc sc scope.names))[i]? = some (y, .local) := by
    rw [e2]
    split <;> rfl
  rcases impOk_at M.imp e3 with ⟨_, h⟩ | ⟨h1, _⟩
  · exact h
  · rcases h1 with h1 | h1 <;> cases h1
theorem CompM1.ne_free (M : CompM1 prog w TT B0 n sc elt x iter scope imp i0 it fe) {y : Str} (h : (y, NameKind.free) ∈ scope.names) : y ≠ x := fun q => by
  subst q
  obtain ⟨a, b, hn, _⟩ := M.ax
  have hm : (y, NameKind.cell) ∈ scope.names := by rw [hn]; simp
  obtain ⟨i, hi⟩ := List.getElem?_of_mem h
  obtain ⟨j, hj⟩ := List.getElem?_of_mem hm
  have := idx_at M.nodup hi hj
  subst this
  rw [hi] at hj
  cases hj
theorem CompM1.free_at (M : CompM1 prog w TT B0 n sc elt x iter scope imp i0 it fe) {i : Nat} {y : Str} {k : NameKind} (e : (relSc sc scope.names)[i]? = some (y, k)) (hk : k = .cell ∨ k = .free) (hy : y ≠ x) : (y, NameKind.free) ∈ scope.names := by
  unfold relSc at e
  rw [List.getElem?_map] at e
  obtain ⟨⟨z, k'⟩, e1, e2⟩ := Option.map_eq_some_iff.mp e
  have hm := List.mem_of_getElem? e1
  dsimp only at e2
  split at e2
  · rename_i h
    cases e2
    simp only [Bool.and_eq_true, beq_iff_eq] at h
    rw [← h.1]; exact hm
  · cases e2
    rcases hk with rfl | rfl
    · exfalso
      obtain ⟨a, b, hn, ha, hb⟩ := M.ax
      rw [hn] at hm
      rcases List.mem_append.mp hm with q | q
      · exact ha _ q rfl
      · rcases List.mem_cons.mp q with q | q
        · cases q; exact hy rfl
        · exact hb _ q rfl
    · exact hm
end
section
variable {elt iter : Expr} {x : Str} {scope : Scope} {imp : List (Option Nat)} {i0 : Nat} {it : Lo → Hp → Option (List VV)} {fe : EvF} {env : Env} {ρ : List Addr} {ok : Addr → Prop} {E : Lo} {h : Heap} {cl : List (Str × Addr)} {c1 C : Addr}
theorem relSc_free {names : Sc} {y : Str} (hx : (y, NameKind.free) ∈ names) : ∃ (i : Nat) (k : NameKind), (relSc sc names)[i]? = some (y, k) ∧ (k = .cell ∨ k = .free) := by
  obtain ⟨i, hi⟩ := List.getElem?_of_mem hx
  unfold relSc
  refine ⟨i, ?_⟩
  rw [List.getElem?_map, hi]
  dsimp only [Option.map]
  split
  · exact ⟨_, rfl, .inl rfl⟩
  · exact ⟨_, rfl, .inr rfl⟩
theorem free_c1 (M : CompM1 prog w TT B0 n sc elt x iter scope imp i0 it fe) (hs : env.scope.names = sc) (V : EnvV TT env ρ ok E h) {y : Str} (hx : (y, NameKind.free) ∈ scope.names) : ∃ a o, env.cells.lookup y = some a ∧ h.get? a = some o := by
  obtain ⟨i, k, e1, hk⟩ := relSc_free (sc := sc) hx
  obtain ⟨_, j, k', _, h2, h3⟩ := M.at_old e1 hk (M.ne_free hx)
  obtain ⟨a, o, _, e2, e3, _⟩ := V.cells j _ k' (by rw [hs]; exact h2) h3
  exact ⟨a, o, e2, e3⟩
theorem rel_c1 (hs : env.scope.names = sc) (hk : env.scope.kind = .function) : (relabel scope env).names = relSc sc scope.names := by
  unfold relabel relSc
  refine List.map_congr_left fun p _ => ?_
  obtain ⟨y, k⟩ := p
  dsimp only
  have e : env.kindOf y = sc.lookup y := by unfold Env.kindOf; rw [hs]
  rw [hk, e]
  simp
theorem look_c1 {y : Str} (hy : y ≠ x) : ((x, c1) :: cl).lookup y = cl.lookup y := by
  rw [List.lookup_cons, show (y == x) = false from beq_eq_false_iff_ne.mpr hy]
theorem cells_c1 (M : CompM1 prog w TT B0 n sc elt x iter scope imp i0 it fe) (hlook : ∀ y, (y, NameKind.free) ∈ scope.names → cl.lookup y = env.cells.lookup y) {i : Nat} {y : Str} {k : NameKind} (e : (relSc sc scope.names)[i]? = some (y, k)) (hk : k = .cell ∨ k = .free) (hy : y ≠ x) :
    ∃ j k', imp[i]? = some (some j) ∧ sc[j]? = some (y, k') ∧ (k' = .cell ∨ k' = .free) ∧ ((x, c1) :: cl).lookup y = env.cells.lookup y := by
  obtain ⟨_, j, k', h1, h2, h3⟩ := M.at_old e hk hy
  exact ⟨j, k', h1, h2, h3, (look_c1 hy).trans (hlook y (M.free_at e hk hy))⟩
theorem cl_c1 (M : CompM1 prog w TT B0 n sc elt x iter scope imp i0 it fe) (hs : env.scope.names = sc) (hlook : ∀ y, (y, NameKind.free) ∈ scope.names → cl.lookup y = env.cells.lookup y) (V : EnvV TT env ρ ok E h) (p : Addr → Prop) (pc : p c1) (hp : ∀ a o, h.get? a = some o → p a) :
    ClN (compEnv1 scope ((x, c1) :: cl) C env) p := fun i y k a e hk el => by
  have e' : (relSc sc scope.names)[i]? = some (y, k) := by rw [← rel_c1 hs V.kind]; exact e
  have this : ((x, c1) :: cl).lookup y = some a := el
  by_cases hy : y = x
  · subst hy
    rw [List.lookup_cons_self] at this
    cases this
    exact pc
  obtain ⟨j, k', h1, h2, h3, h4⟩ := cells_c1 (c1 := c1) M hlook e' hk hy
  obtain ⟨a', o, v₀, f1, f2, f3, f4, r⟩ := V.cells j y k' (by rw [hs]; exact h2) h3
  rw [h4, f1] at this
  cases this
  exact hp _ _ f2
theorem env_c1 (M : CompM1 prog w TT B0 n sc elt x iter scope imp i0 it fe) (hs : env.scope.names = sc) (hlook : ∀ y, (y, NameKind.free) ∈ scope.names → cl.lookup y = env.cells.lookup y) (V3 : EnvV TT env ρ ok E h) (tC : C ∉ TT.TB) (tc : c1 ∉ TT.TB)
    (hns₃ : h.Ns C (fun _ => none)) (hc₃ : h.get? c1 = some { cls := .type "cell", data := .cell none }) : EnvV TT (compEnv1 scope ((x, c1) :: cl) C env) ρ ok (importE imp E) h := {
    kind := M.kind
    glo := V3.glo
    blt := V3.blt
    lTB := tC
    ns := ⟨_, hns₃, fun i y v e1 e2 => by
      have e1' : (relSc sc scope.names)[i]? = some (y, .local) := by rw [← rel_c1 hs V3.kind]; exact e1
      have h1 := M.at_loc e1'
      unfold importE at e2
      rw [List.getElem?_map, h1] at e2
      cases e2⟩
    cells := fun i y k e hk => by
      have e' : (relSc sc scope.names)[i]? = some (y, k) := by rw [← rel_c1 hs V3.kind]; exact e
      by_cases hy : y = x
      · subst hy
        refine ⟨c1, _, none, List.lookup_cons_self, hc₃, tc, rfl, fun v ev => ?_⟩
        unfold importE at ev
        rw [List.getElem?_map, M.at_x e'] at ev
        cases ev
      obtain ⟨j, k', h1, h2, h3, h4⟩ := cells_c1 (c1 := c1) M hlook e' hk hy
      obtain ⟨a, o, v₀, f1, f2, f3, f4, r⟩ := V3.cells j y k' (by rw [hs]; exact h2) h3
      refine ⟨a, o, v₀, h4.trans f1, f2, f3, f4, fun v ev => r v ?_⟩
      unfold importE at ev
      rw [List.getElem?_map, h1] at ev
      have ev' : (E[j]?).join = some v := by simpa using ev
      cases q : E[j]? with
      | none => rw [q] at ev'; cases ev'
      | some u => rw [q] at ev'; cases u with
        | none => cases ev'
        | some u' => cases ev'; rfl }
theorem inj_c1 (M : CompM1 prog w TT B0 n sc elt x iter scope imp i0 it fe) (hs : env.scope.names = sc) (hlook : ∀ y, (y, NameKind.free) ∈ scope.names → cl.lookup y = env.cells.lookup y) (hlook2 : ∀ y, (y, NameKind.free) ∉ scope.names → cl.lookup y = none)
    (V1 : EnvV TT env ρ ok E h) (hc₁ : h.get? c1 = none) {y : Str} {a : Addr} (ey : ((x, c1) :: cl).lookup y = some a) (ea : a = c1) : y = x := by
  by_cases hy : y = x
  · exact hy
  · exfalso
    rw [look_c1 hy] at ey
    by_cases hyf : (y, NameKind.free) ∈ scope.names
    · rw [hlook y hyf] at ey
      obtain ⟨a', o, f1, f2⟩ := free_c1 M hs V1 hyf
      rw [ey] at f1
      cases f1
      rw [ea, hc₁] at f2
      cases f2
    · rw [hlook2 y hyf] at ey
      cases ey
theorem sto_c1 (M : CompM1 prog w TT B0 n sc elt x iter scope imp i0 it fe) (hs : env.scope.names = sc) (hk : env.scope.kind = .function) {tpos : Pos} {A : Around} (ap : Apart B0 ρ ok [C, c1]) (hCc1 : C ≠ c1) (inj : ∀ y a, ((x, c1) :: cl).lookup y = some a → a = c1 → y = x) :
    StoT prog w TT B0 A (compEnv1 scope ((x, c1) :: cl) C env) [C, c1] ρ ok (.Name x tpos) (.nm i0) := by
  intro H4 E4 E5 s4 v wv S4 V4 q eb Q4 Err4 P4
  cases eb
  have hi0 : (compEnv1 scope ((x, c1) :: cl) C env).scope.names[i0]? = some (x, .cell) := by
    show (relabel scope env).names[i0]? = _
    rw [rel_c1 hs hk]; exact M.i0
  have hnd : ((compEnv1 scope ((x, c1) :: cl) C env).scope.names.map (·.1)).Nodup := by
    show ((relabel scope env).names.map (·.1)).Nodup
    rw [rel_c1 hs hk, relSc_names]; exact M.nodup
  obtain ⟨c', o, v₀, f1, f2, f3, f4, _⟩ := V4.cells _ _ _ hi0 (.inl rfl)
  have f1' : ((x, c1) :: cl).lookup x = some c' := f1
  rw [List.lookup_cons_self] at f1'
  cases f1'
  refine wpAny_assign_Name (wpAny_storeName_cell V4.kind (lookup_at hnd hi0) f1 ⟨o, f2, f4⟩ fun h' hn' hs' => ?_)
  have kk : KP (TT.TB ++ [c1]) s4.heap h' := KP.ofBut fun b o hb e => hs'.extBut b o (fun q => hb (List.mem_singleton.mpr q)) e
  have sub : ∀ b ∈ [c1], b ∈ [C, c1] := fun b hb => .tail _ hb
  have i' : TT.Inv h' := TT.one S4.good.inv f3 (fun o' e' => .of fun vs hd => (by rw [f2] at e'; cases e'; rw [f4] at hd; cases hd)) fun b o hb e => hs'.extBut b o hb e
  have S5 := S4.keepX (ap.sub sub) kk i' fun b hb => by
    rw [List.mem_singleton.mp hb]
    obtain ⟨o, e, _⟩ := hn'
    rw [e]; nofun
  exact P4 h' s4.toks (kk.inX sub) S5 (V4.setC S4.good.inv hnd hi0 f1 (ap.ok _ (.tail _ (.head _))) hCc1.symm inj f3 hn' kk q)
end
theorem comp_core1 {elt iter : Expr} {x : Str} {tpos : Pos} {scope : Scope} {imp : List (Option Nat)} {i0 : Nat} {it : Lo → Hp → Option (List VV)} {fe : EvF} (M : CompM1 prog w TT B0 n sc elt x iter scope imp i0 it fe)
    {A : Around} {env : Env} {ρ : List Addr} {ok : Addr → Prop} {H : Hp} {E : Lo} {s : Shared} (B : Bud A n) (hs : env.scope.names = sc) (S : SV0 TT B0 ρ ok H s.heap) (V : EnvV TT env ρ ok E s.heap) {xs : List VV} (e : dCompL imp ⟨.nm i0, it, []⟩ [] fe E H = some xs)
    {pos p : Pos} {use : Option (Value → Sem Unit)} {Q Err : Value → Shared → Prop}
    (fin : ∀ D C ws k h' tk, s.heap.get? D = none → s.heap.get? C = none → C ≠ D → C ∉ TT.TB → D ∉ TT.TB → KP TT.TB s.heap h' → TT.Inv h' → (∃ m, h'.Ns C m) → h'.get? D = some (listO (List.toArray ws) k) →
      VRs h' ρ (fun a => ok a ∧ a ≠ C ∧ a ≠ D) xs ws → SV0 TT B0 ρ ok H h' → EnvV TT env ρ ok E h' → (∀ a, h'.get? a = none → ok a ∧ a ≠ C ∧ a ≠ D) → compPost (model prog w) A Err use Q (.ref D) C (.ok .next) { s with heap := h', toks := tk }) :
    wpAny (model prog w) A (comprehension (.ListComp elt [⟨.Name x tpos, iter, [], 0⟩] scope pos) scope env p (newList []) false (eval iter env) use) Q Err s := by
  refine bindSome e fun ys ey e => ?_
  obtain ⟨⟨E', acc'⟩, eL, rfl⟩ := Option.map_eq_some_iff.mp e
  have hfree : ∀ y, (y, NameKind.free) ∈ scope.names → ∃ a, env.cells.lookup y = some a := fun y hx => let ⟨a, _, e, _⟩ := free_c1 M hs V hx; ⟨a, e⟩
  obtain ⟨cl, hcl, hlook, hlook2⟩ := closure_of2 (env := env) hfree
  have hnames : ∀ x ∈ scope.names, x.2 = .local → scope.names.lookup x.1 = some .local := fun x hx hl => by
    obtain ⟨i, hi⟩ := List.getElem?_of_mem hx
    refine lookup_at M.nodup (i := i) ?_
    rw [hi, ← hl]
  have hrel : (relabel scope env).names = relSc sc scope.names := rel_c1 hs V.kind
  refine wpAny_comprehension_free (use := use) rfl (M.fold env) hcl M.kind hnames ?_
  refine M.it A env ρ ok H E s B hs S V ys ey _ _ fun I fp Pr St h₁ tk₁ hf₁ k₁ i₁ X => ?_
  have S1 := S.keep k₁ i₁
  have V1 := V.keep S.good.inv k₁
  refine wpAny_newObj_type (newEnv_one M.ax ?_)
  dsimp only
  generalize hH2 : h₁.push { cls := .type "list", dict := none, data := .seq ([] : List Value).toArray } = H2
  generalize hDd : h₁.objs.size = D
  generalize hh3 : (H2.push { cls := .type "dict", data := .dict #[] }).push { cls := .type "cell", data := .cell none } = h₃
  generalize hCc : H2.objs.size = C
  have hns₃ : h₃.Ns C (fun _ => none) := by
    rw [← hh3, ← hCc]
    exact (Heap.Ns.new H2 (.type "dict")).keeps fun b o e => Heap.get?_push_of_some _ e
  have hDC : C = D + 1 := by rw [← hCc, ← hDd, ← hH2, Heap.size_push]
  have lt : ∀ b o, h₁.get? b = some o → b < D := fun b o e => hDd ▸ Heap.lt_size e
  have hCD : C ≠ D := by rw [hDC]; exact Nat.succ_ne_self D
  have old : ∀ b o, h₁.get? b = some o → h₃.get? b = some o := fun b o e => by
    rw [← hh3]
    exact Heap.get?_push_of_some _ (Heap.get?_push_of_some _ (hH2 ▸ Heap.get?_push_of_some _ e))
  generalize hc1 : C + 1 = c1
  have hc₃ : h₃.get? c1 = some { cls := .type "cell", data := .cell none } := by
    rw [← hh3, ← hc1, ← hCc]
    have := Heap.get?_push_size (H2.push { cls := .type "dict", data := .dict #[] }) (o := { cls := .type "cell", data := .cell none }) rfl
    rwa [Heap.size_push] at this
  have hD₁ : h₁.get? D = none := by
    cases q : h₁.get? D with
    | none => rfl
    | some o => exact absurd (lt _ _ q) (Nat.lt_irrefl _)
  have hc₁ : h₁.get? c1 = none := by
    cases q : h₁.get? c1 with
    | none => rfl
    | some o => have := lt _ _ q; rw [← hc1, hDC] at this; exact absurd this (Nat.not_lt.mpr (Nat.le_succ_of_le (Nat.le_succ _)))
  have hCc1 : C ≠ c1 := by rw [← hc1]; exact (Nat.succ_ne_self C).symm
  have hDc1 : D ≠ c1 := by rw [← hc1, hDC]; intro q; have : D < D + 1 + 1 := by omega
                           rw [← q] at this; exact absurd this (Nat.lt_irrefl _)
  have hC₁ : h₁.get? C = none := by
    cases q : h₁.get? C with
    | none => rfl
    | some o => have := lt _ _ q; rw [hDC] at this; exact absurd this (Nat.not_lt.mpr (Nat.le_succ _))
  have tab : ∀ b, h₁.get? b = none → b ∉ TT.TB := fun b e q => by
    obtain ⟨o, e', _⟩ := TT.there h₁ i₁ b q
    rw [e] at e'; cases e'
  have hD₃ : h₃.get? D = some (listO (List.toArray []) 0) := by
    rw [← hh3]
    exact Heap.get?_push_of_some _ (Heap.get?_push_of_some _ (by rw [← hH2, ← hDd]; exact Heap.get?_push_size _ rfl))
  have kp₃ : KP TT.TB h₁ h₃ := KP.of old
  have i₃ := TT.mono _ _ old i₁
  obtain ⟨nm, hnm, hcls⟩ := X.cls
  obtain ⟨oI, hoI, hcI, _⟩ := hcls _ _ X.st
  -- the data's places: none of the comprehension's
  let ok0 : Addr → Prop := fun a => (ok a ∧ a ≠ C ∧ a ≠ D) ∧ a ≠ c1
  have ho0 : ∀ a o, h₁.get? a = some o → ok a → ok0 a := fun a o e h => ⟨⟨h, fun q => (by rw [q, hC₁] at e; cases e), fun q => (by rw [q, hD₁] at e; cases e)⟩, fun q => (by rw [q, hc₁] at e; cases e)⟩
  have hoI' : ∀ a o, s.heap.get? a = some o → ok a → Without ok0 I a := fun a o e h => ⟨⟨⟨h, fun q => (by
      have := k₁.free i₁ hC₁; rw [q, this] at e; cases e), fun q => (by have := k₁.free i₁ hD₁; rw [q, this] at e; cases e)⟩, fun q => (by have := k₁.free i₁ hc₁; rw [q, this] at e; cases e)⟩, fun q => (by rw [q, hf₁] at e; cases e)⟩
  have mem3 : ∃ oC, h₃.get? C = some oC := let ⟨o, _, _, e, _⟩ := hns₃; ⟨o, e⟩
  have S3 : SV0 TT B0 ρ (Without ok0 I) H h₃ := ⟨(S1.keep kp₃ i₃).good, S.len, fun j vo e => let ⟨a, ea, o⟩ := S.objs j vo e;
      ⟨a, ea, (o.okm hoI').keepX (X := []) (by simp) (by simp) ((k₁.trans kp₃).toX []) S.good.inv⟩, fun a e => ⟨⟨⟨(S1.keep kp₃ i₃).free a e, fun q => (by
        obtain ⟨o, e'⟩ := mem3; rw [q, e'] at e; cases e), fun q => (by rw [q, hD₃] at e; cases e)⟩, fun q => (by rw [q, hc₃] at e; cases e)⟩, fun q => (by rw [q, old _ _ hoI] at e; cases e)⟩⟩
  have V3 : EnvV TT env ρ (Without ok0 I) E h₃ := (V.okm hoI').keep S.good.inv (k₁.trans kp₃)
  have VC := env_c1 (C := C) (c1 := c1) M hs hlook V3 (tab _ hC₁) (tab _ hc₁) hns₃ hc₃
  have notρ : ∀ b, h₁.get? b = none → b ∉ ρ := fun b e q => by
    obtain ⟨o, e'⟩ := S1.live q
    rw [e] at e'; cases e'
  have mm : ∀ b ∈ [C, c1], b = C ∨ b = c1 := fun b hb => by simpa using hb
  have CPC : CP TT B0 ρ ok0 (compEnv1 scope ((x, c1) :: cl) C env) D false [C, c1] := {
    frm := ⟨⟨fun b hb h => (mm b hb).elim (fun q => h.1.2.1 q) fun q => h.2 q, fun b hb => (by rcases mm b hb with rfl | rfl; exact notρ _ hC₁; exact notρ _ hc₁), fun b hb => (by rcases mm b hb with rfl | rfl; exact S1.good.old hC₁; exact S1.good.old hc₁)⟩,
      fun b hb => (by rcases mm b hb with rfl | rfl; exact tab _ hC₁; exact tab _ hc₁), List.mem_cons_self, cl_c1 M hs hlook V1 _ hCc1.symm fun a o e q => (by rw [q] at e; exact absurd e (by show h₁.get? C ≠ _; rw [hC₁]; nofun)), by nofun⟩
    apD := ⟨fun b hb h => h.1.2.2 (List.mem_singleton.mp hb), fun b hb => by rw [List.mem_singleton.mp hb]; exact notρ _ hD₁, fun b hb => by rw [List.mem_singleton.mp hb]; exact S1.good.old hD₁⟩
    tD := tab _ hD₁
    ne := fun q => (mm _ q).elim hCD.symm hDc1
    clD := cl_c1 M hs hlook V1 _ hDc1.symm fun a o e q => by rw [q, hD₁] at e; cases e }
  have okI : ok0 I := ⟨⟨S.free I hf₁, fun q => (by rw [q, hC₁] at hoI; cases hoI), fun q => (by rw [q, hD₁] at hoI; cases hoI)⟩, fun q => (by rw [q, hc₁] at hoI; cases hoI)⟩
  have notI : ∀ b, s.heap.get? b = none → b ∉ ρ := fun b e q => by
    obtain ⟨o, e'⟩ := S.live q
    rw [e] at e'; cases e'
  have X3 : Itr prog w A ρ ok0 false ys I fp Pr St h₃ := {
    walk := X.walk
    st := X.walk.frame _ _ _ X.st fun b _ o e => old b o e
    fps := fun b hb => (X.fps b hb).imp id fun ⟨o, e, hc, h⟩ => ⟨o, old _ _ e, hc, h.imp (ho0 b o e) id⟩
    it := fun i v hv => let ⟨x, hx, q⟩ := X.it i v hv; ⟨x, hx, (q.okm fun a o e h => ⟨ho0 a o e h.1, h.2⟩).keep kp₃ i₁⟩
    cls := X.cls
    sz := X.sz }
  have sto : StoT prog w TT B0 A (compEnv1 scope ((x, c1) :: cl) C env) [C, c1] ρ (Without ok0 I) (.Name x tpos) (.nm i0) := sto_c1 M hs V.kind (CPC.without I).frm.ap hCc1 fun y a ey ea => inj_c1 M hs hlook hlook2 V1 hc₁ ey ea
  have loop : codeAny (model prog w) A (.compLoop (.ListComp elt [⟨.Name x tpos, iter, [], 0⟩] scope pos) 0 (.ref I) (.ref D) (compEnv1 scope ((x, c1) :: cl) C env)) (compPost (model prog w) A Err use Q (.ref D) C) { s with heap := h₃, toks := tk₁ } := by
    refine loop_one M.elt (by rw [relSc_names]; exact M.nodup) rfl (.inl ⟨_, _, rfl⟩) .nil B hrel CPC okI (notI I hf₁) (S.good.old hf₁)
      (notTab i₁ hoI (by rw [hcI]; nofun)) (cl_c1 M hs hlook V _ (fun q => by rw [← q, hc₁] at hoI; cases hoI) fun a o e q => by rw [q, hf₁] at e; cases e) sto X3 S3 VC ⟨[], 0, hD₃, .nil⟩ eL fun h' tk k' S' V' A' => ?_
    obtain ⟨ws, k, e1, r⟩ := A'
    have kf : KP TT.TB s.heap h' := fun b o nb e => k' b o (fun q => by
      rcases List.mem_append.mp q with q | q
      · exact nb q
      · rcases List.mem_append.mp q with q | q
        · rcases mm b q with rfl | rfl
          · have := k₁.free i₁ hC₁; rw [this] at e; cases e
          · have := k₁.free i₁ hc₁; rw [this] at e; cases e
        · rcases List.mem_cons.mp q with q | q
          · have := k₁.free i₁ hD₁; rw [q, this] at e; cases e
          · rw [List.mem_singleton.mp q, hf₁] at e; cases e) (old b o (k₁ b o nb e))
    have i' := S'.good.inv
    refine fin D C ws k h' tk (k₁.free i₁ hD₁) (k₁.free i₁ hC₁) hCD (tab _ hC₁) (tab _ hD₁) kf i' (let ⟨m, hm, _⟩ := V'.ns; ⟨m, hm⟩) e1 (r.okm fun _ _ _ h => h.1) (S.keep kf i') (V.keep S.good.inv kf) fun a e => (S'.free a e).1
  exact start_c (gens := [⟨.Name x tpos, iter, [], 0⟩]) rfl loop (X3.walk.self 0 _ _ _ X3.st loop)
theorem l_comp1 {elt iter : Expr} {x : Str} {tpos : Pos} {scope : Scope} {pos : Pos} {imp : List (Option Nat)} {i0 : Nat} {it : Lo → Hp → Option (List VV)} {fe : EvF} (M : CompM1 prog w TT B0 n sc elt x iter scope imp i0 it fe) :
    DenL prog w TT B0 n sc (.ListComp elt [⟨.Name x tpos, iter, [], 0⟩] scope pos) (dCompL imp ⟨.nm i0, it, []⟩ [] fe) := by
  intro A env ρ ok H E s B hs S V xs e Q Err P
  rw [eval_ListComp]
  refine comp_core1 M B hs S V e (use := none) fun D C ws k h' tk hD hC hne hTC hTD kp i' hNs e1 r S' V' hfree => ?_
  obtain ⟨m, hm⟩ := hNs
  refine ⟨m, hm, fun h'' hsb => ?_⟩
  have kC : KP (TT.TB ++ [C]) h' h'' := KP.ofBut fun b o hb e => hsb.extBut b o (fun q => hb (List.mem_singleton.mpr q)) e
  have kf : KP TT.TB s.heap h'' := fun b o nb e => hsb.extBut b o (fun q => by rw [q, hC] at e; cases e) (kp b o nb e)
  have i'' : TT.Inv h'' := TT.oneNs i' hTC hm fun b o hb e => hsb.extBut b o hb e
  exact P D ws k h'' tk hD kf i'' (hsb.extBut _ _ hne.symm e1) ((r.keepX (X := [C]) (fun b hb h => h.2.1 (List.mem_singleton.mp hb)) kC i').okm fun _ _ _ h => ⟨h.1, h.2.2⟩)
theorem s_asgC1 {y : Str} {py : Pos} {i : Nat} {elt iter : Expr} {x : Str} {tpos : Pos} {scope : Scope} {pos spos : Pos} {imp : List (Option Nat)} {i0 : Nat} {it : Lo → Hp → Option (List VV)} {fe : EvF} (hnd : (sc.map (·.1)).Nodup) (ht : NmM sc true (.Name y py) i)
    (Mc : CompM1 prog w TT B0 n sc elt x iter scope imp i0 it fe)
    (hsw : ∀ env : Env, env.scope.names = sc → env.scope.kind = .function → swapsWith (.ListComp elt [⟨.Name x tpos, iter, [], 0⟩] scope pos) (some (.Name y py)) spos.line env = pure true) :
    DenS prog w TT B0 n sc (.Assign [.Name y py] (.ListComp elt [⟨.Name x tpos, iter, [], 0⟩] scope pos) spos) (sAsgC i (dCompL imp ⟨.nm i0, it, []⟩ [] fe)) := by
  intro A env M ρ ok H E s B hs S r E' H' e Q Err P
  refine mapSome e fun xs ev e => ?_
  cases e
  rw [exec_Assign_Name_used _ _ _ _ (hsw env hs S.ev.kind)]
  refine wpAny_bind (wpAny_standAt (wpAny_bind ?_))
  show wpAny _ A (do let _ ← comprehension (.ListComp elt [⟨.Name x tpos, iter, [], 0⟩] scope pos) scope env _ (newList []) false (eval iter env) (some (assign (.Name y py) env))) _ _ s
  refine wpAny_bind (comp_core1 Mc B hs S.s0 S.ev ev (use := some (assign (.Name y py) env)) fun D C ws k h' tk hD hC hne hTC hTD kp i' hNs e1 r S' V' hfree => ?_)
  obtain ⟨m, hm⟩ := hNs
  have hCl : ∃ o, h'.get? C = some o := let ⟨o, _, _, e, _⟩ := hm; ⟨o, e⟩
  have SA := S.apart hC kp i' hCl
  have q : VR h' ρ (Without ok C) (.lv xs) (.ref D) := .lv e1 ⟨S.s0.free D hD, hne.symm⟩ (r.okm fun _ _ _ h => ⟨h.1, h.2.1⟩)
  show wpAny _ A (assign (.Name y py) env (.ref D)) _ _ _
  refine st_name (s := { s with heap := h', toks := tk }) SA.s0 SA.ev SA.frm (hs ▸ hnd) (hs ▸ ht) q fun h₂ tk₂ k₂ S2 V2 => ?_
  have hCM : C ∉ M := fun q => S.frm.ap.ok C q (S.s0.free C hC)
  have hCρ : C ∉ ρ := fun q => S.okn C q (S.s0.free C hC)
  have hm₂ := nsAt hm fun o e => k₂ C o (fun q => (List.mem_append.mp q).elim hTC hCM) e
  refine ⟨m, hm₂, fun h₃ hs₃ => ?_⟩
  have SV2 : SV TT B0 env ρ (Without ok C) (E.set i (some (.lv xs))) H M h₂ := ⟨S2, V2, SA.frm, SA.nd, SA.okn, SA.oldn, SA.dep⟩
  have kC : KP (TT.TB ++ [C]) h₂ h₃ := KP.ofBut fun b o hb e => hs₃.extBut b o (fun q => hb (List.mem_singleton.mpr q)) e
  have i₃ : TT.Inv h₃ := TT.oneNs S2.good.inv hTC hm₂ fun b o hb e => hs₃.extBut b o hb e
  have clC : ClN env (· ≠ C) := fun j x kd a e hk el q => by
    obtain ⟨a', o, _, e1, e2, _⟩ := S.ev.cells j x kd e hk
    rw [el] at e1; cases e1
    rw [q, hC] at e2; cases e2
  have SB := SV2.back (fun h => h.2 rfl) hCM hCρ (S.s0.good.old hC) kC i₃ clC
  refine wpAny_pure (wpAny_pure (P _ _ _ h₃ tk₂ ⟨⟨[], by simp⟩, fun _ q => .inl q, fun a h => h.elim (fun h => h.1) fun q => q ▸ S.s0.free C hC, fun a o e h => .inl ⟨h, fun q => by rw [q, hC] at e; cases e⟩, fun b o nb e => ?_⟩ SB .next))
  have nT : b ∉ TT.TB := fun q => nb (List.mem_append_left _ q)
  have nM : b ∉ M := fun q => nb (List.mem_append_right _ (List.mem_append_left _ q))
  exact kC b o (fun q => (List.mem_append.mp q).elim nT fun q => by rw [List.mem_singleton.mp q, hC] at e; cases e) (k₂ b o (fun q => (List.mem_append.mp q).elim nT nM) (kp b o nT e))
end
end Mine
namespace Mine
noncomputable abbrev Txt := List Nat
noncomputable def rowsX : Nat → Txt → List Nat × Nat
  | b, [] => ([], b)
  | b, c :: cs => if c = 32 then rowsX (b + 1) cs else if c = 9 then (b :: (rowsX 0 cs).1, (rowsX 0 cs).2) else ([], b)
theorem wsGo_X : ∀ (l : Txt) (cnt : List Nat) (b n nt : Nat), (wsGo l cnt b n nt).1 = (rowsX b l).1.foldl bump cnt ∧ (wsGo l cnt b n nt).2.1 = (rowsX b l).2 ∧
    (wsGo l cnt b n nt).2.2.1 + b = n + (rowsX b l).1.sum + (rowsX b l).2 + (rowsX b l).1.length ∧ (wsGo l cnt b n nt).2.2.2 = nt + (rowsX b l).1.length
  | [], cnt, b, n, nt => ⟨rfl, rfl, by simp only [wsGo, rowsX, List.sum_nil, List.length_nil]; omega, rfl⟩
  | c :: cs, cnt, b, n, nt => by
    unfold wsGo rowsX
    by_cases h : c = 32
    · rw [if_pos h, if_pos h]
      obtain ⟨a1, a2, a3, a4⟩ := wsGo_X cs cnt (b + 1) (n + 1) nt
      exact ⟨a1, a2, by omega, a4⟩
    · rw [if_neg h, if_neg h]
      by_cases h9 : c = 9
      · rw [if_pos h9, if_pos h9]
        obtain ⟨a1, a2, a3, a4⟩ := wsGo_X cs (bump cnt b) 0 (n + 1) (nt + 1)
        refine ⟨a1, a2, ?_, ?_⟩
        · simp only [List.sum_cons, List.length_cons]; omega
        · simp only [List.length_cons]; omega
      · rw [if_neg h9, if_neg h9]
        exact ⟨rfl, rfl, by simp only [List.sum_nil, List.length_nil]; omega, rfl⟩
theorem rowsX_le : ∀ (l : Txt) (b : Nat), (rowsX b l).1.sum + (rowsX b l).1.length + (rowsX b l).2 ≤ b + l.length
  | [], b => by simp [rowsX]
  | c :: cs, b => by
    unfold rowsX
    have h1 := rowsX_le cs (b + 1)
    have h2 := rowsX_le cs 0
    split
    · simp only [List.length_cons]; omega
    · split
      · simp only [List.length_cons, List.sum_cons]; omega
      · simp only [List.length_cons, List.length_nil, List.sum_nil]; omega

-- sums over a count list
noncomputable def sumI (f : Nat → Nat) : Nat → List Nat → Nat
  | _, [] => 0
  | k, c :: cs => f k * c + sumI f (k + 1) cs
theorem bump_zero (c : Nat) (cs : List Nat) : bump (c :: cs) 0 = (c + 1) :: cs := by
  unfold bump grow
  rw [if_neg (by simp)]
  rfl
theorem bump_succ (c : Nat) (cs : List Nat) (b : Nat) : bump (c :: cs) (b + 1) = c :: bump cs b := by
  have hg : grow (c :: cs) (b + 1) = c :: grow cs b := by
    unfold grow
    by_cases h : cs.length ≤ b
    · rw [if_pos (by rw [List.length_cons]; omega), if_pos h, List.length_cons, show b + 1 - (cs.length + 1) + 1 = b - cs.length + 1 by omega]
      rfl
    · rw [if_neg (by rw [List.length_cons]; omega), if_neg h]
  unfold bump
  rw [hg]
  rfl
theorem bump_nil_zero : bump [] 0 = [1] := rfl
theorem bump_nil_succ (b : Nat) : bump [] (b + 1) = 0 :: bump [] b := by
  unfold bump grow
  rw [if_pos (show ([] : List Nat).length ≤ b + 1 from Nat.zero_le _), if_pos (show ([] : List Nat).length ≤ b from Nat.zero_le _)]
  show ((List.replicate (b + 1 + 1) 0).set (b + 1) _) = 0 :: (List.replicate (b + 1) 0).set b _
  rw [List.replicate_succ, List.set_cons_succ]
  rfl
theorem sumI_nil (f : Nat → Nat) : ∀ (b k : Nat), sumI f k (bump [] b) = f (k + b)
  | 0, k => by rw [bump_nil_zero]; simp [sumI]
  | b + 1, k => by
    rw [bump_nil_succ]
    show f k * 0 + sumI f (k + 1) (bump [] b) = _
    rw [sumI_nil f b (k + 1), Nat.mul_zero, Nat.zero_add, show k + 1 + b = k + (b + 1) by omega]
theorem sumI_bump (f : Nat → Nat) : ∀ (cs : List Nat) (b k : Nat), sumI f k (bump cs b) = sumI f k cs + f (k + b)
  | [], b, k => by rw [sumI_nil]; simp [sumI]
  | c :: cs, 0, k => by
    rw [bump_zero]
    show f k * (c + 1) + sumI f (k + 1) cs = f k * c + sumI f (k + 1) cs + f k
    rw [Nat.mul_add, Nat.mul_one]; omega
  | c :: cs, b + 1, k => by
    rw [bump_succ]
    show f k * c + sumI f (k + 1) (bump cs b) = f k * c + sumI f (k + 1) cs + f (k + (b + 1))
    rw [sumI_bump f cs b (k + 1), show k + 1 + b = k + (b + 1) by omega]; omega
theorem sumI_bumps (f : Nat → Nat) : ∀ (bs cs : List Nat), sumI f 0 (bs.foldl bump cs) = sumI f 0 cs + (bs.map f).sum
  | [], cs => by simp
  | b :: bs, cs => by
    rw [List.foldl_cons, sumI_bumps f bs (bump cs b), sumI_bump, List.map_cons, List.sum_cons, Nat.zero_add]; omega
theorem bump_len (cnt : List Nat) (b : Nat) : (bump cnt b).length = max cnt.length (b + 1) := by
  unfold bump
  rw [List.length_set]
  unfold grow
  split
  · rw [List.length_append, List.length_replicate]; omega
  · omega
noncomputable def mx (bs : List Nat) : Nat := bs.foldl (fun m b => max m (b + 1)) 0
theorem bumps_len : ∀ (bs cnt : List Nat), (bs.foldl bump cnt).length = bs.foldl (fun m b => max m (b + 1)) cnt.length
  | [], _ => rfl
  | b :: bs, cnt => by rw [List.foldl_cons, List.foldl_cons, bumps_len bs, bump_len]
theorem foldl_max (bs : List Nat) : ∀ m : Nat, bs.foldl (fun m b => max m (b + 1)) m = max m (mx bs) := by
  unfold mx
  induction bs with
  | nil => intro m; exact (Nat.max_eq_left (Nat.zero_le m)).symm
  | cons b bs ih =>
    intro m
    rw [List.foldl_cons, List.foldl_cons, ih (max m (b + 1)), ih (max 0 (b + 1)), Nat.zero_max, Nat.max_assoc]
theorem mx_cons (b : Nat) (bs : List Nat) : mx (b :: bs) = max (b + 1) (mx bs) := by
  show List.foldl _ (max 0 (b + 1)) bs = _
  rw [foldl_max, Nat.zero_max]
theorem lt_mx {bs : List Nat} {b : Nat} (h : b ∈ bs) : b < mx bs := by
  induction bs with
  | nil => cases h
  | cons c bs ih =>
    rw [mx_cons]
    rcases List.mem_cons.mp h with rfl | h
    · omega
    · have := ih h; omega
theorem mx_mem {bs : List Nat} (h : mx bs ≠ 0) : ∃ b ∈ bs, b + 1 = mx bs := by
  induction bs with
  | nil => exact absurd rfl h
  | cons c bs ih =>
    rw [mx_cons] at h ⊢
    by_cases hc : mx bs ≤ c + 1
    · exact ⟨c, .head _, by omega⟩
    · obtain ⟨b, hb, e⟩ := ih (by omega)
      exact ⟨b, .tail _ hb, by omega⟩
theorem mx_le_sum (bs : List Nat) : mx bs ≤ bs.sum + bs.length := by
  induction bs with
  | nil => decide
  | cons b bs ih => rw [mx_cons, List.sum_cons, List.length_cons]; omega
theorem bump_get (cnt : List Nat) (b k : Nat) : (bump cnt b).getD k 0 = cnt.getD k 0 + if b = k then 1 else 0 := by
  induction cnt generalizing b k with
  | nil =>
    induction b generalizing k with
    | zero => rw [bump_nil_zero]; cases k <;> simp
    | succ b ih =>
      rw [bump_nil_succ]
      cases k with
      | zero => simp
      | succ k => 
        rw [List.getD_cons_succ, ih k]
        simp
  | cons c cs ih =>
    cases b with
    | zero => rw [bump_zero]; cases k <;> simp
    | succ b =>
      rw [bump_succ]
      cases k with
      | zero => simp
      | succ k => rw [List.getD_cons_succ, List.getD_cons_succ, ih b k]; simp
theorem bumps_get : ∀ (bs cnt : List Nat) (k : Nat), (bs.foldl bump cnt).getD k 0 = cnt.getD k 0 + bs.count k
  | [], cnt, k => by simp
  | b :: bs, cnt, k => by
    rw [List.foldl_cons, bumps_get bs, bump_get, List.count_cons]
    simp only [beq_iff_eq]
    omega
theorem ext_get {l l' : List Nat} (h : l.length = l'.length) (hg : ∀ k, k < l.length → l.getD k 0 = l'.getD k 0) : l = l' := by
  apply List.ext_getElem h
  intro i h1 h2
  have := hg i h1
  rw [List.getD_eq_getElem?_getD, List.getD_eq_getElem?_getD, List.getElem?_eq_getElem h1, List.getElem?_eq_getElem h2] at this
  exact this
theorem counts_eq (bs : List Nat) : bs.foldl bump [] = (List.range (mx bs)).map fun k => bs.count k := by
  refine ext_get ?_ fun k hk => ?_
  · rw [bumps_len, List.length_map, List.length_range]; rfl
  · rw [bumps_len] at hk
    have hk' : k < mx bs := hk
    rw [bumps_get, List.getD_eq_getElem?_getD (l := List.map _ _), List.getElem?_map, List.getElem?_range hk']
    simp
end Mine
namespace Mine
noncomputable def geo (B : Nat) : Nat → Nat
  | 0 => 0
  | r + 1 => geo B r + B ^ r
theorem geo_eq (B : Nat) : ∀ r, B * geo B r + 1 = geo B r + B ^ r
  | 0 => by simp [geo]
  | r + 1 => by
    have := geo_eq B r
    simp only [geo, Nat.mul_add]
    have e : B ^ (r + 1) = B * B ^ r := by rw [Nat.pow_succ, Nat.mul_comm]
    omega
theorem nval_sumI (w : Nat) : ∀ (ds : List Nat) (k : Nat), (2 ^ w) ^ k * nval w ds = sumI (fun i => (2 ^ w) ^ i) k ds
  | [], k => by simp [nval, sumI]
  | d :: ds, k => by
    have e := nval_sumI w ds (k + 1)
    show _ * (d + 2 ^ w * nval w ds) = _ * d + sumI _ (k + 1) ds
    rw [← e, Nat.mul_add, Nat.pow_succ, Nat.mul_assoc]
theorem nval_counts (w : Nat) (bs : List Nat) : nval w (bs.foldl bump []) = (bs.map fun b => (2 ^ w) ^ b).sum := by
  have e := nval_sumI w (bs.foldl bump []) 0
  rw [sumI_bumps, Nat.pow_zero, Nat.one_mul] at e
  rw [e]
  simp [sumI]
theorem nums_geo (B : Nat) (bs : List Nat) : (bs.map fun b => B ^ b).sum + (bs.map (geo B)).sum = B * (bs.map (geo B)).sum + bs.length := by
  induction bs with
  | nil => simp
  | cons b bs ih =>
    have := geo_eq B b
    simp only [List.map_cons, List.sum_cons, List.length_cons, Nat.mul_add]
    omega

-- digits told by a function
noncomputable def numF (B : Nat) (f : Nat → Nat) : Nat → Nat
  | 0 => 0
  | m + 1 => numF B f m + f m * B ^ m
theorem numF_add (B : Nat) (f g : Nat → Nat) : ∀ m, numF B (fun s => f s + g s) m = numF B f m + numF B g m
  | 0 => rfl
  | m + 1 => by simp only [numF, numF_add B f g m, Nat.add_mul]; omega
theorem numF_zero (B : Nat) : ∀ m, numF B (fun _ => 0) m = 0
  | 0 => rfl
  | m + 1 => by simp only [numF, numF_zero B m, Nat.zero_mul]
theorem numF_step (B r : Nat) : ∀ m, numF B (fun s => if s < r then 1 else 0) m = geo B (min r m)
  | 0 => by simp [numF, geo]
  | m + 1 => by
    simp only [numF, numF_step B r m]
    by_cases h : m < r
    · rw [if_pos h, Nat.min_eq_right (by omega), Nat.min_eq_right (by omega), Nat.one_mul]; rfl
    · rw [if_neg h, Nat.min_eq_left (by omega), Nat.min_eq_left (by omega), Nat.zero_mul, Nat.add_zero]
theorem numF_over (B m : Nat) : ∀ bs : List Nat, (∀ b ∈ bs, b ≤ m) → numF B (fun s => (bs.filter fun b => decide (s < b)).length) m = (bs.map (geo B)).sum
  | [], _ => numF_zero B m
  | b :: bs, h => by
    have e : (fun s => ((b :: bs).filter fun b => decide (s < b)).length) = fun s => (if s < b then 1 else 0) + (bs.filter fun b => decide (s < b)).length := by
      funext s
      rw [List.filter_cons]
      by_cases hs : s < b
      · rw [if_pos (decide_eq_true hs), if_pos hs, List.length_cons]; omega
      · rw [if_neg (by simpa using hs), if_neg hs]; omega
    rw [e, numF_add, numF_step, numF_over B m bs fun b hb => h b (.tail _ hb), Nat.min_eq_left (h b (.head _)), List.map_cons, List.sum_cons]
theorem nval_append (w : Nat) : ∀ a b : List Nat, nval w (a ++ b) = nval w a + (2 ^ w) ^ a.length * nval w b
  | [], b => by simp [nval]
  | d :: a, b => by
    show d + 2 ^ w * nval w (a ++ b) = d + 2 ^ w * nval w a + (2 ^ w) ^ (a.length + 1) * nval w b
    rw [nval_append w a b, Nat.mul_add, Nat.pow_succ, ← Nat.mul_assoc, Nat.mul_comm (2 ^ w) ((2 ^ w) ^ a.length)]; omega
theorem nval_range (w : Nat) (f : Nat → Nat) : ∀ m, nval w ((List.range m).map f) = numF (2 ^ w) f m
  | 0 => rfl
  | m + 1 => by
    rw [List.range_succ, List.map_append, nval_append, nval_range w f m, List.length_map, List.length_range]
    show _ + _ * (f m + 2 ^ w * 0) = _ + _
    rw [Nat.mul_zero, Nat.add_zero, Nat.mul_comm]
noncomputable def tailsL (bs : List Nat) : List Nat := (List.range (mx bs - 1)).map fun s => (bs.filter fun b => decide (s < b)).length
theorem tails_val (w : Nat) (bs : List Nat) : nval w (tailsL bs) = (bs.map (geo (2 ^ w))).sum := by
  unfold tailsL
  rw [nval_range, numF_over _ _ _ fun b hb => by have := lt_mx hb; omega]

-- the digits of a number
theorem nval_lt (w : Nat) : ∀ ds : List Nat, (∀ d ∈ ds, d < 2 ^ w) → nval w ds < (2 ^ w) ^ ds.length
  | [], _ => by simp [nval]
  | d :: ds, h => by
    have h1 := h d (.head _)
    have h2 := nval_lt w ds fun d hd => h d (.tail _ hd)
    show d + 2 ^ w * nval w ds < (2 ^ w) ^ (ds.length + 1)
    rw [Nat.pow_succ, Nat.mul_comm ((2 ^ w) ^ ds.length)]
    have := Nat.mul_le_mul_left (2 ^ w) (show nval w ds + 1 ≤ (2 ^ w) ^ ds.length from h2)
    rw [Nat.mul_add, Nat.mul_one] at this
    omega
theorem dgNat_of (w : Nat) : ∀ ds : List Nat, (∀ d ∈ ds, d < 2 ^ w) → dgNat w (nval w ds) ds.length = ds
  | [], _ => rfl
  | d :: ds, h => by
    have h1 := h d (.head _)
    show (d + 2 ^ w * nval w ds) % 2 ^ w :: dgNat w ((d + 2 ^ w * nval w ds) / 2 ^ w) ds.length = d :: ds
    rw [Nat.add_mul_mod_self_left, Nat.mod_eq_of_lt h1, Nat.add_mul_div_left _ _ (Nat.two_pow_pos w), Nat.div_eq_of_lt h1, Nat.zero_add, dgNat_of w ds fun d hd => h d (.tail _ hd)]
theorem bits_ge {a k : Nat} (h : 2 ^ k ≤ a) : k + 1 ≤ Builtin.Int.intBits (a : Int) := by
  unfold Builtin.Int.intBits
  have hp := Nat.two_pow_pos k
  split
  · rename_i hz
    have : (a : Int) = 0 := by simpa using hz
    omega
  · rw [Int.natAbs_natCast]
    have := (Nat.le_log2 (show a ≠ 0 by omega)).mpr h
    omega
theorem dgN_of {w : Nat} {ds : List Nat} (hw : 1 ≤ w) (h : ∀ d ∈ ds, d < 2 ^ w) (hl : ∀ d, ds.getLast? = some d → d ≠ 0) : dgN w (nval w ds) = ds.length := by
  have hi : Builtin.Int.intBits ((nval w ds : Nat) : Int) ≤ w * ds.length := bits_le (by rw [Nat.pow_mul]; exact nval_lt w ds h)
  unfold dgN
  rcases List.eq_nil_or_concat ds with rfl | ⟨a, d, rfl⟩
  · have : Builtin.Int.intBits ((nval w [] : Nat) : Int) = 0 := by simpa using hi
    rw [this]
    exact Nat.div_eq_of_lt (by omega)
  · rw [List.concat_eq_append] at *
    have hd := hl d (by simp)
    have hlo : 2 ^ (w * a.length) ≤ nval w (a ++ [d]) := by
      rw [nval_append, Nat.pow_mul]
      show _ ≤ nval w a + _ * (d + 2 ^ w * 0)
      rw [Nat.mul_zero, Nat.add_zero]
      have := Nat.mul_le_mul_left ((2 ^ w) ^ a.length) (show 1 ≤ d by omega)
      omega
    have hb := bits_ge hlo
    rw [List.length_append] at hi ⊢
    simp only [List.length_cons, List.length_nil] at hi ⊢
    generalize Builtin.Int.intBits ((nval w (a ++ [d]) : Nat) : Int) = x at hb hi
    refine Nat.div_eq_of_lt_le ?_ ?_
    · rw [Nat.add_mul, Nat.one_mul, Nat.mul_comm]
      clear hlo hi hd hl h
      omega
    · rw [Nat.add_mul, Nat.add_mul, Nat.one_mul, Nat.mul_comm a.length]
      rw [Nat.mul_add, Nat.mul_one] at hi
      clear hlo hb hd hl h
      omega
theorem gInt_of {w : Nat} {ds : List Nat} (hw : 1 ≤ w) (hw2 : w ≤ 32) (hlen : ds.length ≤ 60) (h : ∀ d ∈ ds, d < 2 ^ w) (hl : ∀ d, ds.getLast? = some d → d ≠ 0) :
    gInt [.int ((nval w ds : Nat) : Int), .int (w : Int)] = some (.lv ((ds.map fun d : Nat => (d : Int)).map .int)) := by
  have e := dgN_of hw h hl
  have hm : w * ds.length ≤ 4000 := Nat.le_trans (Nat.mul_le_mul hw2 hlen) (by decide)
  show (if 0 ≤ ((nval w ds : Nat) : Int) ∧ 1 ≤ (w : Int) ∧ (w : Int) < 10000 ∧ (w : Int).toNat * dgN (w : Int).toNat ((nval w ds : Nat) : Int).toNat ≤ 4000 ∧ dgN (w : Int).toNat ((nval w ds : Nat) : Int).toNat ≤ 60 then some (VV.lv ((dg (w : Int).toNat ((nval w ds : Nat) : Int).toNat (dgN (w : Int).toNat ((nval w ds : Nat) : Int).toNat)).map .int)) else none) = _
  rw [Int.toNat_natCast, Int.toNat_natCast, e, if_pos ⟨by omega, by omega, by omega, hm, hlen⟩, dg_nat, dgNat_of w ds h]
theorem gDig_of {w : Nat} {ds : List Nat} (hw2 : w ≤ 32) (hlen : ds.length ≤ 60) (h : ∀ d ∈ ds, d < 2 ^ w) : gDig [.lv ((ds.map fun d : Nat => (d : Int)).map .int), .int (w : Int)] = some (.int ((nval w ds : Nat) : Int)) := by
  show ((asInts ((ds.map fun d : Nat => (d : Int)).map .int)).bind fun ns => if 0 ≤ (w : Int) ∧ ns.all (fun d => decide (d.natAbs < 2 ^ (w : Int).toNat)) = true ∧ (w : Int).toNat * ns.length ≤ 4000 ∧ ns.length ≤ 60 then some (VV.int (dval (w : Int).toNat ns)) else none) = _
  have hm : w * ds.length ≤ 4000 := Nat.le_trans (Nat.mul_le_mul hw2 hlen) (by decide)
  have ha : (ds.map fun d : Nat => (d : Int)).all (fun d => decide (d.natAbs < 2 ^ w)) = true := by
    rw [List.all_eq_true]
    intro d hd
    obtain ⟨k, hk, e⟩ := List.mem_map.mp hd
    rw [← e]
    exact decide_eq_true (by rw [Int.natAbs_natCast]; exact h k hk)
  rw [asInts_map, Option.bind_some, Int.toNat_natCast, List.length_map, if_pos ⟨by omega, ha, hm, hlen⟩, dval_nat]
end Mine
namespace Mine
theorem sum_le_all {ds : List Nat} {d : Nat} (h : d ∈ ds) : d ≤ ds.sum := by
  induction ds with
  | nil => cases h
  | cons c ds ih =>
    rw [List.sum_cons]
    rcases List.mem_cons.mp h with rfl | h
    · omega
    · have := ih h; omega
-- marks
noncomputable def upd (size : Nat) (l : List Nat) (p : Nat) : List Nat := l.set (p % size) (l.getD (p % size) 0 + 1)
theorem upd_len (size : Nat) (l : List Nat) (p : Nat) : (upd size l p).length = l.length := List.length_set
theorem set_sum : ∀ (l : List Nat) (i : Nat), i < l.length → (l.set i (l.getD i 0 + 1)).sum = l.sum + 1
  | c :: l, 0, _ => by simp; omega
  | c :: l, i + 1, h => by
    rw [List.set_cons_succ, List.sum_cons, List.sum_cons, List.getD_cons_succ, set_sum l i (by simpa using h)]; omega
theorem set_nval (w : Nat) : ∀ (l : List Nat) (i : Nat), i < l.length → nval w (l.set i (l.getD i 0 + 1)) = nval w l + (2 ^ w) ^ i
  | c :: l, 0, _ => by
    show c + 1 + 2 ^ w * nval w l = c + 2 ^ w * nval w l + 1
    omega
  | c :: l, i + 1, h => by
    rw [List.set_cons_succ, List.getD_cons_succ]
    show c + 2 ^ w * nval w (l.set i _) = c + 2 ^ w * nval w l + _
    rw [set_nval w l i (by simpa using h), Nat.mul_add, Nat.pow_succ, Nat.mul_comm (2 ^ w) ((2 ^ w) ^ i)]; omega
theorem set_get0 : ∀ (l : List Nat) (i : Nat), i < l.length → (l.set i (l.getD i 0 + 1)).getD 0 0 = l.getD 0 0 + if i = 0 then 1 else 0
  | c :: l, 0, _ => by simp
  | c :: l, i + 1, h => by simp
noncomputable def places (bs : List Nat) : List Nat := bs.flatMap fun b => (List.range b).map (· + 1)
theorem places_len : ∀ bs : List Nat, (places bs).length = bs.sum
  | [] => rfl
  | b :: bs => by
    show ((List.range b).map (· + 1) ++ places bs).length = _
    rw [List.length_append, List.length_map, List.length_range, places_len bs, List.sum_cons]
noncomputable def marksL (size : Nat) (bs : List Nat) : List Nat := (places bs).foldl (upd size) (List.replicate size 0)
theorem upds {w size : Nat} (hs : 1 ≤ size) : ∀ (ps l : List Nat), l.length = size → (ps.foldl (upd size) l).length = size ∧ (ps.foldl (upd size) l).sum = l.sum + ps.length ∧
    nval w (ps.foldl (upd size) l) = nval w l + (ps.map fun p => (2 ^ w) ^ (p % size)).sum ∧ (ps.foldl (upd size) l).getD 0 0 = l.getD 0 0 + (ps.map fun p => if p % size = 0 then 1 else 0).sum
  | [], l, h => ⟨h, rfl, by simp, by simp⟩
  | p :: ps, l, h => by
    have hp : p % size < l.length := by rw [h]; exact Nat.mod_lt _ hs
    obtain ⟨a1, a2, a3, a4⟩ := upds (w := w) hs ps (upd size l p) (by rw [upd_len, h])
    rw [List.foldl_cons]
    refine ⟨a1, ?_, ?_, ?_⟩
    · rw [a2, List.length_cons, show (upd size l p).sum = l.sum + 1 from set_sum l _ hp]; omega
    · rw [a3, List.map_cons, List.sum_cons, show nval w (upd size l p) = _ from set_nval w l _ hp]; omega
    · rw [a4, List.map_cons, List.sum_cons, show (upd size l p).getD 0 0 = _ from set_get0 l _ hp]; omega
theorem nval_zero (w : Nat) : ∀ n, nval w (List.replicate n 0) = 0
  | 0 => rfl
  | n + 1 => by rw [List.replicate_succ]; show 0 + 2 ^ w * nval w (List.replicate n 0) = 0; rw [nval_zero w n]; simp
theorem marks_facts (w : Nat) {size : Nat} (hs : 1 ≤ size) (bs : List Nat) : (marksL size bs).length = size ∧ (marksL size bs).sum = bs.sum ∧
    nval w (marksL size bs) = ((places bs).map fun p => (2 ^ w) ^ (p % size)).sum ∧ (marksL size bs).getD 0 0 = ((places bs).map fun p => if p % size = 0 then 1 else 0).sum := by
  obtain ⟨a1, a2, a3, a4⟩ := upds (w := w) hs (places bs) (List.replicate size 0) List.length_replicate
  refine ⟨a1, ?_, ?_, ?_⟩
  · unfold marksL; rw [a2, places_len]; simp
  · unfold marksL; rw [a3, nval_zero]; omega
  · unfold marksL; rw [a4]
    cases size with
    | zero => simp
    | succ n => rw [List.replicate_succ]; simp
-- sums over the places
theorem places_sum (f : Nat → Nat) : ∀ bs : List Nat, ((places bs).map f).sum = (bs.map fun b => ((List.range b).map fun i => f (i + 1)).sum).sum
  | [] => rfl
  | b :: bs => by
    show (((List.range b).map (· + 1) ++ places bs).map f).sum = _
    rw [List.map_append, List.sum_append, places_sum f bs, List.map_map, List.map_cons, List.sum_cons]
    rfl
theorem range_sum_succ (f : Nat → Nat) (b : Nat) : ((List.range (b + 1)).map f).sum = ((List.range b).map f).sum + f b := by
  rw [List.range_succ, List.map_append, List.sum_append]; simp
theorem geo_places (B : Nat) : ∀ b, ((List.range b).map fun i => B ^ (i + 1)).sum = B * geo B b
  | 0 => rfl
  | b + 1 => by
    rw [range_sum_succ, geo_places B b]
    show B * geo B b + B ^ (b + 1) = B * (geo B b + B ^ b)
    rw [Nat.mul_add, Nat.pow_succ, Nat.mul_comm (B ^ b)]
theorem places_geo (B : Nat) (bs : List Nat) : ((places bs).map fun p => B ^ p).sum = B * (bs.map (geo B)).sum := by
  rw [places_sum]
  induction bs with
  | nil => rfl
  | cons b bs ih => rw [List.map_cons, List.sum_cons, List.map_cons, List.sum_cons, ih, geo_places, Nat.mul_add]
theorem div_places {size : Nat} (hs : 1 ≤ size) : ∀ b, ((List.range b).map fun i => if (i + 1) % size = 0 then 1 else 0).sum = b / size
  | 0 => by simp
  | b + 1 => by
    rw [range_sum_succ, div_places hs b]
    have h1 := Nat.div_add_mod b size
    have h2 := Nat.mod_lt b hs
    generalize b / size = q at *
    generalize b % size = r at *
    subst h1
    by_cases h : r + 1 = size
    · have e : size * q + r + 1 = size * (q + 1) := by rw [Nat.mul_add]; omega
      rw [e, Nat.mul_mod_right, if_pos rfl, Nat.mul_div_cancel_left _ hs]
    · have e : size * q + r + 1 = (r + 1) + size * q := by omega
      rw [e, Nat.add_mul_mod_self_left, Nat.mod_eq_of_lt (by omega), if_neg (by omega), Nat.add_mul_div_left _ _ hs, Nat.div_eq_of_lt (by omega)]; omega
noncomputable def stops (size : Nat) (bs : List Nat) : Nat := (bs.map fun b => b / size).sum
theorem places_stops {size : Nat} (hs : 1 ≤ size) (bs : List Nat) : ((places bs).map fun p => if p % size = 0 then 1 else 0).sum = stops size bs := by
  rw [places_sum]
  unfold stops
  congr 1
  exact List.map_congr_left fun b _ => div_places hs b
theorem pow_mod (B size : Nat) (p : Nat) : B ^ p + geo (B ^ size) (p / size) * B ^ (p % size) = B ^ size * (geo (B ^ size) (p / size) * B ^ (p % size)) + B ^ (p % size) := by
  have h := geo_eq (B ^ size) (p / size)
  have e : B ^ p = (B ^ size) ^ (p / size) * B ^ (p % size) := by
    rw [← Nat.pow_mul, ← Nat.pow_add, Nat.div_add_mod]
  rw [e]
  generalize geo (B ^ size) (p / size) = g at *
  generalize (B ^ size) ^ (p / size) = y at *
  generalize B ^ (p % size) = z at *
  generalize B ^ size = X at *
  rw [← Nat.add_mul, Nat.add_comm y g, ← h, Nat.add_mul, Nat.one_mul, Nat.mul_assoc]
theorem pows_mod (B size : Nat) : ∀ ps : List Nat, ∃ Q, (ps.map fun p => B ^ p).sum + Q = B ^ size * Q + (ps.map fun p => B ^ (p % size)).sum
  | [] => ⟨0, by simp⟩
  | p :: ps => by
    obtain ⟨Q, h⟩ := pows_mod B size ps
    refine ⟨geo (B ^ size) (p / size) * B ^ (p % size) + Q, ?_⟩
    have := pow_mod B size p
    simp only [List.map_cons, List.sum_cons, Nat.mul_add]
    omega
theorem nval_small (w : Nat) : ∀ ds : List Nat, ds ≠ [] → (∀ d ∈ ds, d + 2 ≤ 2 ^ w) → nval w ds + 2 ≤ (2 ^ w) ^ ds.length
  | d :: ds, _, h => by
    have h1 := h d (.head _)
    have h2 : nval w ds + 1 ≤ (2 ^ w) ^ ds.length := nval_lt w ds fun d hd => by have := h d (.tail _ hd); omega
    show d + 2 ^ w * nval w ds + 2 ≤ (2 ^ w) ^ (ds.length + 1)
    rw [Nat.pow_succ, Nat.mul_comm ((2 ^ w) ^ ds.length)]
    have := Nat.mul_le_mul_left (2 ^ w) h2
    rw [Nat.mul_add, Nat.mul_one] at this
    omega
-- noughts at the end
noncomputable def popZ : Nat → List Nat → List Nat
  | 0, l => l
  | k + 1, l => if l.getLast? = some 0 then popZ k l.dropLast else l
theorem last_zero {l : List Nat} (h : l.getLast? = some 0) : ∃ a, l = a ++ [0] := by
  rcases List.eq_nil_or_concat l with rfl | ⟨a, d, rfl⟩
  · cases h
  · rw [List.concat_eq_append] at h ⊢
    rw [List.getLast?_append] at h
    cases h
    exact ⟨a, rfl⟩
theorem popZ_nval (w : Nat) : ∀ (k : Nat) (l : List Nat), nval w (popZ k l) = nval w l
  | 0, _ => rfl
  | k + 1, l => by
    unfold popZ
    split
    · rename_i h
      obtain ⟨a, rfl⟩ := last_zero h
      rw [popZ_nval w k, List.dropLast_concat, nval_append]
      show _ = nval w a + _ * (0 + 2 ^ w * 0)
      simp
    · rfl
theorem popZ_mem : ∀ (k : Nat) (l : List Nat), ∀ d ∈ popZ k l, d ∈ l
  | 0, _, _, h => h
  | k + 1, l, d, h => by
    unfold popZ at h
    split at h
    · exact List.dropLast_subset l (popZ_mem k _ d h)
    · exact h
theorem popZ_len : ∀ (k : Nat) (l : List Nat), (popZ k l).length ≤ l.length
  | 0, _ => Nat.le_refl _
  | k + 1, l => by
    unfold popZ
    split
    · have := popZ_len k l.dropLast
      rw [List.length_dropLast] at this; omega
    · exact Nat.le_refl _
theorem popZ_last : ∀ (k : Nat) (l : List Nat), l.length ≤ k → ∀ d, (popZ k l).getLast? = some d → d ≠ 0
  | 0, l, h, d, e => by
    have : l = [] := List.eq_nil_of_length_eq_zero (by omega)
    subst this; cases e
  | k + 1, l, h, d, e => by
    unfold popZ at e
    split at e
    · exact popZ_last k _ (by rw [List.length_dropLast]; omega) d e
    · rename_i hn
      intro q
      rw [q] at e
      exact hn e
theorem popZ_get0 : ∀ (k : Nat) (l : List Nat), (popZ k l).getD 0 0 = l.getD 0 0
  | 0, _ => rfl
  | k + 1, l => by
    unfold popZ
    split
    · rename_i h
      obtain ⟨a, rfl⟩ := last_zero h
      rw [popZ_get0 k, List.dropLast_concat]
      cases a <;> simp
    · rfl
end Mine
namespace Mine
-- a line's facts: rows ahead of tabs, blanks behind
noncomputable def colL (a : List Nat) (t s : Nat) : Nat := t + s * (stops s a + a.length)
theorem stops_one (a : List Nat) : stops 1 a = a.sum := by
  unfold stops
  induction a with
  | nil => rfl
  | cons b a ih => rw [List.map_cons, List.sum_cons, ih, Nat.div_one, List.sum_cons]
theorem stops_big {s : Nat} : ∀ {a : List Nat}, (∀ b ∈ a, b < s) → stops s a = 0
  | [], _ => rfl
  | b :: a, h => by
    unfold stops
    rw [List.map_cons, List.sum_cons, Nat.div_eq_of_lt (h b (.head _))]
    have := stops_big (s := s) (a := a) fun b hb => h b (.tail _ hb)
    unfold stops at this
    omega
theorem sumI_drop (f : Nat → Nat) : ∀ (k i : Nat) (cs : List Nat), (∀ j, i ≤ j → j < i + k → f j = 0) → sumI f i cs = sumI f (i + k) (cs.drop k)
  | 0, i, cs, _ => rfl
  | k + 1, i, [], _ => rfl
  | k + 1, i, c :: cs, h => by
    show f i * c + sumI f (i + 1) cs = _
    rw [h i (Nat.le_refl _) (by omega), Nat.zero_mul, Nat.zero_add, sumI_drop f k (i + 1) cs fun j h1 h2 => h j (by omega) (by omega), List.drop_succ_cons, show i + 1 + k = i + (k + 1) by omega]
theorem goI_sum (ts : Nat) : ∀ (cs : List Nat) (i : Nat) (il : Int), goI (cs.map fun c : Nat => (c : Int)) i ts il = il + ((sumI (fun i => i / ts) i cs : Nat) : Int)
  | [], i, il => by simp [goI, sumI]
  | c :: cs, i, il => by
    rw [List.map_cons]
    unfold goI
    have e : ((i : Int) + 1) = ((i + 1 : Nat) : Int) := by omega
    have ih := goI_sum ts cs (i + 1)
    split
    · rename_i hc
      have hc' : c = 0 := by omega
      rw [e, ih]
      show _ = il + ((i / ts * c + sumI _ (i + 1) cs : Nat) : Int)
      rw [hc', Nat.mul_zero, Nat.zero_add]
    · rw [e, ih]
      show _ = il + ((i / ts * c + sumI _ (i + 1) cs : Nat) : Int)
      have : ((i : Int).fdiv (ts : Int)) = ((i / ts : Nat) : Int) := by
        rw [Int.fdiv_eq_ediv_of_nonneg _ (Int.natCast_nonneg _)]; rfl
      rw [this, Int.natCast_add, Int.natCast_mul]; omega
theorem sumI_stops (s : Nat) (a : List Nat) : sumI (fun i => i / s) 0 (a.foldl bump []) = stops s a := by
  rw [sumI_bumps]
  show 0 + (a.map fun b => b / s).sum = stops s a
  unfold stops; omega
theorem indIlF_at {s : Nat} (hs : 1 ≤ s) (a : List Nat) : indIlF ((a.foldl bump []).map fun c : Nat => (c : Int)) s = ((stops s a : Nat) : Int) := by
  unfold indIlF
  rw [Int.toNat_natCast, ← List.map_drop, goI_sum, Int.zero_add]
  congr 1
  rw [← sumI_stops, sumI_drop (fun i => i / s) s 0 _ fun j _ h => Nat.div_eq_of_lt (by omega), Nat.zero_add]
theorem stops_le (s : Nat) : ∀ a : List Nat, stops s a ≤ a.sum
  | [] => Nat.le_refl _
  | b :: a => by
    have := stops_le s a
    unfold stops at this ⊢
    rw [List.map_cons, List.sum_cons, List.sum_cons]
    have := Nat.div_le_self b s
    omega

-- less, and all columns
noncomputable def lessC (a : List Nat) (t : Nat) (b : List Nat) (u : Nat) (top : Nat) : Prop := ∀ s, 1 ≤ s → s ≤ top → colL a t s < colL b u s
theorem col_big {a : List Nat} {t s : Nat} (h : mx a ≤ s) : colL a t s = t + s * a.length := by
  unfold colL
  rw [stops_big fun b hb => by have := lt_mx hb; omega, Nat.zero_add]
theorem col_one (a : List Nat) (t : Nat) : colL a t 1 = t + a.sum + a.length := by
  unfold colL
  rw [stops_one]; omega
theorem less_last {a b : List Nat} {t u n : Nat} (h1 : mx a ≤ n) (h2 : mx b ≤ n) (ht : t < n) (hu : u < n) (h : colL a t n < colL b u n) : colL a t (n + 1) < colL b u (n + 1) := by
  rw [col_big h1, col_big h2] at h
  rw [col_big (by omega), col_big (by omega)]
  have hab : a.length ≤ b.length := by
    rcases Nat.lt_or_ge b.length a.length with q | q
    · have := Nat.mul_le_mul_left n (show b.length + 1 ≤ a.length from q)
      rw [Nat.mul_add] at this
      omega
    · exact q
  rw [Nat.add_mul, Nat.add_mul]; omega
theorem less_simple {a b : List Nat} {t u top : Nat} (ha : mx a ≤ 1) (hb : mx b ≤ 1) (htop : t + 1 ≤ top) (hu : u + 1 ≤ top) (hn : colL a t 1 < colL b u 1) : lessC a t b u top ↔ a.length ≤ b.length := by
  rw [col_big ha, col_big hb] at hn
  constructor
  · intro h
    have := h top (by omega) (Nat.le_refl _)
    rw [col_big (by omega), col_big (by omega)] at this
    rcases Nat.lt_or_ge b.length a.length with q | q
    · have := Nat.mul_le_mul_left top (show b.length + 1 ≤ a.length from q)
      rw [Nat.mul_add] at this
      omega
    · exact q
  · intro h s h1 h2
    rw [col_big (by omega), col_big (by omega)]
    obtain ⟨k, rfl⟩ : ∃ k, s = k + 1 := ⟨s - 1, by omega⟩
    have := Nat.mul_le_mul_left k h
    rw [Nat.add_mul, Nat.add_mul]
    omega

-- equal columns, equal counts
noncomputable def rsum (N : Nat) (f : Nat → Nat) : Nat := ((List.range N).map f).sum
theorem rsum_succ (N : Nat) (f : Nat → Nat) : rsum (N + 1) f = rsum N f + f N := range_sum_succ f N
theorem rsum_congr {f g : Nat → Nat} : ∀ {N : Nat}, (∀ j, j < N → f j = g j) → rsum N f = rsum N g
  | 0, _ => rfl
  | N + 1, h => by rw [rsum_succ, rsum_succ, rsum_congr fun j hj => h j (by omega), h N (by omega)]
theorem rsum_cancel {f g : Nat → Nat} {k : Nat} : ∀ {N : Nat}, k < N → (∀ j, j < N → j ≠ k → f j = g j) → rsum N f = rsum N g → f k = g k
  | N + 1, hk, h, e => by
    rw [rsum_succ, rsum_succ] at e
    by_cases q : k = N
    · subst q
      rw [rsum_congr fun j hj => h j (by omega) (by omega)] at e
      omega
    · rw [h N (by omega) (fun z => q z.symm)] at e
      exact rsum_cancel (N := N) (by omega) (fun j hj => h j (by omega)) (Nat.add_right_cancel e)
theorem rsum_add (f g : Nat → Nat) : ∀ N, rsum N (fun j => f j + g j) = rsum N f + rsum N g
  | 0 => rfl
  | N + 1 => by rw [rsum_succ, rsum_succ, rsum_succ, rsum_add f g N]; omega
theorem rsum_one (f : Nat → Nat) (b : Nat) : ∀ N, rsum N (fun j => f j * if b = j then 1 else 0) = if b < N then f b else 0
  | 0 => by simp [rsum]
  | N + 1 => by
    rw [rsum_succ, rsum_one f b N]
    by_cases h1 : b < N
    · rw [if_pos h1, if_neg (by omega), if_pos (by omega)]; omega
    · rw [if_neg h1]
      by_cases h2 : b = N
      · rw [if_pos h2, if_pos (by omega), h2]; omega
      · rw [if_neg h2, if_neg (by omega)]; omega
theorem sum_counts (f : Nat → Nat) (N : Nat) : ∀ a : List Nat, (∀ b ∈ a, b < N) → (a.map f).sum = rsum N fun j => f j * a.count j
  | [], _ => by
    induction N with
    | zero => rfl
    | succ N ih => rw [rsum_succ, ← ih (by simp)]; simp
  | b :: a, h => by
    rw [List.map_cons, List.sum_cons, sum_counts f N a fun b hb => h b (.tail _ hb)]
    have e : (fun j => f j * (b :: a).count j) = fun j => f j * a.count j + f j * if b = j then 1 else 0 := by
      funext j
      rw [List.count_cons, Nat.mul_add]
      simp only [beq_iff_eq]
    rw [e, rsum_add, rsum_one, if_pos (h b (.head _))]; omega
theorem counts_same {a b : List Nat} {N : Nat} (ha : ∀ c ∈ a, c < N) (hb : ∀ c ∈ b, c < N) (hl : a.length = b.length) (h : ∀ s, 1 ≤ s → stops s a = stops s b) : ∀ k, a.count k = b.count k := by
  have key : ∀ m k, N ≤ k + m → 1 ≤ k → a.count k = b.count k := by
    intro m
    induction m with
    | zero =>
      intro k hk _
      rw [List.count_eq_zero_of_not_mem fun q => absurd (ha k q) (by omega), List.count_eq_zero_of_not_mem fun q => absurd (hb k q) (by omega)]
    | succ m ih =>
      intro k hk h1
      by_cases hkN : k < N
      · have e := h k h1
        unfold stops at e
        rw [sum_counts _ N a ha, sum_counts _ N b hb] at e
        have := rsum_cancel hkN (fun j hj hne => ?_) e
        · rw [Nat.div_self (by omega), Nat.one_mul, Nat.one_mul] at this
          exact this
        · by_cases q : j < k
          · rw [Nat.div_eq_of_lt q, Nat.zero_mul, Nat.zero_mul]
          · rw [ih j (by omega) (by omega)]
      · rw [List.count_eq_zero_of_not_mem fun q => absurd (ha k q) (by omega), List.count_eq_zero_of_not_mem fun q => absurd (hb k q) (by omega)]
  intro k
  cases k with
  | succ k => exact key N (k + 1) (by omega) (by omega)
  | zero =>
    by_cases hN : 0 < N
    · have e : rsum N (fun j => 1 * a.count j) = rsum N fun j => 1 * b.count j := by
        rw [← sum_counts (fun _ => 1) N a ha, ← sum_counts (fun _ => 1) N b hb]
        have one : ∀ l : List Nat, (l.map fun _ => 1).sum = l.length := fun l => by
          induction l with
          | nil => rfl
          | cons c l ih => rw [List.map_cons, List.sum_cons, ih, List.length_cons]; omega
        rw [one, one, hl]
      have := rsum_cancel hN (fun j hj hne => by rw [key N j (by omega) (by omega)]) e
      omega
    · rw [List.count_eq_zero_of_not_mem fun q => absurd (ha 0 q) (by omega), List.count_eq_zero_of_not_mem fun q => absurd (hb 0 q) (by omega)]
theorem bumps_same {a b : List Nat} (h : ∀ k, a.count k = b.count k) : a.foldl bump [] = b.foldl bump [] := by
  have hm : ∀ {a b : List Nat}, (∀ k, a.count k = b.count k) → mx a ≤ mx b := by
    intro a b h
    by_cases q : mx a = 0
    · omega
    · obtain ⟨c, hc, e⟩ := mx_mem q
      have : 0 < b.count c := by rw [← h]; exact List.count_pos_iff.mpr hc
      have := lt_mx (List.count_pos_iff.mp this)
      omega
  rw [counts_eq, counts_eq, Nat.le_antisymm (hm h) (hm fun k => (h k).symm)]
  exact List.map_congr_left fun k _ => h k
theorem equal_iff {a b : List Nat} {t u n : Nat} (h1 : mx a ≤ n) (h2 : mx b ≤ n) (ht : t < n) (hu : u < n) : (a.foldl bump [] = b.foldl bump [] ∧ t = u) ↔ ∀ s, 1 ≤ s → s ≤ n + 1 → colL a t s = colL b u s := by
  constructor
  · rintro ⟨h, rfl⟩ s _ _
    have e1 : stops s a = stops s b := by rw [← sumI_stops, ← sumI_stops, h]
    have one : ∀ l : List Nat, (l.map fun _ => 1).sum = l.length := fun l => by
      induction l with
      | nil => rfl
      | cons c l ih => rw [List.map_cons, List.sum_cons, ih, List.length_cons]; omega
    have e2 : a.length = b.length := by
      have f1 := sumI_bumps (fun _ => 1) a []
      have f2 := sumI_bumps (fun _ => 1) b []
      rw [one] at f1 f2
      rw [h, f2] at f1
      omega
    unfold colL
    rw [e1, e2]
  · intro h
    have en := h n (by omega) (by omega)
    have em := h (n + 1) (by omega) (by omega)
    rw [col_big h1, col_big h2] at en
    rw [col_big (by omega), col_big (by omega), Nat.add_mul, Nat.add_mul] at em
    have hl : a.length = b.length := by omega
    have htu : t = u := by rw [hl] at en; omega
    refine ⟨bumps_same (counts_same (N := n) (fun c hc => by have := lt_mx hc; omega) (fun c hc => by have := lt_mx hc; omega) hl fun s hs => ?_), htu⟩
    by_cases q : s ≤ n
    · have e := h s hs (by omega)
      unfold colL at e
      rw [hl, htu] at e
      have : s * (stops s a + b.length) = s * (stops s b + b.length) := by omega
      have := Nat.eq_of_mul_eq_mul_left (by omega) this
      omega
    · rw [stops_big fun c hc => by have := lt_mx hc; omega, stops_big fun c hc => by have := lt_mx hc; omega]
end Mine
namespace Mine
noncomputable def Kz (P : Params) : Frag := (hz1.heap_186 P).filter fun p => !(p.1 == 103 || p.1 == 96)
theorem lookup_filter {q : Addr × Obj → Bool} (hq : ∀ a o o', q (a, o) = q (a, o')) {a : Addr} {o : Obj} : ∀ {K : Frag}, (K.filter q).lookup a = some o → K.lookup a = some o
  | [], e => e
  | (b, x) :: K, e => by
    rw [List.lookup_cons]
    rw [List.filter_cons] at e
    by_cases hb : a = b
    · subst hb
      rw [beq_self_eq_true]
      split at e
      · rw [List.lookup_cons, beq_self_eq_true] at e
        exact e
      · rename_i hn
        exfalso
        have := lookup_filter hq e
        have hm : (a, o) ∈ K.filter q := mem_of_lookupK e
        have h2 := (List.mem_filter.mp hm).2
        exact hn (by rw [hq a x o]; exact h2)
    · have h2 : (a == b) = false := beq_eq_false_iff_ne.mpr hb
      rw [h2]
      split at e
      · rw [List.lookup_cons, h2] at e
        exact lookup_filter hq e
      · exact lookup_filter hq e
theorem Kz_in {P : Params} {h : Heap} (X : (hz1.heap_186 P).In h) : (Kz P).In h := fun a o e => X a o (lookup_filter (fun _ _ _ => rfl) e)
end Mine
namespace Mine
noncomputable def scD2n : Sc := [("a", .local), ("b", .local), ("n", .local), ("pad", .local), ("half_n", .local), ("mask", .local), ("b1", .local), ("b2", .local), ("q1", .local), ("r", .local), ("q2", .local), ("_DIV_LIMIT", .globalImplicit), ("divmod", .globalImplicit), ("_div3n2n", .globalImplicit)]
theorem tf_d2n (P : Params) : ∃ fd body, TopFn (Kz P) 87 fd body scD2n ["a", "b", "n"] [0, 1, 2] ∧
    (∀ (prog : Program) (w : World) (TT : Tabs) (B0 : Heap) (GL : List (Str × Value)) (m : Nat), Base TT B0 GL → (("_DIV_LIMIT" : Str), Value.int 4000 297) ∈ GL → (("divmod" : Str), Value.builtin "divmod") ∈ GL → DenSs prog w TT B0 m scD2n body F_d2n) := by
  refine ⟨_, _, ⟨⟨_, rfl, rfl⟩, rfl, rfl, rfl, by decide, by decide, rfl, rfl, fun h X => ⟨_, _, _, _, rfl, X _ _ rfl, rfl, rfl⟩, len3 (fun _ _ _ => rfl), .cons rfl (.inl rfl) (.cons rfl (.inl rfl) (.cons rfl (.inl rfl) .nil)), rfl, rfl, rfl⟩, ?_⟩
  intro prog w TT B0 GL m X h1 h2
  refine ss_cons (s_if (t_cmp cle (d_bin isub (d_bits (d_loc 0 rfl rfl)) (d_loc 2 rfl rfl)) (d_globI X h1 rfl)) (ss_one (s_ret (d_call X h2 rfl b_divmod (.cons (d_loc 0 rfl rfl) (.cons (d_loc 1 rfl rfl) .nil (fun _ _ => rfl)) (fun _ _ => rfl))))) ss_nil) ss_no
end Mine
namespace Mine
noncomputable def scDmp : Sc := [("a", .local), ("b", .local), ("n", .local), ("a_digits", .local), ("r", .local), ("q_digits", .local), ("a_digit", .local), ("q_digit", .local), ("q", .local), ("_int2digits", .globalImplicit), ("reversed", .globalImplicit), ("_div2n1n", .globalImplicit), ("_digits2int", .globalImplicit)]
theorem nd_dmp : (scDmp.map (·.1)).Nodup := by decide
theorem tf_dmp (P : Params) : ∃ fd body, TopFn (Kz P) 115 fd body scDmp ["a", "b"] [0, 1] ∧
    (∀ (prog : Program) (w : World) (TT : Tabs) (B0 : Heap) (GL : List (Str × Value)) (m : Nat), Tp TT GL (Kz P) B0 → (("_int2digits" : Str), Value.ref 101) ∈ GL → (("_div2n1n" : Str), Value.ref 87) ∈ GL → (("_digits2int" : Str), Value.ref 108) ∈ GL → (("reversed" : Str), Value.type "reversed") ∈ GL →
      FnC prog w TT GL (Kz P) m (fun ws => call (.ref 101) ws) gInt → FnC prog w TT GL (Kz P) m (fun ws => call (.ref 87) ws) gD2n → FnC prog w TT GL (Kz P) m (fun ws => call (.ref 108) ws) gDig → DenSs prog w TT B0 m scDmp body F_dmp) := by
  refine ⟨_, _, ⟨⟨_, rfl, rfl⟩, rfl, rfl, rfl, by decide, by decide, rfl, rfl, fun h X => ⟨_, _, _, _, rfl, X _ _ rfl, rfl, rfl⟩, len2 (fun _ _ => rfl), .cons rfl (.inl rfl) (.cons rfl (.inl rfl) .nil), rfl, rfl, rfl⟩, ?_⟩
  intro prog w TT B0 GL m T h1 h2 h3 h4 c1 c2 c3
  refine ss_cons (s_asg nd_dmp (.nm (.loc rfl)) (d_bits (d_loc 1 rfl rfl))) (ss_cons (s_asg nd_dmp (.nm (.loc rfl)) (d_fn T h1 rfl (c1.pure T) (.cons (d_loc 0 rfl rfl) (.cons (d_loc 2 rfl rfl) .nil (fun _ _ => rfl)) (fun _ _ => rfl)) rfl)) (ss_cons (s_asg nd_dmp (.nm (.loc rfl)) (d_int 0))
      (ss_cons (s_asgL nd_dmp (.loc rfl) (l_list .nil)) (ss_cons (s_for nd_dmp (.nm (.loc rfl)) (it_rev T.base h4 rfl (d_loc 3 rfl rfl)) (ss_cons (s_asg nd_dmp (.tp (.cons (.loc rfl) (.cons (.loc rfl) .nil))) (d_fn T h2 rfl (c2.pure T) (.cons (d_bin iadd (d_bin ishl (d_loc 4 rfl rfl) (d_loc 2 rfl rfl)) (d_loc 6 rfl rfl)) (.cons (d_loc 1 rfl rfl) (.cons (d_loc 2 rfl rfl) .nil (fun _ _ => rfl)) (fun _ _ => rfl)) (fun _ _ => rfl)) rfl))
        (ss_one (s_app (d_loc 5 rfl rfl) (d_loc 7 rfl rfl))))) (ss_cons (s_rev (d_loc 5 rfl rfl)) (ss_cons (s_asg nd_dmp (.nm (.loc rfl)) (d_fn T h3 rfl (c3.frozen T) (.cons (d_loc 5 rfl rfl) (.cons (d_loc 2 rfl rfl) .nil (fun _ _ => rfl)) (fun _ _ => rfl)) rfl))
          (ss_one (s_ret (d_tup (.cons (d_loc 8 rfl rfl) (.cons (d_loc 4 rfl rfl) .nil (fun _ _ => rfl)) (fun _ _ => rfl)))))))))))
end Mine
namespace Mine
noncomputable def scIdm : Sc := [("a", .local), ("b", .local), ("q", .local), ("r", .local), ("ZeroDivisionError", .globalImplicit), ("int_divmod", .globalImplicit), ("_divmod_pos", .globalImplicit)]
theorem nd_idm : (scIdm.map (·.1)).Nodup := by decide
theorem tf_idm (P : Params) : ∃ fd body, TopFn (Kz P) 122 fd body scIdm ["a", "b"] [0, 1] ∧
    (∀ (prog : Program) (w : World) (TT : Tabs) (B0 : Heap) (GL : List (Str × Value)) (m : Nat) (g : List VV → Hp → Option VV), Tp TT GL (Kz P) B0 → (("int_divmod" : Str), Value.ref 122) ∈ GL → (("_divmod_pos" : Str), Value.ref 115) ∈ GL →
      FnC prog w TT GL (Kz P) m (fun ws => call (.ref 115) ws) gDmp → OpF prog w TT B0 m (fun ws => call (.ref 122) ws) g → DenSs prog w TT B0 m scIdm body (F_idm g)) := by
  refine ⟨_, _, ⟨⟨_, rfl, rfl⟩, rfl, rfl, rfl, by decide, by decide, rfl, rfl, fun h X => ⟨_, _, _, _, rfl, X _ _ rfl, rfl, rfl⟩, len2 (fun _ _ => rfl), .cons rfl (.inl rfl) (.cons rfl (.inl rfl) .nil), rfl, rfl, rfl⟩, ?_⟩
  intro prog w TT B0 GL m g T h1 h2 c1 hg
  refine ss_one (s_if (t_cmp ceq (d_loc 1 rfl rfl) (d_int 0)) ss_no (ss_one (s_if (t_cmp clt (d_loc 1 rfl rfl) (d_int 0))
      (ss_cons (s_asg nd_idm (.tp (.cons (.loc rfl) (.cons (.loc rfl) .nil))) (d_fn T h1 rfl hg (.cons (d_un ineg (d_loc 0 rfl rfl)) (.cons (d_un ineg (d_loc 1 rfl rfl)) .nil (fun _ _ => rfl)) (fun _ _ => rfl)) rfl)) (ss_one (s_ret (d_tup (.cons (d_loc 2 rfl rfl) (.cons (d_un ineg (d_loc 3 rfl rfl)) .nil (fun _ _ => rfl)) (fun _ _ => rfl))))))
      (ss_one (s_if (t_cmp clt (d_loc 0 rfl rfl) (d_int 0))
        (ss_cons (s_asg nd_idm (.tp (.cons (.loc rfl) (.cons (.loc rfl) .nil))) (d_fn T h1 rfl hg (.cons (d_un iinv (d_loc 0 rfl rfl)) (.cons (d_loc 1 rfl rfl) .nil (fun _ _ => rfl)) (fun _ _ => rfl)) rfl)) (ss_one (s_ret (d_tup (.cons (d_un iinv (d_loc 2 rfl rfl)) (.cons (d_bin iadd (d_loc 1 rfl rfl) (d_un iinv (d_loc 3 rfl rfl))) .nil (fun _ _ => rfl)) (fun _ _ => rfl))))))
        (ss_one (s_ret (d_fn T h2 rfl (c1.pure T) (.cons (d_loc 0 rfl rfl) (.cons (d_loc 1 rfl rfl) .nil (fun _ _ => rfl)) (fun _ _ => rfl)) rfl))))))))
end Mine
namespace Mine
noncomputable def tl3 : List (Addr × Str) := [(103, ("_digits2int" : Str) ++ ".<locals>." ++ "inner"), (96, ("_int2digits" : Str) ++ ".<locals>." ++ "inner")]
theorem nd_DI : (scDI.map (·.1)).Nodup := by decide
theorem tf_dig (P : Params) (prog : Program) (w : World) (GL : List (Str × Value)) (hlen : (("len" : Str), Value.builtin "len") ∈ GL) : FnC prog w (tabsOf tl3) GL (Kz P) 62 (fun ws => call (.ref 108) ws) gDig := by
  refine d2i_fn (fa := 108) (c := 107) (P := 103) rfl rfl rfl rfl rfl rfl rfl (fun h X => ⟨_, _, _, _, rfl, X _ _ rfl, rfl, rfl⟩) rfl (fun h X => codeHd_of_K X (by kernel_rfl)) (.head _) (by decide) (fun _ _ => rfl) rfl rfl rfl (fun _ => rfl) (fun _ _ _ _ _ _ _ => rfl) rfl rfl rfl ?_ ?_
  · intro TT B1 m f g hk hg
    exact ss_cons (s_if (t_cmp ceq (d_bin iadd (d_loc 0 rfl rfl) (d_int 1)) (d_loc 1 rfl rfl)) (ss_one (s_ret (d_sub (d_cel 4 rfl rfl (.inr rfl)) (d_loc 0 rfl rfl)))) ss_nil)
      (ss_cons (s_asg nd_DI (.nm (.loc rfl)) (d_bin ishr (d_bin iadd (d_loc 0 rfl rfl) (d_loc 1 rfl rfl)) (d_int 1)))
        (ss_cons (s_asg nd_DI (.nm (.loc rfl)) (d_bin imul (d_bin isub (d_loc 2 rfl rfl) (d_loc 0 rfl rfl)) (d_cel 6 rfl rfl (.inr rfl))))
          (ss_one (s_ret (d_bin iadd (d_bin ishl (d_callV (d_cel 5 rfl rfl (.inr rfl)) hg (.cons (d_loc 2 rfl rfl) (.cons (d_loc 1 rfl rfl) .nil (fun _ _ => rfl)) (fun _ _ => rfl)) hk) (d_loc 3 rfl rfl))
            (d_callV (d_cel 5 rfl rfl (.inr rfl)) hg (.cons (d_loc 0 rfl rfl) (.cons (d_loc 2 rfl rfl) .nil (fun _ _ => rfl)) (fun _ _ => rfl)) hk))))))
  · intro TT B1 m f g T hk hg
    exact d_if (t_e (d_cel 0 rfl rfl (.inl rfl))) (d_callV (d_cel 2 rfl rfl (.inl rfl)) hg (.cons (d_int 0) (.cons (d_call T.base hlen rfl b_len (.cons (d_cel 0 rfl rfl (.inl rfl)) .nil (fun _ _ => rfl))) .nil (fun _ _ => rfl)) (fun _ _ => rfl)) hk) (d_int 0)
end Mine
namespace Mine
theorem nd_II : (scII.map (·.1)).Nodup := by decide
theorem nd_IO : (scIO.map (·.1)).Nodup := by decide
theorem tf_int (P : Params) (prog : Program) (w : World) (GL : List (Str × Value)) (hlen : (("len" : Str), Value.builtin "len") ∈ GL) : FnC prog w (tabsOf tl3) GL (Kz P) 62 (fun ws => call (.ref 101) ws) gInt := by
  refine i2d_fn (fa := 101) (c := 100) (Pt := 96) rfl rfl rfl rfl rfl rfl rfl (fun h X => ⟨_, _, _, _, rfl, X _ _ rfl, rfl, rfl⟩) rfl (fun h X => codeHd_of_K X (by kernel_rfl)) (.tail _ (.head _)) (by decide) (fun _ _ => rfl) rfl rfl rfl (fun _ => rfl) (fun _ _ _ _ _ _ _ _ _ => rfl) rfl rfl rfl ?_ ?_ ?_ ?_ ?_
  · intro TT B1 m
    exact { h1 := s_if (t_cmp ceq (d_bin iadd (d_loc 1 rfl rfl) (d_int 1)) (d_loc 2 rfl rfl)) (ss_cons (s_set (d_loc 0 rfl rfl) (d_cel 7 rfl rfl (.inr rfl)) (d_loc 1 rfl rfl)) (ss_one s_retN)) ss_nil
            h2 := s_asg nd_II (.nm (.loc rfl)) (d_bin ishr (d_bin iadd (d_loc 1 rfl rfl) (d_loc 2 rfl rfl)) (d_int 1))
            h3 := s_asg nd_II (.nm (.loc rfl)) (d_bin imul (d_bin isub (d_loc 3 rfl rfl) (d_loc 1 rfl rfl)) (d_cel 9 rfl rfl (.inr rfl)))
            h4 := s_asg nd_II (.nm (.loc rfl)) (d_bin ishr (d_loc 0 rfl rfl) (d_loc 4 rfl rfl))
            h5 := s_asg nd_II (.nm (.loc rfl)) (d_bin ixor (d_loc 0 rfl rfl) (d_bin ishl (d_loc 5 rfl rfl) (d_loc 4 rfl rfl)))
            e1 := .cons (d_loc 6 rfl rfl) (.cons (d_loc 1 rfl rfl) (.cons (d_loc 3 rfl rfl) .nil (fun _ _ => rfl)) (fun _ _ => rfl)) (fun _ _ => rfl)
            e2 := .cons (d_loc 5 rfl rfl) (.cons (d_loc 3 rfl rfl) (.cons (d_loc 2 rfl rfl) .nil (fun _ _ => rfl)) (fun _ _ => rfl)) (fun _ _ => rfl) }
  · intro TT B1 m T
    exact s_asgL nd_IO (.cel rfl rfl) (l_bin lmulL (d_ofL (l_list (.cons (d_int 0) .nil (fun _ _ => rfl)))) (d_bin idiv (d_bin isub (d_bin iadd (d_bits (d_loc 0 rfl rfl)) (d_cel 1 rfl rfl (.inl rfl))) (d_int 1)) (d_cel 1 rfl rfl (.inl rfl))))
  · intro TT B1 m
    exact t_e (d_loc 0 rfl rfl)
  · intro TT B1 m T
    exact .cons (d_loc 0 rfl rfl) (.cons (d_int 0) (.cons (d_call T.base hlen rfl b_len (.cons (d_cel 2 rfl rfl (.inl rfl)) .nil (fun _ _ => rfl))) .nil (fun _ _ => rfl)) (fun _ _ => rfl)) (fun _ _ => rfl)
  · intro TT B1 m
    exact d_cel 2 rfl rfl (.inl rfl)
end Mine
namespace Mine
structure Pyl (GL : List (Str × Value)) : Prop where
  len : (("len" : Str), Value.builtin "len") ∈ GL
  lim : (("_DIV_LIMIT" : Str), Value.int 4000 297) ∈ GL
  dm : (("divmod" : Str), Value.builtin "divmod") ∈ GL
  i2d : (("_int2digits" : Str), Value.ref 101) ∈ GL
  d2n : (("_div2n1n" : Str), Value.ref 87) ∈ GL
  d2i : (("_digits2int" : Str), Value.ref 108) ∈ GL
  rev : (("reversed" : Str), Value.type "reversed") ∈ GL
  idm : (("int_divmod" : Str), Value.ref 122) ∈ GL
  dmp : (("_divmod_pos" : Str), Value.ref 115) ∈ GL
theorem c_idm (P : Params) (prog : Program) (w : World) {GL : List (Str × Value)} (G : Pyl GL) : FnC prog w (tabsOf tl3) GL (Kz P) 66 (fun ws => call (.ref 122) ws) gIdm := by
  obtain ⟨fd1, b1, X1, D1⟩ := tf_d2n P
  obtain ⟨fd2, b2, X2, D2⟩ := tf_dmp P
  obtain ⟨fd3, b3, X3, D3⟩ := tf_idm P
  have C1 : FnC prog w (tabsOf tl3) GL (Kz P) 1 (fun ws => call (.ref 87) ws) gD2n := d2n_fnc (n := 0) (k := 11) X1 rfl rfl fun B1 T => D1 prog w _ B1 GL 0 T.base G.lim G.dm
  have C2 : FnC prog w (tabsOf tl3) GL (Kz P) 63 (fun ws => call (.ref 115) ws) gDmp := dmp_fnc (n := 62) (E := [none, none, none, none]) X2 (fun _ _ => rfl) rfl fun B1 T =>
    D2 prog w _ B1 GL 62 T G.i2d G.d2n G.d2i G.rev (tf_int P prog w GL G.len) (C1.le (by decide)) (tf_dig P prog w GL G.len)
  exact idm_fnc (E := [none, none, none]) X3 (fun _ _ => rfl) rfl fun B1 m g hm T hg => D3 prog w _ B1 GL m g T G.idm G.dmp (C2.le hm) hg
end Mine
namespace Mine
noncomputable def scIni : Sc := [("self", .local), ("ws", .local), ("S", .local), ("T", .local), ("count", .local), ("b", .local), ("n", .local), ("nt", .local), ("ch", .local), ("Whitespace", .globalImplicit), ("len", .globalImplicit), ("tuple", .globalImplicit)]
theorem nd_ini : (scIni.map (·.1)).Nodup := by decide
theorem tf_ini (P : Params) : ∃ fd body, TopFn (Kz P) 31 fd body scIni ["self", "ws"] [0, 1] ∧
    (∀ (prog : Program) (w : World) (TT : Tabs) (B0 : Heap) (GL : List (Str × Value)) (m : Nat), Tp TT GL (Kz P) B0 → (("Whitespace" : Str), Value.ref 76) ∈ GL → (("len" : Str), Value.builtin "len") ∈ GL → (("tuple" : Str), Value.type "tuple") ∈ GL → DenSs prog w TT B0 m scIni body (F_ini 76)) := by
  refine ⟨_, _, ⟨⟨_, rfl, rfl⟩, rfl, rfl, rfl, by decide, by decide, rfl, rfl, fun h X => ⟨_, _, _, _, rfl, X _ _ rfl, rfl, rfl⟩, len2 (fun _ _ => rfl), .cons rfl (.inl rfl) (.cons rfl (.inl rfl) .nil), rfl, rfl, rfl⟩, ?_⟩
  · intro prog w TT B0 GL m T h1 h2 h3
    refine ss_cons (s_fld T rfl rfl rfl rfl (d_loc 1 rfl rfl) (d_loc 0 rfl rfl)) (ss_cons (s_asgR nd_ini (.cons (pos := ⟨0, 0, 0, 0⟩) (.loc rfl) (.cons (pos := ⟨0, 0, 0, 0⟩) (.loc rfl) .nil)) (d_tup (.cons (d_cattr (mc := .type "type") T rfl rfl rfl h1 rfl) (.cons (d_cattr (mc := .type "type") T rfl rfl rfl h1 rfl) .nil (fun _ _ => rfl)) (fun _ _ => rfl))) (swap_two rfl rfl (by decide) rfl))
      (ss_cons (s_asgL nd_ini (.loc rfl) (l_list .nil)) (ss_cons (s_asg3 nd_ini (.loc rfl) (.loc rfl) (.loc rfl) (d_int 0)) (ss_cons (s_for nd_ini (.nm (.loc rfl)) (it_e (d_attr T rfl rfl rfl rfl (d_loc 0 rfl rfl))) (ss_one ?_))
        (ss_cons (s_fld T rfl rfl rfl rfl (d_loc 6 rfl rfl) (d_loc 0 rfl rfl)) (ss_cons (s_fld T rfl rfl rfl rfl (d_loc 7 rfl rfl) (d_loc 0 rfl rfl)) (ss_cons (s_fld T rfl rfl rfl rfl (d_tup (.cons (d_call T.base h3 rfl b_tuple (.cons (d_loc 4 rfl rfl) .nil (fun _ _ => rfl))) (.cons (d_loc 5 rfl rfl) .nil (fun _ _ => rfl)) (fun _ _ => rfl))) (d_loc 0 rfl rfl))
          (ss_one (s_fld T rfl rfl rfl rfl (d_cmp cle (d_call T.base h2 rfl b_len (.cons (d_loc 4 rfl rfl) .nil (fun _ _ => rfl))) (d_int 1)) (d_loc 0 rfl rfl))))))))))
    exact s_if (t_cmp ceqA (d_loc 8 rfl rfl) (d_loc 2 rfl rfl)) (ss_cons (s_asg nd_ini (.nm (.loc rfl)) (d_bin iadd (d_loc 6 rfl rfl) (d_int 1))) (ss_one (s_asg nd_ini (.nm (.loc rfl)) (d_bin iadd (d_loc 5 rfl rfl) (d_int 1)))))
      (ss_one (s_if (t_cmp ceqA (d_loc 8 rfl rfl) (d_loc 3 rfl rfl)) (ss_cons (s_asg nd_ini (.nm (.loc rfl)) (d_bin iadd (d_loc 6 rfl rfl) (d_int 1))) (ss_cons (s_asg nd_ini (.nm (.loc rfl)) (d_bin iadd (d_loc 7 rfl rfl) (d_int 1)))
        (ss_cons (s_if (t_cmp cge (d_loc 5 rfl rfl) (d_call T.base h2 rfl b_len (.cons (d_loc 4 rfl rfl) .nil (fun _ _ => rfl)))) (ss_one (s_asgL nd_ini (.loc rfl) (l_bin laddL (d_loc 4 rfl rfl) (d_ofL (l_bin lmulL (d_ofL (l_list (.cons (d_int 0) .nil (fun _ _ => rfl)))) (d_bin iadd (d_bin isub (d_loc 5 rfl rfl) (d_call T.base h2 rfl b_len (.cons (d_loc 4 rfl rfl) .nil (fun _ _ => rfl)))) (d_int 1))))))) ss_nil)
          (ss_cons (s_set (d_bin iadd (d_sub (d_loc 4 rfl rfl) (d_loc 5 rfl rfl)) (d_int 1)) (d_loc 4 rfl rfl) (d_loc 5 rfl rfl)) (ss_one (s_asg nd_ini (.nm (.loc rfl)) (d_int 0))))))) (ss_one s_brk)))
end Mine
set_option maxHeartbeats 4000000
namespace Mine
structure Nms (GL : List (Str × Value)) : Prop where
  nlen : (("len" : Str), Value.builtin "len") ∈ GL
  nmax : (("max" : Str), Value.builtin "max") ∈ GL
  nrange : (("range" : Str), Value.type "range") ∈ GL
  nWhitespace : (("Whitespace" : Str), Value.ref 76) ∈ GL
  ntuple : (("tuple" : Str), Value.type "tuple") ∈ GL
  nsum : (("sum" : Str), Value.builtin "sum") ∈ GL
  nlist : (("list" : Str), Value.type "list") ∈ GL
  ndigits2int : (("_digits2int" : Str), Value.ref 108) ∈ GL
  nint_divmod : (("int_divmod" : Str), Value.ref 122) ∈ GL
  nint2digits : (("_int2digits" : Str), Value.ref 101) ∈ GL
  nlaw_column : (("_law_column" : Str), Value.ref 141) ∈ GL
  nlaw_marks : (("_law_marks" : Str), Value.ref 148) ∈ GL
  nlaw_line : (("_law_line" : Str), Value.ref 127) ∈ GL
  nlaw_rows : (("_law_rows" : Str), Value.ref 134) ∈ GL
  nlaw_columns : (("_law_columns" : Str), Value.ref 153) ∈ GL

noncomputable def sc_Whitespace_longest_run_of_spaces : Sc := [("self", .local), ("count", .local), ("trailing", .local), ("max", .globalImplicit), ("len", .globalImplicit)]
theorem nd_Whitespace_longest_run_of_spaces : (sc_Whitespace_longest_run_of_spaces.map (·.1)).Nodup := by decide
noncomputable def F_Whitespace_longest_run_of_spaces : StF := (sSeq (sAsg (.tp [1, 2]) (dUn (gAttr 76 "norm") (dV 0)))
    (sRet (dCall gMax [(dBin (opI gSub) (dCall gLen [(dV 1)]) (dI 1)), (dV 2)])))
noncomputable def g_Whitespace_longest_run_of_spaces : List VV → Option VV := gOf F_Whitespace_longest_run_of_spaces [0] 5 1
theorem tf_Whitespace_longest_run_of_spaces (P : Params) : ∃ fd body, TopFn (Kz P) 38 fd body sc_Whitespace_longest_run_of_spaces ["self"] [0] ∧
    (∀ (prog : Program) (w : World) (TT : Tabs) (B0 : Heap) (GL : List (Str × Value)) (m : Nat), Tp TT GL (Kz P) B0 → Nms GL → DenSs prog w TT B0 m sc_Whitespace_longest_run_of_spaces body F_Whitespace_longest_run_of_spaces) := by
  refine ⟨_, _, ⟨⟨_, rfl, rfl⟩, rfl, rfl, rfl, by decide, by decide, rfl, rfl, fun h X => ⟨_, _, _, _, rfl, X _ _ rfl, rfl, rfl⟩, len1 (fun _ => rfl), (.cons rfl (.inl rfl) .nil), rfl, rfl, rfl⟩, ?_⟩
  · intro prog w TT B0 GL m T G 
    exact (ss_cons (s_asg nd_Whitespace_longest_run_of_spaces (.tp (.cons (.loc rfl) (.cons (.loc rfl) .nil))) (d_attr T rfl rfl rfl rfl (d_loc 0 rfl rfl)))
      (ss_one (s_ret (d_call T.base G.nmax rfl b_max (.cons (d_bin isub (d_call T.base G.nlen rfl b_len (.cons (d_loc 1 rfl rfl) .nil (fun _ _ => rfl))) (d_int 1)) (.cons (d_loc 2 rfl rfl) .nil (fun _ _ => rfl)) (fun _ _ => rfl))))))

noncomputable def sc_Whitespace_indent_level : Sc := [("self", .local), ("tabsize", .local), ("count", .local), ("trailing", .local), ("il", .local), ("i", .local), ("range", .globalImplicit), ("len", .globalImplicit)]
theorem nd_Whitespace_indent_level : (sc_Whitespace_indent_level.map (·.1)).Nodup := by decide
theorem tf_Whitespace_indent_level (P : Params) : ∃ fd body, TopFn (Kz P) 45 fd body sc_Whitespace_indent_level ["self", "tabsize"] [0, 1] ∧
    (∀ (prog : Program) (w : World) (TT : Tabs) (B0 : Heap) (GL : List (Str × Value)) (m : Nat), Tp TT GL (Kz P) B0 → Nms GL → DenSs prog w TT B0 m sc_Whitespace_indent_level body (F_ind 76)) := by
  refine ⟨_, _, ⟨⟨_, rfl, rfl⟩, rfl, rfl, rfl, by decide, by decide, rfl, rfl, fun h X => ⟨_, _, _, _, rfl, X _ _ rfl, rfl, rfl⟩, len2 (fun _ _ => rfl), (.cons rfl (.inl rfl) (.cons rfl (.inl rfl) .nil)), rfl, rfl, rfl⟩, ?_⟩
  · intro prog w TT B0 GL m T G 
    exact (ss_cons (s_asg nd_Whitespace_indent_level (.tp (.cons (.loc rfl) (.cons (.loc rfl) .nil))) (d_attr T rfl rfl rfl rfl (d_loc 0 rfl rfl)))
      (ss_cons (s_asg nd_Whitespace_indent_level (.nm (.loc rfl)) (d_int 0))
      (ss_cons (s_for nd_Whitespace_indent_level (.nm (.loc rfl)) (it_e (d_call T.base G.nrange rfl b_range (.cons (d_loc 1 rfl rfl) (.cons (d_call T.base G.nlen rfl b_len (.cons (d_loc 2 rfl rfl) .nil (fun _ _ => rfl))) .nil (fun _ _ => rfl)) (fun _ _ => rfl)))) (ss_one (s_asg nd_Whitespace_indent_level (.nm (.loc rfl)) (d_bin iadd (d_loc 4 rfl rfl) (d_bin imul (d_bin idiv (d_loc 5 rfl rfl) (d_loc 1 rfl rfl)) (d_sub (d_loc 2 rfl rfl) (d_loc 5 rfl rfl)))))))
      (ss_one (s_ret (d_bin iadd (d_loc 3 rfl rfl) (d_bin imul (d_loc 1 rfl rfl) (d_bin iadd (d_loc 4 rfl rfl) (d_attr T rfl rfl rfl rfl (d_loc 0 rfl rfl))))))))))

noncomputable def sc_Whitespace_equal : Sc := [("self", .local), ("other", .local)]
noncomputable def F_Whitespace_equal : StF := (sRet (dCmp cmEq (dUn (gAttr 76 "norm") (dV 0)) (dUn (gAttr 76 "norm") (dV 1))))
noncomputable def g_Whitespace_equal : List VV → Option VV := gOf F_Whitespace_equal [0, 1] 2 2
theorem tf_Whitespace_equal (P : Params) : ∃ fd body, TopFn (Kz P) 52 fd body sc_Whitespace_equal ["self", "other"] [0, 1] ∧
    (∀ (prog : Program) (w : World) (TT : Tabs) (B0 : Heap) (GL : List (Str × Value)) (m : Nat), Tp TT GL (Kz P) B0 → Nms GL → DenSs prog w TT B0 m sc_Whitespace_equal body F_Whitespace_equal) := by
  refine ⟨_, _, ⟨⟨_, rfl, rfl⟩, rfl, rfl, rfl, by decide, by decide, rfl, rfl, fun h X => ⟨_, _, _, _, rfl, X _ _ rfl, rfl, rfl⟩, len2 (fun _ _ => rfl), (.cons rfl (.inl rfl) (.cons rfl (.inl rfl) .nil)), rfl, rfl, rfl⟩, ?_⟩
  · intro prog w TT B0 GL m T G 
    exact (ss_one (s_ret (d_cmp ceqA (d_attr T rfl rfl rfl rfl (d_loc 0 rfl rfl)) (d_attr T rfl rfl rfl rfl (d_loc 1 rfl rfl)))))

noncomputable def sc_Whitespace_not_equal_witness : Sc := [("self", .local), ("other", .local), ("n", .local), ("a", .local), ("ts", .local), ("max", .globalImplicit), ("range", .globalImplicit)]
theorem nd_Whitespace_not_equal_witness : (sc_Whitespace_not_equal_witness.map (·.1)).Nodup := by decide
noncomputable def F_Whitespace_not_equal_witness : StF := (sSeq (sAsg (.nm 2) (dBin (opI gAdd) (dCall gMax [(dMeth 76 "longest_run_of_spaces" (gP g_Whitespace_longest_run_of_spaces) (dV 0) []), (dMeth 76 "longest_run_of_spaces" (gP g_Whitespace_longest_run_of_spaces) (dV 1) [])]) (dI 1)))
    (sSeq (sAsgL 3 (evs []))
    (sSeq (sFor (.nm 4) (dIt (dCall gRange [(dI 1), (dBin (opI gAdd) (dV 2) (dI 1))])) (sIf (tCmp cmNe (dMeth 76 "indent_level" (gP (gInd 76)) (dV 0) [(dV 4)]) (dMeth 76 "indent_level" (gP (gInd 76)) (dV 1) [(dV 4)])) (sApp (dV 3) (dTup [(dV 4), (dMeth 76 "indent_level" (gP (gInd 76)) (dV 0) [(dV 4)]), (dMeth 76 "indent_level" (gP (gInd 76)) (dV 1) [(dV 4)])])) sNil))
    (sRet (dV 3)))))
noncomputable def g_Whitespace_not_equal_witness : List VV → Option VV := gOf F_Whitespace_not_equal_witness [0, 1] 7 2
theorem tf_Whitespace_not_equal_witness (P : Params) : ∃ fd body, TopFn (Kz P) 59 fd body sc_Whitespace_not_equal_witness ["self", "other"] [0, 1] ∧
    (∀ (prog : Program) (w : World) (TT : Tabs) (B0 : Heap) (GL : List (Str × Value)) (m : Nat), Tp TT GL (Kz P) B0 → Nms GL → (clongest_run_of_spaces : FnC prog w TT GL (Kz P) m (fun ws => call (.ref 38) ws) g_Whitespace_longest_run_of_spaces) → (cindent_level : FnC prog w TT GL (Kz P) m (fun ws => call (.ref 45) ws) (gInd 76)) → DenSs prog w TT B0 m sc_Whitespace_not_equal_witness body F_Whitespace_not_equal_witness) := by
  refine ⟨_, _, ⟨⟨_, rfl, rfl⟩, rfl, rfl, rfl, by decide, by decide, rfl, rfl, fun h X => ⟨_, _, _, _, rfl, X _ _ rfl, rfl, rfl⟩, len2 (fun _ _ => rfl), (.cons rfl (.inl rfl) (.cons rfl (.inl rfl) .nil)), rfl, rfl, rfl⟩, ?_⟩
  · intro prog w TT B0 GL m T G clongest_run_of_spaces cindent_level
    exact (ss_cons (s_asg nd_Whitespace_not_equal_witness (.nm (.loc rfl)) (d_bin iadd (d_call T.base G.nmax rfl b_max (.cons (d_meth T rfl rfl rfl rfl (d_loc 0 rfl rfl) .nil (clongest_run_of_spaces.pure T)) (.cons (d_meth T rfl rfl rfl rfl (d_loc 1 rfl rfl) .nil (clongest_run_of_spaces.pure T)) .nil (fun _ _ => rfl)) (fun _ _ => rfl))) (d_int 1)))
      (ss_cons (s_asgL nd_Whitespace_not_equal_witness (.loc rfl) (l_list .nil))
      (ss_cons (s_for nd_Whitespace_not_equal_witness (.nm (.loc rfl)) (it_e (d_call T.base G.nrange rfl b_range (.cons (d_int 1) (.cons (d_bin iadd (d_loc 2 rfl rfl) (d_int 1)) .nil (fun _ _ => rfl)) (fun _ _ => rfl)))) (ss_one (s_if (t_cmp cneA (d_meth T rfl rfl rfl rfl (d_loc 0 rfl rfl) (.cons (d_loc 4 rfl rfl) .nil (fun _ _ => rfl)) (cindent_level.pure T)) (d_meth T rfl rfl rfl rfl (d_loc 1 rfl rfl) (.cons (d_loc 4 rfl rfl) .nil (fun _ _ => rfl)) (cindent_level.pure T))) (ss_one (s_app (d_loc 3 rfl rfl) (d_tup (.cons (d_loc 4 rfl rfl) (.cons (d_meth T rfl rfl rfl rfl (d_loc 0 rfl rfl) (.cons (d_loc 4 rfl rfl) .nil (fun _ _ => rfl)) (cindent_level.pure T)) (.cons (d_meth T rfl rfl rfl rfl (d_loc 1 rfl rfl) (.cons (d_loc 4 rfl rfl) .nil (fun _ _ => rfl)) (cindent_level.pure T)) .nil (fun _ _ => rfl)) (fun _ _ => rfl)) (fun _ _ => rfl))))) ss_nil)))
      (ss_one (s_ret (d_loc 3 rfl rfl))))))

noncomputable def sc_Whitespace_less : Sc := [("self", .local), ("other", .local), ("n", .local), ("ts", .local), ("max", .globalImplicit), ("range", .globalImplicit)]
theorem nd_Whitespace_less : (sc_Whitespace_less.map (·.1)).Nodup := by decide
noncomputable def F_Whitespace_less : StF := (sSeq (sIf (tCmp (cmI fun a b => decide (b ≤ a)) (dUn (gAttr 76 "n") (dV 0)) (dUn (gAttr 76 "n") (dV 1))) (sRet (dB false)) sNil)
    (sSeq (sIf (tAnd [(tE (dUn (gAttr 76 "is_simple") (dV 0))), (tE (dUn (gAttr 76 "is_simple") (dV 1)))]) (sRet (dCmp (cmI fun a b => decide (a ≤ b)) (dUn (gAttr 76 "nt") (dV 0)) (dUn (gAttr 76 "nt") (dV 1)))) sNil)
    (sSeq (sAsg (.nm 2) (dBin (opI gAdd) (dCall gMax [(dMeth 76 "longest_run_of_spaces" (gP g_Whitespace_longest_run_of_spaces) (dV 0) []), (dMeth 76 "longest_run_of_spaces" (gP g_Whitespace_longest_run_of_spaces) (dV 1) [])]) (dI 1)))
    (sSeq (sFor (.nm 3) (dIt (dCall gRange [(dI 2), (dBin (opI gAdd) (dV 2) (dI 1))])) (sIf (tCmp (cmI fun a b => decide (b ≤ a)) (dMeth 76 "indent_level" (gP (gInd 76)) (dV 0) [(dV 3)]) (dMeth 76 "indent_level" (gP (gInd 76)) (dV 1) [(dV 3)])) (sRet (dB false)) sNil))
    (sRet (dB true))))))
noncomputable def g_Whitespace_less : List VV → Option VV := gOf F_Whitespace_less [0, 1] 6 2
theorem tf_Whitespace_less (P : Params) : ∃ fd body, TopFn (Kz P) 66 fd body sc_Whitespace_less ["self", "other"] [0, 1] ∧
    (∀ (prog : Program) (w : World) (TT : Tabs) (B0 : Heap) (GL : List (Str × Value)) (m : Nat), Tp TT GL (Kz P) B0 → Nms GL → (clongest_run_of_spaces : FnC prog w TT GL (Kz P) m (fun ws => call (.ref 38) ws) g_Whitespace_longest_run_of_spaces) → (cindent_level : FnC prog w TT GL (Kz P) m (fun ws => call (.ref 45) ws) (gInd 76)) → DenSs prog w TT B0 m sc_Whitespace_less body F_Whitespace_less) := by
  refine ⟨_, _, ⟨⟨_, rfl, rfl⟩, rfl, rfl, rfl, by decide, by decide, rfl, rfl, fun h X => ⟨_, _, _, _, rfl, X _ _ rfl, rfl, rfl⟩, len2 (fun _ _ => rfl), (.cons rfl (.inl rfl) (.cons rfl (.inl rfl) .nil)), rfl, rfl, rfl⟩, ?_⟩
  · intro prog w TT B0 GL m T G clongest_run_of_spaces cindent_level
    exact (ss_cons (s_if (t_cmp cge (d_attr T rfl rfl rfl rfl (d_loc 0 rfl rfl)) (d_attr T rfl rfl rfl rfl (d_loc 1 rfl rfl))) (ss_one (s_ret (d_bool false))) ss_nil)
      (ss_cons (s_if (t_and (.cons (t_e (d_attr T rfl rfl rfl rfl (d_loc 0 rfl rfl))) (.cons (t_e (d_attr T rfl rfl rfl rfl (d_loc 1 rfl rfl))) .nil))) (ss_one (s_ret (d_cmp cle (d_attr T rfl rfl rfl rfl (d_loc 0 rfl rfl)) (d_attr T rfl rfl rfl rfl (d_loc 1 rfl rfl))))) ss_nil)
      (ss_cons (s_asg nd_Whitespace_less (.nm (.loc rfl)) (d_bin iadd (d_call T.base G.nmax rfl b_max (.cons (d_meth T rfl rfl rfl rfl (d_loc 0 rfl rfl) .nil (clongest_run_of_spaces.pure T)) (.cons (d_meth T rfl rfl rfl rfl (d_loc 1 rfl rfl) .nil (clongest_run_of_spaces.pure T)) .nil (fun _ _ => rfl)) (fun _ _ => rfl))) (d_int 1)))
      (ss_cons (s_for nd_Whitespace_less (.nm (.loc rfl)) (it_e (d_call T.base G.nrange rfl b_range (.cons (d_int 2) (.cons (d_bin iadd (d_loc 2 rfl rfl) (d_int 1)) .nil (fun _ _ => rfl)) (fun _ _ => rfl)))) (ss_one (s_if (t_cmp cge (d_meth T rfl rfl rfl rfl (d_loc 0 rfl rfl) (.cons (d_loc 3 rfl rfl) .nil (fun _ _ => rfl)) (cindent_level.pure T)) (d_meth T rfl rfl rfl rfl (d_loc 1 rfl rfl) (.cons (d_loc 3 rfl rfl) .nil (fun _ _ => rfl)) (cindent_level.pure T))) (ss_one (s_ret (d_bool false))) ss_nil)))
      (ss_one (s_ret (d_bool true)))))))

noncomputable def sc_Whitespace_not_less_witness : Sc := [("self", .local), ("other", .local), ("n", .local), ("a", .local), ("ts", .local), ("max", .globalImplicit), ("range", .globalImplicit)]
theorem nd_Whitespace_not_less_witness : (sc_Whitespace_not_less_witness.map (·.1)).Nodup := by decide
noncomputable def F_Whitespace_not_less_witness : StF := (sSeq (sAsg (.nm 2) (dBin (opI gAdd) (dCall gMax [(dMeth 76 "longest_run_of_spaces" (gP g_Whitespace_longest_run_of_spaces) (dV 0) []), (dMeth 76 "longest_run_of_spaces" (gP g_Whitespace_longest_run_of_spaces) (dV 1) [])]) (dI 1)))
    (sSeq (sAsgL 3 (evs []))
    (sSeq (sFor (.nm 4) (dIt (dCall gRange [(dI 1), (dBin (opI gAdd) (dV 2) (dI 1))])) (sIf (tCmp (cmI fun a b => decide (b ≤ a)) (dMeth 76 "indent_level" (gP (gInd 76)) (dV 0) [(dV 4)]) (dMeth 76 "indent_level" (gP (gInd 76)) (dV 1) [(dV 4)])) (sApp (dV 3) (dTup [(dV 4), (dMeth 76 "indent_level" (gP (gInd 76)) (dV 0) [(dV 4)]), (dMeth 76 "indent_level" (gP (gInd 76)) (dV 1) [(dV 4)])])) sNil))
    (sRet (dV 3)))))
noncomputable def g_Whitespace_not_less_witness : List VV → Option VV := gOf F_Whitespace_not_less_witness [0, 1] 7 2
theorem tf_Whitespace_not_less_witness (P : Params) : ∃ fd body, TopFn (Kz P) 73 fd body sc_Whitespace_not_less_witness ["self", "other"] [0, 1] ∧
    (∀ (prog : Program) (w : World) (TT : Tabs) (B0 : Heap) (GL : List (Str × Value)) (m : Nat), Tp TT GL (Kz P) B0 → Nms GL → (clongest_run_of_spaces : FnC prog w TT GL (Kz P) m (fun ws => call (.ref 38) ws) g_Whitespace_longest_run_of_spaces) → (cindent_level : FnC prog w TT GL (Kz P) m (fun ws => call (.ref 45) ws) (gInd 76)) → DenSs prog w TT B0 m sc_Whitespace_not_less_witness body F_Whitespace_not_less_witness) := by
  refine ⟨_, _, ⟨⟨_, rfl, rfl⟩, rfl, rfl, rfl, by decide, by decide, rfl, rfl, fun h X => ⟨_, _, _, _, rfl, X _ _ rfl, rfl, rfl⟩, len2 (fun _ _ => rfl), (.cons rfl (.inl rfl) (.cons rfl (.inl rfl) .nil)), rfl, rfl, rfl⟩, ?_⟩
  · intro prog w TT B0 GL m T G clongest_run_of_spaces cindent_level
    exact (ss_cons (s_asg nd_Whitespace_not_less_witness (.nm (.loc rfl)) (d_bin iadd (d_call T.base G.nmax rfl b_max (.cons (d_meth T rfl rfl rfl rfl (d_loc 0 rfl rfl) .nil (clongest_run_of_spaces.pure T)) (.cons (d_meth T rfl rfl rfl rfl (d_loc 1 rfl rfl) .nil (clongest_run_of_spaces.pure T)) .nil (fun _ _ => rfl)) (fun _ _ => rfl))) (d_int 1)))
      (ss_cons (s_asgL nd_Whitespace_not_less_witness (.loc rfl) (l_list .nil))
      (ss_cons (s_for nd_Whitespace_not_less_witness (.nm (.loc rfl)) (it_e (d_call T.base G.nrange rfl b_range (.cons (d_int 1) (.cons (d_bin iadd (d_loc 2 rfl rfl) (d_int 1)) .nil (fun _ _ => rfl)) (fun _ _ => rfl)))) (ss_one (s_if (t_cmp cge (d_meth T rfl rfl rfl rfl (d_loc 0 rfl rfl) (.cons (d_loc 4 rfl rfl) .nil (fun _ _ => rfl)) (cindent_level.pure T)) (d_meth T rfl rfl rfl rfl (d_loc 1 rfl rfl) (.cons (d_loc 4 rfl rfl) .nil (fun _ _ => rfl)) (cindent_level.pure T))) (ss_one (s_app (d_loc 3 rfl rfl) (d_tup (.cons (d_loc 4 rfl rfl) (.cons (d_meth T rfl rfl rfl rfl (d_loc 0 rfl rfl) (.cons (d_loc 4 rfl rfl) .nil (fun _ _ => rfl)) (cindent_level.pure T)) (.cons (d_meth T rfl rfl rfl rfl (d_loc 1 rfl rfl) (.cons (d_loc 4 rfl rfl) .nil (fun _ _ => rfl)) (cindent_level.pure T)) .nil (fun _ _ => rfl)) (fun _ _ => rfl)) (fun _ _ => rfl))))) ss_nil)))
      (ss_one (s_ret (d_loc 3 rfl rfl))))))

noncomputable def sc_law_line : Sc := [("numbers", .local)]
noncomputable def F_law_line : StF := (sRet (dUn gJoin (dF (dCompL [none, none] ⟨.nm 1, dItM (dV 0), []⟩ [] (dBin opIdx (dS [32, 32, 9, 32, 32, 9, 32, 32, 32, 9, 32, 32, 9, 32, 9, 120]) (dBin (opI gMod) (dV 1) (dI 16)))))))
noncomputable def g_law_line : List VV → Option VV := gOf F_law_line [0] 1 1
theorem tf_law_line (P : Params) : ∃ fd body, TopFn (Kz P) 127 fd body sc_law_line ["numbers"] [0] ∧
    (∀ (prog : Program) (w : World) (TT : Tabs) (B0 : Heap) (GL : List (Str × Value)) (m : Nat), Tp TT GL (Kz P) B0 → Nms GL → DenSs prog w TT B0 m sc_law_line body F_law_line) := by
  refine ⟨_, _, ⟨⟨_, rfl, rfl⟩, rfl, rfl, rfl, by decide, by decide, rfl, rfl, fun h X => ⟨_, _, _, _, rfl, X _ _ rfl, rfl, rfl⟩, len1 (fun _ => rfl), (.cons rfl (.inl rfl) .nil), rfl, rfl, rfl⟩, ?_⟩
  · intro prog w TT B0 GL m T G 
    exact (ss_one (s_ret (d_join rfl (d_ofL (l_comp ⟨rfl, by decide, by decide, rfl, it_m (d_loc 0 rfl rfl), (fun _ _ => rfl), (.nm (.loc rfl)), .nil, .nil, (d_sub (d_str (l := [32, 32, 9, 32, 32, 9, 32, 32, 32, 9, 32, 32, 9, 32, 9, 120]) rfl) (d_bin imod (d_loc 1 rfl rfl) (d_int 16)))⟩)))))

noncomputable def sc_law_rows : Sc := [("line", .local), ("rows", .local), ("sign", .local)]
theorem nd_law_rows : (sc_law_rows.map (·.1)).Nodup := by decide
noncomputable def F_law_rows : StF := (sSeq (sAsgL 1 (evs [(dI 0)]))
    (sSeq (sFor (.nm 2) (dIt (dV 0)) (sSeq (sIf (tCmp cmEq (dV 2) (dS [120])) (sRet (dV 1)) sNil)
    (sIf (tCmp cmEq (dV 2) (dS [9])) (sApp (dV 1) (dI 0)) (sAug (opI gAdd) (dV 1) (dUn opNeg (dI 1)) (dI 1)))))
    (sRet (dV 1))))
noncomputable def g_law_rows : List VV → Option VV := gOf F_law_rows [0] 3 1
theorem tf_law_rows (P : Params) : ∃ fd body, TopFn (Kz P) 134 fd body sc_law_rows ["line"] [0] ∧
    (∀ (prog : Program) (w : World) (TT : Tabs) (B0 : Heap) (GL : List (Str × Value)) (m : Nat), Tp TT GL (Kz P) B0 → Nms GL → DenSs prog w TT B0 m sc_law_rows body F_law_rows) := by
  refine ⟨_, _, ⟨⟨_, rfl, rfl⟩, rfl, rfl, rfl, by decide, by decide, rfl, rfl, fun h X => ⟨_, _, _, _, rfl, X _ _ rfl, rfl, rfl⟩, len1 (fun _ => rfl), (.cons rfl (.inl rfl) .nil), rfl, rfl, rfl⟩, ?_⟩
  · intro prog w TT B0 GL m T G 
    exact (ss_cons (s_asgL nd_law_rows (.loc rfl) (l_list (.cons (d_int 0) .nil (fun _ _ => rfl))))
      (ss_cons (s_for nd_law_rows (.nm (.loc rfl)) (it_e (d_loc 0 rfl rfl)) (ss_cons (s_if (t_cmp ceqA (d_loc 2 rfl rfl) (d_str (l := [120]) rfl)) (ss_one (s_ret (d_loc 1 rfl rfl))) ss_nil)
      (ss_one (s_if (t_cmp ceqA (d_loc 2 rfl rfl) (d_str (l := [9]) rfl)) (ss_one (s_app (d_loc 1 rfl rfl) (d_int 0))) (ss_one (s_aug xadd (d_loc 1 rfl rfl) (d_un ineg (d_int 1)) (d_int 1)))))))
      (ss_one (s_ret (d_loc 1 rfl rfl)))))

noncomputable def sc_law_column : Sc := [("rows", .local), ("size", .local), ("place", .local), ("row", .local)]
theorem nd_law_column : (sc_law_column.map (·.1)).Nodup := by decide
noncomputable def F_law_column : StF := (sSeq (sAsg (.nm 2) (dI 0))
    (sSeq (sFor (.nm 3) (dIt (dSlice (dV 0) none (some (dUn opNeg (dI 1))) none)) (sSeq (sAsg (.nm 2) (dBin (opI gAdd) (dV 2) (dV 3)))
    (sAsg (.nm 2) (dBin (opI gSub) (dBin (opI gAdd) (dV 2) (dV 1)) (dBin (opI gMod) (dV 2) (dV 1))))))
    (sRet (dBin (opI gAdd) (dV 2) (dBin opIdx (dV 0) (dUn opNeg (dI 1)))))))
noncomputable def g_law_column : List VV → Option VV := gOf F_law_column [0, 1] 4 2
theorem tf_law_column (P : Params) : ∃ fd body, TopFn (Kz P) 141 fd body sc_law_column ["rows", "size"] [0, 1] ∧
    (∀ (prog : Program) (w : World) (TT : Tabs) (B0 : Heap) (GL : List (Str × Value)) (m : Nat), Tp TT GL (Kz P) B0 → Nms GL → DenSs prog w TT B0 m sc_law_column body F_law_column) := by
  refine ⟨_, _, ⟨⟨_, rfl, rfl⟩, rfl, rfl, rfl, by decide, by decide, rfl, rfl, fun h X => ⟨_, _, _, _, rfl, X _ _ rfl, rfl, rfl⟩, len2 (fun _ _ => rfl), (.cons rfl (.inl rfl) (.cons rfl (.inl rfl) .nil)), rfl, rfl, rfl⟩, ?_⟩
  · intro prog w TT B0 GL m T G 
    exact (ss_cons (s_asg nd_law_column (.nm (.loc rfl)) (d_int 0))
      (ss_cons (s_for nd_law_column (.nm (.loc rfl)) (it_e (d_slice (d_loc 0 rfl rfl) .none (.some (d_un ineg (d_int 1))) .none)) (ss_cons (s_asg nd_law_column (.nm (.loc rfl)) (d_bin iadd (d_loc 2 rfl rfl) (d_loc 3 rfl rfl)))
      (ss_one (s_asg nd_law_column (.nm (.loc rfl)) (d_bin isub (d_bin iadd (d_loc 2 rfl rfl) (d_loc 1 rfl rfl)) (d_bin imod (d_loc 2 rfl rfl) (d_loc 1 rfl rfl)))))))
      (ss_one (s_ret (d_bin iadd (d_loc 2 rfl rfl) (d_sub (d_loc 0 rfl rfl) (d_un ineg (d_int 1))))))))

noncomputable def sc_law_marks : Sc := [("rows", .local), ("size", .local), ("marks", .local), ("row", .local), ("place", .local), ("range", .globalImplicit)]
theorem nd_law_marks : (sc_law_marks.map (·.1)).Nodup := by decide
noncomputable def F_law_marks : StF := (sSeq (sAsgL 2 (dBinL opMulLL (dF (evs [(dI 0)])) (dV 1)))
    (sSeq (sFor (.nm 3) (dIt (dV 0)) (sFor (.nm 4) (dIt (dCall gRange [(dI 1), (dBin (opI gAdd) (dV 3) (dI 1))])) (sAug (opI gAdd) (dV 2) (dBin (opI gMod) (dV 4) (dV 1)) (dI 1))))
    (sSeq (whileF (tAnd [(tE (dV 2)), (tCmp cmEq (dBin opIdx (dV 2) (dUn opNeg (dI 1))) (dI 0))]) (sPop (dV 2)) 45)
    (sRet (dV 2)))))
noncomputable def g_law_marks : List VV → Option VV := gOf F_law_marks [0, 1] 6 2
theorem tf_law_marks (P : Params) : ∃ fd body, TopFn (Kz P) 148 fd body sc_law_marks ["rows", "size"] [0, 1] ∧
    (∀ (prog : Program) (w : World) (TT : Tabs) (B0 : Heap) (GL : List (Str × Value)) (m : Nat), Tp TT GL (Kz P) B0 → Nms GL → DenSs prog w TT B0 m sc_law_marks body F_law_marks) := by
  refine ⟨_, _, ⟨⟨_, rfl, rfl⟩, rfl, rfl, rfl, by decide, by decide, rfl, rfl, fun h X => ⟨_, _, _, _, rfl, X _ _ rfl, rfl, rfl⟩, len2 (fun _ _ => rfl), (.cons rfl (.inl rfl) (.cons rfl (.inl rfl) .nil)), rfl, rfl, rfl⟩, ?_⟩
  · intro prog w TT B0 GL m T G 
    exact (ss_cons (s_asgL nd_law_marks (.loc rfl) (l_bin lmulL (d_ofL (l_list (.cons (d_int 0) .nil (fun _ _ => rfl)))) (d_loc 1 rfl rfl)))
      (ss_cons (s_for nd_law_marks (.nm (.loc rfl)) (it_e (d_loc 0 rfl rfl)) (ss_one (s_for nd_law_marks (.nm (.loc rfl)) (it_e (d_call T.base G.nrange rfl b_range (.cons (d_int 1) (.cons (d_bin iadd (d_loc 3 rfl rfl) (d_int 1)) .nil (fun _ _ => rfl)) (fun _ _ => rfl)))) (ss_one (s_aug xadd (d_loc 2 rfl rfl) (d_bin imod (d_loc 4 rfl rfl) (d_loc 1 rfl rfl)) (d_int 1))))))
      (ss_cons (s_while 45 (t_and (.cons (t_e (d_loc 2 rfl rfl)) (.cons (t_cmp ceqA (d_sub (d_loc 2 rfl rfl) (d_un ineg (d_int 1))) (d_int 0)) .nil))) (ss_one (s_pop (d_loc 2 rfl rfl))))
      (ss_one (s_ret (d_loc 2 rfl rfl))))))

noncomputable def sc_law_columns : Sc := [("line", .local), ("rows", .local), ("width", .local), ("top", .local), ("lead", .local), ("ahead", .cell), ("size", .local), ("counts", .local), ("tails", .local), ("tabs", .local), ("columns", .local), ("marks", .local), ("column", .local), ("Whitespace", .globalImplicit), ("range", .globalImplicit), ("max", .globalImplicit), ("tuple", .globalImplicit), ("sum", .globalImplicit), ("len", .globalImplicit), ("int_divmod", .globalImplicit), ("_digits2int", .globalImplicit), ("list", .globalImplicit), ("_int2digits", .globalImplicit), ("_law_column", .globalImplicit), ("_law_marks", .globalImplicit)]
theorem nd_law_columns : (sc_law_columns.map (·.1)).Nodup := by decide
noncomputable def F_law_columns : StF := (sSeq (sAsg (.nm 4) (dCall (gP (gWs 76)) [(dV 0)]))
    (sSeq (sAsg (.nm 5) (dSlice (dV 1) none (some (dUn opNeg (dI 1))) none))
    (sSeq (sAsgC 7 (dCompL [none, none, none, some 5] ⟨.nm 1, dItM (dCall gRange [(dBin (opI gAdd) (dCall gMax [(dBin opAddL (dV 5) (dF (evs [(dUn opNeg (dI 1))])))]) (dI 1))]), []⟩ [] (dCall gLen [(dF (dCompL [none, none, some 1] ⟨.nm 1, dItM (dV 3), [(tCmp cmEq (dV 1) (dV 2))]⟩ [] (dV 1)))])))
    (sSeq (sIf (tOr [(tCmp cmNe (dUn (gAttr 76 "norm") (dV 4)) (dTup [(dCall gTuple [(dV 7)]), (dBin opIdx (dV 1) (dUn opNeg (dI 1)))])), (tCmp cmNe (dUn (gAttr 76 "raw") (dV 4)) (dV 0))]) (sRet (dF (evs []))) sNil)
    (sSeq (sIf (tCmp cmNe (dTup [(dUn (gAttr 76 "n") (dV 4)), (dUn (gAttr 76 "nt") (dV 4))]) (dTup [(dBin (opI gAdd) (dCall gSum [(dV 1)]) (dCall gLen [(dV 5)])), (dCall gLen [(dV 5)])])) (sRet (dF (evs []))) sNil)
    (sSeq (sIf (tOr [(tCmp cmIsNot (dUn (gAttr 76 "is_simple") (dV 4)) (dCmp (cmI fun a b => decide (a < b)) (dCall gLen [(dV 7)]) (dI 2))), (tCmp cmNe (dMeth 76 "longest_run_of_spaces" (gP g_Whitespace_longest_run_of_spaces) (dV 4) []) (dCall gMax [(dV 1)]))]) (sRet (dF (evs []))) sNil)
    (sSeq (sAsg (.tp [8, 9]) (dCall (gP gIdm) [(dCall (gP gDig) [(dCall gList [(dBin opIdx (dUn (gAttr 76 "norm") (dV 4)) (dI 0))]), (dV 2)]), (dBin (opI gSub) (dBin (opI gShl) (dI 1) (dV 2)) (dI 1))]))
    (sSeq (sIf (tCmp cmNe (dV 9) (dCall gLen [(dV 5)])) (sRet (dF (evs []))) sNil)
    (sSeq (sIf (tCmp cmNe (dCall (gP gInt) [(dV 8), (dV 2)]) (dF (dCompL [none, none, none, some 5] ⟨.nm 1, dItM (dCall gRange [(dBin (opI gSub) (dCall gLen [(dV 7)]) (dI 1))]), []⟩ [] (dCall gLen [(dF (dCompL [none, none, some 1] ⟨.nm 1, dItM (dV 3), [(tCmp (cmI fun a b => decide (b < a)) (dV 1) (dV 2))]⟩ [] (dV 1)))])))) (sRet (dF (evs []))) sNil)
    (sSeq (sAsgL 10 (evs []))
    (sSeq (sFor (.nm 6) (dIt (dCall gRange [(dI 1), (dBin (opI gAdd) (dV 3) (dI 1))])) (sSeq (sAsg (.nm 11) (dCall (gP gInt) [(dBin opIdx (dCall (gP gIdm) [(dBin (opI gShl) (dV 8) (dV 2)), (dBin (opI gSub) (dBin (opI gShl) (dI 1) (dBin (opI gMul) (dV 2) (dV 6))) (dI 1))]) (dI 1)), (dV 2)]))
    (sSeq (sAsg (.nm 12) (dBin (opI gAdd) (dBin opIdx (dUn (gAttr 76 "norm") (dV 4)) (dI 1)) (dBin (opI gMul) (dV 6) (dBin (opI gAdd) (dV 9) (dBin opIdx (dBin opAddL (dV 11) (dF (evs [(dI 0)]))) (dI 0))))))
    (sSeq (sIf (tOr [(tCmp cmNe (dV 12) (dCall (gP g_law_column) [(dV 1), (dV 6)])), (tCmp cmNe (dMeth 76 "indent_level" (gP (gInd 76)) (dV 4) [(dV 6)]) (dV 12))]) (sRet (dF (evs []))) sNil)
    (sSeq (sIf (tCmp cmNe (dV 11) (dCall (gP g_law_marks) [(dV 5), (dV 6)])) (sRet (dF (evs []))) sNil)
    (sApp (dV 10) (dV 12)))))))
    (sRet (dV 10)))))))))))))
noncomputable def g_law_columns : List VV → Option VV := gOf F_law_columns [0, 1, 2, 3] 25 4
theorem tf_law_columns (P : Params) : ∃ fd body, TopFn (Kz P) 153 fd body sc_law_columns ["line", "rows", "width", "top"] [0, 1, 2, 3] ∧
    (∀ (prog : Program) (w : World) (TT : Tabs) (B0 : Heap) (GL : List (Str × Value)) (m : Nat), Tp TT GL (Kz P) B0 → Nms GL → (cWhitespace : FnC prog w TT GL (Kz P) m (fun ws => call (.ref 76) ws) (gWs 76)) → (clongest_run_of_spaces : FnC prog w TT GL (Kz P) m (fun ws => call (.ref 38) ws) g_Whitespace_longest_run_of_spaces) → (c_digits2int : FnC prog w TT GL (Kz P) m (fun ws => call (.ref 108) ws) gDig) → (cint_divmod : FnC prog w TT GL (Kz P) m (fun ws => call (.ref 122) ws) gIdm) → (c_int2digits : FnC prog w TT GL (Kz P) m (fun ws => call (.ref 101) ws) gInt) → (c_law_column : FnC prog w TT GL (Kz P) m (fun ws => call (.ref 141) ws) g_law_column) → (cindent_level : FnC prog w TT GL (Kz P) m (fun ws => call (.ref 45) ws) (gInd 76)) → (c_law_marks : FnC prog w TT GL (Kz P) m (fun ws => call (.ref 148) ws) g_law_marks) → DenSs prog w TT B0 m sc_law_columns body F_law_columns) := by
  refine ⟨_, _, ⟨⟨_, rfl, rfl⟩, rfl, rfl, rfl, by decide, by decide, rfl, rfl, fun h X => ⟨_, _, _, _, rfl, X _ _ rfl, rfl, rfl⟩, len4 (fun _ _ _ _ => rfl), (.cons rfl (.inl rfl) (.cons rfl (.inl rfl) (.cons rfl (.inl rfl) (.cons rfl (.inl rfl) .nil)))), rfl, rfl, rfl⟩, ?_⟩
  · intro prog w TT B0 GL m T G cWhitespace clongest_run_of_spaces c_digits2int cint_divmod c_int2digits c_law_column cindent_level c_law_marks
    exact (ss_cons (s_asg nd_law_columns (.nm (.loc rfl)) (d_fn T G.nWhitespace rfl (cWhitespace.pure T) (.cons (d_loc 0 rfl rfl) .nil (fun _ _ => rfl)) rfl))
      (ss_cons (s_asg nd_law_columns (.nm (.cel rfl rfl)) (d_slice (d_loc 1 rfl rfl) .none (.some (d_un ineg (d_int 1))) .none))
      (ss_cons (s_asgC1 nd_law_columns (.loc rfl) ⟨rfl, ⟨[(".0", .local)], [("len", .globalImplicit), ("ahead", .free)], rfl, by decide, by decide⟩, rfl, by decide, rfl, it_m (d_call T.base G.nrange rfl b_range (.cons (d_bin iadd (d_call T.base G.nmax rfl b_max (.cons (d_bin ladd (d_cel 5 rfl rfl (.inl rfl)) (d_ofL (l_list (.cons (d_un ineg (d_int 1)) .nil (fun _ _ => rfl))))) .nil (fun _ _ => rfl))) (d_int 1)) .nil (fun _ _ => rfl))), (fun _ _ => rfl), (d_call T.base G.nlen rfl b_len (.cons (d_ofL (l_comp ⟨rfl, by decide, by decide, rfl, it_m (d_cel 3 rfl rfl (.inl rfl)), (fun _ _ => rfl), (.nm (.loc rfl)), (.cons (t_cmp ceqA (d_loc 1 rfl rfl) (d_cel 2 rfl rfl (.inl rfl))) .nil), .nil, (d_loc 1 rfl rfl)⟩)) .nil (fun _ _ => rfl)))⟩ (swaps_comp rfl rfl (by decide)))
      (ss_cons (s_if (t_or (.cons (t_cmp cneA (d_attr T rfl rfl rfl rfl (d_loc 4 rfl rfl)) (d_tup (.cons (d_call T.base G.ntuple rfl b_tuple (.cons (d_loc 7 rfl rfl) .nil (fun _ _ => rfl))) (.cons (d_sub (d_loc 1 rfl rfl) (d_un ineg (d_int 1))) .nil (fun _ _ => rfl)) (fun _ _ => rfl)))) (.cons (t_cmp cneA (d_attr T rfl rfl rfl rfl (d_loc 4 rfl rfl)) (d_loc 0 rfl rfl)) .nil))) (ss_one (s_ret (d_ofL (l_list .nil)))) ss_nil)
      (ss_cons (s_if (t_cmp cneA (d_tup (.cons (d_attr T rfl rfl rfl rfl (d_loc 4 rfl rfl)) (.cons (d_attr T rfl rfl rfl rfl (d_loc 4 rfl rfl)) .nil (fun _ _ => rfl)) (fun _ _ => rfl))) (d_tup (.cons (d_bin iadd (d_call T.base G.nsum rfl b_sum (.cons (d_loc 1 rfl rfl) .nil (fun _ _ => rfl))) (d_call T.base G.nlen rfl b_len (.cons (d_cel 5 rfl rfl (.inl rfl)) .nil (fun _ _ => rfl)))) (.cons (d_call T.base G.nlen rfl b_len (.cons (d_cel 5 rfl rfl (.inl rfl)) .nil (fun _ _ => rfl))) .nil (fun _ _ => rfl)) (fun _ _ => rfl)))) (ss_one (s_ret (d_ofL (l_list .nil)))) ss_nil)
      (ss_cons (s_if (t_or (.cons (t_cmp cisnot (d_attr T rfl rfl rfl rfl (d_loc 4 rfl rfl)) (d_cmp clt (d_call T.base G.nlen rfl b_len (.cons (d_loc 7 rfl rfl) .nil (fun _ _ => rfl))) (d_int 2))) (.cons (t_cmp cneA (d_meth T rfl rfl rfl rfl (d_loc 4 rfl rfl) .nil (clongest_run_of_spaces.pure T)) (d_call T.base G.nmax rfl b_max (.cons (d_loc 1 rfl rfl) .nil (fun _ _ => rfl)))) .nil))) (ss_one (s_ret (d_ofL (l_list .nil)))) ss_nil)
      (ss_cons (s_asg nd_law_columns (.tp (.cons (.loc rfl) (.cons (.loc rfl) .nil))) (d_fn T G.nint_divmod rfl (cint_divmod.pure T) (.cons (d_fn T G.ndigits2int rfl (c_digits2int.pure T) (.cons (d_call T.base G.nlist rfl b_list (.cons (d_sub (d_attr T rfl rfl rfl rfl (d_loc 4 rfl rfl)) (d_int 0)) .nil (fun _ _ => rfl))) (.cons (d_loc 2 rfl rfl) .nil (fun _ _ => rfl)) (fun _ _ => rfl)) rfl) (.cons (d_bin isub (d_bin ishl (d_int 1) (d_loc 2 rfl rfl)) (d_int 1)) .nil (fun _ _ => rfl)) (fun _ _ => rfl)) rfl))
      (ss_cons (s_if (t_cmp cneA (d_loc 9 rfl rfl) (d_call T.base G.nlen rfl b_len (.cons (d_cel 5 rfl rfl (.inl rfl)) .nil (fun _ _ => rfl)))) (ss_one (s_ret (d_ofL (l_list .nil)))) ss_nil)
      (ss_cons (s_if (t_cmp cneA (d_fn T G.nint2digits rfl (c_int2digits.pure T) (.cons (d_loc 8 rfl rfl) (.cons (d_loc 2 rfl rfl) .nil (fun _ _ => rfl)) (fun _ _ => rfl)) rfl) (d_ofL (l_comp1 ⟨rfl, ⟨[(".0", .local)], [("len", .globalImplicit), ("ahead", .free)], rfl, by decide, by decide⟩, rfl, by decide, rfl, it_m (d_call T.base G.nrange rfl b_range (.cons (d_bin isub (d_call T.base G.nlen rfl b_len (.cons (d_loc 7 rfl rfl) .nil (fun _ _ => rfl))) (d_int 1)) .nil (fun _ _ => rfl))), (fun _ _ => rfl), (d_call T.base G.nlen rfl b_len (.cons (d_ofL (l_comp ⟨rfl, by decide, by decide, rfl, it_m (d_cel 3 rfl rfl (.inl rfl)), (fun _ _ => rfl), (.nm (.loc rfl)), (.cons (t_cmp cgt (d_loc 1 rfl rfl) (d_cel 2 rfl rfl (.inl rfl))) .nil), .nil, (d_loc 1 rfl rfl)⟩)) .nil (fun _ _ => rfl)))⟩))) (ss_one (s_ret (d_ofL (l_list .nil)))) ss_nil)
      (ss_cons (s_asgL nd_law_columns (.loc rfl) (l_list .nil))
      (ss_cons (s_for nd_law_columns (.nm (.loc rfl)) (it_e (d_call T.base G.nrange rfl b_range (.cons (d_int 1) (.cons (d_bin iadd (d_loc 3 rfl rfl) (d_int 1)) .nil (fun _ _ => rfl)) (fun _ _ => rfl)))) (ss_cons (s_asg nd_law_columns (.nm (.loc rfl)) (d_fn T G.nint2digits rfl (c_int2digits.pure T) (.cons (d_sub (d_fn T G.nint_divmod rfl (cint_divmod.pure T) (.cons (d_bin ishl (d_loc 8 rfl rfl) (d_loc 2 rfl rfl)) (.cons (d_bin isub (d_bin ishl (d_int 1) (d_bin imul (d_loc 2 rfl rfl) (d_loc 6 rfl rfl))) (d_int 1)) .nil (fun _ _ => rfl)) (fun _ _ => rfl)) rfl) (d_int 1)) (.cons (d_loc 2 rfl rfl) .nil (fun _ _ => rfl)) (fun _ _ => rfl)) rfl))
      (ss_cons (s_asg nd_law_columns (.nm (.loc rfl)) (d_bin iadd (d_sub (d_attr T rfl rfl rfl rfl (d_loc 4 rfl rfl)) (d_int 1)) (d_bin imul (d_loc 6 rfl rfl) (d_bin iadd (d_loc 9 rfl rfl) (d_sub (d_bin ladd (d_loc 11 rfl rfl) (d_ofL (l_list (.cons (d_int 0) .nil (fun _ _ => rfl))))) (d_int 0))))))
      (ss_cons (s_if (t_or (.cons (t_cmp cneA (d_loc 12 rfl rfl) (d_fn T G.nlaw_column rfl (c_law_column.pure T) (.cons (d_loc 1 rfl rfl) (.cons (d_loc 6 rfl rfl) .nil (fun _ _ => rfl)) (fun _ _ => rfl)) rfl)) (.cons (t_cmp cneA (d_meth T rfl rfl rfl rfl (d_loc 4 rfl rfl) (.cons (d_loc 6 rfl rfl) .nil (fun _ _ => rfl)) (cindent_level.pure T)) (d_loc 12 rfl rfl)) .nil))) (ss_one (s_ret (d_ofL (l_list .nil)))) ss_nil)
      (ss_cons (s_if (t_cmp cneA (d_loc 11 rfl rfl) (d_fn T G.nlaw_marks rfl (c_law_marks.pure T) (.cons (d_cel 5 rfl rfl (.inl rfl)) (.cons (d_loc 6 rfl rfl) .nil (fun _ _ => rfl)) (fun _ _ => rfl)) rfl)) (ss_one (s_ret (d_ofL (l_list .nil)))) ss_nil)
      (ss_one (s_app (d_loc 10 rfl rfl) (d_loc 12 rfl rfl))))))))
      (ss_one (s_ret (d_loc 10 rfl rfl))))))))))))))

noncomputable def sc_law : Sc := [("script", .local), ("numbers", .local), ("first", .local), ("second", .local), ("turned", .local), ("width", .local), ("rows", .local), ("top", .local), ("columns", .cell), ("leads", .local), ("one", .cell), ("other", .cell), ("table", .local), ("_law_line", .globalImplicit), ("sum", .globalImplicit), ("_law_rows", .globalImplicit), ("max", .globalImplicit), ("_law_columns", .globalImplicit), ("Whitespace", .globalImplicit), ("range", .globalImplicit)]
theorem nd_law : (sc_law.map (·.1)).Nodup := by decide
noncomputable def F_law : StF := (sSeq (sAsg (.nm 1) (dSlice (dV 0) none (some (dI 20)) none))
    (sSeq (sAsg (.nm 2) (dCall (gP g_law_line) [(dOr (dSlice (dV 1) (some (dI 0)) none (some (dI 2))) (dF (evs [(dI 0), (dI 2), (dI 1)])))]))
    (sSeq (sAsg (.nm 3) (dCall (gP g_law_line) [(dOr (dSlice (dV 1) (some (dI 1)) none (some (dI 2))) (dF (evs [(dI 2), (dI 0), (dI 0), (dI 2)])))]))
    (sSeq (sIf (tCmp cmEq (dBin (opI gMod) (dCall gSum [(dV 1)]) (dI 3)) (dI 2)) (sSeq (sAsg (.nm 4) (dCall (gP g_law_rows) [(dV 2)]))
    (sAsg (.nm 3) (dBin opAddS (dUn gJoin (dF (dCompL [none, none] ⟨.nm 1, dItM (dSlice (dSlice (dV 4) none (some (dUn opNeg (dI 1))) none) none none (some (dUn opNeg (dI 1)))), []⟩ [] (dBin opAddS (dBin opMulS (dS [32]) (dV 1)) (dS [9]))))) (dBin opMulS (dS [32]) (dBin opIdx (dV 4) (dUn opNeg (dI 1))))))) sNil)
    (sSeq (sAsg (.nm 5) (dBin (opI gAdd) (dI 4) (dBin (opI gMod) (dCall gSum [(dV 1)]) (dI 29))))
    (sSeq (sAsg (.nm 6) (dF (evs [(dCall (gP g_law_rows) [(dV 2)]), (dCall (gP g_law_rows) [(dV 3)])])))
    (sSeq (sAsg (.nm 7) (dBin (opI gAdd) (dCall gMax [(dBin opAddL (dBin opIdx (dV 6) (dI 0)) (dBin opIdx (dV 6) (dI 1)))]) (dI 2)))
    (sSeq (sAsg (.nm 8) (dF (evs [(dCall (gP g_law_columns) [(dV 2), (dBin opIdx (dV 6) (dI 0)), (dV 5), (dV 7)]), (dCall (gP g_law_columns) [(dV 3), (dBin opIdx (dV 6) (dI 1)), (dV 5), (dV 7)])])))
    (sSeq (sIf (tCmp cmIn (dF (evs [])) (dV 8)) (sRet (dB false)) sNil)
    (sSeq (sAsg (.nm 9) (dF (evs [(dCall (gP (gWs 76)) [(dV 2)]), (dCall (gP (gWs 76)) [(dV 3)])])))
    (sSeq (sFor (.tp [10, 11]) (dIt (dF (evs [(dTup [(dI 0), (dI 1)]), (dTup [(dI 1), (dI 0)])]))) (sSeq (sAsgC 12 (dCompL [none, none, some 8, some 10, some 11] ⟨.nm 1, dItM (dCall gRange [(dI 1), (dBin (opI gAdd) (dV 7) (dI 1))]), []⟩ [] (dTup [(dV 1), (dBin opIdx (dBin opIdx (dV 2) (dV 3)) (dBin (opI gSub) (dV 1) (dI 1))), (dBin opIdx (dBin opIdx (dV 2) (dV 4)) (dBin (opI gSub) (dV 1) (dI 1)))])))
    (sSeq (sIf (tCmp cmIsNot (dMeth 76 "less" (gP g_Whitespace_less) (dBin opIdx (dV 9) (dV 10)) [(dBin opIdx (dV 9) (dV 11))]) (dCmp cmEq (dF (dCompL [none, none] ⟨.nm 1, dItM (dV 12), [(tCmp (cmI fun a b => decide (b ≤ a)) (dBin opIdx (dV 1) (dI 1)) (dBin opIdx (dV 1) (dI 2)))]⟩ [] (dV 1))) (dF (evs [])))) (sRet (dB false)) sNil)
    (sSeq (sIf (tCmp cmIsNot (dMeth 76 "equal" (gP g_Whitespace_equal) (dBin opIdx (dV 9) (dV 10)) [(dBin opIdx (dV 9) (dV 11))]) (dCmp cmEq (dF (dCompL [none, none] ⟨.nm 1, dItM (dV 12), [(tCmp cmNe (dBin opIdx (dV 1) (dI 1)) (dBin opIdx (dV 1) (dI 2)))]⟩ [] (dV 1))) (dF (evs [])))) (sRet (dB false)) sNil)
    (sSeq (sIf (tCmp cmNe (dMeth 76 "not_equal_witness" (gP g_Whitespace_not_equal_witness) (dBin opIdx (dV 9) (dV 10)) [(dBin opIdx (dV 9) (dV 11))]) (dF (dCompL [none, none] ⟨.nm 1, dItM (dSlice (dV 12) none (some (dUn opNeg (dI 1))) none), [(tCmp cmNe (dBin opIdx (dV 1) (dI 1)) (dBin opIdx (dV 1) (dI 2)))]⟩ [] (dV 1)))) (sRet (dB false)) sNil)
    (sIf (tCmp cmNe (dMeth 76 "not_less_witness" (gP g_Whitespace_not_less_witness) (dBin opIdx (dV 9) (dV 10)) [(dBin opIdx (dV 9) (dV 11))]) (dF (dCompL [none, none] ⟨.nm 1, dItM (dSlice (dV 12) none (some (dUn opNeg (dI 1))) none), [(tCmp (cmI fun a b => decide (b ≤ a)) (dBin opIdx (dV 1) (dI 1)) (dBin opIdx (dV 1) (dI 2)))]⟩ [] (dV 1)))) (sRet (dB false)) sNil))))))
    (sRet (dB true)))))))))))))
noncomputable def g_law : List VV → Option VV := gOf F_law [0] 20 1
theorem tf_law (P : Params) : ∃ fd body, TopFn (Kz P) 158 fd body sc_law ["script"] [0] ∧
    (∀ (prog : Program) (w : World) (TT : Tabs) (B0 : Heap) (GL : List (Str × Value)) (m : Nat), Tp TT GL (Kz P) B0 → Nms GL → (c_law_line : FnC prog w TT GL (Kz P) m (fun ws => call (.ref 127) ws) g_law_line) → (c_law_rows : FnC prog w TT GL (Kz P) m (fun ws => call (.ref 134) ws) g_law_rows) → (c_law_columns : FnC prog w TT GL (Kz P) m (fun ws => call (.ref 153) ws) g_law_columns) → (cWhitespace : FnC prog w TT GL (Kz P) m (fun ws => call (.ref 76) ws) (gWs 76)) → (cless : FnC prog w TT GL (Kz P) m (fun ws => call (.ref 66) ws) g_Whitespace_less) → (cequal : FnC prog w TT GL (Kz P) m (fun ws => call (.ref 52) ws) g_Whitespace_equal) → (cnot_equal_witness : FnC prog w TT GL (Kz P) m (fun ws => call (.ref 59) ws) g_Whitespace_not_equal_witness) → (cnot_less_witness : FnC prog w TT GL (Kz P) m (fun ws => call (.ref 73) ws) g_Whitespace_not_less_witness) → DenSs prog w TT B0 m sc_law body F_law) := by
  refine ⟨_, _, ⟨⟨_, rfl, rfl⟩, rfl, rfl, rfl, by decide, by decide, rfl, rfl, fun h X => ⟨_, _, _, _, rfl, X _ _ rfl, rfl, rfl⟩, len1 (fun _ => rfl), (.cons rfl (.inl rfl) .nil), rfl, rfl, rfl⟩, ?_⟩
  · intro prog w TT B0 GL m T G c_law_line c_law_rows c_law_columns cWhitespace cless cequal cnot_equal_witness cnot_less_witness
    exact (ss_cons (s_asg nd_law (.nm (.loc rfl)) (d_slice (d_loc 0 rfl rfl) .none (.some (d_int 20)) .none))
      (ss_cons (s_asg nd_law (.nm (.loc rfl)) (d_fn T G.nlaw_line rfl (c_law_line.pure T) (.cons (d_or (d_slice (d_loc 1 rfl rfl) (.some (d_int 0)) .none (.some (d_int 2))) (d_ofL (l_list (.cons (d_int 0) (.cons (d_int 2) (.cons (d_int 1) .nil (fun _ _ => rfl)) (fun _ _ => rfl)) (fun _ _ => rfl))))) .nil (fun _ _ => rfl)) rfl))
      (ss_cons (s_asg nd_law (.nm (.loc rfl)) (d_fn T G.nlaw_line rfl (c_law_line.pure T) (.cons (d_or (d_slice (d_loc 1 rfl rfl) (.some (d_int 1)) .none (.some (d_int 2))) (d_ofL (l_list (.cons (d_int 2) (.cons (d_int 0) (.cons (d_int 0) (.cons (d_int 2) .nil (fun _ _ => rfl)) (fun _ _ => rfl)) (fun _ _ => rfl)) (fun _ _ => rfl))))) .nil (fun _ _ => rfl)) rfl))
      (ss_cons (s_if (t_cmp ceqA (d_bin imod (d_call T.base G.nsum rfl b_sum (.cons (d_loc 1 rfl rfl) .nil (fun _ _ => rfl))) (d_int 3)) (d_int 2)) (ss_cons (s_asg nd_law (.nm (.loc rfl)) (d_fn T G.nlaw_rows rfl (c_law_rows.pure T) (.cons (d_loc 2 rfl rfl) .nil (fun _ _ => rfl)) rfl))
      (ss_one (s_asg nd_law (.nm (.loc rfl)) (d_bin sadd (d_join rfl (d_ofL (l_comp ⟨rfl, by decide, by decide, rfl, it_m (d_slice (d_slice (d_loc 4 rfl rfl) .none (.some (d_un ineg (d_int 1))) .none) .none .none (.some (d_un ineg (d_int 1)))), (fun _ _ => rfl), (.nm (.loc rfl)), .nil, .nil, (d_bin sadd (d_bin smul (d_str (l := [32]) rfl) (d_loc 1 rfl rfl)) (d_str (l := [9]) rfl))⟩))) (d_bin smul (d_str (l := [32]) rfl) (d_sub (d_loc 4 rfl rfl) (d_un ineg (d_int 1)))))))) ss_nil)
      (ss_cons (s_asg nd_law (.nm (.loc rfl)) (d_bin iadd (d_int 4) (d_bin imod (d_call T.base G.nsum rfl b_sum (.cons (d_loc 1 rfl rfl) .nil (fun _ _ => rfl))) (d_int 29))))
      (ss_cons (s_asg nd_law (.nm (.loc rfl)) (d_ofL (l_list (.cons (d_fn T G.nlaw_rows rfl (c_law_rows.pure T) (.cons (d_loc 2 rfl rfl) .nil (fun _ _ => rfl)) rfl) (.cons (d_fn T G.nlaw_rows rfl (c_law_rows.pure T) (.cons (d_loc 3 rfl rfl) .nil (fun _ _ => rfl)) rfl) .nil (fun _ _ => rfl)) (fun _ _ => rfl)))))
      (ss_cons (s_asg nd_law (.nm (.loc rfl)) (d_bin iadd (d_call T.base G.nmax rfl b_max (.cons (d_bin ladd (d_sub (d_loc 6 rfl rfl) (d_int 0)) (d_sub (d_loc 6 rfl rfl) (d_int 1))) .nil (fun _ _ => rfl))) (d_int 2)))
      (ss_cons (s_asg nd_law (.nm (.cel rfl rfl)) (d_ofL (l_list (.cons (d_fn T G.nlaw_columns rfl (c_law_columns.pure T) (.cons (d_loc 2 rfl rfl) (.cons (d_sub (d_loc 6 rfl rfl) (d_int 0)) (.cons (d_loc 5 rfl rfl) (.cons (d_loc 7 rfl rfl) .nil (fun _ _ => rfl)) (fun _ _ => rfl)) (fun _ _ => rfl)) (fun _ _ => rfl)) rfl) (.cons (d_fn T G.nlaw_columns rfl (c_law_columns.pure T) (.cons (d_loc 3 rfl rfl) (.cons (d_sub (d_loc 6 rfl rfl) (d_int 1)) (.cons (d_loc 5 rfl rfl) (.cons (d_loc 7 rfl rfl) .nil (fun _ _ => rfl)) (fun _ _ => rfl)) (fun _ _ => rfl)) (fun _ _ => rfl)) rfl) .nil (fun _ _ => rfl)) (fun _ _ => rfl)))))
      (ss_cons (s_if (t_cmp cin (d_ofL (l_list .nil)) (d_cel 8 rfl rfl (.inl rfl))) (ss_one (s_ret (d_bool false))) ss_nil)
      (ss_cons (s_asg nd_law (.nm (.loc rfl)) (d_ofL (l_list (.cons (d_fn T G.nWhitespace rfl (cWhitespace.pure T) (.cons (d_loc 2 rfl rfl) .nil (fun _ _ => rfl)) rfl) (.cons (d_fn T G.nWhitespace rfl (cWhitespace.pure T) (.cons (d_loc 3 rfl rfl) .nil (fun _ _ => rfl)) rfl) .nil (fun _ _ => rfl)) (fun _ _ => rfl)))))
      (ss_cons (s_for nd_law (.tp (.cons (.cel rfl rfl) (.cons (.cel rfl rfl) .nil))) (it_e (d_ofL (l_list (.cons (d_tup (.cons (d_int 0) (.cons (d_int 1) .nil (fun _ _ => rfl)) (fun _ _ => rfl))) (.cons (d_tup (.cons (d_int 1) (.cons (d_int 0) .nil (fun _ _ => rfl)) (fun _ _ => rfl))) .nil (fun _ _ => rfl)) (fun _ _ => rfl))))) (ss_cons (s_asgC nd_law (.loc rfl) ⟨rfl, by decide, by decide, rfl, it_m (d_call T.base G.nrange rfl b_range (.cons (d_int 1) (.cons (d_bin iadd (d_loc 7 rfl rfl) (d_int 1)) .nil (fun _ _ => rfl)) (fun _ _ => rfl))), (fun _ _ => rfl), (.nm (.loc rfl)), .nil, .nil, (d_tup (.cons (d_loc 1 rfl rfl) (.cons (d_sub (d_sub (d_cel 2 rfl rfl (.inl rfl)) (d_cel 3 rfl rfl (.inl rfl))) (d_bin isub (d_loc 1 rfl rfl) (d_int 1))) (.cons (d_sub (d_sub (d_cel 2 rfl rfl (.inl rfl)) (d_cel 4 rfl rfl (.inl rfl))) (d_bin isub (d_loc 1 rfl rfl) (d_int 1))) .nil (fun _ _ => rfl)) (fun _ _ => rfl)) (fun _ _ => rfl)))⟩ (swaps_comp rfl rfl (by decide)))
      (ss_cons (s_if (t_cmp cisnot (d_meth T rfl rfl rfl rfl (d_sub (d_loc 9 rfl rfl) (d_cel 10 rfl rfl (.inl rfl))) (.cons (d_sub (d_loc 9 rfl rfl) (d_cel 11 rfl rfl (.inl rfl))) .nil (fun _ _ => rfl)) (cless.pure T)) (d_cmp ceqA (d_ofL (l_comp ⟨rfl, by decide, by decide, rfl, it_m (d_loc 12 rfl rfl), (fun _ _ => rfl), (.nm (.loc rfl)), (.cons (t_cmp cge (d_sub (d_loc 1 rfl rfl) (d_int 1)) (d_sub (d_loc 1 rfl rfl) (d_int 2))) .nil), .nil, (d_loc 1 rfl rfl)⟩)) (d_ofL (l_list .nil)))) (ss_one (s_ret (d_bool false))) ss_nil)
      (ss_cons (s_if (t_cmp cisnot (d_meth T rfl rfl rfl rfl (d_sub (d_loc 9 rfl rfl) (d_cel 10 rfl rfl (.inl rfl))) (.cons (d_sub (d_loc 9 rfl rfl) (d_cel 11 rfl rfl (.inl rfl))) .nil (fun _ _ => rfl)) (cequal.pure T)) (d_cmp ceqA (d_ofL (l_comp ⟨rfl, by decide, by decide, rfl, it_m (d_loc 12 rfl rfl), (fun _ _ => rfl), (.nm (.loc rfl)), (.cons (t_cmp cneA (d_sub (d_loc 1 rfl rfl) (d_int 1)) (d_sub (d_loc 1 rfl rfl) (d_int 2))) .nil), .nil, (d_loc 1 rfl rfl)⟩)) (d_ofL (l_list .nil)))) (ss_one (s_ret (d_bool false))) ss_nil)
      (ss_cons (s_if (t_cmp cneA (d_meth T rfl rfl rfl rfl (d_sub (d_loc 9 rfl rfl) (d_cel 10 rfl rfl (.inl rfl))) (.cons (d_sub (d_loc 9 rfl rfl) (d_cel 11 rfl rfl (.inl rfl))) .nil (fun _ _ => rfl)) (cnot_equal_witness.pure T)) (d_ofL (l_comp ⟨rfl, by decide, by decide, rfl, it_m (d_slice (d_loc 12 rfl rfl) .none (.some (d_un ineg (d_int 1))) .none), (fun _ _ => rfl), (.nm (.loc rfl)), (.cons (t_cmp cneA (d_sub (d_loc 1 rfl rfl) (d_int 1)) (d_sub (d_loc 1 rfl rfl) (d_int 2))) .nil), .nil, (d_loc 1 rfl rfl)⟩))) (ss_one (s_ret (d_bool false))) ss_nil)
      (ss_one (s_if (t_cmp cneA (d_meth T rfl rfl rfl rfl (d_sub (d_loc 9 rfl rfl) (d_cel 10 rfl rfl (.inl rfl))) (.cons (d_sub (d_loc 9 rfl rfl) (d_cel 11 rfl rfl (.inl rfl))) .nil (fun _ _ => rfl)) (cnot_less_witness.pure T)) (d_ofL (l_comp ⟨rfl, by decide, by decide, rfl, it_m (d_slice (d_loc 12 rfl rfl) .none (.some (d_un ineg (d_int 1))) .none), (fun _ _ => rfl), (.nm (.loc rfl)), (.cons (t_cmp cge (d_sub (d_loc 1 rfl rfl) (d_int 1)) (d_sub (d_loc 1 rfl rfl) (d_int 2))) .nil), .nil, (d_loc 1 rfl rfl)⟩))) (ss_one (s_ret (d_bool false))) ss_nil)))))))
      (ss_one (s_ret (d_bool true))))))))))))))
end Mine
end
namespace Mine
noncomputable def gl1 : List (Str × Value) := [("len", .builtin "len"), ("_DIV_LIMIT", .int 4000 297), ("divmod", .builtin "divmod"), ("_int2digits", .ref 101), ("_div2n1n", .ref 87), ("_digits2int", .ref 108), ("reversed", .type "reversed"), ("int_divmod", .ref 122), ("_divmod_pos", .ref 115),
  ("range", .type "range"), ("Whitespace", .ref 76), ("max", .builtin "max"), ("sum", .builtin "sum"), ("list", .type "list"), ("tuple", .type "tuple"),
  ("_law_line", .ref 127), ("_law_rows", .ref 134), ("_law_column", .ref 141), ("_law_marks", .ref 148), ("_law_columns", .ref 153)]
theorem pyl1 : Pyl gl1 := by constructor <;> (unfold gl1; repeat (first | exact .head _ | apply List.Mem.tail))
theorem nms1 : Nms gl1 := by constructor <;> (unfold gl1; repeat (first | exact .head _ | apply List.Mem.tail))
theorem gl1_at (P : Params) : ∀ p ∈ gl1, nsIn (Kz P) mainGlobals p.1 = some (some p.2) ∨ (nsIn (Kz P) mainGlobals p.1 = some none ∧ bootBuiltins p.1 = some p.2 ∧ p.1 ≠ "__name__") := by
  unfold gl1
  repeat' (first | exact List.forall_mem_nil _ | refine List.forall_mem_cons.mpr (And.intro ?_ ?_))
  all_goals first | exact .inl rfl | exact .inr ⟨rfl, by kernel_rfl, by decide⟩
section
variable (P : Params) (prog : Program) (w : World)
theorem c_ws : FnC prog w (tabsOf tl3) gl1 (Kz P) 2 (fun ws => call (.ref 76) ws) (gWs 76) := by
  obtain ⟨fd, b, X, D⟩ := tf_ini P
  exact ws_fnc (n := 0) X rfl rfl rfl rfl rfl fun B1 T => D prog w _ B1 gl1 0 T nms1.nWhitespace nms1.nlen nms1.ntuple
theorem c_ind : FnC prog w (tabsOf tl3) gl1 (Kz P) 1 (fun ws => call (.ref 45) ws) (gInd 76) := by
  obtain ⟨fd, b, X, D⟩ := tf_Whitespace_indent_level P
  exact ind_fnc (n := 0) X rfl rfl fun B1 T => D prog w _ B1 gl1 0 T nms1
theorem c_longest : FnC prog w (tabsOf tl3) gl1 (Kz P) 1 (fun ws => call (.ref 38) ws) g_Whitespace_longest_run_of_spaces := by
  obtain ⟨fd, b, X, D⟩ := tf_Whitespace_longest_run_of_spaces P
  exact X.of (n := 0) rfl rfl fun B1 T => D prog w _ B1 gl1 0 T nms1
theorem c_equal : FnC prog w (tabsOf tl3) gl1 (Kz P) 1 (fun ws => call (.ref 52) ws) g_Whitespace_equal := by
  obtain ⟨fd, b, X, D⟩ := tf_Whitespace_equal P
  exact X.of (n := 0) rfl rfl fun B1 T => D prog w _ B1 gl1 0 T nms1
theorem c_new : FnC prog w (tabsOf tl3) gl1 (Kz P) 2 (fun ws => call (.ref 59) ws) g_Whitespace_not_equal_witness := by
  obtain ⟨fd, b, X, D⟩ := tf_Whitespace_not_equal_witness P
  exact X.of (n := 1) rfl rfl fun B1 T => D prog w _ B1 gl1 1 T nms1 (c_longest P prog w) (c_ind P prog w)
theorem c_less : FnC prog w (tabsOf tl3) gl1 (Kz P) 2 (fun ws => call (.ref 66) ws) g_Whitespace_less := by
  obtain ⟨fd, b, X, D⟩ := tf_Whitespace_less P
  exact X.of (n := 1) rfl rfl fun B1 T => D prog w _ B1 gl1 1 T nms1 (c_longest P prog w) (c_ind P prog w)
theorem c_nlw : FnC prog w (tabsOf tl3) gl1 (Kz P) 2 (fun ws => call (.ref 73) ws) g_Whitespace_not_less_witness := by
  obtain ⟨fd, b, X, D⟩ := tf_Whitespace_not_less_witness P
  exact X.of (n := 1) rfl rfl fun B1 T => D prog w _ B1 gl1 1 T nms1 (c_longest P prog w) (c_ind P prog w)
theorem c_law_line : FnC prog w (tabsOf tl3) gl1 (Kz P) 1 (fun ws => call (.ref 127) ws) g_law_line := by
  obtain ⟨fd, b, X, D⟩ := tf_law_line P
  exact X.of (n := 0) rfl rfl fun B1 T => D prog w _ B1 gl1 0 T nms1
theorem c_law_rows : FnC prog w (tabsOf tl3) gl1 (Kz P) 1 (fun ws => call (.ref 134) ws) g_law_rows := by
  obtain ⟨fd, b, X, D⟩ := tf_law_rows P
  exact X.of (n := 0) rfl rfl fun B1 T => D prog w _ B1 gl1 0 T nms1
theorem c_law_column : FnC prog w (tabsOf tl3) gl1 (Kz P) 1 (fun ws => call (.ref 141) ws) g_law_column := by
  obtain ⟨fd, b, X, D⟩ := tf_law_column P
  exact X.of (n := 0) rfl rfl fun B1 T => D prog w _ B1 gl1 0 T nms1
theorem c_law_marks : FnC prog w (tabsOf tl3) gl1 (Kz P) 1 (fun ws => call (.ref 148) ws) g_law_marks := by
  obtain ⟨fd, b, X, D⟩ := tf_law_marks P
  exact X.of (n := 0) rfl rfl fun B1 T => D prog w _ B1 gl1 0 T nms1
theorem c_dig : FnC prog w (tabsOf tl3) gl1 (Kz P) 62 (fun ws => call (.ref 108) ws) gDig := tf_dig P prog w gl1 pyl1.len
theorem c_int : FnC prog w (tabsOf tl3) gl1 (Kz P) 62 (fun ws => call (.ref 101) ws) gInt := tf_int P prog w gl1 pyl1.len
theorem c_law_columns : FnC prog w (tabsOf tl3) gl1 (Kz P) 67 (fun ws => call (.ref 153) ws) g_law_columns := by
  obtain ⟨fd, b, X, D⟩ := tf_law_columns P
  exact X.of (n := 66) rfl rfl fun B1 T => D prog w _ B1 gl1 66 T nms1 ((c_ws P prog w).le (by decide)) ((c_longest P prog w).le (by decide)) ((c_dig P prog w).le (by decide)) (c_idm P prog w pyl1) ((c_int P prog w).le (by decide)) ((c_law_column P prog w).le (by decide)) ((c_ind P prog w).le (by decide)) ((c_law_marks P prog w).le (by decide))
theorem c_law : FnC prog w (tabsOf tl3) gl1 (Kz P) 68 (fun ws => call (.ref 158) ws) g_law := by
  obtain ⟨fd, b, X, D⟩ := tf_law P
  exact X.of (n := 67) rfl rfl fun B1 T => D prog w _ B1 gl1 67 T nms1 ((c_law_line P prog w).le (m := 67) (by decide)) ((c_law_rows P prog w).le (m := 67) (by decide)) (c_law_columns P prog w) ((c_ws P prog w).le (m := 67) (by decide)) ((c_less P prog w).le (m := 67) (by decide)) ((c_equal P prog w).le (m := 67) (by decide)) ((c_new P prog w).le (m := 67) (by decide)) ((c_nlw P prog w).le (m := 67) (by decide))
end
theorem post_true (args : List WData) : PySem.Challenge.rw_pm0055_01.row.claim.post args (.bool true) args = true := by
  show (WShape.has [] (.bool true) .bool && (WTm.eq .res (.lit (.bool true))).holds [] { args := args, res := some (.bool true), after := args }) = true
  simp [WShape.has, WShape.arms, WTm.holds, WTm.value, W.same]
theorem zin {K : Params → Frag} {as : List Addr} {n t : Nat} {w : World} {s : Shared} (y : PySem.W.X.obsZ as s = PySem.W.X.valZ K n t w) (e : ∀ P, as = (K P).map (·.1) := by intro _; rfl) : InK K w s.heap := (PySem.W.X.z_facts e y).2.1
theorem law1_of (plain : ∀ ns : List Int, ns.length ≤ 63 → g_law [.lv (ns.map .int)] = some (.bool true)) : PySem.Challenge.rw_pm0055_01.Holds := hz1 (by
  intro w s₀ s₁ mg mb G y fa o pm cd doc dV kV ho hd hcd hD hmg hg args vals as LL hpre hlay hrd hwl hlo
  have XK : (hz1.heap_186 w.params).In s₁.heap := InK.keeps w s₀.heap s₁.heap (zin y) (Laid.keeps LL)
  have X := Kz_in XK
  have XT : ∀ P ∈ ([103, 96] : List Addr), s₁.heap.get? P = some (tabObj #[]) := List.forall_mem_cons.mpr (And.intro (XK 103 _ rfl) (List.forall_mem_cons.mpr (And.intro (XK 96 _ rfl) (List.forall_mem_nil _))))
  have T := G.T
  clear G y ho hd hcd hD LL XK
  have hfa : fa = 158 := by
    have e := mg_of (n := ("law" : Str)) (v := .ref 158) X T.g rfl
    have e2 : mg ("law" : Str) = some (.ref fa) := hmg
    rw [e] at e2
    cases e2
    rfl
  subst hfa
  clear hmg
  wrow_args hpre hlay hrd hwl hlo
  rename_i ns _ _ _ _ _ _ _ a ws _ hL _ hW _ hI _ hlen _
  have TP := top_tp (tl := tl3) (GL := gl1) T X (fun P hP => XT P hP) (by decide) (by decide) (by decide) (List.forall_mem_cons.mpr (And.intro rfl (List.forall_mem_cons.mpr (And.intro rfl (List.forall_mem_nil _))))) (gl1_at w.params)
  have hT : TabsAt [(107, 103), (100, 96)] s₁.heap := List.forall_mem_cons.mpr ⟨⟨codeHd_of_K X (by kernel_rfl), XT 103 (.head _)⟩, List.forall_mem_cons.mpr ⟨⟨codeHd_of_K X (by kernel_rfl), XT 96 (.tail _ (.head _))⟩, fun _ h => nomatch h⟩⟩
  exact law_call (cw := PySem.Challenge.rw_pm0055_01.row.claim) TP hT rfl (c_law w.params _ w) (by decide) hL hW hI hg (fun _ => rfl) (post_true _) (plain ns (by omega)))
end Mine
section
local macro_rules | `(tactic| omega) => `(tactic| first | lia | omega (config := {}))
namespace Mine
theorem iV_eq (l : List Nat) : iV l = (l.map fun d : Nat => (d : Int)).map .int := by
  unfold iV; rw [List.map_map]; rfl
theorem asInts_iV (l : List Nat) : asInts (iV l) = some (l.map fun d : Nat => (d : Int)) := by rw [iV_eq, asInts_map]
theorem frz_lvI {k : Nat} {H : Hp} {l : List Nat} : frz (k + 2) H (.lv (iV l)) = some (.lv (iV l)) := by
  show (frzL (frz (k + 1) H) (iV l)).map VV.lv = _
  rw [frzL_iV]; rfl
theorem gP_li {g : List VV → Option VV} {l : List Nat} {i : Int} {H : Hp} : gP g [.lv (iV l), .int i] H = g [.lv (iV l), .int i] := by
  show (frzL (frz 8 []) [.lv (iV l), .int i]).bind g = _
  simp only [frzL, frz_lvI, Option.bind_some, Option.map_some]
  rfl
theorem seq_last (n : Nat) : seqIndex? (-1) (n + 1) = some n := by
  unfold seqIndex?
  have h1 : (-1 : Int) < 0 := by decide
  have h2 : (-1 : Int) + ((n + 1 : Nat) : Int) = n := by omega
  simp only [h1, if_true, h2]
  simp
  omega
theorem sAug_at {g : VV → VV → Hp → Option VV} {fo fi f : EvF} {E : Lo} {H H' : Hp} {o old v nw : VV} {k : Int} (ho : fo E H = some o) (hi : fi E H = some (.int k)) (hold : opIdx o (.int k) H = some old) (hf : f E H = some v) (hg : g old v H = some nw)
    (hs : onList o H (fun xs => setAt xs k nw) = some H') : sAug g fo fi f E H = some (.next, E, H') := by
  unfold sAug
  rw [ho, Option.bind_some, hi, Option.bind_some]
  dsimp only
  rw [hold, Option.bind_some, hf, Option.bind_some, hg, Option.bind_some, hs]
  rfl
theorem gOf_ret {F : StF} {ps : List Nat} {len np : Nat} {xs : List VV} {u v : VV} {E' : Lo} {H' : Hp} (hl : xs.length = np) (h : F (bindE ps len xs) [] = some (.ret u, E', H')) (hv : frz 8 H' u = some v) : gOf F ps len np xs = some v := by
  unfold gOf
  rw [if_pos hl, h, Option.bind_some]
  exact hv
theorem last_get (xs : List VV) (v : VV) : (xs ++ [v])[xs.length]? = some v := by simp
theorem idx_last (xs : List VV) (v : VV) : idx (xs ++ [v]) (-1) = some v := by
  unfold idx
  rw [if_pos (by omega), List.length_append, show xs.length + [v].length = xs.length + 1 from rfl, seq_last, Option.bind_some, last_get]
theorem setAt_last (xs : List VV) (v w : VV) : setAt (xs ++ [v]) (-1) w = some (xs ++ [w]) := by
  unfold setAt
  rw [if_pos (by omega), List.length_append, show xs.length + [v].length = xs.length + 1 from rfl, seq_last]
  simp
theorem iV_append (a b : List Nat) : iV (a ++ b) = iV a ++ iV b := List.map_append
theorem forF_nil {body : StF} {tg : Tg} {E : Lo} {H : Hp} : forF body tg [] E H = some (.next, E, H) := rfl
theorem forF_next {body : StF} {i : Nat} {x : VV} {xs : List VV} {E E2 : Lo} {H H2 : Hp} (h : body (E.set i (some x)) H = some (.next, E2, H2)) : forF body (.nm i) (x :: xs) E H = forF body (.nm i) xs E2 H2 := by
  show (bindT (.nm i) x E).bind _ = _
  rw [show bindT (.nm i) x E = some (E.set i (some x)) from rfl, Option.bind_some, h]
  rfl
theorem forF_ret {body : StF} {i : Nat} {x : VV} {xs : List VV} {E E2 : Lo} {H H2 : Hp} {v : VV} (h : body (E.set i (some x)) H = some (.ret v, E2, H2)) : forF body (.nm i) (x :: xs) E H = some (.ret v, E2, H2) := by
  show (bindT (.nm i) x E).bind _ = _
  rw [show bindT (.nm i) x E = some (E.set i (some x)) from rfl, Option.bind_some, h]
  rfl
theorem sSeq_n {f g : StF} {E E1 : Lo} {H H1 : Hp} (h : f E H = some (.next, E1, H1)) : sSeq f g E H = g E1 H1 := by unfold sSeq; rw [h]; rfl
theorem sSeq_r {f g : StF} {E E1 : Lo} {H H1 : Hp} {v : VV} (h : f E H = some (.ret v, E1, H1)) : sSeq f g E H = some (.ret v, E1, H1) := by unfold sSeq; rw [h]; rfl

-- _law_rows
noncomputable def sgn3 (l : Txt) : Prop := ∀ c ∈ l, c = 32 ∨ c = 9 ∨ c = 120
noncomputable def bodyR : StF := (sSeq (sIf (tCmp cmEq (dV 2) (dS [120])) (sRet (dV 1)) sNil)
    (sIf (tCmp cmEq (dV 2) (dS [9])) (sApp (dV 1) (dI 0)) (sAug (opI gAdd) (dV 1) (dUn opNeg (dI 1)) (dI 1))))
theorem aug_last {S z : Option VV} (xs : List VV) (b : Nat) : sAug (opI gAdd) (dV 1) (dUn opNeg (dI 1)) (dI 1) [S, some (.lst 0), z] [.list (xs ++ [.int b])] = some (.next, [S, some (.lst 0), z], [.list (xs ++ [.int ((b + 1 : Nat) : Int)])]) := by
  have h1 : opIdx (.lst 0) (.int (-1)) [.list (xs ++ [.int b])] = some (.int b) := by
    show (items (.lst 0) [.list (xs ++ [.int b])]).bind (fun xs => idx xs (-1)) = _
    rw [items_lst (j := 0) rfl, Option.bind_some, idx_last]
  refine sAug_at (o := .lst 0) (k := -1) (old := .int b) (v := .int 1) (nw := .int ((b + 1 : Nat) : Int)) rfl rfl h1 rfl ?_ (onList_at (ys := xs ++ [.int ((b + 1 : Nat) : Int)]) rfl (setAt_last _ _ _))
  show some (VV.int ((b : Int) + 1)) = _
  rw [show ((b + 1 : Nat) : Int) = (b : Int) + 1 by omega]
theorem app_lst {S z : Option VV} {xs : List VV} (h : xs.length ≤ 1000000) : sApp (dV 1) (dI 0) [S, some (.lst 0), z] [.list xs] = some (.next, [S, some (.lst 0), z], [.list (xs ++ [.int 0])]) := by
  show ((if xs.length ≤ 1000000 then some (xs ++ [VV.int 0]) else none).map fun ys => [VO.list ys]).map (fun H' => (Fl.next, [S, some (.lst 0), z], H')) = _
  rw [if_pos h]; rfl
theorem rows_loop {S : Option VV} : ∀ (l : Txt) (pre : List Nat) (b : Nat) (z : Option VV), sgn3 l → pre.length + l.length ≤ 1000 → ∃ r z', forF bodyR (.nm 2) (l.map fun c => .str [c]) [S, some (.lst 0), z] [.list (iV pre ++ [.int b])] =
    some (r, [S, some (.lst 0), z'], [.list (iV (pre ++ (rowsX b l).1) ++ [.int ((rowsX b l).2 : Nat)])]) ∧ (r = .next ∨ r = .ret (.lst 0))
  | [], pre, b, z, _, _ => ⟨.next, z, by rw [List.map_nil, forF_nil]; simp only [rowsX, List.append_nil], .inl rfl⟩
  | c :: cs, pre, b, z, h, hl => by
    rw [List.length_cons] at hl
    have hc := h c (.head _)
    have hcs : sgn3 cs := fun c hc => h c (.tail _ hc)
    rw [List.map_cons]
    rcases hc with rfl | rfl | rfl
    · obtain ⟨r, z', e, hr⟩ := rows_loop cs pre (b + 1) (some (.str [32])) hcs (by omega)
      refine ⟨r, z', ?_, hr⟩
      have hb : bodyR [S, some (.lst 0), some (.str [32])] [.list (iV pre ++ [.int b])] = some (.next, [S, some (.lst 0), some (.str [32])], [.list (iV pre ++ [.int ((b + 1 : Nat) : Int)])]) := by
        unfold bodyR
        rw [sSeq_n (sIf_skip (show tCmp cmEq (dV 2) (dS [120]) [S, some (.lst 0), some (.str [32])] _ = some false from rfl)), sIf_else (show tCmp cmEq (dV 2) (dS [9]) [S, some (.lst 0), some (.str [32])] _ = some false from rfl), aug_last]
      rw [forF_next (E2 := [S, some (.lst 0), some (.str [32])]) (H2 := [.list (iV pre ++ [.int ((b + 1 : Nat) : Int)])]) hb]
      exact e
    · obtain ⟨r, z', e, hr⟩ := rows_loop cs (pre ++ [b]) 0 (some (.str [9])) hcs (by rw [List.length_append]; simp only [List.length_cons, List.length_nil]; omega)
      refine ⟨r, z', ?_, hr⟩
      have hb : bodyR [S, some (.lst 0), some (.str [9])] [.list (iV pre ++ [.int b])] = some (.next, [S, some (.lst 0), some (.str [9])], [.list (iV (pre ++ [b]) ++ [.int 0])]) := by
        unfold bodyR
        rw [sSeq_n (sIf_skip (show tCmp cmEq (dV 2) (dS [120]) [S, some (.lst 0), some (.str [9])] _ = some false from rfl)), sIf_go (show tCmp cmEq (dV 2) (dS [9]) [S, some (.lst 0), some (.str [9])] _ = some true from rfl), app_lst (by rw [List.length_append, List.length_map]; simp only [List.length_cons, List.length_nil]; omega), iV_append]
        rfl
      rw [forF_next (E2 := [S, some (.lst 0), some (.str [9])]) (H2 := [.list (iV (pre ++ [b]) ++ [.int 0])]) hb]
      refine e.trans ?_
      rw [List.append_assoc]
      rfl
    · refine ⟨.ret (.lst 0), some (.str [120]), ?_, .inr rfl⟩
      have hb : bodyR [S, some (.lst 0), some (.str [120])] [.list (iV pre ++ [.int b])] = some (.ret (.lst 0), [S, some (.lst 0), some (.str [120])], [.list (iV pre ++ [.int b])]) := by
        unfold bodyR
        exact sSeq_r ((sIf_go (show tCmp cmEq (dV 2) (dS [120]) [S, some (.lst 0), some (.str [120])] _ = some true from rfl)).trans (sRet_at rfl))
      rw [forF_ret (E2 := [S, some (.lst 0), some (.str [120])]) (H2 := [.list (iV pre ++ [.int b])]) hb]
      simp only [rowsX, show ¬ (120 : Nat) = 32 by decide, show ¬ (120 : Nat) = 9 by decide, if_false, List.append_nil]
noncomputable def rowsV (l : Txt) : List Nat := (rowsX 0 l).1 ++ [(rowsX 0 l).2]
theorem rows_at {l : Txt} (h : sgn3 l) (hl : l.length ≤ 100) : g_law_rows [.str l] = some (.lv (iV (rowsV l))) := by
  obtain ⟨r, z', e, hr⟩ := rows_loop (S := some (.str l)) l [] 0 none h (by simpa using Nat.le_trans hl (by decide))
  have e' : forF bodyR (.nm 2) (l.map fun c => .str [c]) [some (.str l), some (.lst 0), none] [.list [.int 0]] = some (r, [some (.str l), some (.lst 0), z'], [.list (iV (rowsV l))]) := by
    unfold rowsV
    rw [iV_append]
    exact e
  have it : dIt (dV 0) [some (.str l), some (.lst 0), none] [.list [.int 0]] = some (l.map fun c => .str [c]) := by
    show (if l.length ≤ 16777216 then some (l.map fun c => VV.str [c]) else none) = _
    rw [if_pos (by omega)]
  have run : F_law_rows (bindE [0] 3 [.str l]) [] = some (.ret (.lst 0), [some (.str l), some (.lst 0), z'], [.list (iV (rowsV l))]) := by
    show sSeq _ (sSeq (sFor (.nm 2) (dIt (dV 0)) bodyR) (sRet (dV 1))) _ _ = _
    rw [sSeq_n (E1 := [some (.str l), some (.lst 0), none]) (H1 := [.list [.int 0]]) rfl]
    have e2 := (sFor_at (tg := .nm 2) (body := bodyR) it).trans e'
    rcases hr with rfl | rfl
    · rw [sSeq_n e2]; exact sRet_at rfl
    · exact sSeq_r e2
  refine gOf_ret rfl run ?_
  show (frzL (frz 7 [.list (iV (rowsV l))]) (iV (rowsV l))).map VV.lv = _
  rw [frzL_iV]; rfl
end Mine
namespace Mine
theorem fmod_nat (a b : Nat) : (a : Int).fmod (b : Int) = ((a % b : Nat) : Int) := by
  rw [Int.fmod_eq_emod_of_nonneg _ (Int.natCast_nonneg _)]; rfl
theorem range_filterMap {α : Type} (l : List α) : ∀ k, k ≤ l.length → (List.range k).filterMap (fun j => l[j]?) = l.take k
  | 0, _ => by simp
  | k + 1, h => by
    rw [List.range_succ, List.filterMap_append, range_filterMap l k (by omega), List.take_succ]
    simp [List.getElem?_eq_getElem (show k < l.length by omega)]
theorem sliceRange_up (k : Nat) : sliceRange 0 (k : Int) 1 = List.range k := by
  unfold sliceRange
  have e : (if (1 : Int) > 0 then (if (0 : Int) < (k : Int) then ((k : Int) - 0 + 1 - 1) / 1 else 0) else (if (0 : Int) > (k : Int) then (0 - (k : Int) - 1 - 1) / (-1) else 0)) = (k : Int) := by
    rw [if_pos (by decide), Int.ediv_one]
    split <;> omega
  dsimp only
  rw [e, Int.toNat_natCast]
  have : ∀ j ∈ List.range k, ((0 : Int) + 1 * (j : Int)).toNat = j := fun j _ => by omega
  rw [List.map_congr_left this, List.map_id']
theorem clip_nat (k n : Nat) : max (0 : Int) (min (k : Int) (n : Int)) = ((min k n : Nat) : Int) := by
  rcases Nat.le_total k n with h | h
  · rw [Nat.min_eq_left h, Int.min_eq_left (Int.ofNat_le.mpr h), Int.max_eq_right (Int.natCast_nonneg k)]
  · rw [Nat.min_eq_right h, Int.min_eq_right (Int.ofNat_le.mpr h), Int.max_eq_right (Int.natCast_nonneg n)]
theorem zs_to {α : Type} (l : List α) (k : Nat) : zslice l none (some (k : Int)) none = l.take k := by
  have e : sliceBounds none (some (k : Int)) none l.length = (0, ((min k l.length : Nat) : Int), 1) := by
    have h : ¬ (k : Int) < 0 := Int.not_lt.mpr (Int.natCast_nonneg k)
    show ((0 : Int), (if (1 : Int) > 0 then max 0 (min (if (k : Int) < 0 then (k : Int) + l.length else k) (l.length : Int)) else _), (1 : Int)) = _
    rw [if_pos (by decide), if_neg h, clip_nat]
  unfold zslice
  rw [e]
  dsimp only
  rw [sliceRange_up, range_filterMap _ _ (Nat.min_le_right _ _)]
  by_cases h : k ≤ l.length
  · rw [Nat.min_eq_left h]
  · rw [Nat.min_eq_right (by omega), List.take_of_length_le (Nat.le_refl _), List.take_of_length_le (by omega)]
theorem zs_init {α : Type} (l : List α) (v : α) : zslice (l ++ [v]) none (some (-1)) none = l := by
  have e : sliceBounds none (some (-1)) none (l ++ [v]).length = (0, ((l.length : Nat) : Int), 1) := by
    have hl : (l ++ [v]).length = l.length + 1 := List.length_append
    have : max 0 (min ((-1 : Int) + ((l ++ [v]).length : Nat)) (((l ++ [v]).length : Nat) : Int)) = ((l.length : Nat) : Int) := by
      rw [hl, show ((-1 : Int) + ((l.length + 1 : Nat) : Int)) = ((l.length : Nat) : Int) by omega, clip_nat, Nat.min_eq_left (Nat.le_succ _)]
    show ((0 : Int), (if (1 : Int) > 0 then max 0 (min (if (-1 : Int) < 0 then (-1 : Int) + ((l ++ [v]).length : Nat) else -1) (((l ++ [v]).length : Nat) : Int)) else _), (1 : Int)) = _
    rw [if_pos (by decide), if_pos (by decide), this]
  unfold zslice
  rw [e]
  dsimp only
  rw [sliceRange_up, range_filterMap _ _ (by rw [List.length_append]; omega), List.take_left]
theorem init_at {fa : EvF} {E : Lo} {H : Hp} {a : List Nat} {t : Nat} (h : fa E H = some (.lv (iV (a ++ [t])))) (hl : a.length ≤ 1000) : dSlice fa none (some (dUn opNeg (dI 1))) none E H = some (.lv (iV a)) := by
  have := slice_at (f := fun k : Nat => VV.int (k : Int)) (l := a ++ [t]) (fl := none) (fu := some (dUn opNeg (dI 1))) (fs := none) h evp_none (evp_some (k := -1) rfl) evp_none (by decide) (by rw [List.length_append]; simp only [List.length_cons, List.length_nil]; omega)
  rw [zs_init] at this
  exact this
theorem last_at {fa : EvF} {E : Lo} {H : Hp} {a : List Nat} {t : Nat} (h : fa E H = some (.lv (iV (a ++ [t])))) : dBin opIdx fa (dUn opNeg (dI 1)) E H = some (.int (t : Nat)) := by
  refine (dBin_at (y := .int (-1)) h rfl).trans ?_
  show idx (iV (a ++ [t])) (-1) = _
  rw [iV_append]
  exact idx_last _ _
theorem it_list {f : EvF} {E : Lo} {H : Hp} {xs : List VV} (h : f E H = some (.lv xs)) (hl : xs.length ≤ 16777216) : dIt f E H = some xs := by
  unfold dIt
  rw [h, Option.bind_some]
  show (if xs.length ≤ 16777216 then some xs else none) = _
  rw [if_pos hl]

-- _law_column
noncomputable def bodyC : StF := (sSeq (sAsg (.nm 2) (dBin (opI gAdd) (dV 2) (dV 3)))
    (sAsg (.nm 2) (dBin (opI gSub) (dBin (opI gAdd) (dV 2) (dV 1)) (dBin (opI gMod) (dV 2) (dV 1)))))
theorem col_step (s q b : Nat) (hs : 1 ≤ s) : ((s * q : Nat) : Int) + (b : Int) + (s : Int) - (((s * q : Nat) : Int) + (b : Int)).fmod (s : Int) = ((s * (q + b / s + 1) : Nat) : Int) := by
  rw [← Int.natCast_add, fmod_nat]
  have h1 := Nat.div_add_mod (s * q + b) s
  have h2 : (s * q + b) / s = q + b / s := Nat.mul_add_div hs q b
  rw [h2] at h1
  have h3 : s * (q + b / s + 1) = s * (q + b / s) + s := by rw [Nat.mul_add, Nat.mul_one]
  rw [h3]
  have h4 := Nat.mod_lt (s * q + b) hs
  generalize (s * q + b) % s = r at *
  generalize s * (q + b / s) = z at *
  omega
theorem col_loop {R : Option VV} {s : Nat} (hs : 1 ≤ s) : ∀ (a : List Nat) (q : Nat) (z : Option VV), ∃ z', forF bodyC (.nm 3) (iV a) [R, some (.int (s : Nat)), some (.int ((s * q : Nat) : Int)), z] [] =
    some (.next, [R, some (.int (s : Nat)), some (.int ((s * (q + stops s a + a.length) : Nat) : Int)), z'], [])
  | [], q, z => ⟨z, by rw [show iV [] = [] from rfl, forF_nil]; rfl⟩
  | b :: a, q, z => by
    obtain ⟨z', e⟩ := col_loop (R := R) hs a (q + b / s + 1) (some (.int (b : Nat)))
    refine ⟨z', ?_⟩
    have hb : bodyC [R, some (.int (s : Nat)), some (.int ((s * q : Nat) : Int)), some (.int (b : Nat))] [] = some (.next, [R, some (.int (s : Nat)), some (.int ((s * (q + b / s + 1) : Nat) : Int)), some (.int (b : Nat))], []) := by
      unfold bodyC
      rw [sSeq_n (sAsg_at (add_at (a := ((s * q : Nat) : Int)) (b := (b : Int)) rfl rfl))]
      refine (sAsg_at (sub_at (add_at (a := ((s * q : Nat) : Int) + (b : Int)) (b := (s : Int)) rfl rfl) (mod_at (a := ((s * q : Nat) : Int) + (b : Int)) (b := (s : Int)) rfl rfl (by omega)))).trans ?_
      rw [col_step s q b hs]
      rfl
    show forF bodyC (.nm 3) (VV.int (b : Int) :: iV a) _ _ = _
    rw [forF_next hb, e]
    unfold stops
    rw [List.map_cons, List.sum_cons, List.length_cons, show q + b / s + 1 + (List.map (fun b => b / s) a).sum + a.length = q + (b / s + (List.map (fun b => b / s) a).sum) + (a.length + 1) by omega]
theorem column_at {a : List Nat} {t s : Nat} (hs : 1 ≤ s) (hl : a.length ≤ 1000) : g_law_column [.lv (iV (a ++ [t])), .int (s : Nat)] = some (.int ((colL a t s : Nat) : Int)) := by
  obtain ⟨z', e⟩ := col_loop (R := some (.lv (iV (a ++ [t])))) hs a 0 none
  have run : F_law_column (bindE [0, 1] 4 [.lv (iV (a ++ [t])), .int (s : Nat)]) [] = some (.ret (.int ((colL a t s : Nat) : Int)), [some (.lv (iV (a ++ [t]))), some (.int (s : Nat)), some (.int ((s * (0 + stops s a + a.length) : Nat) : Int)), z'], []) := by
    show sSeq _ (sSeq (sFor (.nm 3) (dIt (dSlice (dV 0) none (some (dUn opNeg (dI 1))) none)) bodyC) _) _ _ = _
    rw [sSeq_n (E1 := [some (.lv (iV (a ++ [t]))), some (.int (s : Nat)), some (.int ((s * 0 : Nat) : Int)), none]) (H1 := []) (sAsg_at (v := .int 0) rfl)]
    rw [sSeq_n ((sFor_at (it_list (init_at rfl hl) (by rw [List.length_map]; omega))).trans e)]
    refine sRet_at ((add_at (a := ((s * (0 + stops s a + a.length) : Nat) : Int)) (b := (t : Int)) rfl (last_at rfl)).trans ?_)
    unfold colL
    rw [← Int.natCast_add, Nat.zero_add, Nat.add_comm]
  exact gOf_ret rfl run rfl

-- the class's own
theorem longest_at (l : Txt) (hl : l.length ≤ 1000) : g_Whitespace_longest_run_of_spaces [wsV 76 l] = some (.int (max ((mx (rowsX 0 l).1 : Int) - 1) ((rowsX 0 l).2 : Nat))) := by
  obtain ⟨h1, h2, _, _⟩ := wsGo_X l [] 0 0 0
  have hm : mx (rowsX 0 l).1 ≤ 1000 := by
    have := mx_le_sum (rowsX 0 l).1
    have := rowsX_le l 0
    omega
  have hlen : (iV (wsGo l [] 0 0 0).1).length = mx (rowsX 0 l).1 := by
    rw [List.length_map, h1, bumps_len]; rfl
  have run : F_Whitespace_longest_run_of_spaces (bindE [0] 5 [wsV 76 l]) [] = some (.ret (.int (max ((mx (rowsX 0 l).1 : Int) - 1) ((rowsX 0 l).2 : Nat))), [some (wsV 76 l), some (.tup (iV (wsGo l [] 0 0 0).1)), some (.int ((wsGo l [] 0 0 0).2.1 : Nat)), none, none], []) := by
    unfold F_Whitespace_longest_run_of_spaces
    rw [sSeq_n (E1 := [some (wsV 76 l), some (.tup (iV (wsGo l [] 0 0 0).1)), some (.int ((wsGo l [] 0 0 0).2.1 : Nat)), none, none]) (H1 := []) rfl]
    refine sRet_at ?_
    refine (dCall2 (x := .int ((mx (rowsX 0 l).1 : Int) - 1)) (y := .int ((rowsX 0 l).2 : Nat)) (sub_at (a := (mx (rowsX 0 l).1 : Int)) (b := 1) ?_ rfl) ?_).trans rfl
    · refine (dCall1 (x := .tup (iV (wsGo l [] 0 0 0).1)) rfl).trans ?_
      show (if (iV (wsGo l [] 0 0 0).1).length ≤ 16777216 then some ((iV (wsGo l [] 0 0 0).1).length : Int) else none).map VV.int = _
      rw [hlen, if_pos (by omega)]; rfl
    · rw [← h2]; rfl
  exact gOf_ret rfl run rfl
theorem ind_at {l : Txt} {s : Nat} (hl : l.length ≤ 1000) (hs : 1 ≤ s) (hs2 : s ≤ 1000) : gInd 76 [wsV 76 l, .int (s : Nat)] = some (.int ((colL (rowsX 0 l).1 (rowsX 0 l).2 s : Nat) : Int)) := by
  obtain ⟨h1, h2, h3, h4⟩ := wsGo_X l [] 0 0 0
  have hle := rowsX_le l 0
  have hst := stops_le s (rowsX 0 l).1
  have e1 : indIl ((wsGo l [] 0 0 0).1.map fun d : Nat => (d : Int)) s = ((stops s (rowsX 0 l).1 : Nat) : Int) := by rw [h1, ← indIlF_eq (by omega)]; exact indIlF_at hs _
  have hcnt : ∀ c ∈ (wsGo l [] 0 0 0).1, c ≤ 1000 := fun c hc => by
    rw [h1, counts_eq] at hc
    obtain ⟨k, _, rfl⟩ := List.mem_map.mp hc
    have := List.count_le_length (a := k) (l := (rowsX 0 l).1)
    omega
  have hlen : (wsGo l [] 0 0 0).1.length ≤ 1000 := by
    rw [h1, bumps_len]
    have := mx_le_sum (rowsX 0 l).1
    show mx (rowsX 0 l).1 ≤ 1000
    omega
  show ((asInts (iV (wsGo l [] 0 0 0).1)).bind fun cnt => if (decide (1 ≤ (s : Int) ∧ (s : Int) ≤ 1000000 ∧ cnt.length ≤ 1000000 ∧ (indIl cnt (s : Int) + ((wsGo l [] 0 0 0).2.2.2 : Nat)).natAbs < 2 ^ 64) && cnt.all fun c => decide (c.natAbs < 2 ^ 64)) = true then some (VV.int (((wsGo l [] 0 0 0).2.1 : Nat) + (s : Int) * (indIl cnt (s : Int) + ((wsGo l [] 0 0 0).2.2.2 : Nat)))) else none) = _
  rw [asInts_iV, Option.bind_some, e1, h2, h4]
  rw [if_pos ?_]
  · unfold colL
    rw [Nat.zero_add, ← Int.natCast_add, ← Int.natCast_mul, ← Int.natCast_add]
  · rw [Bool.and_eq_true]
    refine ⟨decide_eq_true ⟨by omega, by omega, by rw [List.length_map]; omega, by omega⟩, ?_⟩
    rw [List.all_eq_true]
    intro c hc
    obtain ⟨d, hd, rfl⟩ := List.mem_map.mp hc
    have := hcnt d hd
    exact decide_eq_true (by omega)
end Mine
namespace Mine
-- _law_marks
noncomputable def bodyM1 : StF := (sAug (opI gAdd) (dV 2) (dBin (opI gMod) (dV 4) (dV 1)) (dI 1))
noncomputable def bodyM2 : StF := (sFor (.nm 4) (dIt (dCall gRange [(dI 1), (dBin (opI gAdd) (dV 3) (dI 1))])) bodyM1)
theorem m1_step {R z3 : Option VV} {s p : Nat} {l : List Nat} (hs : 1 ≤ s) (hl : l.length = s) (hs2 : s ≤ 1000) : bodyM1 [R, some (.int (s : Nat)), some (.lst 0), z3, some (.int (p : Nat)), none] [.list (iV l)] = some (.next, [R, some (.int (s : Nat)), some (.lst 0), z3, some (.int (p : Nat)), none], [.list (iV (upd s l p))]) := by
  have hp : p % s < l.length := by rw [hl]; exact Nat.mod_lt _ hs
  have hk : p % s < (iV l).length := by rw [List.length_map]; exact hp
  refine sAug_at (o := .lst 0) (k := ((p % s : Nat) : Int)) (old := .int (l.getD (p % s) 0 : Nat)) (v := .int 1) (nw := .int ((l.getD (p % s) 0 + 1 : Nat) : Int)) rfl ?_ ?_ rfl ?_ ?_
  · rw [← fmod_nat]
    exact mod_at rfl rfl (by omega)
  · show (items (.lst 0) [.list (iV l)]).bind (fun xs => idx xs ((p % s : Nat) : Int)) = _
    rw [items_lst (j := 0) rfl, Option.bind_some, idxq hk (by omega), iV_get hp]
  · show some (VV.int ((l.getD (p % s) 0 : Nat) + 1 : Int)) = _
    rw [Int.natCast_add]; rfl
  · refine (onList_at (xs := iV l) (ys := iV (upd s l p)) rfl ?_).trans rfl
    rw [setAt_nat hk (by omega), iV_set]
    rfl
theorem m1_loop {R z3 : Option VV} {s : Nat} (hs : 1 ≤ s) (hs2 : s ≤ 1000) : ∀ (ps l : List Nat) (z4 : Option VV), l.length = s → ∃ z', forF bodyM1 (.nm 4) (iV ps) [R, some (.int (s : Nat)), some (.lst 0), z3, z4, none] [.list (iV l)] =
    some (.next, [R, some (.int (s : Nat)), some (.lst 0), z3, z', none], [.list (iV (ps.foldl (upd s) l))])
  | [], l, z4, _ => ⟨z4, rfl⟩
  | p :: ps, l, z4, hl => by
    obtain ⟨z', e⟩ := m1_loop (R := R) (z3 := z3) hs hs2 ps (upd s l p) (some (.int (p : Nat))) (by rw [upd_len, hl])
    refine ⟨z', ?_⟩
    show forF bodyM1 (.nm 4) (VV.int (p : Int) :: iV ps) _ _ = _
    rw [forF_next (m1_step hs hl hs2), e]
    rfl
theorem iterMu_rng {a b c : Int} {H : Hp} : iterMu (.rng a b c) H = iterOf (.rng a b c) H := rfl
theorem range_places (b : Nat) (hb : b ≤ 1000) {f : EvF} {E : Lo} {H : Hp} (h : f E H = some (.int (b : Nat))) : dIt (dCall gRange [(dI 1), (dBin (opI gAdd) f (dI 1))]) E H = some (iV ((List.range b).map (· + 1))) := by
  unfold dIt
  rw [dCall2 (x := .int 1) (y := .int ((b : Int) + 1)) rfl (add_at h rfl)]
  have hg : gRange [.int 1, .int ((b : Int) + 1)] H = some (.rng 1 ((b : Int) + 1) 1) := rfl
  rw [hg, Option.bind_some, ← iterMu_rng, iter_rng (H := H) (by omega) (by omega) (by omega) (by omega), rngL_at, show ((b : Int) + 1 - 1).toNat = b by omega, iV_eq, List.map_map, List.map_map, List.map_map]
  congr 1
  refine List.map_congr_left fun k _ => ?_
  show VV.int (1 + (k : Int)) = VV.int ((k + 1 : Nat) : Int)
  rw [show ((k + 1 : Nat) : Int) = 1 + (k : Int) by omega]
theorem m2_loop {R : Option VV} {s : Nat} (hs : 1 ≤ s) (hs2 : s ≤ 1000) : ∀ (bs l : List Nat) (z3 z4 : Option VV), l.length = s → (∀ b ∈ bs, b ≤ 1000) → ∃ z' z'', forF bodyM2 (.nm 3) (iV bs) [R, some (.int (s : Nat)), some (.lst 0), z3, z4, none] [.list (iV l)] =
    some (.next, [R, some (.int (s : Nat)), some (.lst 0), z', z'', none], [.list (iV ((places bs).foldl (upd s) l))])
  | [], l, z3, z4, _, _ => ⟨z3, z4, rfl⟩
  | b :: bs, l, z3, z4, hl, hb => by
    obtain ⟨y, e1⟩ := m1_loop (R := R) (z3 := some (.int (b : Nat))) hs hs2 ((List.range b).map (· + 1)) l z4 hl
    have hlen : (((List.range b).map (· + 1)).foldl (upd s) l).length = s := (upds (w := 1) hs _ l hl).1
    obtain ⟨z', z'', e⟩ := m2_loop (R := R) hs hs2 bs (((List.range b).map (· + 1)).foldl (upd s) l) (some (.int (b : Nat))) y hlen (fun b hb' => hb b (.tail _ hb'))
    refine ⟨z', z'', ?_⟩
    show forF bodyM2 (.nm 3) (VV.int (b : Int) :: iV bs) _ _ = _
    have hbody : bodyM2 [R, some (.int (s : Nat)), some (.lst 0), some (.int (b : Nat)), z4, none] [.list (iV l)] = some (.next, [R, some (.int (s : Nat)), some (.lst 0), some (.int (b : Nat)), y, none], [.list (iV (((List.range b).map (· + 1)).foldl (upd s) l))]) := by
      unfold bodyM2
      have hr := range_places (f := dV 3) (E := [R, some (.int (s : Nat)), some (.lst 0), some (.int (b : Nat)), z4, none]) (H := [.list (iV l)]) b (hb b (.head _)) rfl
      rw [sFor_at hr]
      exact e1
    refine (forF_next (i := 3) (x := VV.int (b : Int)) (xs := iV bs) (E := [R, some (.int (s : Nat)), some (.lst 0), z3, z4, none]) hbody).trans (e.trans ?_)
    show _ = some (Fl.next, _, [VO.list (iV (((List.range b).map (· + 1) ++ places bs).foldl (upd s) l))])
    rw [List.foldl_append]
noncomputable def testM : TvF := (tAnd [(tE (dV 2)), (tCmp cmEq (dBin opIdx (dV 2) (dUn opNeg (dI 1))) (dI 0))])
theorem testM_at {R S z3 z4 : Option VV} {l : List Nat} (hl : l.length ≤ 1000) : testM [R, S, some (.lst 0), z3, z4, none] [.list (iV l)] = some (decide (l.getLast? = some 0)) := by
  have h1 : tE (dV 2) [R, S, some (.lst 0), z3, z4, none] [.list (iV l)] = some (!(iV l).isEmpty) := by
    show (items (.lst 0) [.list (iV l)]).bind (fun xs => if xs.length ≤ 16777216 then some (!xs.isEmpty) else none) = _
    rw [items_lst (j := 0) rfl, Option.bind_some, if_pos (by rw [List.length_map]; omega)]
  unfold testM
  rcases List.eq_nil_or_concat l with rfl | ⟨a, d, rfl⟩
  · exact tAnd_no h1
  · rw [List.concat_eq_append] at *
    have h1' : tE (dV 2) [R, S, some (.lst 0), z3, z4, none] [.list (iV (a ++ [d]))] = some true := by
      rw [h1, iV_append]
      cases iV a <;> rfl
    refine tAnd_go h1' (tAnd_one ?_)
    have h2 : dBin opIdx (dV 2) (dUn opNeg (dI 1)) [R, S, some (.lst 0), z3, z4, none] [.list (iV (a ++ [d]))] = some (.int (d : Nat)) := by
      refine (dBin_at (x := .lst 0) (y := .int (-1)) rfl rfl).trans ?_
      show (items (.lst 0) [.list (iV (a ++ [d]))]).bind (fun xs => idx xs (-1)) = _
      rw [items_lst (j := 0) rfl, Option.bind_some, iV_append]
      exact idx_last _ _
    refine (tCmp_at h2 rfl).trans ?_
    show some (decide ((d : Int) = 0)) = _
    have e : (a ++ [d]).getLast? = some d := by simp
    rw [e]
    congr 1
    rw [Bool.eq_iff_iff, decide_eq_true_iff, decide_eq_true_iff]
    constructor
    · intro h; rw [show d = 0 by omega]
    · intro h; cases h; rfl
theorem pop_loop {R S z3 z4 : Option VV} : ∀ (k fuel : Nat) (l : List Nat), l.length ≤ k → k < fuel → k ≤ 1000 → whileF testM (sPop (dV 2)) fuel [R, S, some (.lst 0), z3, z4, none] [.list (iV l)] = some (.next, [R, S, some (.lst 0), z3, z4, none], [.list (iV (popZ k l))])
  | k, fuel + 1, l, hl, hf, hk => by
    show (testM _ _).bind _ = _
    rw [testM_at (by omega), Option.bind_some]
    cases k with
    | zero =>
      have : l = [] := List.eq_nil_of_length_eq_zero (by omega)
      subst this
      rfl
    | succ k =>
      unfold popZ
      by_cases h : l.getLast? = some 0
      · rw [if_pos (decide_eq_true h), if_pos h]
        obtain ⟨a, rfl⟩ := last_zero h
        have hlen : a.length + 1 ≤ k + 1 := by rw [List.length_append] at hl; exact hl
        have hp : sPop (dV 2) [R, S, some (.lst 0), z3, z4, none] [.list (iV (a ++ [0]))] = some (.next, [R, S, some (.lst 0), z3, z4, none], [.list (iV (a ++ [0]).dropLast)]) := by
          show (onList (.lst 0) [.list (iV (a ++ [0]))] (fun xs => if xs ≠ [] ∧ xs.length ≤ 1000000 then some xs.dropLast else none)).map (fun H' => (Fl.next, _, H')) = _
          rw [onList_at (xs := iV (a ++ [0])) (ys := iV (a ++ [0]).dropLast) rfl ?_]
          · rfl
          · rw [if_pos ⟨by rw [iV_append]; simp, by rw [List.length_map, List.length_append]; simp only [List.length_cons, List.length_nil]; omega⟩, iV, iV, List.map_dropLast]
        rw [hp, Option.bind_some]
        exact pop_loop k fuel _ (by rw [List.dropLast_concat]; omega) (by omega) (by omega)
      · rw [if_neg (fun q => h (of_decide_eq_true q)), if_neg h]
theorem marks_at {a : List Nat} {s : Nat} (hs : 1 ≤ s) (hs2 : s ≤ 40) (hb : ∀ b ∈ a, b ≤ 1000) (hl : a.length ≤ 1000) : g_law_marks [.lv (iV a), .int (s : Nat)] = some (.lv (iV (popZ s (marksL s a)))) := by
  obtain ⟨z', z'', e⟩ := m2_loop (R := some (.lv (iV a))) hs (by omega) a (List.replicate s 0) none none List.length_replicate hb
  have hlen := (marks_facts 1 hs a).1
  have i1 : sAsgL 2 (dBinL opMulLL (dF (evs [(dI 0)])) (dV 1)) (bindE [0, 1] 6 [.lv (iV a), .int (s : Nat)]) [] = some (.next, [some (.lv (iV a)), some (.int (s : Nat)), some (.lst 0), none, none, none], [.list (iV (List.replicate s 0))]) := by
    refine (sAsgL_at (xs := iV (List.replicate s 0)) ?_).trans rfl
    refine (dBinL_at (x := .lv [.int 0]) (y := .int (s : Nat)) rfl rfl).trans ?_
    show (if -1000000 ≤ (s : Int) ∧ (s : Int) ≤ 1000000 then some (List.replicate (s : Int).toNat (VV.int 0)) else none) = _
    rw [if_pos ⟨by omega, by omega⟩, Int.toNat_natCast, iV, List.map_replicate]
    rfl
  have run : F_law_marks (bindE [0, 1] 6 [.lv (iV a), .int (s : Nat)]) [] = some (.ret (.lst 0), [some (.lv (iV a)), some (.int (s : Nat)), some (.lst 0), z', z'', none], [.list (iV (popZ s (marksL s a)))]) := by
    show sSeq _ (sSeq (sFor (.nm 3) (dIt (dV 0)) bodyM2) (sSeq (whileF testM (sPop (dV 2)) 45) (sRet (dV 2)))) _ _ = _
    rw [sSeq_n i1, sSeq_n (H1 := [.list (iV (marksL s a))]) ((sFor_at (it_list (f := dV 0) (xs := iV a) rfl (by rw [List.length_map]; omega))).trans e)]
    rw [sSeq_n (pop_loop s 45 (marksL s a) (by rw [hlen]; exact Nat.le_refl _) (by omega) (by omega))]
    exact sRet_at rfl
  refine gOf_ret rfl run ?_
  show (frzL (frz 7 _) (iV (popZ s (marksL s a)))).map VV.lv = _
  rw [frzL_iV]; rfl
end Mine
namespace Mine
theorem k10 {a : Nat} (h : a ≤ 10) : a ≤ 1000 := Nat.le_trans h (by decide)
theorem d16 {w d : Nat} (h : d ≤ 10) (h16 : 2 ^ 4 ≤ 2 ^ w) : d < 2 ^ w := Nat.lt_of_lt_of_le (Nat.lt_of_le_of_lt h (by decide)) h16
theorem k20 {a : Nat} (h : a ≤ 20) : a ≤ 1000 := Nat.le_trans h (by decide)
theorem maxZ_cons (b : Int) {r : List Int} (h : r ≠ []) : maxZ (b :: r) = max b (maxZ r) := by
  cases r with
  | nil => exact absurd rfl h
  | cons c r => rfl
theorem cast_max (x y : Nat) : ((max x y : Nat) : Int) = max (x : Int) (y : Int) := by
  rcases Nat.le_total x y with h | h
  · rw [Nat.max_eq_right h, Int.max_eq_right (Int.ofNat_le.mpr h)]
  · rw [Nat.max_eq_left h, Int.max_eq_left (Int.ofNat_le.mpr h)]
theorem max_pred (x y : Int) : max (x + 1) y - 1 = max x (y - 1) := by
  rcases Int.le_total (x + 1) y with h | h
  · rw [Int.max_eq_right h, Int.max_eq_right (by omega)]
  · rw [Int.max_eq_left h, Int.max_eq_left (by omega), Int.add_sub_cancel]
theorem maxZ_rows (v : Int) (hv : -1 ≤ v) : ∀ a : List Nat, maxZ ((a.map fun d : Nat => (d : Int)) ++ [v]) = max ((mx a : Int) - 1) v
  | [] => (Int.max_eq_right hv).symm
  | b :: a => by
    rw [List.map_cons, List.cons_append, maxZ_cons _ (by simp), maxZ_rows v hv a, mx_cons, cast_max, Int.natCast_add, Int.natCast_one, max_pred, Int.max_assoc]
theorem maxZ_append : ∀ (a b : List Int), a ≠ [] → b ≠ [] → maxZ (a ++ b) = max (maxZ a) (maxZ b)
  | [x], b, _, hb => by rw [List.singleton_append, maxZ_cons _ hb]; rfl
  | x :: y :: a, b, _, hb => by
    rw [List.cons_append, maxZ_cons _ (by simp), maxZ_append (y :: a) b (by simp) hb, maxZ_cons x (by simp), Int.max_assoc]
theorem run_max (a b : Nat) : max ((a : Int) - 1) (b : Int) = ((max (a - 1) b : Nat) : Int) := by
  rw [cast_max]
  cases a with
  | zero => rw [Int.max_eq_right (by omega), Int.max_eq_right (by omega)]
  | succ a => rw [Nat.add_sub_cancel, Int.natCast_add, Int.natCast_one, Int.add_sub_cancel]
theorem shl1_at {f : EvF} {E : Lo} {H : Hp} {k : Nat} (h : f E H = some (.int (k : Nat))) (hk : k ≤ 1000) : dBin (opI gSub) (dBin (opI gShl) (dI 1) f) (dI 1) E H = some (.int ((2 ^ k - 1 : Nat) : Int)) := by
  have h1 : dBin (opI gShl) (dI 1) f E H = some (.int ((2 ^ k : Nat) : Int)) := by
    refine (dBin_at rfl h).trans ?_
    show (if 0 ≤ (k : Int) ∧ (k : Int) ≤ 1000000 ∧ (1 : Int).natAbs < lim9 then some ((1 : Int) * 2 ^ (k : Int).toNat) else none).map VV.int = _
    rw [if_pos ⟨by omega, by omega, lt_lim9 (n := 1) (k := 1) (by decide)⟩, Int.toNat_natCast, Int.one_mul, Int.natCast_pow]
    rfl
  rw [sub_at h1 rfl]
  have := Nat.two_pow_pos k
  rw [show ((2 ^ k - 1 : Nat) : Int) = ((2 ^ k : Nat) : Int) - 1 by omega]
theorem fdm_pos {A B T r : Nat} (h : A = B * T + r) (hr : r < B) : (A : Int).fdiv (B : Int) = (T : Int) ∧ (A : Int).fmod (B : Int) = (r : Int) := by
  have hB : 0 < B := Nat.lt_of_le_of_lt (Nat.zero_le r) hr
  have h1 : A / B = T := by rw [h, Nat.mul_add_div hB, Nat.div_eq_of_lt hr, Nat.add_zero]
  have h2 : A % B = r := by rw [h, Nat.mul_add_mod, Nat.mod_eq_of_lt hr]
  refine ⟨?_, by rw [fmod_nat, h2]⟩
  rw [Int.fdiv_eq_ediv_of_nonneg _ (Int.natCast_nonneg _), ← h1]
  rfl
theorem idm_of {A T r n K : Nat} (hn : 2 ≤ n) (hn2 : n * K ≤ 2000) (hn3 : n ≤ 1000) (hK : K ≤ 50) (hA : A < 2 ^ (n * K)) (h : A + T = 2 ^ n * T + r) (hr : r < 2 ^ n - 1) {H : Hp} : gP gIdm [.int (A : Nat), .int ((2 ^ n - 1 : Nat) : Int)] H = some (.tup [.int (T : Nat), .int (r : Nat)]) := by
  show gIdm [.int (A : Nat), .int ((2 ^ n - 1 : Nat) : Int)] = _
  obtain ⟨B, hB⟩ : ∃ B, 2 ^ n = B + 1 := ⟨2 ^ n - 1, (Nat.sub_add_cancel (Nat.two_pow_pos n)).symm⟩
  have hbits : Builtin.Int.intBits (B : Int) = n := by
    obtain ⟨m, rfl⟩ : ∃ m, n = m + 1 := ⟨n - 1, (Nat.sub_add_cancel (Nat.le_of_succ_le hn)).symm⟩
    refine Nat.le_antisymm (bits_le (by rw [hB]; exact Nat.lt_succ_self B)) (bits_ge ?_)
    have := Nat.two_pow_pos m
    rw [Nat.pow_succ] at hB
    clear hA h hr hn hn2 hn3 hK
    omega
  rw [hB, Nat.add_sub_cancel] at hr
  rw [hB, Nat.add_mul, Nat.one_mul, Nat.add_right_comm] at h
  have h2 := Nat.add_right_cancel h
  rw [hB, Nat.add_sub_cancel]
  have hBp : 0 < B := Nat.lt_of_le_of_lt (Nat.zero_le r) hr
  have hB0 : (B : Int) ≠ 0 := Int.ofNat_ne_zero.mpr (Nat.ne_of_gt hBp)
  have hdm := fdm_pos h2 hr
  have hdg : dgN n A ≤ K := by
    unfold dgN
    have := bits_le hA
    refine Nat.le_of_lt_succ ((Nat.div_lt_iff_lt_mul (Nat.le_of_succ_le hn)).mpr ?_)
    rw [Nat.succ_mul, Nat.mul_comm K n]
    clear hA h hr hn2 hn3 hK hdm h2 hbits hB hBp hB0
    omega
  have hsz : szOk A B := by
    unfold szOk
    rw [hbits]
    exact ⟨Nat.le_trans (Nat.mul_le_mul_left n hdg) (Nat.le_trans hn2 (by decide)), Nat.le_trans hn3 (by decide), Nat.le_trans hdg (Nat.le_trans hK (by decide))⟩
  show (if (B : Int) ≠ 0 ∧ szOk (if 0 < (B : Int) then (if (A : Int) < 0 then (-(A : Int) - 1).toNat else (A : Int).toNat) else (if 0 < (A : Int) then ((A : Int) - 1).toNat else (-(A : Int)).toNat)) (B : Int).natAbs then some (VV.tup [.int ((A : Int).fdiv (B : Int)), .int ((A : Int).fmod (B : Int))]) else none) = _
  rw [if_pos ?_, hdm.1, hdm.2]
  refine ⟨hB0, ?_⟩
  rw [if_pos (show (0 : Int) < (B : Int) from Int.ofNat_lt.mpr hBp), if_neg (show ¬ (A : Int) < 0 from Int.not_lt.mpr (Int.natCast_nonneg A)), Int.toNat_natCast, Int.natAbs_natCast]
  exact hsz
theorem cmEq_pair (a b c d : Int) (H : Hp) : cmEq (.tup [.int a, .int b]) (.tup [.int c, .int d]) H = some (decide (a = c) && decide (b = d)) := by
  show some ((a == c) && ((b == d) && true)) = _
  rw [Bool.and_true]
  have e : ∀ x y : Int, (x == y) = decide (x = y) := fun x y => by rw [Bool.eq_iff_iff, beq_iff_eq, decide_eq_true_iff]
  rw [e, e]
theorem cmNe_pair {a b c d : Int} {H : Hp} (h1 : a = c) (h2 : b = d) : cmNe (.tup [.int a, .int b]) (.tup [.int c, .int d]) H = some false := by
  show (cmEq _ _ H).map not = _
  rw [cmEq_pair, decide_eq_true h1, decide_eq_true h2]; rfl
theorem cmNeI {a b : Int} {H : Hp} (h : a = b) : cmNe (.int a) (.int b) H = some false := by
  show some (!decide (a = b)) = _
  rw [decide_eq_true h]; rfl
theorem cmNeS (l : Txt) (H : Hp) : cmNe (.str l) (.str l) H = some false := by
  show (some (decide (l = l))).map not = _
  rw [decide_eq_true rfl]; rfl
theorem cmNeL (l : List Nat) (H : Hp) : cmNe (.lv (iV l)) (.lv (iV l)) H = some false := by
  rw [iV_eq, cmNe_ints, decide_eq_true rfl]; rfl
end Mine
namespace Mine
theorem cmEq_norm (c d : List Nat) (a b : Nat) (H : Hp) : cmEq (.tup [.tup (iV c), .int a]) (.tup [.tup (iV d), .int b]) H = some (decide (c = d) && decide (a = b)) := by
  have key : ∀ (c : List Nat) (a : Nat), py (.tup [.tup (iV c), .int a]) = some (.tuple [.tuple ((c.map fun k : Nat => (k : Int)).map .int), .int a]) := by
    intro c a
    have h := pys_ints (c.map fun k : Nat => (k : Int))
    rw [List.map_map] at h
    show ((((pys (iV c)).map PyData.tuple).bind fun d => (some [PyData.int a]).map fun ds => d :: ds)).map PyData.tuple = _
    rw [show pys (iV c) = some ((c.map fun k : Nat => (k : Int)).map PyData.int) from h]
    rfl
  have sh : ∀ (c : List Nat) (a : Nat), SeqAt.shaped (.tuple [.tuple ((c.map fun k : Nat => (k : Int)).map .int), .int a]) = true := by
    intro c a
    have h1 : ∀ l : List Int, PyData.canLayAll0 (l.map PyData.int) = true := by
      intro l
      induction l with
      | nil => rfl
      | cons a l ih => simp only [List.map_cons, PyData.canLayAll0, PyData.canLay0, ih, Bool.and_self]
    have h2 : ∀ l : List Int, PyData.depthAll (l.map PyData.int) = 0 := by
      intro l
      induction l with
      | nil => rfl
      | cons a l ih => simp only [List.map_cons, PyData.depthAll, PyData.depth, ih, Nat.max_self]
    unfold SeqAt.shaped
    simp only [PyData.canLay0, PyData.canLayAll0, h1, PyData.depth, PyData.depthAll, h2]
    rfl
  show ((py (.tup [.tup (iV c), .int a])).bind fun x => (py (.tup [.tup (iV d), .int b])).bind fun y => if SeqAt.shaped x = true ∧ SeqAt.shaped y = true then some (PyData.eqv x y) else none) = _
  rw [key, key, Option.bind_some, Option.bind_some, if_pos ⟨sh c a, sh d b⟩]
  congr 1
  show (PyData.eqvAll ((c.map fun k : Nat => (k : Int)).map .int) ((d.map fun k : Nat => (k : Int)).map .int) && ((a : Int) == (b : Int) && true)) = _
  rw [eqvAll_ints, Bool.and_true]
  have e1 : decide ((c.map fun k : Nat => (k : Int)) = d.map fun k : Nat => (k : Int)) = decide (c = d) := by
    rw [Bool.eq_iff_iff, decide_eq_true_iff, decide_eq_true_iff]
    exact ⟨fun h => List.map_inj_right (fun x y h => by omega) |>.mp h, fun h => by rw [h]⟩
  have e2 : ((a : Int) == (b : Int)) = decide (a = b) := by
    rw [Bool.eq_iff_iff, beq_iff_eq, decide_eq_true_iff]; omega
  rw [e1, e2]
theorem cmNe_norm {c d : List Nat} {a b : Nat} {H : Hp} (h1 : c = d) (h2 : a = b) : cmNe (.tup [.tup (iV c), .int a]) (.tup [.tup (iV d), .int b]) H = some false := by
  show (cmEq _ _ H).map not = _
  rw [cmEq_norm, decide_eq_true h1, decide_eq_true h2]; rfl
theorem len_at {f : EvF} {E : Lo} {H : Hp} {xs : List VV} (h : f E H = some (.lv xs)) (hl : xs.length ≤ 16777216) : dCall gLen [f] E H = some (.int xs.length) := by
  refine (dCall1 h).trans ?_
  show ((some xs).bind fun xs => if xs.length ≤ 16777216 then some (xs.length : Int) else none).map VV.int = _
  rw [Option.bind_some, if_pos hl]; rfl
theorem lenI_at {f : EvF} {E : Lo} {H : Hp} {a : List Nat} (h : f E H = some (.lv (iV a))) (hl : a.length ≤ 1000) : dCall gLen [f] E H = some (.int (a.length : Nat)) := by
  rw [len_at h (by rw [List.length_map]; omega), List.length_map]
theorem itM_list {f : EvF} {E : Lo} {H : Hp} {xs : List VV} (h : f E H = some (.lv xs)) (hl : xs.length ≤ 16777216) : dItM f E H = some xs := by
  unfold dItM
  rw [h, Option.bind_some]
  show (if xs.length ≤ 16777216 then some xs else none) = _
  rw [if_pos hl]
theorem itM_range {f : EvF} {E : Lo} {H : Hp} {n : Nat} {z : Int} (h : f E H = some (.int z)) (hz : z.toNat = n) (h1 : -1000 ≤ z) (h2 : z ≤ 1000) : dItM (dCall gRange [f]) E H = some (iV (List.range n)) := by
  unfold dItM
  have hg : gRange [.int z] H = some (.rng 0 z 1) := rfl
  rw [dCall1 h, hg, Option.bind_some, iter_rng (H := H) (by omega) (by omega) (by omega) (by omega), rngL_at, show (z - 0).toNat = n by omega, iV_eq, List.map_map, List.map_map]
  congr 1
  refine List.map_congr_left fun k _ => ?_
  show VV.int (0 + (k : Int)) = VV.int (k : Int)
  rw [Int.zero_add]
theorem filter_iV (c : VV → Bool) (d : Nat → Bool) (h : ∀ b : Nat, c (.int b) = d b) : ∀ a : List Nat, (iV a).filter c = iV (a.filter d)
  | [] => rfl
  | b :: a => by
    show List.filter c (VV.int (b : Int) :: iV a) = _
    rw [List.filter_cons, List.filter_cons, filter_iV c d h a, h b]
    split <;> rfl
theorem cnts_comp {E : Lo} {H : Hp} {a : List Nat} {m : Nat} {it : Lo → Hp → Option (List VV)} {tt : TvF} {cc : Nat → Nat → Bool} (hE : importE [none, none, none, some 5] E = [none, none, none, some (.lv (iV a))]) (hit : it E H = some (iV (List.range m))) (hm : m ≤ 1000) (ha : a.length ≤ 1000)
    (ht : ∀ (k b : Nat), tt [none, some (.int b), some (.int k)] H = some (cc k b)) :
    dCompL [none, none, none, some 5] ⟨.nm 1, it, []⟩ [] (dCall gLen [(dF (dCompL [none, none, some 1] ⟨.nm 1, dItM (dV 3), [tt]⟩ [] (dV 1)))]) E H = some (iV ((List.range m).map fun k => (a.filter (cc k)).length)) := by
  refine (comp_map (P := fun E => ∃ y z, E = [none, y, z, some (.lv (iV a))]) (fun x => match x with | .int k => .int (((a.filter (cc k.toNat)).length : Nat) : Int) | x => x) hit ?_ (fun x hx E1 hE1 => ?_) (by rw [List.length_map, List.length_range]; omega)).trans ?_
  · rw [hE]; exact ⟨_, _, rfl⟩
  · obtain ⟨y, z, rfl⟩ := hE1
    obtain ⟨k, _, rfl⟩ := List.mem_map.mp hx
    refine ⟨_, rfl, ⟨_, _, rfl⟩, ?_⟩
    have inner : dCompL [none, none, some 1] ⟨.nm 1, dItM (dV 3), [tt]⟩ [] (dV 1) [none, some (.int (k : Int)), z, some (.lv (iV a))] H = some (iV (a.filter (cc k))) := by
      refine (comp_filter (P := fun E => ∃ y, E = [none, y, some (.int (k : Int))]) (fun x => x) (fun x => match x with | .int b => cc k b.toNat | _ => false) (itM_list (xs := iV a) rfl (by rw [List.length_map]; omega)) ⟨none, rfl⟩ (fun x hx E2 hE2 => ?_) (by rw [List.length_map]; omega)).trans ?_
      · obtain ⟨y2, rfl⟩ := hE2
        obtain ⟨b, _, rfl⟩ := List.mem_map.mp hx
        refine ⟨_, rfl, ⟨_, rfl⟩, tAnd_one ?_, fun _ => rfl⟩
        exact ht k b
      · rw [List.map_id', filter_iV _ (cc k) fun b => rfl]
    have hlen : (a.filter (cc k)).length ≤ 1000 := Nat.le_trans (List.length_filter_le _ _) ha
    exact lenI_at (dF_at inner) hlen
  · rw [iV, iV, List.map_map, List.map_map]
    rfl
theorem count_filter (a : List Nat) (k : Nat) : (a.filter fun b => decide (b = k)).length = a.count k := by
  induction a with
  | nil => rfl
  | cons b a ih =>
    rw [List.filter_cons, List.count_cons]
    by_cases h : b = k
    · rw [if_pos (by simpa using h), if_pos (by simpa using h), List.length_cons, ih]
    · rw [if_neg (by simpa using h), if_neg (by simpa using h), ih]; rfl
end Mine
namespace Mine
noncomputable def RetH (F : StF) (E : Lo) (H : Hp) (v : VV) (H' : Hp) : Prop := ∃ E', F E H = some (.ret v, E', H')
theorem RetH.seq {f g : StF} {E E1 : Lo} {H H1 H' : Hp} {v : VV} (h : f E H = some (.next, E1, H1)) (k : RetH g E1 H1 v H') : RetH (sSeq f g) E H v H' := by
  obtain ⟨E', e⟩ := k
  exact ⟨E', (sSeq_n h).trans e⟩
theorem RetH.last {f : EvF} {E : Lo} {H : Hp} {v : VV} (h : f E H = some v) : RetH (sRet f) E H v H := ⟨_, sRet_at h⟩
noncomputable abbrev rA (l : Txt) : List Nat := (rowsX 0 l).1
noncomputable abbrev rT (l : Txt) : Nat := (rowsX 0 l).2
noncomputable def eC (l : Txt) (w top : Nat) (x4 x5 x6 x7 x8 x9 x10 x11 x12 : Option VV) : Lo := [some (.str l), some (.lv (iV (rowsV l))), some (.int (w : Nat)), some (.int (top : Nat)), x4, x5, x6, x7, x8, x9, x10, x11, x12, none, none, none, none, none, none, none, none, none, none, none, none]
noncomputable def bodyK : StF := (sSeq (sAsg (.nm 11) (dCall (gP gInt) [(dBin opIdx (dCall (gP gIdm) [(dBin (opI gShl) (dV 8) (dV 2)), (dBin (opI gSub) (dBin (opI gShl) (dI 1) (dBin (opI gMul) (dV 2) (dV 6))) (dI 1))]) (dI 1)), (dV 2)]))
    (sSeq (sAsg (.nm 12) (dBin (opI gAdd) (dBin opIdx (dUn (gAttr 76 "norm") (dV 4)) (dI 1)) (dBin (opI gMul) (dV 6) (dBin (opI gAdd) (dV 9) (dBin opIdx (dBin opAddL (dV 11) (dF (evs [(dI 0)]))) (dI 0))))))
    (sSeq (sIf (tOr [(tCmp cmNe (dV 12) (dCall (gP g_law_column) [(dV 1), (dV 6)])), (tCmp cmNe (dMeth 76 "indent_level" (gP (gInd 76)) (dV 4) [(dV 6)]) (dV 12))]) (sRet (dF (evs []))) sNil)
    (sSeq (sIf (tCmp cmNe (dV 11) (dCall (gP g_law_marks) [(dV 5), (dV 6)])) (sRet (dF (evs []))) sNil)
    (sApp (dV 10) (dV 12))))))
noncomputable def geoS (w : Nat) (a : List Nat) : Nat := (a.map (geo (2 ^ w))).sum
theorem pow_le {w n m : Nat} (h : n ≤ m) : (2 ^ w) ^ n ≤ (2 ^ w) ^ m := Nat.pow_le_pow_right (Nat.two_pow_pos w) h
theorem geoS_lt {w : Nat} (hw : 4 ≤ w) {a : List Nat} (ha : a.sum + a.length ≤ 10) : geoS w a < (2 ^ w) ^ 10 := by
  unfold geoS
  rw [← tails_val]
  have h16 : 2 ^ 4 ≤ 2 ^ w := Nat.pow_le_pow_right (by decide) hw
  have hm := mx_le_sum a
  refine Nat.lt_of_lt_of_le (nval_lt w _ fun d hd => ?_) (pow_le (m := 10) ?_)
  · unfold tailsL at hd
    obtain ⟨k, _, rfl⟩ := List.mem_map.mp hd
    have := List.length_filter_le (fun b => decide (k < b)) a
    omega
  · unfold tailsL
    rw [List.length_map, List.length_range]
    omega
theorem shl_at {fa fb : EvF} {E : Lo} {H : Hp} {x k : Nat} (ha : fa E H = some (.int (x : Nat))) (hb : fb E H = some (.int (k : Nat))) (hk : k ≤ 1000) (hx : x < 2 ^ 8000) : dBin (opI gShl) fa fb E H = some (.int ((2 ^ k * x : Nat) : Int)) := by
  refine (dBin_at ha hb).trans ?_
  show (if 0 ≤ (k : Int) ∧ (k : Int) ≤ 1000000 ∧ (x : Int).natAbs < lim9 then some ((x : Int) * 2 ^ (k : Int).toNat) else none).map VV.int = _
  rw [if_pos ⟨by omega, by omega, lt_lim9 (k := 8000) (by rw [Int.natAbs_natCast]; exact hx)⟩, Int.toNat_natCast, Nat.mul_comm, Int.natCast_mul, Int.natCast_pow]
  rfl
theorem mul_nat {fa fb : EvF} {E : Lo} {H : Hp} {x y : Nat} (ha : fa E H = some (.int (x : Nat))) (hb : fb E H = some (.int (y : Nat))) (hx : x ≤ 100000) (hy : y ≤ 100000) : dBin (opI gMul) fa fb E H = some (.int ((x * y : Nat) : Int)) := by
  have hp : (100000 : Nat) < 2 ^ 250 := by decide
  rw [mul_at ha hb (by rw [Int.natAbs_natCast]; omega) (by rw [Int.natAbs_natCast]; omega), Int.natCast_mul]
theorem add_nat {fa fb : EvF} {E : Lo} {H : Hp} {x y : Nat} (ha : fa E H = some (.int (x : Nat))) (hb : fb E H = some (.int (y : Nat))) : dBin (opI gAdd) fa fb E H = some (.int ((x + y : Nat) : Int)) := by
  rw [add_at ha hb, Int.natCast_add]
theorem rest_at {w s : Nat} (hw : 4 ≤ w) (hw2 : w ≤ 32) (hs : 1 ≤ s) (hs2 : s ≤ 20) {a : List Nat} (ha : a.sum + a.length ≤ 10) {H : Hp} : ∃ T : Nat, gP gIdm [.int ((2 ^ w * geoS w a : Nat) : Int), .int ((2 ^ (w * s) - 1 : Nat) : Int)] H = some (.tup [.int (T : Nat), .int ((nval w (marksL s a) : Nat) : Int)]) := by
  obtain ⟨m1, m2, m3, _⟩ := marks_facts w hs a
  obtain ⟨Q, hQ⟩ := pows_mod (2 ^ w) s (places a)
  rw [places_geo, ← m3] at hQ
  have hX : (2 ^ w) ^ s = 2 ^ (w * s) := by rw [Nat.pow_mul]
  rw [hX] at hQ
  have h16 : 2 ^ 4 ≤ 2 ^ w := Nat.pow_le_pow_right (by decide) hw
  have hsm : nval w (marksL s a) + 2 ≤ (2 ^ w) ^ (marksL s a).length := nval_small w _ (fun q => by rw [q] at m1; simp at m1; omega) fun d hd => by
    have := sum_le_all hd
    omega
  rw [m1, hX] at hsm
  have hg := geoS_lt hw ha
  have hA : 2 ^ w * geoS w a < 2 ^ (w * s * (11 / s + 1)) := by
    have h1 : 2 ^ w * geoS w a < 2 ^ w * (2 ^ w) ^ 10 := Nat.mul_lt_mul_of_pos_left hg (Nat.two_pow_pos w)
    have h2 : 2 ^ w * (2 ^ w) ^ 10 = 2 ^ (w * 11) := by
      rw [← Nat.pow_mul, ← Nat.pow_add]
      congr 1
      omega
    rw [h2] at h1
    refine Nat.lt_of_lt_of_le h1 (Nat.pow_le_pow_right (by decide) ?_)
    rw [Nat.mul_assoc]
    refine Nat.mul_le_mul_left w ?_
    have := Nat.div_add_mod 11 s
    have := Nat.mod_lt 11 hs
    rw [Nat.mul_add]
    omega
  refine ⟨Q, idm_of (n := w * s) (K := 11 / s + 1) ?_ ?_ ?_ ?_ hA hQ (by omega)⟩
  · have := Nat.mul_le_mul hw hs
    omega
  · rw [Nat.mul_assoc]
    have h3 : s * (11 / s + 1) ≤ 31 := by
      rw [Nat.mul_add]
      have := Nat.mul_div_le 11 s
      omega
    have := Nat.mul_le_mul hw2 h3
    omega
  · have := Nat.mul_le_mul hw2 hs2
    omega
  · have := Nat.div_le_self 11 s
    omega
theorem frz_wsFs {C : Addr} {k : Nat} {H : Hp} {l cnt : List Nat} {b n nt : Nat} : frz (k + 4) H (.inst C (wsFs l cnt b n nt)) = some (.inst C (wsFs l cnt b n nt)) := by
  show (frzL (frz (k + 3) H) [.str l, .int n, .int nt, .tup [.tup (iV cnt), .int b], .bool (decide (cnt.length ≤ 1))]).map _ = _
  have e : frz (k + 3) H (.tup [.tup (iV cnt), .int b]) = some (.tup [.tup (iV cnt), .int b]) := by
    show (frzL (frz (k + 2) H) [.tup (iV cnt), .int b]).map VV.tup = _
    have e2 : frz (k + 2) H (.tup (iV cnt)) = some (.tup (iV cnt)) := by
      show (frzL (frz (k + 1) H) (iV cnt)).map VV.tup = _
      rw [frzL_iV]; rfl
    simp only [frzL, e2, Option.bind_some]
    rfl
  simp only [frzL, e, Option.bind_some, show frz (k + 3) H (.str l) = some (.str l) from rfl, show frz (k + 3) H (.int n) = some (.int n) from rfl, show frz (k + 3) H (.int nt) = some (.int nt) from rfl, show frz (k + 3) H (.bool (decide (cnt.length ≤ 1))) = some (.bool (decide (cnt.length ≤ 1))) from rfl, Option.map_some]
  rfl
theorem frz_wsV {C : Addr} {k : Nat} {H : Hp} {l : List Nat} : frz (k + 4) H (wsV C l) = some (wsV C l) := frz_wsFs
theorem meth_ws1 {name : Str} {g : List VV → Option VV} {fo f : EvF} {E : Lo} {H : Hp} {l : Txt} {i : Int} (ho : fo E H = some (wsV 76 l)) (hf : f E H = some (.int i)) (hi : isInst 76 name (wsV 76 l) = true := by rfl) : dMeth 76 name (gP g) fo [f] E H = g [wsV 76 l, .int i] := by
  unfold dMeth
  rw [ho, Option.bind_some]
  simp only [evs, hf, Option.bind_some, Option.map_some]
  rw [if_pos hi]
  show (frzL (frz 8 []) [wsV 76 l, .int i]).bind g = _
  simp only [frzL, frz_wsV (k := 4), Option.bind_some, Option.map_some]
  rfl
theorem meth_ws0 {name : Str} {g : List VV → Option VV} {fo : EvF} {E : Lo} {H : Hp} {l : Txt} (ho : fo E H = some (wsV 76 l)) (hi : isInst 76 name (wsV 76 l) = true := by rfl) : dMeth 76 name (gP g) fo [] E H = g [wsV 76 l] := by
  unfold dMeth
  rw [ho, Option.bind_some]
  simp only [evs, Option.bind_some]
  rw [if_pos hi]
  show (frzL (frz 8 []) [wsV 76 l]).bind g = _
  simp only [frzL, frz_wsV (k := 4), Option.bind_some, Option.map_some]
theorem meth_ws2 {name : Str} {g : List VV → Option VV} {fo f : EvF} {E : Lo} {H : Hp} {l m : Txt} (ho : fo E H = some (wsV 76 l)) (hf : f E H = some (wsV 76 m)) (hi : isInst 76 name (wsV 76 l) = true := by rfl) : dMeth 76 name (gP g) fo [f] E H = g [wsV 76 l, wsV 76 m] := by
  unfold dMeth
  rw [ho, Option.bind_some]
  simp only [evs, hf, Option.bind_some, Option.map_some]
  rw [if_pos hi]
  show (frzL (frz 8 []) [wsV 76 l, wsV 76 m]).bind g = _
  simp only [frzL, frz_wsV (k := 4), Option.bind_some, Option.map_some]
theorem bodyK_at {l : Txt} {w top s : Nat} (hl : l.length ≤ 10) (hw : 4 ≤ w) (hw2 : w ≤ 32) (hs : 1 ≤ s) (hs2 : s ≤ 20) {x7 x11 x12 : Option VV} {pre : List Nat} (hp : pre.length ≤ 100) :
    ∃ y11 y12, bodyK (eC l w top (some (wsV 76 l)) (some (.lv (iV (rA l)))) (some (.int (s : Nat))) x7 (some (.int (geoS w (rA l) : Nat))) (some (.int ((rA l).length : Nat))) (some (.lst 0)) x11 x12) [.list (iV pre)] =
      some (.next, eC l w top (some (wsV 76 l)) (some (.lv (iV (rA l)))) (some (.int (s : Nat))) x7 (some (.int (geoS w (rA l) : Nat))) (some (.int ((rA l).length : Nat))) (some (.lst 0)) y11 y12, [.list (iV (pre ++ [colL (rA l) (rT l) s]))]) := by
  have hr := rowsX_le l 0
  have ha : (rA l).sum + (rA l).length ≤ 10 := by show (rowsX 0 l).1.sum + (rowsX 0 l).1.length ≤ 10; omega
  have h2 := (wsGo_X l [] 0 0 0).2.1
  have hA : (rA l).length ≤ 10 := Nat.le_trans (Nat.le_add_left _ _) ha
  have hS : (rA l).sum ≤ 10 := Nat.le_trans (Nat.le_add_right _ _) ha
  obtain ⟨m1, m2, _, m4⟩ := marks_facts w hs (rA l)
  have hm0 : (popZ s (marksL s (rA l))).getD 0 0 = stops s (rA l) := by rw [popZ_get0, m4, places_stops hs]
  have h16 : 2 ^ 4 ≤ 2 ^ w := Nat.pow_le_pow_right (by decide) hw
  obtain ⟨T, hT⟩ := rest_at (H := [.list (iV pre)]) hw hw2 hs hs2 ha
  have hg := geoS_lt hw ha
  have hg8 : geoS w (rA l) < 2 ^ 8000 := Nat.lt_of_lt_of_le hg (by rw [← Nat.pow_mul]; exact Nat.pow_le_pow_right (by decide) (by omega))
  have hint : gInt [.int ((nval w (marksL s (rA l)) : Nat) : Int), .int (w : Nat)] = some (.lv (iV (popZ s (marksL s (rA l))))) := by
    have := gInt_of (w := w) (ds := popZ s (marksL s (rA l))) (Nat.le_trans (by decide) hw) hw2 (Nat.le_trans (popZ_len s _) (by rw [m1]; exact Nat.le_trans hs2 (by decide))) (fun d hd => d16 (Nat.le_trans (sum_le_all (popZ_mem s _ d hd)) (by rw [m2]; exact hS)) h16) (popZ_last s _ (Nat.le_of_eq m1))
    rw [popZ_nval] at this
    rw [iV_eq]; exact this
  unfold bodyK
  refine ⟨some (.lv (iV (popZ s (marksL s (rA l))))), some (.int ((colL (rA l) (rT l) s : Nat) : Int)), (sSeq_n (E1 := eC l w top (some (wsV 76 l)) (some (.lv (iV (rA l)))) (some (.int (s : Nat))) x7 (some (.int (geoS w (rA l) : Nat))) (some (.int ((rA l).length : Nat))) (some (.lst 0)) (some (.lv (iV (popZ s (marksL s (rA l)))))) x12) (H1 := [.list (iV pre)]) ?_).trans
    ((sSeq_n (E1 := eC l w top (some (wsV 76 l)) (some (.lv (iV (rA l)))) (some (.int (s : Nat))) x7 (some (.int (geoS w (rA l) : Nat))) (some (.int ((rA l).length : Nat))) (some (.lst 0)) (some (.lv (iV (popZ s (marksL s (rA l)))))) (some (.int ((colL (rA l) (rT l) s : Nat) : Int)))) (H1 := [.list (iV pre)]) ?_).trans
    ((sSeq_n (sIf_skip (tOr_no ?_ (tOr_no ?_ tOr_nil)))).trans ((sSeq_n (sIf_skip ?_)).trans ?_)))⟩
  · refine sAsg_at ((dCall2 (x := .int ((nval w (marksL s (rA l)) : Nat) : Int)) (y := .int (w : Nat)) ?_ rfl).trans hint)
    refine (dBin_at (x := .tup [.int (T : Nat), .int ((nval w (marksL s (rA l)) : Nat) : Int)]) (y := .int 1) ?_ rfl).trans rfl
    refine (dCall2 (x := .int ((2 ^ w * geoS w (rA l) : Nat) : Int)) (y := .int ((2 ^ (w * s) - 1 : Nat) : Int)) (shl_at rfl rfl (Nat.le_trans hw2 (by decide)) hg8) ?_).trans hT
    exact shl1_at (mul_nat rfl rfl (Nat.le_trans hw2 (by decide)) (Nat.le_trans hs2 (by decide))) (Nat.le_trans (Nat.mul_le_mul hw2 hs2) (by decide))
  · refine sAsg_at ?_
    have e0 : dBin opIdx (dBin opAddL (dV 11) (dF (evs [(dI 0)]))) (dI 0) (eC l w top (some (wsV 76 l)) (some (.lv (iV (rA l)))) (some (.int (s : Nat))) x7 (some (.int (geoS w (rA l) : Nat))) (some (.int ((rA l).length : Nat))) (some (.lst 0)) (some (.lv (iV (popZ s (marksL s (rA l)))))) x12) [.list (iV pre)] = some (.int ((stops s (rA l) : Nat) : Int)) := by
      refine (dBin_at (x := .lv (iV (popZ s (marksL s (rA l)) ++ [0]))) (y := .int 0) ?_ rfl).trans ?_
      · refine (dBin_at (x := .lv (iV (popZ s (marksL s (rA l))))) (y := .lv [.int 0]) rfl rfl).trans ?_
        show (if (iV (popZ s (marksL s (rA l)))).length + 1 ≤ 16777216 then some (VV.lv (iV (popZ s (marksL s (rA l))) ++ [.int 0])) else none) = _
        rw [if_pos (by rw [List.length_map]; exact Nat.le_trans (Nat.succ_le_succ (Nat.le_trans (popZ_len s _) (Nat.le_of_eq m1))) (Nat.le_trans (Nat.succ_le_succ hs2) (by decide))), iV_append]
        rfl
      · refine (opIdx_nat (k := 0) (iV_get (by simp)) (by decide)).trans ?_
        rw [← hm0]
        cases popZ s (marksL s (rA l)) <;> rfl
    have e1 : dBin opIdx (dUn (gAttr 76 "norm") (dV 4)) (dI 1) (eC l w top (some (wsV 76 l)) (some (.lv (iV (rA l)))) (some (.int (s : Nat))) x7 (some (.int (geoS w (rA l) : Nat))) (some (.int ((rA l).length : Nat))) (some (.lst 0)) (some (.lv (iV (popZ s (marksL s (rA l)))))) x12) [.list (iV pre)] = some (.int (rT l : Nat)) := by
      show _ = some (VV.int ((rowsX 0 l).2 : Nat))
      rw [← h2]; rfl
    refine (add_nat e1 (mul_nat (x := s) rfl (add_nat (x := (rA l).length) rfl e0) (Nat.le_trans hs2 (by decide)) ?_)).trans ?_
    · exact Nat.le_trans (Nat.add_le_add hA (Nat.le_trans (stops_le s _) hS)) (by decide)
    · unfold colL
      rw [Nat.add_comm (rA l).length]
  · refine (tCmp_at (x := .int ((colL (rA l) (rT l) s : Nat) : Int)) (y := .int ((colL (rA l) (rT l) s : Nat) : Int)) rfl ?_).trans (cmNeI rfl)
    refine (dCall2 (x := .lv (iV (rowsV l))) (y := .int (s : Nat)) rfl rfl).trans ?_
    rw [gP_li]
    exact column_at hs (k10 hA)
  · refine (tCmp_at (x := .int ((colL (rA l) (rT l) s : Nat) : Int)) (y := .int ((colL (rA l) (rT l) s : Nat) : Int)) ?_ rfl).trans (cmNeI rfl)
    exact (meth_ws1 rfl rfl).trans (ind_at (k10 hl) hs (k20 hs2))
  · refine (tCmp_at (x := .lv (iV (popZ s (marksL s (rA l))))) (y := .lv (iV (popZ s (marksL s (rA l))))) rfl ?_).trans (cmNeL _ _)
    refine (dCall2 (x := .lv (iV (rA l))) (y := .int (s : Nat)) rfl rfl).trans ?_
    rw [gP_li]
    exact marks_at hs (Nat.le_trans hs2 (by decide)) (fun b hb => k10 (Nat.le_trans (sum_le_all hb) hS)) (k10 hA)
  · show (onList (.lst 0) [.list (iV pre)] (fun xs => if xs.length ≤ 1000000 then some (xs ++ [.int ((colL (rA l) (rT l) s : Nat) : Int)]) else none)).map (fun H' => (Fl.next, _, H')) = _
    rw [onList_at (xs := iV pre) (ys := iV (pre ++ [colL (rA l) (rT l) s])) rfl]
    · rfl
    · rw [if_pos (by rw [List.length_map]; exact Nat.le_trans hp (by decide)), iV_append]; rfl
end Mine
namespace Mine
theorem cols_loop {l : Txt} {w top : Nat} (hl : l.length ≤ 10) (hw : 4 ≤ w) (hw2 : w ≤ 32) {x7 : Option VV} : ∀ (ss pre : List Nat) (x6 x11 x12 : Option VV), (∀ s ∈ ss, 1 ≤ s ∧ s ≤ 20) → pre.length + ss.length ≤ 100 →
    ∃ y6 y11 y12, forF bodyK (.nm 6) (iV ss) (eC l w top (some (wsV 76 l)) (some (.lv (iV (rA l)))) x6 x7 (some (.int (geoS w (rA l) : Nat))) (some (.int ((rA l).length : Nat))) (some (.lst 0)) x11 x12) [.list (iV pre)] =
      some (.next, eC l w top (some (wsV 76 l)) (some (.lv (iV (rA l)))) y6 x7 (some (.int (geoS w (rA l) : Nat))) (some (.int ((rA l).length : Nat))) (some (.lst 0)) y11 y12, [.list (iV (pre ++ ss.map (colL (rA l) (rT l))))])
  | [], pre, x6, x11, x12, _, _ => ⟨x6, x11, x12, by rw [List.map_nil, List.append_nil]; rfl⟩
  | s :: ss, pre, x6, x11, x12, h, hp => by
    rw [List.length_cons] at hp
    have hs := h s (.head _)
    obtain ⟨y11, y12, e⟩ := bodyK_at (l := l) (w := w) (top := top) (s := s) hl hw hw2 hs.1 hs.2 (x7 := x7) (x11 := x11) (x12 := x12) (pre := pre) (by omega)
    obtain ⟨z6, z11, z12, e2⟩ := cols_loop hl hw hw2 (x7 := x7) ss (pre ++ [colL (rA l) (rT l) s]) (some (.int (s : Nat))) y11 y12 (fun s hs => h s (.tail _ hs)) (by rw [List.length_append]; simp only [List.length_cons, List.length_nil]; omega)
    refine ⟨z6, z11, z12, ?_⟩
    show forF bodyK (.nm 6) (VV.int (s : Int) :: iV ss) _ _ = _
    refine (forF_next (i := 6) (x := VV.int (s : Int)) (xs := iV ss) (E := eC l w top (some (wsV 76 l)) (some (.lv (iV (rA l)))) x6 x7 (some (.int (geoS w (rA l) : Nat))) (some (.int ((rA l).length : Nat))) (some (.lst 0)) x11 x12) e).trans (e2.trans ?_)
    rw [List.map_cons, List.append_assoc]
    rfl
noncomputable def cntL (l : Txt) : List Nat := (List.range (mx (rA l))).map fun k => (rA l).count k
theorem cnt_eq (l : Txt) : (wsGo l [] 0 0 0).1 = cntL l := by rw [(wsGo_X l [] 0 0 0).1, counts_eq]; rfl
theorem k16 {a : List Nat} (h : a.length ≤ 10) : (iV a).length ≤ 16777216 := by rw [List.length_map]; exact Nat.le_trans h (by decide)
theorem dec_lt (a b : Nat) : decide ((a : Int) < (b : Int)) = decide (a < b) := by rw [Bool.eq_iff_iff, decide_eq_true_iff, decide_eq_true_iff]; exact Int.ofNat_lt
theorem dec_eq (a b : Nat) : decide ((a : Int) = (b : Int)) = decide (a = b) := by rw [Bool.eq_iff_iff, decide_eq_true_iff, decide_eq_true_iff]; exact Int.natCast_inj
theorem columns_at {l : Txt} {w top : Nat} (hl : l.length ≤ 10) (hw : 4 ≤ w) (hw2 : w ≤ 32) (htop : top ≤ 20) : g_law_columns [.str l, .lv (iV (rowsV l)), .int (w : Nat), .int (top : Nat)] = some (.lv (iV ((List.range top).map fun i => colL (rA l) (rT l) (i + 1)))) := by
  have hr := rowsX_le l 0
  have ha : (rA l).sum + (rA l).length + rT l ≤ 10 := by show (rowsX 0 l).1.sum + (rowsX 0 l).1.length + (rowsX 0 l).2 ≤ 10; omega
  obtain ⟨h1, h2, h3, h4⟩ := wsGo_X l [] 0 0 0
  have h2' : (wsGo l [] 0 0 0).2.1 = rT l := h2
  have h3' : (wsGo l [] 0 0 0).2.2.1 = (rA l).sum + rT l + (rA l).length := by
    have : (wsGo l [] 0 0 0).2.2.1 + 0 = 0 + (rA l).sum + rT l + (rA l).length := h3
    omega
  have h4' : (wsGo l [] 0 0 0).2.2.2 = (rA l).length := by
    have : (wsGo l [] 0 0 0).2.2.2 = 0 + (rA l).length := h4
    omega
  have hm := mx_le_sum (rA l)
  have hA : (rA l).length ≤ 10 := by clear h1 h2 h3 h4 hr h2' h3' h4' hm; omega
  have hM : mx (rA l) ≤ 10 := by clear h1 h2 h3 h4 hr h2' h3' h4'; omega
  have h16 : 2 ^ 4 ≤ 2 ^ w := Nat.pow_le_pow_right (by decide) hw
  have hcl : (cntL l).length = mx (rA l) := by unfold cntL; rw [List.length_map, List.length_range]
  have hcs : ∀ d ∈ cntL l, d ≤ 10 := fun d hd => by
    obtain ⟨k, _, rfl⟩ := List.mem_map.mp hd
    exact Nat.le_trans List.count_le_length hA
  have hcl10 : (cntL l).length ≤ 10 := by rw [hcl]; exact hM
  have hws : wsV 76 l = .inst 76 (wsFs l (cntL l) (rT l) ((rA l).sum + rT l + (rA l).length) (rA l).length) := by
    unfold wsV
    rw [cnt_eq, h2', h3', h4']
  have run : RetH F_law_columns (bindE [0, 1, 2, 3] 25 [.str l, .lv (iV (rowsV l)), .int (w : Nat), .int (top : Nat)]) [] (.lst 0) [.list (iV ((List.range top).map fun i => colL (rA l) (rT l) (i + 1)))] := by
    unfold F_law_columns
    refine RetH.seq (E1 := eC l w top (some (wsV 76 l)) none none none none none none none none) (H1 := []) ?_ ?_
    · refine sAsg_at (v := wsV 76 l) ((dCall1 (x := .str l) rfl).trans ?_)
      show (if l.length ≤ 500000 then some (wsV 76 l) else none) = _
      rw [if_pos (Nat.le_trans hl (by decide))]
    refine RetH.seq (E1 := eC l w top (some (wsV 76 l)) (some (.lv (iV (rA l)))) none none none none none none none) (H1 := []) ?_ ?_
    · exact sAsg_at (init_at rfl (k10 hA))
    refine RetH.seq (E1 := eC l w top (some (wsV 76 l)) (some (.lv (iV (rA l)))) none (some (.lv (iV (cntL l)))) none none none none none) (H1 := []) ?_ ?_
    · refine sAsgC_at ((cnts_comp (m := mx (rA l)) (cc := fun k b => decide (b = k)) rfl ?_ (k10 hM) (k10 hA) (fun k b => ?_)).trans ?_)
      · refine itM_range (z := (mx (rA l) : Int)) ?_ (Int.toNat_natCast _) (by omega) (by omega)
        refine (add_at (a := (mx (rA l) : Int) - 1) (b := 1) ?_ rfl).trans (by rw [Int.sub_add_cancel])
        refine (dCall1 (x := .lv (iV (rA l) ++ [.int (-1)])) ?_).trans ?_
        · refine (dBin_at (x := .lv (iV (rA l))) (y := .lv [.int (-1)]) rfl rfl).trans ?_
          show (if (iV (rA l)).length + 1 ≤ 16777216 then some (VV.lv (iV (rA l) ++ [.int (-1)])) else none) = _
          rw [if_pos (by rw [List.length_map]; exact Nat.le_trans (Nat.succ_le_succ hA) (by decide))]
        · show (asInts (iV (rA l) ++ [.int (-1)])).bind (fun ns => if ns ≠ [] then some (VV.int (maxZ ns)) else none) = _
          have : iV (rA l) ++ [.int (-1)] = (((rA l).map fun d : Nat => (d : Int)) ++ [-1]).map .int := by rw [List.map_append, iV_eq]; rfl
          rw [this, asInts_map, Option.bind_some, if_pos (by simp), maxZ_rows (-1) (by decide)]
          rw [Int.max_eq_left (show (-1 : Int) ≤ (mx (rA l) : Int) - 1 from Int.sub_le_sub_right (Int.natCast_nonneg _) 1)]
      · exact congrArg some (dec_eq b k)
      · rw [show (List.range (mx (rA l))).map (fun k => ((rA l).filter fun b => decide (b = k)).length) = cntL l from List.map_congr_left fun k _ => count_filter _ k]
    rw [hws]
    refine RetH.seq (sIf_skip (tOr_no ?_ (tOr_no ?_ tOr_nil))) ?_
    · refine (tCmp_at (x := .tup [.tup (iV (cntL l)), .int (rT l : Nat)]) (y := .tup [.tup (iV (cntL l)), .int (rT l : Nat)]) rfl ?_).trans (cmNe_norm rfl rfl)
      refine dTup2 ((dCall1 (x := .lv (iV (cntL l))) rfl).trans ?_) (last_at rfl)
      show (if (iV (cntL l)).length ≤ 16777216 then some (VV.tup (iV (cntL l))) else none) = _
      rw [if_pos (k16 hcl10)]
    · exact (tCmp_at (x := .str l) (y := .str l) rfl rfl).trans (cmNeS l _)
    refine RetH.seq (sIf_skip ?_) ?_
    · refine (tCmp_at (x := .tup [.int (((rA l).sum + rT l + (rA l).length : Nat) : Int), .int ((rA l).length : Nat)]) (y := .tup [.int (((rA l).sum + rT l + (rA l).length : Nat) : Int), .int ((rA l).length : Nat)]) rfl ?_).trans (cmNe_pair rfl rfl)
      refine dTup2 (add_nat ((dCall1 (x := .lv (iV (rowsV l))) rfl).trans ?_) (lenI_at rfl (k10 hA))) (lenI_at rfl (k10 hA))
      rw [iV_eq, gSum_ints]
      congr 2
      unfold rowsV
      have : ∀ a : List Nat, (a.map fun d : Nat => (d : Int)).sum = ((a.sum : Nat) : Int) := fun a => by
        induction a with
        | nil => rfl
        | cons b a ih => rw [List.map_cons, List.sum_cons, List.sum_cons, ih, Int.natCast_add]
      rw [this, List.sum_append]
      simp
    refine RetH.seq (sIf_skip (tOr_no ?_ (tOr_no ?_ tOr_nil))) ?_
    · refine (tCmp_at (x := .bool (decide ((cntL l).length ≤ 1))) (y := .bool (decide ((cntL l).length ≤ 1))) rfl ?_).trans ?_
      · refine (dCmp_at (x := .int ((cntL l).length : Nat)) (y := .int 2) (c := decide ((cntL l).length ≤ 1)) (lenI_at rfl (k10 hcl10)) rfl ?_)
        refine congrArg some ((dec_lt _ 2).trans ?_)
        rw [Bool.eq_iff_iff, decide_eq_true_iff, decide_eq_true_iff]
        exact Nat.lt_succ_iff
      · show some (!(decide ((cntL l).length ≤ 1) == decide ((cntL l).length ≤ 1))) = _
        rw [beq_self_eq_true]; rfl
    · rw [← hws]
      refine (tCmp_at (x := .int (max ((mx (rA l) : Int) - 1) (rT l : Nat))) (y := .int (max ((mx (rA l) : Int) - 1) (rT l : Nat))) ((meth_ws0 rfl).trans (longest_at l (k10 hl))) ?_).trans (cmNeI rfl)
      refine (dCall1 (x := .lv (iV (rowsV l))) rfl).trans ?_
      show (asInts (iV (rowsV l))).bind (fun ns => if ns ≠ [] then some (VV.int (maxZ ns)) else none) = _
      have : (rowsV l).map (fun d : Nat => (d : Int)) = ((rA l).map fun d : Nat => (d : Int)) ++ [(rT l : Int)] := by unfold rowsV; rw [List.map_append]; rfl
      rw [asInts_iV, Option.bind_some, this, if_pos (by simp), maxZ_rows _ (by omega)]
    refine RetH.seq (E1 := eC l w top (some (wsV 76 l)) (some (.lv (iV (rA l)))) none (some (.lv (iV (cntL l)))) (some (.int (geoS w (rA l) : Nat))) (some (.int ((rA l).length : Nat))) none none none) (H1 := []) ?_ ?_
    · rw [← hws]
      refine (sAsgT_at (vs := [.int (geoS w (rA l) : Nat), .int ((rA l).length : Nat)]) ?_ rfl).trans rfl
      refine (dCall2 (x := .int ((nval w (cntL l) : Nat) : Int)) (y := .int ((2 ^ w - 1 : Nat) : Int)) ?_ (shl1_at rfl (by omega))).trans ?_
      · refine (dCall2 (x := .lv (iV (cntL l))) (y := .int (w : Nat)) ?_ rfl).trans ?_
        · refine (dCall1 (x := .tup (iV (cntL l))) ?_).trans ?_
          · rw [hws]; rfl
          · show (if (iV (cntL l)).length ≤ 16777216 then some (VV.lv (iV (cntL l))) else none) = _
            rw [if_pos (k16 hcl10)]
        · rw [gP_li, iV_eq]
          exact gDig_of hw2 (Nat.le_trans hcl10 (by decide)) fun d hd => d16 (hcs d hd) h16
      · have hv : nval w (cntL l) = ((rA l).map fun b => (2 ^ w) ^ b).sum := by rw [← cnt_eq, h1, nval_counts]
        have hlt : nval w (cntL l) < 2 ^ (w * 11) := by
          rw [Nat.pow_mul]
          refine Nat.lt_of_lt_of_le (nval_lt w _ fun d hd => d16 (hcs d hd) h16) (pow_le (Nat.le_trans hcl10 (by decide)))
        refine idm_of (K := 11) (by omega) (by omega) (by omega) (by decide) hlt ?_ (by omega)
        rw [hv]
        exact nums_geo (2 ^ w) (rA l)
    refine RetH.seq (sIf_skip ?_) ?_
    · exact (tCmp_at (x := .int ((rA l).length : Nat)) (y := .int ((rA l).length : Nat)) rfl (lenI_at rfl (k10 hA))).trans (cmNeI rfl)
    refine RetH.seq (sIf_skip ?_) ?_
    · refine (tCmp_at (x := .lv (iV (tailsL (rA l)))) (y := .lv (iV (tailsL (rA l)))) ?_ ?_).trans (cmNeL _ _)
      · refine (dCall2 (x := .int (geoS w (rA l) : Nat)) (y := .int (w : Nat)) rfl rfl).trans ?_
        have hv : geoS w (rA l) = nval w (tailsL (rA l)) := (tails_val w (rA l)).symm
        show gInt [.int (geoS w (rA l) : Nat), .int (w : Nat)] = _
        rw [hv, iV_eq]
        refine gInt_of (by omega) hw2 (by unfold tailsL; rw [List.length_map, List.length_range]; omega) (fun d hd => ?_) fun d hd => ?_
        · obtain ⟨k, _, rfl⟩ := List.mem_map.mp hd
          exact d16 (Nat.le_trans (List.length_filter_le _ _) hA) h16
        · unfold tailsL at hd
          cases hmx : mx (rA l) - 1 with
          | zero => rw [hmx] at hd; cases hd
          | succ m =>
            rw [hmx, List.range_succ, List.map_append] at hd
            rw [List.map_singleton, List.getLast?_concat] at hd
            cases hd
            obtain ⟨b, hb, e⟩ := mx_mem (bs := rA l) (by omega)
            intro q
            have : b ∈ (rA l).filter fun b => decide (m < b) := List.mem_filter.mpr ⟨hb, decide_eq_true (by omega)⟩
            rw [List.eq_nil_of_length_eq_zero q] at this
            cases this
      · refine dF_at (cnts_comp (m := mx (rA l) - 1) (cc := fun k b => decide (k < b)) rfl ?_ (k10 (Nat.le_trans (Nat.sub_le _ _) hM)) (k10 hA) (fun k b => ?_))
        · refine itM_range (z := (mx (rA l) : Int) - 1) (sub_at (a := (mx (rA l) : Int)) (b := 1) ?_ rfl) (by omega) (by omega) (by omega)
          rw [← hcl]
          exact lenI_at rfl (k10 hcl10)
        · exact congrArg some (dec_lt k b)
    refine RetH.seq (E1 := eC l w top (some (wsV 76 l)) (some (.lv (iV (rA l)))) none (some (.lv (iV (cntL l)))) (some (.int (geoS w (rA l) : Nat))) (some (.int ((rA l).length : Nat))) (some (.lst 0)) none none) (H1 := [.list []]) ?_ ?_
    · exact (sAsgL_at (xs := []) rfl).trans rfl
    obtain ⟨y6, y11, y12, e⟩ := cols_loop (l := l) (w := w) (top := top) hl hw hw2 (x7 := some (.lv (iV (cntL l)))) ((List.range top).map (· + 1)) [] none none none (fun s hs => by
      obtain ⟨i, hi, rfl⟩ := List.mem_map.mp hs
      have := List.mem_range.mp hi
      omega) (by rw [List.length_map, List.length_range]; simp; omega)
    have hh : [] ++ ((List.range top).map (· + 1)).map (colL (rA l) (rT l)) = (List.range top).map fun i => colL (rA l) (rT l) (i + 1) := by
      rw [List.nil_append, List.map_map]; rfl
    rw [hh] at e
    exact RetH.seq ((sFor_at (range_places (f := dV 3) top (Nat.le_trans htop (by decide)) rfl)).trans e) ⟨_, sRet_at rfl⟩
  obtain ⟨E', e⟩ := run
  refine gOf_ret rfl e ?_
  show (frzL (frz 7 _) (iV ((List.range top).map fun i => colL (rA l) (rT l) (i + 1)))).map VV.lv = _
  rw [frzL_iV]; rfl
end Mine
namespace Mine
noncomputable abbrev colT (l : Txt) (s : Nat) : Nat := colL (rA l) (rT l) s
noncomputable def nW (l m : Txt) : Nat := max (max (mx (rA l) - 1) (rT l)) (max (mx (rA m) - 1) (rT m)) + 1
theorem nW_at {E : Lo} {H : Hp} {l m : Txt} (h0 : dV 0 E H = some (wsV 76 l)) (h1 : dV 1 E H = some (wsV 76 m)) (hl : l.length ≤ 10) (hm : m.length ≤ 10) :
    dBin (opI gAdd) (dCall gMax [(dMeth 76 "longest_run_of_spaces" (gP g_Whitespace_longest_run_of_spaces) (dV 0) []), (dMeth 76 "longest_run_of_spaces" (gP g_Whitespace_longest_run_of_spaces) (dV 1) [])]) (dI 1) E H = some (.int (nW l m : Nat)) := by
  have e1 := (meth_ws0 (name := "longest_run_of_spaces") (g := g_Whitespace_longest_run_of_spaces) h0).trans (longest_at l (k10 hl))
  have e2 := (meth_ws0 (name := "longest_run_of_spaces") (g := g_Whitespace_longest_run_of_spaces) h1).trans (longest_at m (k10 hm))
  refine (add_at ((dCall2 e1 e2).trans rfl) rfl).trans ?_
  rw [run_max, run_max, ← cast_max]
  rfl
theorem nW_facts (l m : Txt) (hl : l.length ≤ 10) (hm : m.length ≤ 10) : mx (rA l) ≤ nW l m ∧ mx (rA m) ≤ nW l m ∧ rT l < nW l m ∧ rT m < nW l m ∧ nW l m ≤ 11 := by
  have h1 := rowsX_le l 0
  have h2 := rowsX_le m 0
  have h3 := mx_le_sum (rA l)
  have h4 := mx_le_sum (rA m)
  have h1' : (rA l).sum + (rA l).length + rT l ≤ 0 + l.length := h1
  have h2' : (rA m).sum + (rA m).length + rT m ≤ 0 + m.length := h2
  clear h1 h2
  unfold nW
  have a1 := Nat.le_max_left (mx (rA l) - 1) (rT l)
  have a2 := Nat.le_max_right (mx (rA l) - 1) (rT l)
  have a3 := Nat.le_max_left (mx (rA m) - 1) (rT m)
  have a4 := Nat.le_max_right (mx (rA m) - 1) (rT m)
  have a5 : max (mx (rA l) - 1) (rT l) ≤ 10 := Nat.max_le.mpr ⟨by omega, by omega⟩
  have a6 : max (mx (rA m) - 1) (rT m) ≤ 10 := Nat.max_le.mpr ⟨by omega, by omega⟩
  have a7 := Nat.le_max_left (max (mx (rA l) - 1) (rT l)) (max (mx (rA m) - 1) (rT m))
  have a8 := Nat.le_max_right (max (mx (rA l) - 1) (rT l)) (max (mx (rA m) - 1) (rT m))
  have a9 := Nat.max_le.mpr ⟨a5, a6⟩
  generalize max (max (mx (rA l) - 1) (rT l)) (max (mx (rA m) - 1) (rT m)) = r at *
  generalize max (mx (rA l) - 1) (rT l) = p at *
  generalize max (mx (rA m) - 1) (rT m) = q at *
  omega
theorem ind_m {E : Lo} {H : Hp} {l : Txt} {s : Nat} {fo f : EvF} (ho : fo E H = some (wsV 76 l)) (hf : f E H = some (.int (s : Nat))) (hl : l.length ≤ 10) (hs : 1 ≤ s) (hs2 : s ≤ 20) : dMeth 76 "indent_level" (gP (gInd 76)) fo [f] E H = some (.int ((colT l s : Nat) : Int)) :=
  (meth_ws1 ho hf).trans (ind_at (k10 hl) hs (k20 hs2))
noncomputable def tup3 (l m : Txt) (s : Nat) : VV := .tup [.int (s : Nat), .int (colT l s : Nat), .int (colT m s : Nat)]
theorem frz_tup3 {k : Nat} {H : Hp} (l m : Txt) : ∀ ss : List Nat, frzL (frz (k + 2) H) (ss.map (tup3 l m)) = some (ss.map (tup3 l m))
  | [] => rfl
  | s :: ss => by
    show (frz (k + 2) H (tup3 l m s)).bind _ = _
    rw [show frz (k + 2) H (tup3 l m s) = some (tup3 l m s) from rfl, Option.bind_some]
    show (frzL (frz (k + 2) H) (ss.map (tup3 l m))).map _ = _
    rw [frz_tup3 l m ss]
    rfl
noncomputable def bodyW (g : VV → VV → Hp → Option Bool) : StF := (sIf (tCmp g (dMeth 76 "indent_level" (gP (gInd 76)) (dV 0) [(dV 4)]) (dMeth 76 "indent_level" (gP (gInd 76)) (dV 1) [(dV 4)])) (sApp (dV 3) (dTup [(dV 4), (dMeth 76 "indent_level" (gP (gInd 76)) (dV 0) [(dV 4)]), (dMeth 76 "indent_level" (gP (gInd 76)) (dV 1) [(dV 4)])])) sNil)
noncomputable def eW7 (l m : Txt) (x2 x3 x4 : Option VV) : Lo := [some (wsV 76 l), some (wsV 76 m), x2, x3, x4, none, none]
theorem wit_loop {l m : Txt} (hl : l.length ≤ 10) (hm : m.length ≤ 10) {g : VV → VV → Hp → Option Bool} {p : Nat → Nat → Bool} (hg : ∀ (x y : Nat) H, g (.int x) (.int y) H = some (p x y)) {x2 : Option VV} : ∀ (ss : List Nat) (acc : List VV) (x4 : Option VV), (∀ s ∈ ss, 1 ≤ s ∧ s ≤ 20) → acc.length + ss.length ≤ 1000 →
    ∃ y4, forF (bodyW g) (.nm 4) (iV ss) (eW7 l m x2 (some (.lst 0)) x4) [.list acc] = some (.next, eW7 l m x2 (some (.lst 0)) y4, [.list (acc ++ (ss.filter fun s => p (colT l s) (colT m s)).map (tup3 l m))])
  | [], acc, x4, _, _ => ⟨x4, by rw [List.filter_nil, List.map_nil, List.append_nil]; rfl⟩
  | s :: ss, acc, x4, h, hp => by
    rw [List.length_cons] at hp
    have hs := h s (.head _)
    have i0 : dMeth 76 "indent_level" (gP (gInd 76)) (dV 0) [(dV 4)] (eW7 l m x2 (some (.lst 0)) (some (.int (s : Nat)))) [.list acc] = some (.int ((colT l s : Nat) : Int)) := ind_m rfl rfl hl hs.1 hs.2
    have i1 : dMeth 76 "indent_level" (gP (gInd 76)) (dV 1) [(dV 4)] (eW7 l m x2 (some (.lst 0)) (some (.int (s : Nat)))) [.list acc] = some (.int ((colT m s : Nat) : Int)) := ind_m rfl rfl hm hs.1 hs.2
    have ht := (tCmp_at (g := g) i0 i1).trans (hg _ _ _)
    cases hq : p (colT l s) (colT m s) with
    | false =>
      obtain ⟨y4, e⟩ := wit_loop hl hm hg (x2 := x2) ss acc (some (.int (s : Nat))) (fun s hs => h s (.tail _ hs)) (by omega)
      refine ⟨y4, ?_⟩
      have hb : bodyW g (eW7 l m x2 (some (.lst 0)) (some (.int (s : Nat)))) [.list acc] = some (.next, eW7 l m x2 (some (.lst 0)) (some (.int (s : Nat))), [.list acc]) := sIf_skip (by rw [ht, hq])
      show forF (bodyW g) (.nm 4) (VV.int (s : Int) :: iV ss) _ _ = _
      refine (forF_next (i := 4) (x := VV.int (s : Int)) (xs := iV ss) (E := eW7 l m x2 (some (.lst 0)) x4) hb).trans (e.trans ?_)
      rw [List.filter_cons_of_neg (by rw [hq]; decide)]
    | true =>
      obtain ⟨y4, e⟩ := wit_loop hl hm hg (x2 := x2) ss (acc ++ [tup3 l m s]) (some (.int (s : Nat))) (fun s hs => h s (.tail _ hs)) (by rw [List.length_append]; simp only [List.length_cons, List.length_nil]; omega)
      refine ⟨y4, ?_⟩
      have hb : bodyW g (eW7 l m x2 (some (.lst 0)) (some (.int (s : Nat)))) [.list acc] = some (.next, eW7 l m x2 (some (.lst 0)) (some (.int (s : Nat))), [.list (acc ++ [tup3 l m s])]) := by
        refine (sIf_go (by rw [ht, hq])).trans ?_
        have htup : dTup [(dV 4), (dMeth 76 "indent_level" (gP (gInd 76)) (dV 0) [(dV 4)]), (dMeth 76 "indent_level" (gP (gInd 76)) (dV 1) [(dV 4)])] (eW7 l m x2 (some (.lst 0)) (some (.int (s : Nat)))) [.list acc] = some (tup3 l m s) := by
          unfold dTup
          simp only [evs, i0, i1, Option.bind_some, Option.map_some]
          rfl
        unfold sApp
        rw [show dV 3 (eW7 l m x2 (some (.lst 0)) (some (.int (s : Nat)))) [.list acc] = some (.lst 0) from rfl, Option.bind_some, htup, Option.bind_some, onList_at (xs := acc) (ys := acc ++ [tup3 l m s]) rfl (by rw [if_pos (by omega)])]
        rfl
      show forF (bodyW g) (.nm 4) (VV.int (s : Int) :: iV ss) _ _ = _
      refine (forF_next (i := 4) (x := VV.int (s : Int)) (xs := iV ss) (E := eW7 l m x2 (some (.lst 0)) x4) hb).trans (e.trans ?_)
      rw [List.filter_cons_of_pos (by rw [hq]), List.map_cons, List.append_assoc]
      rfl
noncomputable def sizes (n : Nat) : List Nat := (List.range n).map (· + 1)
theorem sizes_mem {n s : Nat} (h : s ∈ sizes n) : 1 ≤ s ∧ s ≤ n := by
  obtain ⟨i, hi, rfl⟩ := List.mem_map.mp h
  have := List.mem_range.mp hi
  omega
theorem mem_sizes {n s : Nat} (h1 : 1 ≤ s) (h2 : s ≤ n) : s ∈ sizes n := List.mem_map.mpr ⟨s - 1, List.mem_range.mpr (by omega), by omega⟩
theorem sizes_len (n : Nat) : (sizes n).length = n := by unfold sizes; rw [List.length_map, List.length_range]
theorem wit_run {l m : Txt} (hl : l.length ≤ 10) (hm : m.length ≤ 10) {g : VV → VV → Hp → Option Bool} {p : Nat → Nat → Bool} (hg : ∀ (x y : Nat) H, g (.int x) (.int y) H = some (p x y)) :
    gOf (sSeq (sAsg (.nm 2) (dBin (opI gAdd) (dCall gMax [(dMeth 76 "longest_run_of_spaces" (gP g_Whitespace_longest_run_of_spaces) (dV 0) []), (dMeth 76 "longest_run_of_spaces" (gP g_Whitespace_longest_run_of_spaces) (dV 1) [])]) (dI 1)))
    (sSeq (sAsgL 3 (evs []))
    (sSeq (sFor (.nm 4) (dIt (dCall gRange [(dI 1), (dBin (opI gAdd) (dV 2) (dI 1))])) (bodyW g))
    (sRet (dV 3))))) [0, 1] 7 2 [wsV 76 l, wsV 76 m] = some (.lv (((sizes (nW l m)).filter fun s => p (colT l s) (colT m s)).map (tup3 l m))) := by
  have hn := nW_facts l m hl hm
  obtain ⟨y4, e⟩ := wit_loop hl hm hg (x2 := some (.int (nW l m : Nat))) (sizes (nW l m)) [] none (fun s hs => by have := sizes_mem hs; omega) (by rw [sizes_len]; simp; omega)
  have run : RetH (sSeq (sAsg (.nm 2) (dBin (opI gAdd) (dCall gMax [(dMeth 76 "longest_run_of_spaces" (gP g_Whitespace_longest_run_of_spaces) (dV 0) []), (dMeth 76 "longest_run_of_spaces" (gP g_Whitespace_longest_run_of_spaces) (dV 1) [])]) (dI 1)))
    (sSeq (sAsgL 3 (evs []))
    (sSeq (sFor (.nm 4) (dIt (dCall gRange [(dI 1), (dBin (opI gAdd) (dV 2) (dI 1))])) (bodyW g))
    (sRet (dV 3))))) (bindE [0, 1] 7 [wsV 76 l, wsV 76 m]) [] (.lst 0) [.list (((sizes (nW l m)).filter fun s => p (colT l s) (colT m s)).map (tup3 l m))] := by
    refine RetH.seq (E1 := eW7 l m (some (.int (nW l m : Nat))) none none) (H1 := []) (sAsg_at (nW_at rfl rfl hl hm)) ?_
    refine RetH.seq (E1 := eW7 l m (some (.int (nW l m : Nat))) (some (.lst 0)) none) (H1 := [.list []]) ((sAsgL_at (xs := []) rfl).trans rfl) ?_
    rw [List.nil_append] at e
    exact RetH.seq ((sFor_at (range_places (f := dV 2) (nW l m) (by omega) rfl)).trans e) ⟨_, sRet_at rfl⟩
  obtain ⟨E', h⟩ := run
  refine gOf_ret rfl h ?_
  show (frzL (frz 7 _) (((sizes (nW l m)).filter fun s => p (colT l s) (colT m s)).map (tup3 l m))).map VV.lv = _
  rw [frz_tup3 (k := 5)]
  rfl
theorem cmNe_nat (x y : Nat) (H : Hp) : cmNe (.int x) (.int y) H = some (decide (x ≠ y)) := by
  show some (!decide ((x : Int) = (y : Int))) = _
  congr 1
  by_cases h : x = y
  · subst h; simp
  · rw [decide_eq_false (show ¬ (x : Int) = (y : Int) by omega), decide_eq_true h]; rfl
theorem cmGe_nat (x y : Nat) (H : Hp) : cmI (fun a b => decide (b ≤ a)) (.int x) (.int y) H = some (decide (y ≤ x)) := by
  show some (decide ((y : Int) ≤ (x : Int))) = _
  congr 1
  rw [Bool.eq_iff_iff, decide_eq_true_iff, decide_eq_true_iff]; omega
theorem new_at {l m : Txt} (hl : l.length ≤ 10) (hm : m.length ≤ 10) : g_Whitespace_not_equal_witness [wsV 76 l, wsV 76 m] = some (.lv (((sizes (nW l m)).filter fun s => decide (colT l s ≠ colT m s)).map (tup3 l m))) := wit_run hl hm (g := cmNe) (p := fun x y => decide (x ≠ y)) cmNe_nat
theorem nlw_at {l m : Txt} (hl : l.length ≤ 10) (hm : m.length ≤ 10) : g_Whitespace_not_less_witness [wsV 76 l, wsV 76 m] = some (.lv (((sizes (nW l m)).filter fun s => decide (colT m s ≤ colT l s)).map (tup3 l m))) := wit_run hl hm (p := fun x y => decide (y ≤ x)) cmGe_nat
end Mine
namespace Mine
-- less
noncomputable def bodyL : StF := (sIf (tCmp (cmI fun a b => decide (b ≤ a)) (dMeth 76 "indent_level" (gP (gInd 76)) (dV 0) [(dV 3)]) (dMeth 76 "indent_level" (gP (gInd 76)) (dV 1) [(dV 3)])) (sRet (dB false)) sNil)
noncomputable def eL6 (l m : Txt) (x2 x3 : Option VV) : Lo := [some (wsV 76 l), some (wsV 76 m), x2, x3, none, none]
theorem less_loop {l m : Txt} (hl : l.length ≤ 10) (hm : m.length ≤ 10) {x2 : Option VV} : ∀ (ss : List Nat) (x3 : Option VV), (∀ s ∈ ss, 1 ≤ s ∧ s ≤ 20) →
    ∃ y3, forF bodyL (.nm 3) (iV ss) (eL6 l m x2 x3) [] = some (if ss.all (fun s => decide (colT l s < colT m s)) = true then .next else .ret (.bool false), eL6 l m x2 y3, [])
  | [], x3, _ => ⟨x3, rfl⟩
  | s :: ss, x3, h => by
    have hs := h s (.head _)
    have i0 : dMeth 76 "indent_level" (gP (gInd 76)) (dV 0) [(dV 3)] (eL6 l m x2 (some (.int (s : Nat)))) [] = some (.int ((colT l s : Nat) : Int)) := ind_m rfl rfl hl hs.1 hs.2
    have i1 : dMeth 76 "indent_level" (gP (gInd 76)) (dV 1) [(dV 3)] (eL6 l m x2 (some (.int (s : Nat)))) [] = some (.int ((colT m s : Nat) : Int)) := ind_m rfl rfl hm hs.1 hs.2
    have ht := (tCmp_at (g := cmI fun a b => decide (b ≤ a)) i0 i1).trans (cmGe_nat _ _ _)
    by_cases hq : colT l s < colT m s
    · obtain ⟨y3, e⟩ := less_loop hl hm (x2 := x2) ss (some (.int (s : Nat))) fun s hs => h s (.tail _ hs)
      refine ⟨y3, ?_⟩
      have hb : bodyL (eL6 l m x2 (some (.int (s : Nat)))) [] = some (.next, eL6 l m x2 (some (.int (s : Nat))), []) := sIf_skip (by rw [ht, decide_eq_false (Nat.not_le.mpr hq)])
      show forF bodyL (.nm 3) (VV.int (s : Int) :: iV ss) _ _ = _
      refine (forF_next (i := 3) (x := VV.int (s : Int)) (xs := iV ss) (E := eL6 l m x2 x3) hb).trans (e.trans ?_)
      rw [List.all_cons, decide_eq_true hq, Bool.true_and]
    · refine ⟨some (.int (s : Nat)), ?_⟩
      have hb : bodyL (eL6 l m x2 (some (.int (s : Nat)))) [] = some (.ret (.bool false), eL6 l m x2 (some (.int (s : Nat))), []) := (sIf_go (by rw [ht, decide_eq_true (Nat.le_of_not_lt hq)])).trans (sRet_at rfl)
      show forF bodyL (.nm 3) (VV.int (s : Int) :: iV ss) _ _ = _
      refine (forF_ret (i := 3) (x := VV.int (s : Int)) (xs := iV ss) (E := eL6 l m x2 x3) hb).trans ?_
      rw [List.all_cons, decide_eq_false hq, Bool.false_and, if_neg (by decide)]
theorem range2_at (b : Nat) (hb : b ≤ 1000) {f : EvF} {E : Lo} {H : Hp} (h : f E H = some (.int (b : Nat))) : dIt (dCall gRange [(dI 2), (dBin (opI gAdd) f (dI 1))]) E H = some (iV ((List.range (b - 1)).map (· + 2))) := by
  unfold dIt
  rw [dCall2 (x := .int 2) (y := .int ((b : Int) + 1)) rfl (add_at h rfl)]
  have hg : gRange [.int 2, .int ((b : Int) + 1)] H = some (.rng 2 ((b : Int) + 1) 1) := rfl
  rw [hg, Option.bind_some, ← iterMu_rng, iter_rng (H := H) (by omega) (by omega) (by omega) (by omega), rngL_at, show ((b : Int) + 1 - 2).toNat = b - 1 by omega, iV_eq, List.map_map, List.map_map, List.map_map]
  congr 1
  refine List.map_congr_left fun k _ => ?_
  show VV.int (2 + (k : Int)) = VV.int ((k + 2 : Nat) : Int)
  rw [show ((k + 2 : Nat) : Int) = 2 + (k : Int) by omega]
theorem ws_fields (l : Txt) : wsV 76 l = .inst 76 (wsFs l (cntL l) (rT l) (colT l 1) (rA l).length) := by
  obtain ⟨h1, h2, h3, h4⟩ := wsGo_X l [] 0 0 0
  have h2' : (wsGo l [] 0 0 0).2.1 = rT l := h2
  have h3' : (wsGo l [] 0 0 0).2.2.1 = colT l 1 := by
    have : (wsGo l [] 0 0 0).2.2.1 + 0 = 0 + (rA l).sum + rT l + (rA l).length := h3
    rw [colT, col_one]; omega
  have h4' : (wsGo l [] 0 0 0).2.2.2 = (rA l).length := by
    have : (wsGo l [] 0 0 0).2.2.2 = 0 + (rA l).length := h4
    omega
  unfold wsV
  rw [cnt_eq, h2', h3', h4']
theorem cntL_len (l : Txt) : (cntL l).length = mx (rA l) := by unfold cntL; rw [List.length_map, List.length_range]
noncomputable def allLess (l m : Txt) : Bool := (sizes (nW l m + 1)).all fun s => decide (colT l s < colT m s)
theorem allLess_iff (l m : Txt) : allLess l m = true ↔ lessC (rA l) (rT l) (rA m) (rT m) (nW l m + 1) := by
  unfold allLess lessC
  rw [List.all_eq_true]
  constructor
  · intro h s h1 h2
    exact of_decide_eq_true (h s (mem_sizes h1 h2))
  · intro h s hs
    have := sizes_mem hs
    exact decide_eq_true (h s this.1 this.2)
theorem less_at {l m : Txt} (hl : l.length ≤ 10) (hm : m.length ≤ 10) : g_Whitespace_less [wsV 76 l, wsV 76 m] = some (.bool (allLess l m)) := by
  have hn := nW_facts l m hl hm
  have go : ∀ v, RetH F_Whitespace_less (bindE [0, 1] 6 [wsV 76 l, wsV 76 m]) [] (.bool v) [] → v = allLess l m → g_Whitespace_less [wsV 76 l, wsV 76 m] = some (.bool (allLess l m)) := fun v ⟨E', h⟩ e => by
    rw [← e]
    exact gOf_ret rfl h rfl
  have t0 : tCmp (cmI fun a b => decide (b ≤ a)) (dUn (gAttr 76 "n") (dV 0)) (dUn (gAttr 76 "n") (dV 1)) (eL6 l m none none) [] = some (decide (colT m 1 ≤ colT l 1)) := by
    refine (tCmp_at (x := .int ((colT l 1 : Nat) : Int)) (y := .int ((colT m 1 : Nat) : Int)) ?_ ?_).trans (cmGe_nat _ _ _)
    · show dUn (gAttr 76 "n") (dV 0) [some (wsV 76 l), some (wsV 76 m), none, none, none, none] [] = _
      rw [ws_fields l]; rfl
    · show dUn (gAttr 76 "n") (dV 1) [some (wsV 76 l), some (wsV 76 m), none, none, none, none] [] = _
      rw [ws_fields m]; rfl
  have ts0 : tE (dUn (gAttr 76 "is_simple") (dV 0)) (eL6 l m none none) [] = some (decide (mx (rA l) ≤ 1)) := by
    rw [← cntL_len]
    show tE (dUn (gAttr 76 "is_simple") (dV 0)) [some (wsV 76 l), some (wsV 76 m), none, none, none, none] [] = _
    rw [ws_fields l]; rfl
  have ts1 : tE (dUn (gAttr 76 "is_simple") (dV 1)) (eL6 l m none none) [] = some (decide (mx (rA m) ≤ 1)) := by
    rw [← cntL_len]
    show tE (dUn (gAttr 76 "is_simple") (dV 1)) [some (wsV 76 l), some (wsV 76 m), none, none, none, none] [] = _
    rw [ws_fields m]; rfl
  by_cases h1 : colT m 1 ≤ colT l 1
  · refine go false ?_ ?_
    · show RetH (sSeq _ _) (eL6 l m none none) [] _ _
      exact ⟨_, sSeq_r ((sIf_go (by rw [t0, decide_eq_true h1])).trans (sRet_at rfl))⟩
    · cases q : allLess l m with
      | false => rfl
      | true =>
        exact absurd ((allLess_iff l m).mp q 1 (Nat.le_refl _) (Nat.le_add_left 1 _)) (Nat.not_lt.mpr h1)
  · have c0 : tCmp (cmI fun a b => decide (b ≤ a)) (dUn (gAttr 76 "n") (dV 0)) (dUn (gAttr 76 "n") (dV 1)) (eL6 l m none none) [] = some false := by rw [t0, decide_eq_false h1]
    by_cases h2 : mx (rA l) ≤ 1 ∧ mx (rA m) ≤ 1
    · refine go (decide ((rA l).length ≤ (rA m).length)) ?_ ?_
      · show RetH (sSeq _ _) (eL6 l m none none) [] _ _
        refine RetH.seq (sIf_skip c0) ⟨_, sSeq_r ((sIf_go (tAnd_go (by rw [ts0, decide_eq_true h2.1]) (tAnd_one (by rw [ts1, decide_eq_true h2.2])))).trans (sRet_at (dCmp_at (x := .int ((rA l).length : Nat)) (y := .int ((rA m).length : Nat)) ?_ ?_ ?_)))⟩
        · show dUn (gAttr 76 "nt") (dV 0) [some (wsV 76 l), some (wsV 76 m), none, none, none, none] [] = _
          rw [ws_fields l]; rfl
        · show dUn (gAttr 76 "nt") (dV 1) [some (wsV 76 l), some (wsV 76 m), none, none, none, none] [] = _
          rw [ws_fields m]; rfl
        · show some (decide (((rA l).length : Int) ≤ ((rA m).length : Int))) = _
          congr 1
          rw [Bool.eq_iff_iff, decide_eq_true_iff, decide_eq_true_iff]; exact Int.ofNat_le
      · rw [Bool.eq_iff_iff, decide_eq_true_iff, allLess_iff]
        exact (less_simple h2.1 h2.2 (Nat.succ_le_succ (Nat.le_of_lt hn.2.2.1)) (Nat.succ_le_succ (Nat.le_of_lt hn.2.2.2.1)) (Nat.lt_of_not_le h1)).symm
    · have ta : tAnd [(tE (dUn (gAttr 76 "is_simple") (dV 0))), (tE (dUn (gAttr 76 "is_simple") (dV 1)))] (eL6 l m none none) [] = some false := by
        by_cases h3 : mx (rA l) ≤ 1
        · exact tAnd_go (by rw [ts0, decide_eq_true h3]) (tAnd_one (by rw [ts1, decide_eq_false fun q => h2 ⟨h3, q⟩]))
        · exact tAnd_no (by rw [ts0, decide_eq_false h3])
      obtain ⟨y3, e⟩ := less_loop hl hm (x2 := some (.int (nW l m : Nat))) ((List.range (nW l m - 1)).map (· + 2)) none (fun s hs => by
        obtain ⟨i, hi, rfl⟩ := List.mem_map.mp hs
        have := List.mem_range.mp hi
        omega)
      have key : allLess l m = ((List.range (nW l m - 1)).map (· + 2)).all fun s => decide (colT l s < colT m s) := by
        rw [Bool.eq_iff_iff, allLess_iff, List.all_eq_true]
        constructor
        · intro h s hs
          obtain ⟨i, hi, rfl⟩ := List.mem_map.mp hs
          have := List.mem_range.mp hi
          exact decide_eq_true (h _ (by omega) (by omega))
        · intro h
          have mid : ∀ s, 1 ≤ s → s ≤ nW l m → colT l s < colT m s := fun s a b => by
            by_cases q : s = 1
            · rw [q]; exact Nat.lt_of_not_le h1
            · exact of_decide_eq_true (h s (List.mem_map.mpr ⟨s - 2, List.mem_range.mpr (by omega), by omega⟩))
          intro s a b
          by_cases q : s ≤ nW l m
          · exact mid s a q
          · rw [show s = nW l m + 1 by omega]
            exact less_last hn.1 hn.2.1 hn.2.2.1 hn.2.2.2.1 (mid (nW l m) (Nat.le_trans (Nat.succ_le_succ (Nat.zero_le _)) hn.2.2.1) (Nat.le_refl _))
      refine go (allLess l m) ?_ rfl
      show RetH (sSeq _ (sSeq _ (sSeq _ (sSeq (sFor (.nm 3) _ bodyL) _)))) (eL6 l m none none) [] _ _
      refine RetH.seq (sIf_skip c0) (RetH.seq (sIf_skip ta) (RetH.seq (E1 := eL6 l m (some (.int (nW l m : Nat))) none) (H1 := []) (sAsg_at (nW_at rfl rfl hl hm)) ?_))
      have eF := (sFor_at (tg := .nm 3) (body := bodyL) (range2_at (f := dV 2) (E := eL6 l m (some (.int (nW l m : Nat))) none) (H := []) (nW l m) (Nat.le_trans hn.2.2.2.2 (by decide)) rfl)).trans e
      rw [← key] at eF
      cases q : allLess l m with
      | true =>
        rw [q, if_pos rfl] at eF
        exact RetH.seq eF ⟨_, sRet_at rfl⟩
      | false =>
        rw [q, if_neg (by decide)] at eF
        exact ⟨_, sSeq_r eF⟩
-- equal
noncomputable def allEq (l m : Txt) : Bool := (sizes (nW l m + 1)).all fun s => decide (colT l s = colT m s)
theorem equal_at {l m : Txt} (hl : l.length ≤ 10) (hm : m.length ≤ 10) : g_Whitespace_equal [wsV 76 l, wsV 76 m] = some (.bool (allEq l m)) := by
  have hn := nW_facts l m hl hm
  have key : (decide (cntL l = cntL m) && decide (rT l = rT m)) = allEq l m := by
    rw [Bool.eq_iff_iff, Bool.and_eq_true, decide_eq_true_iff, decide_eq_true_iff]
    unfold allEq
    rw [List.all_eq_true]
    have hc : ∀ l, cntL l = (rA l).foldl bump [] := fun l => by rw [counts_eq]; rfl
    rw [hc, hc]
    refine (equal_iff hn.1 hn.2.1 hn.2.2.1 hn.2.2.2.1).trans ?_
    constructor
    · intro h s hs
      have := sizes_mem hs
      exact decide_eq_true (h s this.1 this.2)
    · intro h s h1 h2
      exact of_decide_eq_true (h s (mem_sizes h1 h2))
  have run : F_Whitespace_equal (bindE [0, 1] 2 [wsV 76 l, wsV 76 m]) [] = some (.ret (.bool (allEq l m)), [some (wsV 76 l), some (wsV 76 m)], []) := by
    unfold F_Whitespace_equal
    refine sRet_at (dCmp_at (x := .tup [.tup (iV (cntL l)), .int (rT l : Nat)]) (y := .tup [.tup (iV (cntL m)), .int (rT m : Nat)]) ?_ ?_ ?_)
    · show dUn (gAttr 76 "norm") (dV 0) [some (wsV 76 l), some (wsV 76 m)] [] = _
      rw [ws_fields l]; rfl
    · show dUn (gAttr 76 "norm") (dV 1) [some (wsV 76 l), some (wsV 76 m)] [] = _
      rw [ws_fields m]; rfl
    · rw [cmEq_norm, key]
  exact gOf_ret rfl run rfl
-- lists of triples
noncomputable def tupP (l m : Txt) (s : Nat) : PyData := .tuple [.int (s : Nat), .int (colT l s : Nat), .int (colT m s : Nat)]
theorem pys_tups (l m : Txt) : ∀ ss : List Nat, pys (ss.map (tup3 l m)) = some (ss.map (tupP l m))
  | [] => rfl
  | s :: ss => by
    show (some (tupP l m s)).bind _ = _
    rw [Option.bind_some, pys_tups l m ss]
    rfl
theorem shaped_tups (l m : Txt) (ss : List Nat) : SeqAt.shaped (.list (ss.map (tupP l m))) = true := by
  unfold SeqAt.shaped
  have h1 : (PyData.list (ss.map (tupP l m))).canLay0 = true := by
    show PyData.canLayAll0 (ss.map (tupP l m)) = true
    induction ss with
    | nil => rfl
    | cons a ss ih =>
      rw [List.map_cons]
      show ((tupP l m a).canLay0 && PyData.canLayAll0 (ss.map (tupP l m))) = true
      rw [ih]; rfl
  have h2 : (PyData.list (ss.map (tupP l m))).depth ≤ 64 := by
    have : PyData.depthAll (ss.map (tupP l m)) ≤ 1 := by
      clear h1
      induction ss with
      | nil => exact Nat.zero_le _
      | cons a ss ih =>
        rw [List.map_cons]
        show max ((tupP l m a).depth) (PyData.depthAll (ss.map (tupP l m))) ≤ 1
        have : (tupP l m a).depth = 1 := rfl
        omega
    show PyData.depthAll (ss.map (tupP l m)) + 1 ≤ 64
    omega
  rw [h1]
  simpa using h2
theorem eqv_tupP (l m : Txt) (s : Nat) : PyData.eqv (tupP l m s) (tupP l m s) = true := by
  show ((s : Int) == (s : Int) && ((colT l s : Int) == (colT l s : Int) && ((colT m s : Int) == (colT m s : Int) && true))) = true
  simp
theorem eqvAll_tups (l m : Txt) : ∀ ss : List Nat, PyData.eqvAll (ss.map (tupP l m)) (ss.map (tupP l m)) = true
  | [] => by simp [PyData.eqvAll]
  | s :: ss => by
    show (PyData.eqv (tupP l m s) (tupP l m s) && PyData.eqvAll (ss.map (tupP l m)) (ss.map (tupP l m))) = true
    rw [eqv_tupP, eqvAll_tups l m ss]; rfl
theorem cmNe_tups (l m : Txt) (ss : List Nat) (H : Hp) : cmNe (.lv (ss.map (tup3 l m))) (.lv (ss.map (tup3 l m))) H = some false := by
  show ((((pys (ss.map (tup3 l m))).map PyData.list).bind fun x => ((pys (ss.map (tup3 l m))).map PyData.list).bind fun y => if SeqAt.shaped x = true ∧ SeqAt.shaped y = true then some (PyData.eqv x y) else none)).map not = _
  rw [pys_tups]
  show (if SeqAt.shaped (.list (ss.map (tupP l m))) = true ∧ SeqAt.shaped (.list (ss.map (tupP l m))) = true then some (PyData.eqvAll (ss.map (tupP l m)) (ss.map (tupP l m))) else none).map not = _
  rw [if_pos ⟨shaped_tups l m ss, shaped_tups l m ss⟩, eqvAll_tups]
  rfl
theorem cmEq_tups_nil (l m : Txt) (ss : List Nat) (H : Hp) : cmEq (.lv (ss.map (tup3 l m))) (.lv []) H = some ss.isEmpty := by
  show (((pys (ss.map (tup3 l m))).map PyData.list).bind fun x => ((pys []).map PyData.list).bind fun y => if SeqAt.shaped x = true ∧ SeqAt.shaped y = true then some (PyData.eqv x y) else none) = _
  rw [pys_tups]
  show (if SeqAt.shaped (.list (ss.map (tupP l m))) = true ∧ SeqAt.shaped (.list []) = true then some (PyData.eqvAll (ss.map (tupP l m)) []) else none) = _
  rw [if_pos ⟨shaped_tups l m ss, shaped_tups l m []⟩]
  cases ss with
  | nil => simp [PyData.eqvAll]
  | cons s ss => simp [PyData.eqvAll]
end Mine
namespace Mine
theorem addS_at {fa fb : EvF} {E : Lo} {H : Hp} {a b : Txt} (ha : fa E H = some (.str a)) (hb : fb E H = some (.str b)) (hl : a.length + b.length ≤ 1000000) : dBin opAddS fa fb E H = some (.str (a ++ b)) := by
  refine (dBin_at ha hb).trans ?_
  show (if a.length + b.length ≤ 16777216 then some (VV.str (a ++ b)) else none) = _
  rw [if_pos (by omega)]
theorem rep_one (n : Nat) : (List.replicate n [32]).flatten = List.replicate n 32 := by
  induction n with
  | zero => rfl
  | succ n ih => rw [List.replicate_succ, List.flatten_cons, ih]; rfl
theorem mulS_at {f : EvF} {E : Lo} {H : Hp} {n : Nat} (h : f E H = some (.int (n : Nat))) (hn : n ≤ 1000) : dBin opMulS (dS [32]) f E H = some (.str (List.replicate n 32)) := by
  refine (dBin_at (x := .str [32]) rfl h).trans ?_
  show (if [32].length * (n : Int).toNat ≤ 1000000 ∧ (n : Int) ≤ 1000000 ∧ -1000000 ≤ (n : Int) then some (VV.str (List.replicate (n : Int).toNat [32]).flatten) else none) = _
  rw [if_pos ⟨by show 1 * _ ≤ _; omega, by omega, by omega⟩, Int.toNat_natCast, rep_one]
theorem join_at {f : EvF} {E : Lo} {H : Hp} {ts : List Txt} (h : f E H = some (.lv (ts.map .str))) (hs : (ts.map (·.length)).sum + ts.length ≤ 100000) : dUn gJoin f E H = some (.str ts.flatten) := by
  refine (dUn_at h).trans ?_
  show ((some (ts.map VV.str)).bind fun xs => (asStrs xs).bind fun ns => if (ns.map (·.length)).sum + ns.length ≤ 1048576 then some (VV.str ns.flatten) else none) = _
  have hs' : (List.map (fun x : List Nat => x.length) ts).sum + ts.length ≤ 1048576 := Nat.le_trans hs (by decide)
  rw [Option.bind_some, asStrs_map, Option.bind_some, if_pos hs']
-- _law_line
noncomputable def sg (k : Int) : Nat := [32, 32, 9, 32, 32, 9, 32, 32, 32, 9, 32, 32, 9, 32, 9, 120].getD (k.fmod 16).toNat 0
theorem sg_cases (r : Nat) (h : r < 16) : (opIdx (.str [32, 32, 9, 32, 32, 9, 32, 32, 32, 9, 32, 32, 9, 32, 9, 120]) (.int (r : Nat)) [] = some (.str [[32, 32, 9, 32, 32, 9, 32, 32, 32, 9, 32, 32, 9, 32, 9, 120].getD r 0])) ∧ ([32, 32, 9, 32, 32, 9, 32, 32, 32, 9, 32, 32, 9, 32, 9, 120].getD r 0 = 32 ∨ [32, 32, 9, 32, 32, 9, 32, 32, 32, 9, 32, 32, 9, 32, 9, 120].getD r 0 = 9 ∨ [32, 32, 9, 32, 32, 9, 32, 32, 32, 9, 32, 32, 9, 32, 9, 120].getD r 0 = 120) := by
  match r, h with
  | 0, _ => exact ⟨rfl, .inl rfl⟩
  | 1, _ => exact ⟨rfl, .inl rfl⟩
  | 2, _ => exact ⟨rfl, .inr (.inl rfl)⟩
  | 3, _ => exact ⟨rfl, .inl rfl⟩
  | 4, _ => exact ⟨rfl, .inl rfl⟩
  | 5, _ => exact ⟨rfl, .inr (.inl rfl)⟩
  | 6, _ => exact ⟨rfl, .inl rfl⟩
  | 7, _ => exact ⟨rfl, .inl rfl⟩
  | 8, _ => exact ⟨rfl, .inl rfl⟩
  | 9, _ => exact ⟨rfl, .inr (.inl rfl)⟩
  | 10, _ => exact ⟨rfl, .inl rfl⟩
  | 11, _ => exact ⟨rfl, .inl rfl⟩
  | 12, _ => exact ⟨rfl, .inr (.inl rfl)⟩
  | 13, _ => exact ⟨rfl, .inl rfl⟩
  | 14, _ => exact ⟨rfl, .inr (.inl rfl)⟩
  | 15, _ => exact ⟨rfl, .inr (.inr rfl)⟩
  | n + 16, h => exact absurd h (by omega)
theorem sg_at (k : Int) : ∃ r : Nat, r < 16 ∧ k.fmod 16 = (r : Int) ∧ sg k = [32, 32, 9, 32, 32, 9, 32, 32, 32, 9, 32, 32, 9, 32, 9, 120].getD r 0 := by
  have m1 := fmod_pos k (show (0 : Int) < 16 by decide)
  have m2 := Int.fmod_lt_of_pos k (show (0 : Int) < 16 by decide)
  exact ⟨(k.fmod 16).toNat, by omega, by omega, rfl⟩
theorem singles (l : Txt) : (l.map fun c => [c]).flatten = l := by
  induction l with
  | nil => rfl
  | cons c l ih => rw [List.map_cons, List.flatten_cons, ih]; rfl
theorem line_at {B : List Int} (hB : B.length ≤ 100) : g_law_line [.lv (B.map .int)] = some (.str (B.map sg)) := by
  have it : dItM (dV 0) [some (.lv (B.map .int))] [] = some (B.map .int) := itM_list rfl (by rw [List.length_map]; omega)
  have cm : dF (dCompL [none, none] ⟨.nm 1, dItM (dV 0), []⟩ [] (dBin opIdx (dS [32, 32, 9, 32, 32, 9, 32, 32, 32, 9, 32, 32, 9, 32, 9, 120]) (dBin (opI gMod) (dV 1) (dI 16)))) [some (.lv (B.map .int))] [] = some (.lv (((B.map sg).map fun c => [c]).map .str)) := by
    refine dF_at ((comp_map (P := fun E => ∃ y, E = [none, y]) (fun x => match x with | .int k => .str [sg k] | x => x) it ⟨none, rfl⟩ (fun x hx E hE => ?_) (by rw [List.length_map]; omega)).trans (by rw [List.map_map, List.map_map, List.map_map]; rfl))
    obtain ⟨y, rfl⟩ := hE
    obtain ⟨k, _, rfl⟩ := List.mem_map.mp hx
    refine ⟨_, rfl, ⟨_, rfl⟩, ?_⟩
    obtain ⟨r, hr, e1, e2⟩ := sg_at k
    refine (dBin_at (x := .str [32, 32, 9, 32, 32, 9, 32, 32, 32, 9, 32, 32, 9, 32, 9, 120]) rfl (mod_at (a := k) (b := 16) rfl rfl (by decide))).trans ?_
    rw [e1, (sg_cases r hr).1]
    show some (VV.str [_]) = some (VV.str [sg k])
    rw [e2]
  have run : F_law_line (bindE [0] 1 [.lv (B.map .int)]) [] = some (.ret (.str (B.map sg)), [some (.lv (B.map .int))], []) := by
    unfold F_law_line
    refine sRet_at ((join_at cm ?_).trans (by rw [singles]))
    have : ∀ l : Txt, ((l.map fun c => [c]).map (·.length)).sum = l.length := fun l => by
      induction l with
      | nil => rfl
      | cons c l ih => rw [List.map_cons, List.map_cons, List.sum_cons, ih, List.length_cons]; simp; omega
    rw [this]
    simp only [List.length_map]
    omega
  exact gOf_ret rfl run rfl
theorem line_sgn (B : List Int) : sgn3 (B.map sg) := fun c hc => by
  obtain ⟨k, _, rfl⟩ := List.mem_map.mp hc
  obtain ⟨r, hr, _, e2⟩ := sg_at k
  rw [e2]
  exact (sg_cases r hr).2
-- slices
theorem zs_even {α : Type} (l : List α) (i : Nat) (hi : i ≤ 1) (hl : l.length ≤ 20) : (zslice l (some (i : Int)) none (some 2)).length ≤ 10 := by
  unfold zslice
  refine Nat.le_trans (List.length_filterMap_le _ _) ?_
  have e : sliceBounds (some (i : Int)) none (some 2) l.length = (((min i l.length : Nat) : Int), (l.length : Int), 2) := by
    have h : ¬ (i : Int) < 0 := Int.not_lt.mpr (Int.natCast_nonneg i)
    show ((if (2 : Int) > 0 then max 0 (min (if (i : Int) < 0 then (i : Int) + l.length else i) (l.length : Int)) else _), (l.length : Int), (2 : Int)) = _
    rw [if_pos (by decide), if_neg h, clip_nat]
  rw [e]
  unfold sliceRange
  dsimp only
  rw [List.length_map, List.length_range, if_pos (by decide)]
  split <;> omega
theorem filterMap_same {α β : Type} {f g : α → Option β} : ∀ {l : List α}, (∀ x ∈ l, f x = g x) → l.filterMap f = l.filterMap g
  | [], _ => rfl
  | a :: l, h => by rw [List.filterMap_cons, List.filterMap_cons, h a (.head _), filterMap_same fun x hx => h x (.tail _ hx)]
theorem zs_rev {α : Type} (l : List α) : zslice l none none (some (-1)) = l.reverse := by
  have e : sliceBounds none none (some (-1)) l.length = ((l.length : Int) - 1, -1, -1) := rfl
  have hc : sliceRange ((l.length : Int) - 1) (-1) (-1) = (List.range l.length).map fun k => l.length - 1 - k := by
    unfold sliceRange
    dsimp only
    rw [if_neg (by decide)]
    have : (if (l.length : Int) - 1 > -1 then ((l.length : Int) - 1 - (-1) - (-1) - 1) / (-(-1)) else 0) = (l.length : Int) := by
      rw [show (-(-1) : Int) = 1 from rfl, Int.ediv_one]
      split <;> omega
    rw [this, Int.toNat_natCast]
    refine List.map_congr_left fun k hk => ?_
    have := List.mem_range.mp hk
    omega
  unfold zslice
  rw [e]
  dsimp only
  rw [hc, List.filterMap_map]
  have h2 := range_filterMap l.reverse l.length (by rw [List.length_reverse]; exact Nat.le_refl _)
  rw [List.take_of_length_le (by rw [List.length_reverse]; exact Nat.le_refl _)] at h2
  rw [← h2]
  refine filterMap_same fun k hk => ?_
  have := List.mem_range.mp hk
  show l[l.length - 1 - k]? = l.reverse[k]?
  rw [List.getElem?_reverse this]
-- the second line of its own
noncomputable def turnT (a : List Nat) (t : Nat) : Txt := (a.reverse.map fun r => List.replicate r 32 ++ [9]).flatten ++ List.replicate t 32
theorem turn_len (a : List Nat) (t : Nat) : (turnT a t).length = a.sum + a.length + t := by
  have h : ∀ b : List Nat, ((b.map fun r => List.replicate r 32 ++ [9]).flatten).length = b.sum + b.length := fun b => by
    induction b with
    | nil => rfl
    | cons r b ih =>
      rw [List.map_cons, List.flatten_cons, List.length_append, ih, List.length_append, List.length_replicate, List.sum_cons, List.length_cons]
      simp only [List.length_cons, List.length_nil]
      omega
  have hs : a.reverse.sum = a.sum := by
    induction a with
    | nil => rfl
    | cons x a ih => rw [List.reverse_cons, List.sum_append, ih, List.sum_cons]; simp; omega
  unfold turnT
  rw [List.length_append, h, List.length_replicate, hs, List.length_reverse]
theorem turn_sgn (a : List Nat) (t : Nat) : sgn3 (turnT a t) := fun c hc => by
  unfold turnT at hc
  rcases List.mem_append.mp hc with h | h
  · obtain ⟨x, hx, hc⟩ := List.mem_flatten.mp h
    obtain ⟨r, _, rfl⟩ := List.mem_map.mp hx
    rcases List.mem_append.mp hc with h | h
    · exact .inl (List.eq_of_mem_replicate h)
    · exact .inr (.inl (List.mem_singleton.mp h))
  · exact .inl (List.eq_of_mem_replicate h)
theorem turn_at {E : Lo} {a : List Nat} {t : Nat} (h : dV 4 E [] = some (.lv (iV (a ++ [t])))) (hl : a.sum + a.length + t ≤ 100) :
    dBin opAddS (dUn gJoin (dF (dCompL [none, none] ⟨.nm 1, dItM (dSlice (dSlice (dV 4) none (some (dUn opNeg (dI 1))) none) none none (some (dUn opNeg (dI 1)))), []⟩ [] (dBin opAddS (dBin opMulS (dS [32]) (dV 1)) (dS [9]))))) (dBin opMulS (dS [32]) (dBin opIdx (dV 4) (dUn opNeg (dI 1)))) E [] = some (.str (turnT a t)) := by
  have hrev : dSlice (dSlice (dV 4) none (some (dUn opNeg (dI 1))) none) none none (some (dUn opNeg (dI 1))) E [] = some (.lv (iV a.reverse)) := by
    have := slice_at (f := fun k : Nat => VV.int (k : Int)) (l := a) (fl := none) (fu := none) (fs := some (dUn opNeg (dI 1))) (init_at h (by omega)) evp_none evp_none (evp_some (k := -1) rfl) (by decide) (by omega)
    rw [zs_rev] at this
    exact this
  have hb : ∀ r ∈ a, r ≤ 100 := fun r hr => by have := sum_le_all hr; omega
  have cm : dF (dCompL [none, none] ⟨.nm 1, dItM (dSlice (dSlice (dV 4) none (some (dUn opNeg (dI 1))) none) none none (some (dUn opNeg (dI 1)))), []⟩ [] (dBin opAddS (dBin opMulS (dS [32]) (dV 1)) (dS [9]))) E [] = some (.lv ((a.reverse.map fun r => List.replicate r 32 ++ [9]).map .str)) := by
    refine dF_at ((comp_map (P := fun E => ∃ y, E = [none, y]) (fun x => match x with | .int k => .str (List.replicate k.toNat 32 ++ [9]) | x => x) (itM_list hrev (by rw [List.length_map, List.length_reverse]; omega)) ⟨none, rfl⟩ (fun x hx E hE => ?_) (by rw [List.length_map, List.length_reverse]; omega)).trans (by rw [iV, List.map_map, List.map_map]; rfl))
    obtain ⟨y, rfl⟩ := hE
    obtain ⟨r, hr, rfl⟩ := List.mem_map.mp hx
    have := hb r (List.mem_reverse.mp hr)
    refine ⟨_, rfl, ⟨_, rfl⟩, ?_⟩
    exact addS_at (mulS_at (n := r) rfl (by omega)) rfl (by rw [List.length_replicate]; show _ + 1 ≤ _; omega)
  have hlen := turn_len a t
  have hsum : (((a.reverse.map fun r => List.replicate r 32 ++ [9])).map (·.length)).sum + (a.reverse.map fun r => List.replicate r 32 ++ [9]).length ≤ 100000 := by
    have : ∀ b : List Nat, ((b.map fun r => List.replicate r 32 ++ [9]).map (·.length)).sum = ((b.map fun r => List.replicate r 32 ++ [9]).flatten).length := fun b => by
      induction b with
      | nil => rfl
      | cons r b ih => rw [List.map_cons, List.map_cons, List.sum_cons, ih, List.flatten_cons, List.length_append, List.length_append, List.length_append]
    rw [this, List.length_map, List.length_reverse]
    unfold turnT at hlen
    rw [List.length_append] at hlen
    omega
  refine (addS_at (join_at cm hsum) (mulS_at (last_at h) (by omega)) ?_).trans rfl
  unfold turnT at hlen
  rw [List.length_append] at hlen
  omega
-- no empty columns
theorem pyI (l : List Nat) : py (.lv (iV l)) = some (.list ((l.map fun d : Nat => (d : Int)).map .int)) := by
  show (pys (iV l)).map PyData.list = _
  rw [iV_eq, pys_ints]; rfl
theorem lay_ints : ∀ l : List Int, PyData.canLayAll0 (l.map PyData.int) = true
  | [] => rfl
  | a :: l => by
    show (true && PyData.canLayAll0 (l.map PyData.int)) = true
    rw [lay_ints l]; rfl
theorem cmIn_no {a b : List Nat} (ha : a ≠ []) (hb : b ≠ []) (H : Hp) : cmIn (.lv []) (.lv [.lv (iV a), .lv (iV b)]) H = some false := by
  obtain ⟨x, a', rfl⟩ := List.exists_cons_of_ne_nil ha
  obtain ⟨y, b', rfl⟩ := List.exists_cons_of_ne_nil hb
  have e : pys [.lv (iV (x :: a')), .lv (iV (y :: b'))] = some [.list (((x :: a').map fun d : Nat => (d : Int)).map .int), .list (((y :: b').map fun d : Nat => (d : Int)).map .int)] := by
    show ((py (.lv (iV (x :: a')))).bind fun d => ((py (.lv (iV (y :: b')))).bind fun d2 => (some []).map fun ds => d2 :: ds).map fun ds => d :: ds) = _
    rw [pyI, pyI]; rfl
  have hlay : PyData.canLayAll0 [.list (((x :: a').map fun d : Nat => (d : Int)).map .int), .list (((y :: b').map fun d : Nat => (d : Int)).map .int)] = true := by
    show (PyData.canLayAll0 (((x :: a').map fun d : Nat => (d : Int)).map .int) && (PyData.canLayAll0 (((y :: b').map fun d : Nat => (d : Int)).map .int) && true)) = true
    rw [lay_ints, lay_ints]; rfl
  show (pys [.lv (iV (x :: a')), .lv (iV (y :: b'))]).bind (fun ds => if PyData.canLayAll0 ds = true ∧ PyData.canLay0 (.list []) = true ∧ PyData.depth (.list []) ≤ 20 then some (ds.any fun z => PyData.eqv z (.list [])) else none) = _
  rw [e, Option.bind_some, if_pos ⟨hlay, rfl, by decide⟩]
  show some (PyData.eqvAll (((x :: a').map fun d : Nat => (d : Int)).map .int) [] || (PyData.eqvAll (((y :: b').map fun d : Nat => (d : Int)).map .int) [] || false)) = _
  simp [PyData.eqvAll]
theorem gP_slii {g : List VV → Option VV} {s : Txt} {l : List Nat} {i j : Int} {H : Hp} : gP g [.str s, .lv (iV l), .int i, .int j] H = g [.str s, .lv (iV l), .int i, .int j] := by
  show (frzL (frz 8 []) [.str s, .lv (iV l), .int i, .int j]).bind g = _
  have h1 : frz 8 [] (.str s) = some (.str s) := rfl
  have h2 : ∀ i : Int, frz 8 [] (.int i) = some (.int i) := fun _ => rfl
  simp only [frzL, frz_lvI, h1, h2, Option.bind_some, Option.map_some]
end Mine
namespace Mine
noncomputable def bodyQ : StF := (sSeq (sAsgC 12 (dCompL [none, none, some 8, some 10, some 11] ⟨.nm 1, dItM (dCall gRange [(dI 1), (dBin (opI gAdd) (dV 7) (dI 1))]), []⟩ [] (dTup [(dV 1), (dBin opIdx (dBin opIdx (dV 2) (dV 3)) (dBin (opI gSub) (dV 1) (dI 1))), (dBin opIdx (dBin opIdx (dV 2) (dV 4)) (dBin (opI gSub) (dV 1) (dI 1)))])))
    (sSeq (sIf (tCmp cmIsNot (dMeth 76 "less" (gP g_Whitespace_less) (dBin opIdx (dV 9) (dV 10)) [(dBin opIdx (dV 9) (dV 11))]) (dCmp cmEq (dF (dCompL [none, none] ⟨.nm 1, dItM (dV 12), [(tCmp (cmI fun a b => decide (b ≤ a)) (dBin opIdx (dV 1) (dI 1)) (dBin opIdx (dV 1) (dI 2)))]⟩ [] (dV 1))) (dF (evs [])))) (sRet (dB false)) sNil)
    (sSeq (sIf (tCmp cmIsNot (dMeth 76 "equal" (gP g_Whitespace_equal) (dBin opIdx (dV 9) (dV 10)) [(dBin opIdx (dV 9) (dV 11))]) (dCmp cmEq (dF (dCompL [none, none] ⟨.nm 1, dItM (dV 12), [(tCmp cmNe (dBin opIdx (dV 1) (dI 1)) (dBin opIdx (dV 1) (dI 2)))]⟩ [] (dV 1))) (dF (evs [])))) (sRet (dB false)) sNil)
    (sSeq (sIf (tCmp cmNe (dMeth 76 "not_equal_witness" (gP g_Whitespace_not_equal_witness) (dBin opIdx (dV 9) (dV 10)) [(dBin opIdx (dV 9) (dV 11))]) (dF (dCompL [none, none] ⟨.nm 1, dItM (dSlice (dV 12) none (some (dUn opNeg (dI 1))) none), [(tCmp cmNe (dBin opIdx (dV 1) (dI 1)) (dBin opIdx (dV 1) (dI 2)))]⟩ [] (dV 1)))) (sRet (dB false)) sNil)
    (sIf (tCmp cmNe (dMeth 76 "not_less_witness" (gP g_Whitespace_not_less_witness) (dBin opIdx (dV 9) (dV 10)) [(dBin opIdx (dV 9) (dV 11))]) (dF (dCompL [none, none] ⟨.nm 1, dItM (dSlice (dV 12) none (some (dUn opNeg (dI 1))) none), [(tCmp (cmI fun a b => decide (b ≤ a)) (dBin opIdx (dV 1) (dI 1)) (dBin opIdx (dV 1) (dI 2)))]⟩ [] (dV 1)))) (sRet (dB false)) sNil)))))
noncomputable def colsV (l : Txt) (T : Nat) : List Nat := (List.range T).map fun i => colT l (i + 1)
noncomputable def eQ (S N z4 x5 x6 : Option VV) (l1 l2 : Txt) (T : Nat) (x10 x11 x12 : Option VV) : Lo := [S, N, some (.str l1), some (.str l2), z4, x5, x6, some (.int (T : Nat)), some (.lv [.lv (iV (colsV l1 T)), .lv (iV (colsV l2 T))]), some (.lv [wsV 76 l1, wsV 76 l2]), x10, x11, x12, none, none, none, none, none, none, none]
theorem rangeM_at (b : Nat) (hb : b ≤ 1000) {f : EvF} {E : Lo} {H : Hp} (h : f E H = some (.int (b : Nat))) : dItM (dCall gRange [(dI 1), (dBin (opI gAdd) f (dI 1))]) E H = some (iV (sizes b)) := by
  unfold dItM
  rw [dCall2 (x := .int 1) (y := .int ((b : Int) + 1)) rfl (add_at h rfl)]
  have hg : gRange [.int 1, .int ((b : Int) + 1)] H = some (.rng 1 ((b : Int) + 1) 1) := rfl
  rw [hg, Option.bind_some, iter_rng (H := H) (by omega) (by omega) (by omega) (by omega), rngL_at, show ((b : Int) + 1 - 1).toNat = b by omega, iV_eq]
  unfold sizes
  rw [List.map_map, List.map_map, List.map_map]
  congr 1
  refine List.map_congr_left fun k _ => ?_
  show VV.int (1 + (k : Int)) = VV.int ((k + 1 : Nat) : Int)
  rw [show ((k + 1 : Nat) : Int) = 1 + (k : Int) by omega]
theorem idx_lv {fa fi : EvF} {E : Lo} {H : Hp} {xs : List VV} {k : Int} {v : VV} (ha : fa E H = some (.lv xs)) (hi : fi E H = some (.int k)) (h : idx xs k = some v) : dBin opIdx fa fi E H = some v := by
  refine (dBin_at ha hi).trans ?_
  show ((some xs).bind fun xs => idx xs k) = _
  rw [Option.bind_some, h]
theorem cols_get {l : Txt} {T s : Nat} (h1 : 1 ≤ s) (h2 : s ≤ T) (hT : T ≤ 1000) : idx (iV (colsV l T)) ((s : Int) - 1) = some (.int (colT l s : Nat)) := by
  obtain ⟨k, rfl⟩ : ∃ k, s = k + 1 := ⟨s - 1, by omega⟩
  have hk : k < (colsV l T).length := by unfold colsV; rw [List.length_map, List.length_range]; omega
  rw [show (((k + 1 : Nat) : Int) - 1) = (k : Int) by omega, idxq (by rw [List.length_map]; exact hk) (by omega), iV_get hk]
  unfold colsV
  rw [List.getD_eq_getElem?_getD, List.getElem?_map, List.getElem?_range (by omega)]
  rfl
theorem filt_at {f : EvF} {E : Lo} {lx ly : Txt} {ss : List Nat} {tt : TvF} {p : Nat → Bool} (h : f E [] = some (.lv (ss.map (tup3 lx ly)))) (hs : ss.length ≤ 1000) (hi : importE [none, none] E = [none, none]) (ht : ∀ s, tt [none, some (tup3 lx ly s)] [] = some (p s)) :
    dF (dCompL [none, none] ⟨.nm 1, dItM f, [tt]⟩ [] (dV 1)) E [] = some (.lv ((ss.filter p).map (tup3 lx ly))) := by
  refine dF_at ((comp_filter (P := fun E => ∃ y, E = [none, y]) (fun x => x) (fun x => match tt [none, some x] [] with | some b => b | none => false) (itM_list h (by rw [List.length_map]; omega)) ⟨none, hi⟩ (fun x hx E2 hE2 => ?_) (by rw [List.length_map]; omega)).trans ?_)
  · obtain ⟨y, rfl⟩ := hE2
    obtain ⟨s, _, rfl⟩ := List.mem_map.mp hx
    refine ⟨_, rfl, ⟨_, rfl⟩, tAnd_one ?_, fun _ => rfl⟩
    show tt [none, some (tup3 lx ly s)] [] = _
    rw [ht]
  · rw [List.map_id', List.filter_map]
    congr 3
    funext s
    show (match tt [none, some (tup3 lx ly s)] [] with | some b => b | none => false) = p s
    rw [ht]
theorem filter_all {ss : List Nat} {p q : Nat → Bool} (h : ∀ s, q s = !p s) : (ss.filter q).isEmpty = ss.all p := by
  induction ss with
  | nil => rfl
  | cons s ss ih =>
    rw [List.filter_cons, List.all_cons, h s]
    cases p s with
    | true => rw [if_neg (by decide), ih]; rfl
    | false => rfl
theorem bodyQ_at {S N z4 x5 x6 x12 : Option VV} {l1 l2 lx ly : Txt} {T : Nat} {i j : Int} (hx : lx.length ≤ 10) (hy : ly.length ≤ 10) (hT : T = nW lx ly + 1)
    (c1 : idx [.lv (iV (colsV l1 T)), .lv (iV (colsV l2 T))] i = some (.lv (iV (colsV lx T)))) (c2 : idx [.lv (iV (colsV l1 T)), .lv (iV (colsV l2 T))] j = some (.lv (iV (colsV ly T)))) (w1 : idx [wsV 76 l1, wsV 76 l2] i = some (wsV 76 lx)) (w2 : idx [wsV 76 l1, wsV 76 l2] j = some (wsV 76 ly)) :
    bodyQ (eQ S N z4 x5 x6 l1 l2 T (some (.int i)) (some (.int j)) x12) [] = some (.next, eQ S N z4 x5 x6 l1 l2 T (some (.int i)) (some (.int j)) (some (.lv ((sizes T).map (tup3 lx ly)))), []) := by
  have hn := nW_facts lx ly hx hy
  have hs : T ≤ 12 := by omega
  have tab : dCompL [none, none, some 8, some 10, some 11] ⟨.nm 1, dItM (dCall gRange [(dI 1), (dBin (opI gAdd) (dV 7) (dI 1))]), []⟩ [] (dTup [(dV 1), (dBin opIdx (dBin opIdx (dV 2) (dV 3)) (dBin (opI gSub) (dV 1) (dI 1))), (dBin opIdx (dBin opIdx (dV 2) (dV 4)) (dBin (opI gSub) (dV 1) (dI 1)))]) (eQ S N z4 x5 x6 l1 l2 T (some (.int i)) (some (.int j)) x12) [] = some ((sizes T).map (tup3 lx ly)) := by
    refine (comp_map (P := fun E => ∃ y, E = [none, y, some (.lv [.lv (iV (colsV l1 T)), .lv (iV (colsV l2 T))]), some (.int i), some (.int j)]) (fun x => match x with | .int k => tup3 lx ly k.toNat | x => x) (rangeM_at T (by omega) rfl) ⟨none, rfl⟩ (fun x hxm E hE => ?_) (by rw [List.length_map, sizes_len]; omega)).trans ?_
    · obtain ⟨y, rfl⟩ := hE
      obtain ⟨s, hsm, rfl⟩ := List.mem_map.mp hxm
      have hs1 := sizes_mem hsm
      refine ⟨_, rfl, ⟨_, rfl⟩, ?_⟩
      have e1 : dBin opIdx (dBin opIdx (dV 2) (dV 3)) (dBin (opI gSub) (dV 1) (dI 1)) [none, some (.int (s : Int)), some (.lv [.lv (iV (colsV l1 T)), .lv (iV (colsV l2 T))]), some (.int i), some (.int j)] [] = some (.int (colT lx s : Nat)) :=
        idx_lv (idx_lv rfl rfl c1) (sub_at (a := (s : Int)) (b := 1) rfl rfl) (cols_get hs1.1 hs1.2 (by omega))
      have e2 : dBin opIdx (dBin opIdx (dV 2) (dV 4)) (dBin (opI gSub) (dV 1) (dI 1)) [none, some (.int (s : Int)), some (.lv [.lv (iV (colsV l1 T)), .lv (iV (colsV l2 T))]), some (.int i), some (.int j)] [] = some (.int (colT ly s : Nat)) :=
        idx_lv (idx_lv rfl rfl c2) (sub_at (a := (s : Int)) (b := 1) rfl rfl) (cols_get hs1.1 hs1.2 (by omega))
      show dTup _ [none, some (.int (s : Int)), some (.lv [.lv (iV (colsV l1 T)), .lv (iV (colsV l2 T))]), some (.int i), some (.int j)] [] = _
      unfold dTup
      simp only [evs, e1, e2, Option.bind_some, Option.map_some]
      rfl
    · rw [iV, List.map_map]
      rfl
  unfold bodyQ
  refine (sSeq_n (E1 := eQ S N z4 x5 x6 l1 l2 T (some (.int i)) (some (.int j)) (some (.lv ((sizes T).map (tup3 lx ly))))) (H1 := []) (sAsgC_at tab)).trans ?_
  have lead1 : dBin opIdx (dV 9) (dV 10) (eQ S N z4 x5 x6 l1 l2 T (some (.int i)) (some (.int j)) (some (.lv ((sizes T).map (tup3 lx ly))))) [] = some (wsV 76 lx) := idx_lv rfl rfl w1
  have lead2 : dBin opIdx (dV 9) (dV 11) (eQ S N z4 x5 x6 l1 l2 T (some (.int i)) (some (.int j)) (some (.lv ((sizes T).map (tup3 lx ly))))) [] = some (wsV 76 ly) := idx_lv rfl rfl w2
  have tge : ∀ s : Nat, tCmp (cmI fun a b => decide (b ≤ a)) (dBin opIdx (dV 1) (dI 1)) (dBin opIdx (dV 1) (dI 2)) [none, some (tup3 lx ly s)] [] = some (decide (colT ly s ≤ colT lx s)) := fun s => (tCmp_at (x := .int (colT lx s : Nat)) (y := .int (colT ly s : Nat)) rfl rfl).trans (cmGe_nat _ _ _)
  have tne : ∀ s : Nat, tCmp cmNe (dBin opIdx (dV 1) (dI 1)) (dBin opIdx (dV 1) (dI 2)) [none, some (tup3 lx ly s)] [] = some (decide (colT lx s ≠ colT ly s)) := fun s => (tCmp_at (x := .int (colT lx s : Nat)) (y := .int (colT ly s : Nat)) rfl rfl).trans (cmNe_nat _ _ _)
  have init : dSlice (dV 12) none (some (dUn opNeg (dI 1))) none (eQ S N z4 x5 x6 l1 l2 T (some (.int i)) (some (.int j)) (some (.lv ((sizes T).map (tup3 lx ly))))) [] = some (.lv ((sizes (nW lx ly)).map (tup3 lx ly))) := by
    have := slice_at (f := tup3 lx ly) (l := sizes T) (E := eQ S N z4 x5 x6 l1 l2 T (some (.int i)) (some (.int j)) (some (.lv ((sizes T).map (tup3 lx ly))))) (H := []) (fa := dV 12) (fl := none) (fu := some (dUn opNeg (dI 1))) (fs := none) rfl evp_none (evp_some (k := -1) rfl) evp_none (by decide) (by rw [sizes_len]; omega)
    have e : sizes T = sizes (nW lx ly) ++ [nW lx ly + 1] := by
      rw [hT]
      unfold sizes
      rw [List.range_succ, List.map_append]; rfl
    rw [show zslice (sizes T) none (some (-1)) none = sizes (nW lx ly) by rw [e, zs_init]] at this
    exact this
  refine (sSeq_n (sIf_skip ?_)).trans ((sSeq_n (sIf_skip ?_)).trans ((sSeq_n (sIf_skip ?_)).trans (sIf_skip ?_)))
  · refine (tCmp_at ((meth_ws2 lead1 lead2).trans (less_at hx hy)) (dCmp_at (filt_at rfl (by rw [sizes_len]; omega) rfl tge) (y := .lv []) rfl (cmEq_tups_nil _ _ _ _))).trans ?_
    rw [filter_all (p := fun s => decide (colT lx s < colT ly s)) fun s => by
      by_cases h : colT lx s < colT ly s
      · rw [decide_eq_true h, decide_eq_false (by omega)]; rfl
      · rw [decide_eq_false h, decide_eq_true (by omega)]; rfl]
    show some (!(allLess lx ly == (sizes T).all fun s => decide (colT lx s < colT ly s))) = _
    rw [hT]
    show some (!(allLess lx ly == allLess lx ly)) = _
    rw [beq_self_eq_true]; rfl
  · refine (tCmp_at ((meth_ws2 lead1 lead2).trans (equal_at hx hy)) (dCmp_at (filt_at rfl (by rw [sizes_len]; omega) rfl tne) (y := .lv []) rfl (cmEq_tups_nil _ _ _ _))).trans ?_
    rw [filter_all (p := fun s => decide (colT lx s = colT ly s)) fun s => by
      by_cases h : colT lx s = colT ly s
      · rw [decide_eq_true h, decide_eq_false fun q => q h]; rfl
      · rw [decide_eq_false h, decide_eq_true h]; rfl]
    show some (!(allEq lx ly == (sizes T).all fun s => decide (colT lx s = colT ly s))) = _
    rw [hT]
    show some (!(allEq lx ly == allEq lx ly)) = _
    rw [beq_self_eq_true]; rfl
  · exact (tCmp_at ((meth_ws2 lead1 lead2).trans (new_at hx hy)) (filt_at init (by rw [sizes_len]; omega) rfl tne)).trans (cmNe_tups _ _ _ _)
  · exact (tCmp_at ((meth_ws2 lead1 lead2).trans (nlw_at hx hy)) (filt_at init (by rw [sizes_len]; omega) rfl tge)).trans (cmNe_tups _ _ _ _)
end Mine
namespace Mine
theorem or_at {fa fb : EvF} {E : Lo} {H : Hp} {A D : List Int} (ha : fa E H = some (.lv (A.map .int))) (hb : fb E H = some (.lv (D.map .int))) (hl : A.length ≤ 1000) : ∃ B, dOr fa fb E H = some (.lv (B.map .int)) ∧ (B = A ∨ B = D) := by
  have ht : tv (.lv (A.map .int)) H = some (!(A.map VV.int).isEmpty) := by
    show ((some (A.map VV.int)).bind fun xs => if xs.length ≤ 16777216 then some (!xs.isEmpty) else none) = _
    rw [Option.bind_some, if_pos (by rw [List.length_map]; omega)]
  unfold dOr
  rw [ha, Option.bind_some, ht, Option.bind_some]
  cases A with
  | nil => exact ⟨D, by rw [List.map_nil]; exact hb, .inr rfl⟩
  | cons a A => exact ⟨a :: A, rfl, .inl rfl⟩
theorem evs2 {f1 f2 : EvF} {E : Lo} {H : Hp} {x y : VV} (h1 : f1 E H = some x) (h2 : f2 E H = some y) : evs [f1, f2] E H = some [x, y] := by simp only [evs, h1, h2, Option.bind_some, Option.map_some]
theorem nW_comm (l m : Txt) : nW l m = nW m l := by
  unfold nW
  rw [Nat.max_comm]
theorem maxZ_rowsV (l : Txt) : maxZ ((rowsV l).map fun d : Nat => (d : Int)) = max ((mx (rA l) : Int) - 1) (rT l : Nat) := by
  have : (rowsV l).map (fun d : Nat => (d : Int)) = ((rA l).map fun d : Nat => (d : Int)) ++ [(rT l : Int)] := by unfold rowsV; rw [List.map_append]; rfl
  rw [this, maxZ_rows _ (by omega)]
theorem colsV_ne (l : Txt) (T : Nat) (h : 1 ≤ T) : colsV l T ≠ [] := fun q => by
  have : (colsV l T).length = T := by unfold colsV; rw [List.length_map, List.length_range]
  rw [q] at this
  simp at this
  omega
theorem rowsV_len (l : Txt) (h : l.length ≤ 10) : (rowsV l).length ≤ 11 := by
  have := rowsX_le l 0
  unfold rowsV
  rw [List.length_append]
  simp only [List.length_cons, List.length_nil]
  omega
theorem law1_plain (ns : List Int) (hl : ns.length ≤ 63) : g_law [.lv (ns.map .int)] = some (.bool true) := by
  refine Ret.gOf rfl ?_ fun _ => rfl
  have hN : zslice ns none (some 20) none = ns.take 20 := zs_to ns 20
  have hNl : (ns.take 20).length ≤ 20 := by rw [List.length_take]; omega
  generalize ns.take 20 = N at hN hNl
  generalize hS : (some (VV.lv (ns.map .int)) : Option VV) = S
  generalize hNN : (some (VV.lv (N.map .int)) : Option VV) = NN
  unfold F_law
  refine Ret.seq (E1 := [S, NN, none, none, none, none, none, none, none, none, none, none, none, none, none, none, none, none, none, none]) (H1 := []) ?_ ?_
  · rw [← hS, ← hNN, ← hN]
    exact sAsg_at (slice_at rfl evp_none (evp_some (k := 20) rfl) evp_none (by decide) (by omega))
  have v1 : ∀ {a b : Option VV} {xs : List (Option VV)} {H : Hp}, dV 1 (S :: NN :: a :: b :: xs) H = some (.lv (N.map .int)) := fun {_ _ _ _} => by rw [← hNN]; rfl
  -- the first line
  obtain ⟨B1, hB1, hB1'⟩ := or_at (E := [S, NN, none, none, none, none, none, none, none, none, none, none, none, none, none, none, none, none, none, none]) (H := []) (fa := dSlice (dV 1) (some (dI 0)) none (some (dI 2))) (fb := dF (evs [(dI 0), (dI 2), (dI 1)])) (D := [0, 2, 1]) (slice_at v1 (evp_some (k := 0) rfl) evp_none (evp_some (k := 2) rfl) (by decide) (by omega)) rfl (by have := zs_even N 0 (by decide) hNl; exact Nat.le_trans this (by decide))
  have hB1l : B1.length ≤ 10 := by
    rcases hB1' with rfl | rfl
    · exact zs_even N 0 (by decide) hNl
    · decide
  generalize hl1 : B1.map sg = l1
  have l1s : sgn3 l1 := by rw [← hl1]; exact line_sgn B1
  have l1l : l1.length ≤ 10 := by rw [← hl1, List.length_map]; exact hB1l
  refine Ret.seq (E1 := [S, NN, some (.str l1), none, none, none, none, none, none, none, none, none, none, none, none, none, none, none, none, none]) (H1 := []) ?_ ?_
  · exact sAsg_at ((dCall1 hB1).trans (gP_list.trans ((line_at (by omega)).trans (by rw [hl1]))))
  -- the second one
  obtain ⟨B2, hB2, hB2'⟩ := or_at (E := [S, NN, some (.str l1), none, none, none, none, none, none, none, none, none, none, none, none, none, none, none, none, none]) (H := []) (fa := dSlice (dV 1) (some (dI 1)) none (some (dI 2))) (fb := dF (evs [(dI 2), (dI 0), (dI 0), (dI 2)])) (D := [2, 0, 0, 2]) (slice_at v1 (evp_some (k := 1) rfl) evp_none (evp_some (k := 2) rfl) (by decide) (by omega)) rfl (by have := zs_even N 1 (by decide) hNl; exact Nat.le_trans this (by decide))
  have hB2l : B2.length ≤ 10 := by
    rcases hB2' with rfl | rfl
    · exact zs_even N 1 (by decide) hNl
    · decide
  generalize hl2 : B2.map sg = l2
  have l2s : sgn3 l2 := by rw [← hl2]; exact line_sgn B2
  have l2l : l2.length ≤ 10 := by rw [← hl2, List.length_map]; exact hB2l
  refine Ret.seq (E1 := [S, NN, some (.str l1), some (.str l2), none, none, none, none, none, none, none, none, none, none, none, none, none, none, none, none]) (H1 := []) ?_ ?_
  · exact sAsg_at ((dCall1 hB2).trans (gP_list.trans ((line_at (by omega)).trans (by rw [hl2]))))
  clear hB1 hB1' hB1l hl1 hB2 hB2' hB2l hl2
  have hsum : ∀ {a b : Option VV} {xs : List (Option VV)} {H : Hp}, dCall gSum [(dV 1)] (S :: NN :: a :: b :: xs) H = some (.int N.sum) := fun {_ _ _ _} => (dCall1 v1).trans gSum_ints
  have row1 : ∀ {l : Txt} {f : EvF} {E : Lo} {H : Hp}, sgn3 l → l.length ≤ 10 → f E H = some (.str l) → dCall (gP g_law_rows) [f] E H = some (.lv (iV (rowsV l))) := fun {l _ _ _} s h e => (dCall1 e).trans (show g_law_rows [.str l] = _ from rows_at s (by omega))
  -- perhaps a line of the first one's rows
  obtain ⟨m2, z4, m2s, m2l, hst⟩ : ∃ (m2 : Txt) (z4 : Option VV), sgn3 m2 ∧ m2.length ≤ 10 ∧ sIf (tCmp cmEq (dBin (opI gMod) (dCall gSum [(dV 1)]) (dI 3)) (dI 2)) (sSeq (sAsg (.nm 4) (dCall (gP g_law_rows) [(dV 2)]))
    (sAsg (.nm 3) (dBin opAddS (dUn gJoin (dF (dCompL [none, none] ⟨.nm 1, dItM (dSlice (dSlice (dV 4) none (some (dUn opNeg (dI 1))) none) none none (some (dUn opNeg (dI 1)))), []⟩ [] (dBin opAddS (dBin opMulS (dS [32]) (dV 1)) (dS [9]))))) (dBin opMulS (dS [32]) (dBin opIdx (dV 4) (dUn opNeg (dI 1))))))) sNil
      [S, NN, some (.str l1), some (.str l2), none, none, none, none, none, none, none, none, none, none, none, none, none, none, none, none] [] = some (.next, [S, NN, some (.str l1), some (.str m2), z4, none, none, none, none, none, none, none, none, none, none, none, none, none, none, none], []) := by
    have ht : tCmp cmEq (dBin (opI gMod) (dCall gSum [(dV 1)]) (dI 3)) (dI 2) [S, NN, some (.str l1), some (.str l2), none, none, none, none, none, none, none, none, none, none, none, none, none, none, none, none] [] = some (decide (N.sum.fmod 3 = 2)) :=
      (tCmp_at (mod_at (b := 3) hsum rfl (by decide)) (y := .int 2) rfl).trans rfl
    by_cases h : N.sum.fmod 3 = 2
    · have hr := rowsX_le l1 0
      have hr' : (rA l1).sum + (rA l1).length + rT l1 ≤ 0 + l1.length := hr
      refine ⟨turnT (rA l1) (rT l1), some (.lv (iV (rowsV l1))), turn_sgn _ _, by rw [turn_len]; omega, (sIf_go (by rw [ht, decide_eq_true h])).trans ?_⟩
      refine (sSeq_n (E1 := [S, NN, some (.str l1), some (.str l2), some (.lv (iV (rowsV l1))), none, none, none, none, none, none, none, none, none, none, none, none, none, none, none]) (H1 := []) (sAsg_at (row1 l1s l1l rfl))).trans ?_
      exact sAsg_at (turn_at rfl (by omega))
    · exact ⟨l2, none, l2s, l2l, sIf_skip (by rw [ht, decide_eq_false h])⟩
  refine Ret.seq hst ?_
  clear hst l2s l2l
  -- the width
  obtain ⟨w, hw1, hw2, hw⟩ : ∃ w : Nat, 4 ≤ w ∧ w ≤ 32 ∧ 4 + N.sum.fmod 29 = (w : Int) := by
    have m1 := fmod_pos N.sum (show (0 : Int) < 29 by decide)
    have m2 := Int.fmod_lt_of_pos N.sum (show (0 : Int) < 29 by decide)
    exact ⟨(4 + N.sum.fmod 29).toNat, by omega, by omega, by omega⟩
  refine Ret.seq (E1 := [S, NN, some (.str l1), some (.str m2), z4, some (.int (w : Nat)), none, none, none, none, none, none, none, none, none, none, none, none, none, none]) (H1 := []) ?_ ?_
  · rw [← hw]
    exact sAsg_at (add_at rfl (mod_at hsum rfl (by decide)))
  refine Ret.seq (E1 := [S, NN, some (.str l1), some (.str m2), z4, some (.int (w : Nat)), some (.lv [.lv (iV (rowsV l1)), .lv (iV (rowsV m2))]), none, none, none, none, none, none, none, none, none, none, none, none, none]) (H1 := []) ?_ ?_
  · exact sAsg_at (dF_at (evs2 (row1 l1s l1l rfl) (row1 m2s m2l rfl)))
  have hn := nW_facts l1 m2 l1l m2l
  have r1l := rowsV_len l1 l1l
  have r2l := rowsV_len m2 m2l
  generalize hT : nW l1 m2 + 1 = T
  have hT12 : T ≤ 12 := by omega
  refine Ret.seq (E1 := [S, NN, some (.str l1), some (.str m2), z4, some (.int (w : Nat)), some (.lv [.lv (iV (rowsV l1)), .lv (iV (rowsV m2))]), some (.int (T : Nat)), none, none, none, none, none, none, none, none, none, none, none, none]) (H1 := []) ?_ ?_
  · refine sAsg_at ((add_at (a := (T : Int) - 2) (b := 2) ((dCall1 (x := .lv (iV (rowsV l1 ++ rowsV m2))) ?_).trans ?_) rfl).trans (by rw [Int.sub_add_cancel]))
    · refine (dBin_at (x := .lv (iV (rowsV l1))) (y := .lv (iV (rowsV m2))) (idx_lv (k := 0) rfl rfl rfl) (idx_lv (k := 1) rfl rfl rfl)).trans ?_
      show (if (iV (rowsV l1)).length + (iV (rowsV m2)).length ≤ 16777216 then some (VV.lv (iV (rowsV l1) ++ iV (rowsV m2))) else none) = _
      rw [if_pos (by rw [List.length_map, List.length_map]; omega), iV_append]
    · show (asInts (iV (rowsV l1 ++ rowsV m2))).bind (fun ns => if ns ≠ [] then some (VV.int (maxZ ns)) else none) = _
      have hne : ∀ l, (rowsV l).map (fun d : Nat => (d : Int)) ≠ [] := fun l => by unfold rowsV; simp
      rw [asInts_iV, Option.bind_some, List.map_append, if_pos (by simp [hne]), maxZ_append _ _ (hne l1) (hne m2), maxZ_rowsV, maxZ_rowsV, ← hT]
      rw [run_max, run_max, ← cast_max]
      unfold nW
      rw [Int.natCast_add, Int.natCast_add, show (((1 : Nat) : Int)) = 1 from rfl, Int.add_assoc, show (1 + 1 : Int) = 2 from rfl, Int.add_sub_cancel]
  refine Ret.seq (E1 := [S, NN, some (.str l1), some (.str m2), z4, some (.int (w : Nat)), some (.lv [.lv (iV (rowsV l1)), .lv (iV (rowsV m2))]), some (.int (T : Nat)), some (.lv [.lv (iV (colsV l1 T)), .lv (iV (colsV m2 T))]), none, none, none, none, none, none, none, none, none, none, none]) (H1 := []) ?_ ?_
  · have col : ∀ {l : Txt} {f1 f2 f3 f4 : EvF} {E : Lo} {H : Hp}, l.length ≤ 10 → f1 E H = some (.str l) → f2 E H = some (.lv (iV (rowsV l))) → f3 E H = some (.int (w : Nat)) → f4 E H = some (.int (T : Nat)) → dCall (gP g_law_columns) [f1, f2, f3, f4] E H = some (.lv (iV (colsV l T))) := fun {l f1 f2 f3 f4 E H} hl e1 e2 e3 e4 => by
      unfold dCall
      simp only [evs, e1, e2, e3, e4, Option.bind_some, Option.map_some]
      exact gP_slii.trans (columns_at hl hw1 hw2 (by omega))
    exact sAsg_at (dF_at (evs2 (col l1l rfl (idx_lv (k := 0) rfl rfl rfl) rfl rfl) (col m2l rfl (idx_lv (k := 1) rfl rfl rfl) rfl rfl)))
  refine Ret.seq (sIf_skip ((tCmp_at (x := .lv []) (y := .lv [.lv (iV (colsV l1 T)), .lv (iV (colsV m2 T))]) rfl rfl).trans (cmIn_no (colsV_ne _ _ (by omega)) (colsV_ne _ _ (by omega)) _))) ?_
  refine Ret.seq (E1 := eQ S NN z4 (some (.int (w : Nat))) (some (.lv [.lv (iV (rowsV l1)), .lv (iV (rowsV m2))])) l1 m2 T none none none) (H1 := []) ?_ ?_
  · have ws : ∀ {l : Txt} {f : EvF} {E : Lo} {H : Hp}, l.length ≤ 10 → f E H = some (.str l) → dCall (gP (gWs 76)) [f] E H = some (wsV 76 l) := fun {l f E H} hl e => by
      refine (dCall1 e).trans ?_
      show (if l.length ≤ 500000 then some (wsV 76 l) else none) = _
      rw [if_pos (by omega)]
    exact sAsg_at (dF_at (evs2 (ws l1l rfl) (ws m2l rfl)))
  have q1 := bodyQ_at (S := S) (N := NN) (z4 := z4) (x5 := some (.int (w : Nat))) (x6 := some (.lv [.lv (iV (rowsV l1)), .lv (iV (rowsV m2))])) (x12 := none) (l1 := l1) (l2 := m2) (lx := l1) (ly := m2) (T := T) (i := 0) (j := 1) l1l m2l hT.symm rfl rfl rfl rfl
  have q2 := bodyQ_at (S := S) (N := NN) (z4 := z4) (x5 := some (.int (w : Nat))) (x6 := some (.lv [.lv (iV (rowsV l1)), .lv (iV (rowsV m2))])) (x12 := some (.lv ((sizes T).map (tup3 l1 m2)))) (l1 := l1) (l2 := m2) (lx := m2) (ly := l1) (T := T) (i := 1) (j := 0) m2l l1l (by rw [← hT, nW_comm]) rfl rfl rfl rfl
  refine Ret.seq (E1 := eQ S NN z4 (some (.int (w : Nat))) (some (.lv [.lv (iV (rowsV l1)), .lv (iV (rowsV m2))])) l1 m2 T (some (.int 1)) (some (.int 0)) (some (.lv ((sizes T).map (tup3 m2 l1))))) (H1 := []) ?_ (Ret.last rfl)
  refine (sFor_at (xs := [.tup [.int 0, .int 1], .tup [.int 1, .int 0]]) rfl).trans ?_
  show forF bodyQ (.tp [10, 11]) [.tup [.int 0, .int 1], .tup [.int 1, .int 0]] _ [] = _
  have step : ∀ {x y : Int} {xs : List VV} {E E2 : Lo}, bodyQ (setL [10, 11] [.int x, .int y] E) [] = some (.next, E2, []) → forF bodyQ (.tp [10, 11]) (.tup [.int x, .int y] :: xs) E [] = forF bodyQ (.tp [10, 11]) xs E2 [] := fun {x y xs E E2} h => by
    show (bindT (.tp [10, 11]) (.tup [.int x, .int y]) E).bind _ = _
    rw [show bindT (.tp [10, 11]) (.tup [.int x, .int y]) E = some (setL [10, 11] [.int x, .int y] E) from rfl, Option.bind_some, h]
    rfl
  have k1 := step (xs := [.tup [.int 1, .int 0]]) (x := 0) (y := 1) (E := eQ S NN z4 (some (.int (w : Nat))) (some (.lv [.lv (iV (rowsV l1)), .lv (iV (rowsV m2))])) l1 m2 T none none none) q1
  have k2 := step (xs := []) (x := 1) (y := 0) (E := eQ S NN z4 (some (.int (w : Nat))) (some (.lv [.lv (iV (rowsV l1)), .lv (iV (rowsV m2))])) l1 m2 T (some (.int 0)) (some (.int 1)) (some (.lv ((sizes T).map (tup3 l1 m2))))) q2
  exact k1.trans (k2.trans rfl)
end Mine
end
theorem PySem.Challenge.cw_pm0055_01_holds : PySem.Challenge.rw_pm0055_01.Holds := by
  exact (Mine.law1_of Mine.law1_plain)
