import JvmDerived
import JvmDerived.Pilot.@@N@@Statement
import JvmDerived.Pilot.@@N@@Code
set_option linter.unusedVariables false
set_option linter.unusedSimpArgs false
namespace Jvm.OwnK
open Sem ClassFile Op Lib Jvm.Stand Jvm.Free Jvm.LawKit Jvm.RoadKit
/-! a walk's surroundings: program, launch, environment, room, state at the call, method, arguments, frames below, the method's record and code -/
abbrev Cx : Type := Program × Launch × Env × Room × State × MethodId × Array Value × List Frame × Method × Code
abbrev Cx.p (Γ : Cx) : Program := Γ.1
abbrev Cx.l (Γ : Cx) : Launch := Γ.2.1
abbrev Cx.e (Γ : Cx) : Env := Γ.2.2.1
abbrev Cx.R (Γ : Cx) : Room := Γ.2.2.2.1
abbrev Cx.s (Γ : Cx) : State := Γ.2.2.2.2.1
abbrev Cx.m (Γ : Cx) : MethodId := Γ.2.2.2.2.2.1
abbrev Cx.args (Γ : Cx) : Array Value := Γ.2.2.2.2.2.2.1
abbrev Cx.below (Γ : Cx) : List Frame := Γ.2.2.2.2.2.2.2.1
abbrev Cx.meth (Γ : Cx) : Method := Γ.2.2.2.2.2.2.2.2.1
abbrev Cx.c (Γ : Cx) : Code := Γ.2.2.2.2.2.2.2.2.2
/-- what stays the same all along a walk -/
def Ctx (Γ : Cx) (Z : State) (own : String) (bytes : ByteArray) (maxl : Nat) (ret : Option FieldType) (nm : String) (rm : Room) (hs : Heap) : Prop :=
  Γ.p.tables.exec = Jvm.exec ∧ Z.Warmed39 Γ.s.vm ∧ Γ.s.vm.findClass own = some Γ.m.cls ∧ Γ.c.code = bytes ∧ Γ.c.maxLocals = maxl ∧ Γ.meth.sig.returnType = ret ∧ Γ.meth.name = nm ∧ Γ.meth.locks = false ∧ Γ.R = rm ∧ Γ.s.heap = hs
/-- where the walk stands: the state T with the heap h; at most C cells and S slots made; what was written lies in cells made since the law began -/
def W (Γ : Cx) (n0 : Nat) (T : State) (h : Heap) (C S : Nat) : Prop := ∃ locs vm0 k0, Stand Γ.p Γ.l Γ.e Γ.R (Γ.s.setVm vm0) Γ.m Γ.args Γ.below Γ.meth Γ.c T locs C S ∧ T.heap = h ∧ Fr n0 locs ∧ Γ.s.Since vm0 k0 ∧ k0 ≤ h.size
/-- from here the run comes to the method's end with what Q says -/
def Go (Γ : Cx) (n0 : Nat) (Q : Option Value → Heap → Prop) (T : State) (f : JFrame) : Prop :=
  ∃ s₂ o, Steps Γ.p.tables Γ.e Γ.below (T.setTop f) s₂ ∧ s₂.status = .running ∧ Ended s₂ Γ.below o ∧ ∃ v L, o = .returned v ∧ (Q v s₂.heap ∧ Fr n0 L) ∧ ReturnedEndW Γ.s o s₂ L Γ.R.cells Γ.R.slots
/-- a body's contract: called with these arguments at this heap it returns with what Q says -/
def MetW (Z : State) (y : MethodName) (bytes : ByteArray) (maxl : Nat) (ret : Option FieldType) (ws : List Cond) (rm : Room) (as' : Array Value) (h0 : Heap) (n0 : Nat) (Q : Option Value → Heap → Prop) : Prop :=
  ∀ l : Launch, MetFree l y (head1 (Cond.code y bytes maxl ret :: ws) rm) (fun a U => a = as' ∧ Z.Warmed39 U.vm ∧ U.heap = h0) (fun _ _ _ _ _ => True) (fun _ U o U' => ∃ v L, o = .returned v ∧ (Q v U'.heap ∧ Fr n0 L) ∧ ReturnedEndW U o U' L rm.cells rm.slots)
abbrev Met (Z : State) (y : MethodName) (bytes : ByteArray) (maxl : Nat) (ret : Option FieldType) (rm : Room) (as' : Array Value) (h0 : Heap) (n0 : Nat) (Q : Option Value → Heap → Prop) : Prop := MetW Z y bytes maxl ret [] rm as' h0 n0 Q
section K
variable {Γ : Cx} {Z : State} {own nm : String} {bytes : ByteArray} {maxl : Nat} {ret : Option FieldType} {rm : Room} {n0 : Nat} {T : State} {h hs0 : Heap} {C S : Nat} {Q : Option Value → Heap → Prop} {Ls : Array Slot} {st : List Value} {pc pc' : Nat}
theorem k_body {y : MethodName} {ws : List Cond} {as' : Array Value} {f : MethodId → JFrame} (hx : plainFor y = true) (hf : ∀ m, entryFrame m as' maxl = f m)
    (body : ∀ (Γ : Cx) (T : State), Ctx Γ Z y.cls bytes maxl ret y.name rm h → W Γ n0 T h 0 0 → Go Γ n0 Q T (f Γ.m)) : MetW Z y bytes maxl ret ws rm as' h n0 Q := by
  intro l
  refine MetFree.of_bodySF (ret := ret) hx hisR ?_
  intro p e s m args below meth c s₁ Bd hml0 hP hK
  obtain ⟨rfl, hZ, hh⟩ := hP
  have X0 : Stand p l e rm s m args below meth c s₁ [] 0 0 := Stand.of_body Bd
  have e0 : s₁.heap = h := by rw [← hh, Bd.state]; rfl
  have g := body (p, l, e, rm, s, m, args, below, meth, c) s₁ ⟨Bd.exec, hZ, findClass_of_methodNamed Bd.named, Bd.bytes, hml0, Bd.returns, (name_of_methodNamed Bd.named Bd.method).1, Bd.notSynchronized, rfl, hh⟩ ⟨[], s.vm, 0, X0, e0, Fr.nil n0, (State.WarmedH.refl s).since 0, Nat.zero_le _⟩
  rw [← hf] at g
  exact g
theorem Go.of {T' : State} {f f' : JFrame} (k : ∀ target, Steps Γ.p.tables Γ.e Γ.below (T'.setTop f') target → Steps Γ.p.tables Γ.e Γ.below (T.setTop f) target) (K : Go Γ n0 Q T' f') : Go Γ n0 Q T f := by
  obtain ⟨s₂, o, h1, r⟩ := K
  exact ⟨s₂, o, k _ h1, r⟩
theorem Go.mono {Q' : Option Value → Heap → Prop} {f : JFrame} (K : Go Γ n0 Q T f) (q : ∀ v h, Q v h → Q' v h) : Go Γ n0 Q' T f := by
  obtain ⟨s₂, o, h1, h2, h3, v, L, h4, ⟨h5, h6⟩, h7⟩ := K
  exact ⟨s₂, o, h1, h2, h3, v, L, h4, ⟨q _ _ h5, h6⟩, h7⟩
theorem W.more {C' S' : Nat} (X : W Γ n0 T h C S) (hc : C ≤ C') (hs : S ≤ S') : W Γ n0 T h C' S' := by
  obtain ⟨L, v, k, X, r⟩ := X; exact ⟨L, v, k, X.more hc hs, r⟩
theorem MetW.mono {y : MethodName} {ws : List Cond} {as' : Array Value} {Q' : Option Value → Heap → Prop} (M : MetW Z y bytes maxl ret ws rm as' h n0 Q) (q : ∀ v h, Q v h → Q' v h) : MetW Z y bytes maxl ret ws rm as' h n0 Q' := by
  intro l p e h1 h2 h3 s m args below hf happ hP hK
  obtain ⟨n, o, a1, a2, a3, v, L, b1, ⟨b2, b3⟩, b4⟩ := M l p e h1 h2 h3 s m args below hf happ hP hK
  exact ⟨n, o, a1, a2, a3, v, L, b1, ⟨q _ _ b2, b3⟩, b4⟩
/-! ### returns -/
theorem k_retv (G : Ctx Γ Z own bytes maxl ret nm rm hs0) (X : W Γ n0 T h C S) (hd : decode bytes pc = .ok (.return_, 1)) (hr : ret = none) (q : Q none h) (hC : C ≤ rm.cells) (hS : S ≤ rm.slots) : Go Γ n0 Q T (mkF Γ.m pc Ls []) := by
  obtain ⟨hx, hZ, hown, hby, hml, hret, hnm, hlk, hR, hsH⟩ := G
  obtain ⟨L, vm0, k0, X, e, N, hSi, hk⟩ := X
  obtain ⟨fs, hr', hrun, hended, hE⟩ := X.leaveW hSi (by rw [e]; exact hk) (v := none) (fun _ => rfl) hlk
  subst hr
  refine ⟨_, _, ?_, hrun, hended, none, L, rfl, ⟨?_, N⟩, hE.1, hE.2.1, hE.2.2.1, hE.2.2.2.mono (hR ▸ hC) (hR ▸ hS)⟩
  · exact X.returnOut hx hret (hb hby hd) hr'
  · show Q none T.heap; rw [e]; exact q
theorem k_ret {w : Value} {t : FieldType} {i : Instr} {rest : List Value} (G : Ctx Γ Z own bytes maxl ret nm rm hs0) (X : W Γ n0 T h C S) (hd : decode bytes pc = .ok (i, 1)) (hr : ret = some t) (hn : narrow t w = w)
    (hi : (i = .ireturn ∧ (t = .int ∨ t = .boolean ∨ t = .byte ∨ t = .char ∨ t = .short) ∧ ∃ z, w = .int z) ∨ (i = .lreturn ∧ t = .long ∧ ∃ z, w = .long z) ∨ (i = .dreturn ∧ t = .double ∧ ∃ z, w = .double z) ∨ (i = .freturn ∧ t = .float ∧ ∃ z, w = .float z) ∨ (i = .areturn ∧ t.isReference = true ∧ w.isRef = true))
    (q : Q (some w) h) (hC : C ≤ rm.cells) (hS : S ≤ rm.slots) : Go Γ n0 Q T (mkF Γ.m pc Ls (w :: rest)) := by
  obtain ⟨hx, hZ, hown, hby, hml, hret, hnm, hlk, hR, hsH⟩ := G
  obtain ⟨L, vm0, k0, X, e, N, hSi, hk⟩ := X
  subst hr
  obtain ⟨fs, hr', hrun, hended, hE⟩ := X.leaveW hSi (by rw [e]; exact hk) (v := some w) (fun h => by rw [hret] at h; cases h) hlk
  refine ⟨_, _, ?_, hrun, hended, some w, L, rfl, ⟨?_, N⟩, hE.1, hE.2.1, hE.2.2.1, hE.2.2.2.mono (hR ▸ hC) (hR ▸ hS)⟩
  · exact retOut X hx hret hn hi (hb hby hd) hr'
  · show Q (some w) T.heap; rw [e]; exact q
theorem k_reti {z : Int32} {rest : List Value} (G : Ctx Γ Z own bytes maxl ret nm rm hs0) (X : W Γ n0 T h C S) (hd : decode bytes pc = .ok (.ireturn, 1)) (hr : ret = some .int) (q : Q (some (.int z)) h) (hC : C ≤ rm.cells) (hS : S ≤ rm.slots) : Go Γ n0 Q T (mkF Γ.m pc Ls (.int z :: rest)) :=
  k_ret G X hd hr rfl (Or.inl ⟨rfl, Or.inl rfl, _, rfl⟩) q hC hS
theorem k_retb {z : Int32} {rest : List Value} {t : FieldType} (G : Ctx Γ Z own bytes maxl ret nm rm hs0) (X : W Γ n0 T h C S) (hd : decode bytes pc = .ok (.ireturn, 1)) (hr : ret = some t) (ht : t = .int ∨ t = .boolean ∨ t = .byte ∨ t = .char ∨ t = .short) (hn : narrow t (.int z) = .int z) (q : Q (some (.int z)) h) (hC : C ≤ rm.cells) (hS : S ≤ rm.slots) : Go Γ n0 Q T (mkF Γ.m pc Ls (.int z :: rest)) :=
  k_ret G X hd hr hn (Or.inl ⟨rfl, ht, _, rfl⟩) q hC hS
theorem k_retl {z : Int64} {rest : List Value} (G : Ctx Γ Z own bytes maxl ret nm rm hs0) (X : W Γ n0 T h C S) (hd : decode bytes pc = .ok (.lreturn, 1)) (hr : ret = some .long) (q : Q (some (.long z)) h) (hC : C ≤ rm.cells) (hS : S ≤ rm.slots) : Go Γ n0 Q T (mkF Γ.m pc Ls (.long z :: rest)) :=
  k_ret G X hd hr rfl (Or.inr (Or.inl ⟨rfl, rfl, _, rfl⟩)) q hC hS
theorem narrow_ref {t : FieldType} {w : Value} (ht : t.isReference = true) : narrow t w = w := by cases t <;> first | (cases ht; done) | (cases w <;> rfl)
theorem k_reta {w : Value} {rest : List Value} {t : FieldType} (G : Ctx Γ Z own bytes maxl ret nm rm hs0) (X : W Γ n0 T h C S) (hd : decode bytes pc = .ok (.areturn, 1)) (hr : ret = some t) (ht : t.isReference = true) (hv : w.isRef = true) (q : Q (some w) h) (hC : C ≤ rm.cells) (hS : S ≤ rm.slots) : Go Γ n0 Q T (mkF Γ.m pc Ls (w :: rest)) :=
  k_ret G X hd hr (narrow_ref ht) (Or.inr (Or.inr (Or.inr (Or.inr ⟨rfl, ht, hv⟩)))) q hC hS
theorem k_iloadN {k : Fin 4} {v : Int32} (G : Ctx Γ Z own bytes maxl ret nm rm hs0) (X : W Γ n0 T h C S) (hd : decode bytes pc = .ok (.iload_n k, 1)) (hp : pc + 1 = pc') (hl : Ls[k.val]? = some (.val (.int v))) (K : Go Γ n0 Q T (mkF Γ.m pc' Ls (.int v :: st))) : Go Γ n0 Q T (mkF Γ.m pc Ls (st)) := by
  subst hp
  obtain ⟨hx, hZ0, hown0, hby, hml, hret, hnm, hlk, hR, hsH⟩ := G
  obtain ⟨L, vm0, k0, X, e, N, hS, hk⟩ := X
  have hZ : Z.Warmed39 (Γ.s.setVm vm0).vm := State.Warmed39.trans hZ0 hS.1
  have hown : (Γ.s.setVm vm0).vm.findClass own = some Γ.m.cls := by rw [show (Γ.s.setVm vm0).vm = vm0 from rfl, hS.1.alike.findClass]; exact hown0
  exact Go.of (fun t k => XS.iloadN X.here hx rfl (hb hby hd) hl k) K
theorem k_iload {k : Nat} {v : Int32} (G : Ctx Γ Z own bytes maxl ret nm rm hs0) (X : W Γ n0 T h C S) (hd : decode bytes pc = .ok (.iload k, 2)) (hp : pc + 2 = pc') (hl : Ls[k]? = some (.val (.int v))) (K : Go Γ n0 Q T (mkF Γ.m pc' Ls (.int v :: st))) : Go Γ n0 Q T (mkF Γ.m pc Ls (st)) := by
  subst hp
  obtain ⟨hx, hZ0, hown0, hby, hml, hret, hnm, hlk, hR, hsH⟩ := G
  obtain ⟨L, vm0, k0, X, e, N, hS, hk⟩ := X
  have hZ : Z.Warmed39 (Γ.s.setVm vm0).vm := State.Warmed39.trans hZ0 hS.1
  have hown : (Γ.s.setVm vm0).vm.findClass own = some Γ.m.cls := by rw [show (Γ.s.setVm vm0).vm = vm0 from rfl, hS.1.alike.findClass]; exact hown0
  exact Go.of (fun t k => XS.iload X.here hx rfl (hb hby hd) hl k) K
theorem k_lloadN {k : Fin 4} {v : Int64} (G : Ctx Γ Z own bytes maxl ret nm rm hs0) (X : W Γ n0 T h C S) (hd : decode bytes pc = .ok (.lload_n k, 1)) (hp : pc + 1 = pc') (hl : Ls[k.val]? = some (.val (.long v))) (K : Go Γ n0 Q T (mkF Γ.m pc' Ls (.long v :: st))) : Go Γ n0 Q T (mkF Γ.m pc Ls (st)) := by
  subst hp
  obtain ⟨hx, hZ0, hown0, hby, hml, hret, hnm, hlk, hR, hsH⟩ := G
  obtain ⟨L, vm0, k0, X, e, N, hS, hk⟩ := X
  have hZ : Z.Warmed39 (Γ.s.setVm vm0).vm := State.Warmed39.trans hZ0 hS.1
  have hown : (Γ.s.setVm vm0).vm.findClass own = some Γ.m.cls := by rw [show (Γ.s.setVm vm0).vm = vm0 from rfl, hS.1.alike.findClass]; exact hown0
  exact Go.of (fun t k => XS.lloadN X.here hx rfl (hb hby hd) hl k) K
theorem k_lload {k : Nat} {v : Int64} (G : Ctx Γ Z own bytes maxl ret nm rm hs0) (X : W Γ n0 T h C S) (hd : decode bytes pc = .ok (.lload k, 2)) (hp : pc + 2 = pc') (hl : Ls[k]? = some (.val (.long v))) (K : Go Γ n0 Q T (mkF Γ.m pc' Ls (.long v :: st))) : Go Γ n0 Q T (mkF Γ.m pc Ls (st)) := by
  subst hp
  obtain ⟨hx, hZ0, hown0, hby, hml, hret, hnm, hlk, hR, hsH⟩ := G
  obtain ⟨L, vm0, k0, X, e, N, hS, hk⟩ := X
  have hZ : Z.Warmed39 (Γ.s.setVm vm0).vm := State.Warmed39.trans hZ0 hS.1
  have hown : (Γ.s.setVm vm0).vm.findClass own = some Γ.m.cls := by rw [show (Γ.s.setVm vm0).vm = vm0 from rfl, hS.1.alike.findClass]; exact hown0
  exact Go.of (fun t k => XS.lload X.here hx rfl (hb hby hd) hl k) K
theorem k_aloadN {k : Fin 4} {v : Value} (G : Ctx Γ Z own bytes maxl ret nm rm hs0) (X : W Γ n0 T h C S) (hd : decode bytes pc = .ok (.aload_n k, 1)) (hp : pc + 1 = pc') (hl : Ls[k.val]? = some (.val v)) (hv : v.isRef = true) (K : Go Γ n0 Q T (mkF Γ.m pc' Ls (v :: st))) : Go Γ n0 Q T (mkF Γ.m pc Ls (st)) := by
  subst hp
  obtain ⟨hx, hZ0, hown0, hby, hml, hret, hnm, hlk, hR, hsH⟩ := G
  obtain ⟨L, vm0, k0, X, e, N, hS, hk⟩ := X
  have hZ : Z.Warmed39 (Γ.s.setVm vm0).vm := State.Warmed39.trans hZ0 hS.1
  have hown : (Γ.s.setVm vm0).vm.findClass own = some Γ.m.cls := by rw [show (Γ.s.setVm vm0).vm = vm0 from rfl, hS.1.alike.findClass]; exact hown0
  exact Go.of (fun t k => XS.aloadN X.here hx rfl (hb hby hd) hl hv k) K
theorem k_aload {k : Nat} {v : Value} (G : Ctx Γ Z own bytes maxl ret nm rm hs0) (X : W Γ n0 T h C S) (hd : decode bytes pc = .ok (.aload k, 2)) (hp : pc + 2 = pc') (hl : Ls[k]? = some (.val v)) (hv : v.isRef = true) (K : Go Γ n0 Q T (mkF Γ.m pc' Ls (v :: st))) : Go Γ n0 Q T (mkF Γ.m pc Ls (st)) := by
  subst hp
  obtain ⟨hx, hZ0, hown0, hby, hml, hret, hnm, hlk, hR, hsH⟩ := G
  obtain ⟨L, vm0, k0, X, e, N, hS, hk⟩ := X
  have hZ : Z.Warmed39 (Γ.s.setVm vm0).vm := State.Warmed39.trans hZ0 hS.1
  have hown : (Γ.s.setVm vm0).vm.findClass own = some Γ.m.cls := by rw [show (Γ.s.setVm vm0).vm = vm0 from rfl, hS.1.alike.findClass]; exact hown0
  exact Go.of (fun t k => XS.aload X.here hx rfl (hb hby hd) hl hv k) K
theorem k_istoreN {k : Fin 4} {v : Int32} {l' : Array Slot} (G : Ctx Γ Z own bytes maxl ret nm rm hs0) (X : W Γ n0 T h C S) (hd : decode bytes pc = .ok (.istore_n k, 1)) (hp : pc + 1 = pc') (hl : storeLocals Ls k.val (.int v) = some l') (K : Go Γ n0 Q T (mkF Γ.m pc' l' (st))) : Go Γ n0 Q T (mkF Γ.m pc Ls (.int v :: st)) := by
  subst hp
  obtain ⟨hx, hZ0, hown0, hby, hml, hret, hnm, hlk, hR, hsH⟩ := G
  obtain ⟨L, vm0, k0, X, e, N, hS, hk⟩ := X
  have hZ : Z.Warmed39 (Γ.s.setVm vm0).vm := State.Warmed39.trans hZ0 hS.1
  have hown : (Γ.s.setVm vm0).vm.findClass own = some Γ.m.cls := by rw [show (Γ.s.setVm vm0).vm = vm0 from rfl, hS.1.alike.findClass]; exact hown0
  exact Go.of (fun t k => XS.istoreN X.here hx rfl (hb hby hd) rfl hl k) K
theorem k_istore {k : Nat} {v : Int32} {l' : Array Slot} (G : Ctx Γ Z own bytes maxl ret nm rm hs0) (X : W Γ n0 T h C S) (hd : decode bytes pc = .ok (.istore k, 2)) (hp : pc + 2 = pc') (hl : storeLocals Ls k (.int v) = some l') (K : Go Γ n0 Q T (mkF Γ.m pc' l' (st))) : Go Γ n0 Q T (mkF Γ.m pc Ls (.int v :: st)) := by
  subst hp
  obtain ⟨hx, hZ0, hown0, hby, hml, hret, hnm, hlk, hR, hsH⟩ := G
  obtain ⟨L, vm0, k0, X, e, N, hS, hk⟩ := X
  have hZ : Z.Warmed39 (Γ.s.setVm vm0).vm := State.Warmed39.trans hZ0 hS.1
  have hown : (Γ.s.setVm vm0).vm.findClass own = some Γ.m.cls := by rw [show (Γ.s.setVm vm0).vm = vm0 from rfl, hS.1.alike.findClass]; exact hown0
  exact Go.of (fun t k => XS.istore X.here hx rfl (hb hby hd) rfl hl k) K
theorem k_lstoreN {k : Fin 4} {v : Int64} {l' : Array Slot} (G : Ctx Γ Z own bytes maxl ret nm rm hs0) (X : W Γ n0 T h C S) (hd : decode bytes pc = .ok (.lstore_n k, 1)) (hp : pc + 1 = pc') (hl : storeLocals Ls k.val (.long v) = some l') (K : Go Γ n0 Q T (mkF Γ.m pc' l' (st))) : Go Γ n0 Q T (mkF Γ.m pc Ls (.long v :: st)) := by
  subst hp
  obtain ⟨hx, hZ0, hown0, hby, hml, hret, hnm, hlk, hR, hsH⟩ := G
  obtain ⟨L, vm0, k0, X, e, N, hS, hk⟩ := X
  have hZ : Z.Warmed39 (Γ.s.setVm vm0).vm := State.Warmed39.trans hZ0 hS.1
  have hown : (Γ.s.setVm vm0).vm.findClass own = some Γ.m.cls := by rw [show (Γ.s.setVm vm0).vm = vm0 from rfl, hS.1.alike.findClass]; exact hown0
  exact Go.of (fun t k => XS.lstoreN X.here hx rfl (hb hby hd) rfl hl k) K
theorem k_lstore {k : Nat} {v : Int64} {l' : Array Slot} (G : Ctx Γ Z own bytes maxl ret nm rm hs0) (X : W Γ n0 T h C S) (hd : decode bytes pc = .ok (.lstore k, 2)) (hp : pc + 2 = pc') (hl : storeLocals Ls k (.long v) = some l') (K : Go Γ n0 Q T (mkF Γ.m pc' l' (st))) : Go Γ n0 Q T (mkF Γ.m pc Ls (.long v :: st)) := by
  subst hp
  obtain ⟨hx, hZ0, hown0, hby, hml, hret, hnm, hlk, hR, hsH⟩ := G
  obtain ⟨L, vm0, k0, X, e, N, hS, hk⟩ := X
  have hZ : Z.Warmed39 (Γ.s.setVm vm0).vm := State.Warmed39.trans hZ0 hS.1
  have hown : (Γ.s.setVm vm0).vm.findClass own = some Γ.m.cls := by rw [show (Γ.s.setVm vm0).vm = vm0 from rfl, hS.1.alike.findClass]; exact hown0
  exact Go.of (fun t k => XS.lstore X.here hx rfl (hb hby hd) rfl hl k) K
theorem k_astoreN {k : Fin 4} {v : Value} {l' : Array Slot} (G : Ctx Γ Z own bytes maxl ret nm rm hs0) (X : W Γ n0 T h C S) (hd : decode bytes pc = .ok (.astore_n k, 1)) (hp : pc + 1 = pc') (hv : v.isRef = true) (hl : storeLocals Ls k.val v = some l') (K : Go Γ n0 Q T (mkF Γ.m pc' l' (st))) : Go Γ n0 Q T (mkF Γ.m pc Ls (v :: st)) := by
  subst hp
  obtain ⟨hx, hZ0, hown0, hby, hml, hret, hnm, hlk, hR, hsH⟩ := G
  obtain ⟨L, vm0, k0, X, e, N, hS, hk⟩ := X
  have hZ : Z.Warmed39 (Γ.s.setVm vm0).vm := State.Warmed39.trans hZ0 hS.1
  have hown : (Γ.s.setVm vm0).vm.findClass own = some Γ.m.cls := by rw [show (Γ.s.setVm vm0).vm = vm0 from rfl, hS.1.alike.findClass]; exact hown0
  exact Go.of (fun t k => XS.astoreN X.here hx rfl (hb hby hd) rfl hv hl k) K
theorem k_astore {k : Nat} {v : Value} {l' : Array Slot} (G : Ctx Γ Z own bytes maxl ret nm rm hs0) (X : W Γ n0 T h C S) (hd : decode bytes pc = .ok (.astore k, 2)) (hp : pc + 2 = pc') (hv : v.isRef = true) (hl : storeLocals Ls k v = some l') (K : Go Γ n0 Q T (mkF Γ.m pc' l' (st))) : Go Γ n0 Q T (mkF Γ.m pc Ls (v :: st)) := by
  subst hp
  obtain ⟨hx, hZ0, hown0, hby, hml, hret, hnm, hlk, hR, hsH⟩ := G
  obtain ⟨L, vm0, k0, X, e, N, hS, hk⟩ := X
  have hZ : Z.Warmed39 (Γ.s.setVm vm0).vm := State.Warmed39.trans hZ0 hS.1
  have hown : (Γ.s.setVm vm0).vm.findClass own = some Γ.m.cls := by rw [show (Γ.s.setVm vm0).vm = vm0 from rfl, hS.1.alike.findClass]; exact hown0
  exact Go.of (fun t k => XS.astore X.here hx rfl (hb hby hd) rfl hv hl k) K
theorem k_iconst {i : Int} {z : Int32} (G : Ctx Γ Z own bytes maxl ret nm rm hs0) (X : W Γ n0 T h C S) (hd : decode bytes pc = .ok (.iconst i, 1)) (hp : pc + 1 = pc') (hz : Int32.ofInt i = z) (K : Go Γ n0 Q T (mkF Γ.m pc' Ls (.int z :: st))) : Go Γ n0 Q T (mkF Γ.m pc Ls (st)) := by
  subst hp
  obtain ⟨hx, hZ0, hown0, hby, hml, hret, hnm, hlk, hR, hsH⟩ := G
  obtain ⟨L, vm0, k0, X, e, N, hS, hk⟩ := X
  have hZ : Z.Warmed39 (Γ.s.setVm vm0).vm := State.Warmed39.trans hZ0 hS.1
  have hown : (Γ.s.setVm vm0).vm.findClass own = some Γ.m.cls := by rw [show (Γ.s.setVm vm0).vm = vm0 from rfl, hS.1.alike.findClass]; exact hown0
  subst hz
  exact Go.of (fun t k => XS.iconst X.here hx rfl (hb hby hd) k) K
theorem k_bipush {i : Int} {z : Int32} (G : Ctx Γ Z own bytes maxl ret nm rm hs0) (X : W Γ n0 T h C S) (hd : decode bytes pc = .ok (.bipush i, 2)) (hp : pc + 2 = pc') (hz : (Int8.ofInt i).toInt32 = z) (K : Go Γ n0 Q T (mkF Γ.m pc' Ls (.int z :: st))) : Go Γ n0 Q T (mkF Γ.m pc Ls (st)) := by
  subst hp
  obtain ⟨hx, hZ0, hown0, hby, hml, hret, hnm, hlk, hR, hsH⟩ := G
  obtain ⟨L, vm0, k0, X, e, N, hS, hk⟩ := X
  have hZ : Z.Warmed39 (Γ.s.setVm vm0).vm := State.Warmed39.trans hZ0 hS.1
  have hown : (Γ.s.setVm vm0).vm.findClass own = some Γ.m.cls := by rw [show (Γ.s.setVm vm0).vm = vm0 from rfl, hS.1.alike.findClass]; exact hown0
  subst hz
  exact Go.of (fun t k => XS.bipush X.here hx rfl (hb hby hd) k) K
theorem k_sipush {i : Int} {z : Int32} (G : Ctx Γ Z own bytes maxl ret nm rm hs0) (X : W Γ n0 T h C S) (hd : decode bytes pc = .ok (.sipush i, 3)) (hp : pc + 3 = pc') (hz : (Int16.ofInt i).toInt32 = z) (K : Go Γ n0 Q T (mkF Γ.m pc' Ls (.int z :: st))) : Go Γ n0 Q T (mkF Γ.m pc Ls (st)) := by
  subst hp
  obtain ⟨hx, hZ0, hown0, hby, hml, hret, hnm, hlk, hR, hsH⟩ := G
  obtain ⟨L, vm0, k0, X, e, N, hS, hk⟩ := X
  have hZ : Z.Warmed39 (Γ.s.setVm vm0).vm := State.Warmed39.trans hZ0 hS.1
  have hown : (Γ.s.setVm vm0).vm.findClass own = some Γ.m.cls := by rw [show (Γ.s.setVm vm0).vm = vm0 from rfl, hS.1.alike.findClass]; exact hown0
  subst hz
  exact Go.of (fun t k => XS.sipush X.here hx rfl (hb hby hd) k) K
theorem k_lconst {i : Fin 2} {z : Int64} (G : Ctx Γ Z own bytes maxl ret nm rm hs0) (X : W Γ n0 T h C S) (hd : decode bytes pc = .ok (.lconst i, 1)) (hp : pc + 1 = pc') (hz : Int64.ofNat i = z) (K : Go Γ n0 Q T (mkF Γ.m pc' Ls (.long z :: st))) : Go Γ n0 Q T (mkF Γ.m pc Ls (st)) := by
  subst hp
  obtain ⟨hx, hZ0, hown0, hby, hml, hret, hnm, hlk, hR, hsH⟩ := G
  obtain ⟨L, vm0, k0, X, e, N, hS, hk⟩ := X
  have hZ : Z.Warmed39 (Γ.s.setVm vm0).vm := State.Warmed39.trans hZ0 hS.1
  have hown : (Γ.s.setVm vm0).vm.findClass own = some Γ.m.cls := by rw [show (Γ.s.setVm vm0).vm = vm0 from rfl, hS.1.alike.findClass]; exact hown0
  subst hz
  exact Go.of (fun t k => XS.lconst X.here hx rfl (hb hby hd) k) K
theorem k_anull  (G : Ctx Γ Z own bytes maxl ret nm rm hs0) (X : W Γ n0 T h C S) (hd : decode bytes pc = .ok (.aconst_null, 1)) (hp : pc + 1 = pc')  (K : Go Γ n0 Q T (mkF Γ.m pc' Ls (.null :: st))) : Go Γ n0 Q T (mkF Γ.m pc Ls (st)) := by
  subst hp
  obtain ⟨hx, hZ0, hown0, hby, hml, hret, hnm, hlk, hR, hsH⟩ := G
  obtain ⟨L, vm0, k0, X, e, N, hS, hk⟩ := X
  have hZ : Z.Warmed39 (Γ.s.setVm vm0).vm := State.Warmed39.trans hZ0 hS.1
  have hown : (Γ.s.setVm vm0).vm.findClass own = some Γ.m.cls := by rw [show (Γ.s.setVm vm0).vm = vm0 from rfl, hS.1.alike.findClass]; exact hown0
  exact Go.of (fun t k => XS.aconstNull X.here hx rfl (hb hby hd) k) K
theorem k_iadd {x y z : Int32} (G : Ctx Γ Z own bytes maxl ret nm rm hs0) (X : W Γ n0 T h C S) (hd : decode bytes pc = .ok (.iadd, 1)) (hp : pc + 1 = pc') (hz : x + y = z) (K : Go Γ n0 Q T (mkF Γ.m pc' Ls (.int z :: st))) : Go Γ n0 Q T (mkF Γ.m pc Ls (.int y :: .int x :: st)) := by
  subst hp
  obtain ⟨hx, hZ0, hown0, hby, hml, hret, hnm, hlk, hR, hsH⟩ := G
  obtain ⟨L, vm0, k0, X, e, N, hS, hk⟩ := X
  have hZ : Z.Warmed39 (Γ.s.setVm vm0).vm := State.Warmed39.trans hZ0 hS.1
  have hown : (Γ.s.setVm vm0).vm.findClass own = some Γ.m.cls := by rw [show (Γ.s.setVm vm0).vm = vm0 from rfl, hS.1.alike.findClass]; exact hown0
  subst hz
  exact Go.of (fun t k => XS.iadd X.here hx rfl (hb hby hd) rfl k) K
theorem k_isub {x y z : Int32} (G : Ctx Γ Z own bytes maxl ret nm rm hs0) (X : W Γ n0 T h C S) (hd : decode bytes pc = .ok (.isub, 1)) (hp : pc + 1 = pc') (hz : x - y = z) (K : Go Γ n0 Q T (mkF Γ.m pc' Ls (.int z :: st))) : Go Γ n0 Q T (mkF Γ.m pc Ls (.int y :: .int x :: st)) := by
  subst hp
  obtain ⟨hx, hZ0, hown0, hby, hml, hret, hnm, hlk, hR, hsH⟩ := G
  obtain ⟨L, vm0, k0, X, e, N, hS, hk⟩ := X
  have hZ : Z.Warmed39 (Γ.s.setVm vm0).vm := State.Warmed39.trans hZ0 hS.1
  have hown : (Γ.s.setVm vm0).vm.findClass own = some Γ.m.cls := by rw [show (Γ.s.setVm vm0).vm = vm0 from rfl, hS.1.alike.findClass]; exact hown0
  subst hz
  exact Go.of (fun t k => XS.isub X.here hx rfl (hb hby hd) rfl k) K
theorem k_imul {x y z : Int32} (G : Ctx Γ Z own bytes maxl ret nm rm hs0) (X : W Γ n0 T h C S) (hd : decode bytes pc = .ok (.imul, 1)) (hp : pc + 1 = pc') (hz : x * y = z) (K : Go Γ n0 Q T (mkF Γ.m pc' Ls (.int z :: st))) : Go Γ n0 Q T (mkF Γ.m pc Ls (.int y :: .int x :: st)) := by
  subst hp
  obtain ⟨hx, hZ0, hown0, hby, hml, hret, hnm, hlk, hR, hsH⟩ := G
  obtain ⟨L, vm0, k0, X, e, N, hS, hk⟩ := X
  have hZ : Z.Warmed39 (Γ.s.setVm vm0).vm := State.Warmed39.trans hZ0 hS.1
  have hown : (Γ.s.setVm vm0).vm.findClass own = some Γ.m.cls := by rw [show (Γ.s.setVm vm0).vm = vm0 from rfl, hS.1.alike.findClass]; exact hown0
  subst hz
  exact Go.of (fun t k => XS.imul X.here hx rfl (hb hby hd) rfl k) K
theorem k_iand {x y z : Int32} (G : Ctx Γ Z own bytes maxl ret nm rm hs0) (X : W Γ n0 T h C S) (hd : decode bytes pc = .ok (.iand, 1)) (hp : pc + 1 = pc') (hz : x &&& y = z) (K : Go Γ n0 Q T (mkF Γ.m pc' Ls (.int z :: st))) : Go Γ n0 Q T (mkF Γ.m pc Ls (.int y :: .int x :: st)) := by
  subst hp
  obtain ⟨hx, hZ0, hown0, hby, hml, hret, hnm, hlk, hR, hsH⟩ := G
  obtain ⟨L, vm0, k0, X, e, N, hS, hk⟩ := X
  have hZ : Z.Warmed39 (Γ.s.setVm vm0).vm := State.Warmed39.trans hZ0 hS.1
  have hown : (Γ.s.setVm vm0).vm.findClass own = some Γ.m.cls := by rw [show (Γ.s.setVm vm0).vm = vm0 from rfl, hS.1.alike.findClass]; exact hown0
  subst hz
  exact Go.of (fun t k => XS.iand X.here hx rfl (hb hby hd) rfl k) K
theorem k_ior {x y z : Int32} (G : Ctx Γ Z own bytes maxl ret nm rm hs0) (X : W Γ n0 T h C S) (hd : decode bytes pc = .ok (.ior, 1)) (hp : pc + 1 = pc') (hz : x ||| y = z) (K : Go Γ n0 Q T (mkF Γ.m pc' Ls (.int z :: st))) : Go Γ n0 Q T (mkF Γ.m pc Ls (.int y :: .int x :: st)) := by
  subst hp
  obtain ⟨hx, hZ0, hown0, hby, hml, hret, hnm, hlk, hR, hsH⟩ := G
  obtain ⟨L, vm0, k0, X, e, N, hS, hk⟩ := X
  have hZ : Z.Warmed39 (Γ.s.setVm vm0).vm := State.Warmed39.trans hZ0 hS.1
  have hown : (Γ.s.setVm vm0).vm.findClass own = some Γ.m.cls := by rw [show (Γ.s.setVm vm0).vm = vm0 from rfl, hS.1.alike.findClass]; exact hown0
  subst hz
  exact Go.of (fun t k => XS.ior X.here hx rfl (hb hby hd) rfl k) K
theorem k_ixor {x y z : Int32} (G : Ctx Γ Z own bytes maxl ret nm rm hs0) (X : W Γ n0 T h C S) (hd : decode bytes pc = .ok (.ixor, 1)) (hp : pc + 1 = pc') (hz : x ^^^ y = z) (K : Go Γ n0 Q T (mkF Γ.m pc' Ls (.int z :: st))) : Go Γ n0 Q T (mkF Γ.m pc Ls (.int y :: .int x :: st)) := by
  subst hp
  obtain ⟨hx, hZ0, hown0, hby, hml, hret, hnm, hlk, hR, hsH⟩ := G
  obtain ⟨L, vm0, k0, X, e, N, hS, hk⟩ := X
  have hZ : Z.Warmed39 (Γ.s.setVm vm0).vm := State.Warmed39.trans hZ0 hS.1
  have hown : (Γ.s.setVm vm0).vm.findClass own = some Γ.m.cls := by rw [show (Γ.s.setVm vm0).vm = vm0 from rfl, hS.1.alike.findClass]; exact hown0
  subst hz
  exact Go.of (fun t k => XS.ixor X.here hx rfl (hb hby hd) rfl k) K
theorem k_ishl {x y z : Int32} (G : Ctx Γ Z own bytes maxl ret nm rm hs0) (X : W Γ n0 T h C S) (hd : decode bytes pc = .ok (.ishl, 1)) (hp : pc + 1 = pc') (hz : x <<< (y &&& 31) = z) (K : Go Γ n0 Q T (mkF Γ.m pc' Ls (.int z :: st))) : Go Γ n0 Q T (mkF Γ.m pc Ls (.int y :: .int x :: st)) := by
  subst hp
  obtain ⟨hx, hZ0, hown0, hby, hml, hret, hnm, hlk, hR, hsH⟩ := G
  obtain ⟨L, vm0, k0, X, e, N, hS, hk⟩ := X
  have hZ : Z.Warmed39 (Γ.s.setVm vm0).vm := State.Warmed39.trans hZ0 hS.1
  have hown : (Γ.s.setVm vm0).vm.findClass own = some Γ.m.cls := by rw [show (Γ.s.setVm vm0).vm = vm0 from rfl, hS.1.alike.findClass]; exact hown0
  subst hz
  exact Go.of (fun t k => XS.ishl X.here hx rfl (hb hby hd) rfl k) K
theorem k_ishr {x y z : Int32} (G : Ctx Γ Z own bytes maxl ret nm rm hs0) (X : W Γ n0 T h C S) (hd : decode bytes pc = .ok (.ishr, 1)) (hp : pc + 1 = pc') (hz : x >>> (y &&& 31) = z) (K : Go Γ n0 Q T (mkF Γ.m pc' Ls (.int z :: st))) : Go Γ n0 Q T (mkF Γ.m pc Ls (.int y :: .int x :: st)) := by
  subst hp
  obtain ⟨hx, hZ0, hown0, hby, hml, hret, hnm, hlk, hR, hsH⟩ := G
  obtain ⟨L, vm0, k0, X, e, N, hS, hk⟩ := X
  have hZ : Z.Warmed39 (Γ.s.setVm vm0).vm := State.Warmed39.trans hZ0 hS.1
  have hown : (Γ.s.setVm vm0).vm.findClass own = some Γ.m.cls := by rw [show (Γ.s.setVm vm0).vm = vm0 from rfl, hS.1.alike.findClass]; exact hown0
  subst hz
  exact Go.of (fun t k => XS.ishr X.here hx rfl (hb hby hd) rfl k) K
theorem k_iushr {x y z : Int32} (G : Ctx Γ Z own bytes maxl ret nm rm hs0) (X : W Γ n0 T h C S) (hd : decode bytes pc = .ok (.iushr, 1)) (hp : pc + 1 = pc') (hz : (x.toUInt32 >>> (y &&& 31).toUInt32).toInt32 = z) (K : Go Γ n0 Q T (mkF Γ.m pc' Ls (.int z :: st))) : Go Γ n0 Q T (mkF Γ.m pc Ls (.int y :: .int x :: st)) := by
  subst hp
  obtain ⟨hx, hZ0, hown0, hby, hml, hret, hnm, hlk, hR, hsH⟩ := G
  obtain ⟨L, vm0, k0, X, e, N, hS, hk⟩ := X
  have hZ : Z.Warmed39 (Γ.s.setVm vm0).vm := State.Warmed39.trans hZ0 hS.1
  have hown : (Γ.s.setVm vm0).vm.findClass own = some Γ.m.cls := by rw [show (Γ.s.setVm vm0).vm = vm0 from rfl, hS.1.alike.findClass]; exact hown0
  subst hz
  exact Go.of (fun t k => XS.iushr X.here hx rfl (hb hby hd) rfl k) K
theorem k_ladd {x y z : Int64} (G : Ctx Γ Z own bytes maxl ret nm rm hs0) (X : W Γ n0 T h C S) (hd : decode bytes pc = .ok (.ladd, 1)) (hp : pc + 1 = pc') (hz : x + y = z) (K : Go Γ n0 Q T (mkF Γ.m pc' Ls (.long z :: st))) : Go Γ n0 Q T (mkF Γ.m pc Ls (.long y :: .long x :: st)) := by
  subst hp
  obtain ⟨hx, hZ0, hown0, hby, hml, hret, hnm, hlk, hR, hsH⟩ := G
  obtain ⟨L, vm0, k0, X, e, N, hS, hk⟩ := X
  have hZ : Z.Warmed39 (Γ.s.setVm vm0).vm := State.Warmed39.trans hZ0 hS.1
  have hown : (Γ.s.setVm vm0).vm.findClass own = some Γ.m.cls := by rw [show (Γ.s.setVm vm0).vm = vm0 from rfl, hS.1.alike.findClass]; exact hown0
  subst hz
  exact Go.of (fun t k => XS.ladd X.here hx rfl (hb hby hd) rfl k) K
theorem k_lsub {x y z : Int64} (G : Ctx Γ Z own bytes maxl ret nm rm hs0) (X : W Γ n0 T h C S) (hd : decode bytes pc = .ok (.lsub, 1)) (hp : pc + 1 = pc') (hz : x - y = z) (K : Go Γ n0 Q T (mkF Γ.m pc' Ls (.long z :: st))) : Go Γ n0 Q T (mkF Γ.m pc Ls (.long y :: .long x :: st)) := by
  subst hp
  obtain ⟨hx, hZ0, hown0, hby, hml, hret, hnm, hlk, hR, hsH⟩ := G
  obtain ⟨L, vm0, k0, X, e, N, hS, hk⟩ := X
  have hZ : Z.Warmed39 (Γ.s.setVm vm0).vm := State.Warmed39.trans hZ0 hS.1
  have hown : (Γ.s.setVm vm0).vm.findClass own = some Γ.m.cls := by rw [show (Γ.s.setVm vm0).vm = vm0 from rfl, hS.1.alike.findClass]; exact hown0
  subst hz
  exact Go.of (fun t k => XS.lsub X.here hx rfl (hb hby hd) rfl k) K
theorem k_lmul {x y z : Int64} (G : Ctx Γ Z own bytes maxl ret nm rm hs0) (X : W Γ n0 T h C S) (hd : decode bytes pc = .ok (.lmul, 1)) (hp : pc + 1 = pc') (hz : x * y = z) (K : Go Γ n0 Q T (mkF Γ.m pc' Ls (.long z :: st))) : Go Γ n0 Q T (mkF Γ.m pc Ls (.long y :: .long x :: st)) := by
  subst hp
  obtain ⟨hx, hZ0, hown0, hby, hml, hret, hnm, hlk, hR, hsH⟩ := G
  obtain ⟨L, vm0, k0, X, e, N, hS, hk⟩ := X
  have hZ : Z.Warmed39 (Γ.s.setVm vm0).vm := State.Warmed39.trans hZ0 hS.1
  have hown : (Γ.s.setVm vm0).vm.findClass own = some Γ.m.cls := by rw [show (Γ.s.setVm vm0).vm = vm0 from rfl, hS.1.alike.findClass]; exact hown0
  subst hz
  exact Go.of (fun t k => XS.lmul X.here hx rfl (hb hby hd) rfl k) K
theorem k_land {x y z : Int64} (G : Ctx Γ Z own bytes maxl ret nm rm hs0) (X : W Γ n0 T h C S) (hd : decode bytes pc = .ok (.land, 1)) (hp : pc + 1 = pc') (hz : x &&& y = z) (K : Go Γ n0 Q T (mkF Γ.m pc' Ls (.long z :: st))) : Go Γ n0 Q T (mkF Γ.m pc Ls (.long y :: .long x :: st)) := by
  subst hp
  obtain ⟨hx, hZ0, hown0, hby, hml, hret, hnm, hlk, hR, hsH⟩ := G
  obtain ⟨L, vm0, k0, X, e, N, hS, hk⟩ := X
  have hZ : Z.Warmed39 (Γ.s.setVm vm0).vm := State.Warmed39.trans hZ0 hS.1
  have hown : (Γ.s.setVm vm0).vm.findClass own = some Γ.m.cls := by rw [show (Γ.s.setVm vm0).vm = vm0 from rfl, hS.1.alike.findClass]; exact hown0
  subst hz
  exact Go.of (fun t k => XS.land X.here hx rfl (hb hby hd) rfl k) K
theorem k_lor {x y z : Int64} (G : Ctx Γ Z own bytes maxl ret nm rm hs0) (X : W Γ n0 T h C S) (hd : decode bytes pc = .ok (.lor, 1)) (hp : pc + 1 = pc') (hz : x ||| y = z) (K : Go Γ n0 Q T (mkF Γ.m pc' Ls (.long z :: st))) : Go Γ n0 Q T (mkF Γ.m pc Ls (.long y :: .long x :: st)) := by
  subst hp
  obtain ⟨hx, hZ0, hown0, hby, hml, hret, hnm, hlk, hR, hsH⟩ := G
  obtain ⟨L, vm0, k0, X, e, N, hS, hk⟩ := X
  have hZ : Z.Warmed39 (Γ.s.setVm vm0).vm := State.Warmed39.trans hZ0 hS.1
  have hown : (Γ.s.setVm vm0).vm.findClass own = some Γ.m.cls := by rw [show (Γ.s.setVm vm0).vm = vm0 from rfl, hS.1.alike.findClass]; exact hown0
  subst hz
  exact Go.of (fun t k => XS.lor X.here hx rfl (hb hby hd) rfl k) K
theorem k_lxor {x y z : Int64} (G : Ctx Γ Z own bytes maxl ret nm rm hs0) (X : W Γ n0 T h C S) (hd : decode bytes pc = .ok (.lxor, 1)) (hp : pc + 1 = pc') (hz : x ^^^ y = z) (K : Go Γ n0 Q T (mkF Γ.m pc' Ls (.long z :: st))) : Go Γ n0 Q T (mkF Γ.m pc Ls (.long y :: .long x :: st)) := by
  subst hp
  obtain ⟨hx, hZ0, hown0, hby, hml, hret, hnm, hlk, hR, hsH⟩ := G
  obtain ⟨L, vm0, k0, X, e, N, hS, hk⟩ := X
  have hZ : Z.Warmed39 (Γ.s.setVm vm0).vm := State.Warmed39.trans hZ0 hS.1
  have hown : (Γ.s.setVm vm0).vm.findClass own = some Γ.m.cls := by rw [show (Γ.s.setVm vm0).vm = vm0 from rfl, hS.1.alike.findClass]; exact hown0
  subst hz
  exact Go.of (fun t k => XS.lxor X.here hx rfl (hb hby hd) rfl k) K
theorem k_lshl {x z : Int64} {y : Int32} (G : Ctx Γ Z own bytes maxl ret nm rm hs0) (X : W Γ n0 T h C S) (hd : decode bytes pc = .ok (.lshl, 1)) (hp : pc + 1 = pc') (hz : x <<< (y &&& 0x3f).toInt64 = z) (K : Go Γ n0 Q T (mkF Γ.m pc' Ls (.long z :: st))) : Go Γ n0 Q T (mkF Γ.m pc Ls (.int y :: .long x :: st)) := by
  subst hp
  obtain ⟨hx, hZ0, hown0, hby, hml, hret, hnm, hlk, hR, hsH⟩ := G
  obtain ⟨L, vm0, k0, X, e, N, hS, hk⟩ := X
  have hZ : Z.Warmed39 (Γ.s.setVm vm0).vm := State.Warmed39.trans hZ0 hS.1
  have hown : (Γ.s.setVm vm0).vm.findClass own = some Γ.m.cls := by rw [show (Γ.s.setVm vm0).vm = vm0 from rfl, hS.1.alike.findClass]; exact hown0
  subst hz
  exact Go.of (fun t k => XS.lshl X.here hx rfl (hb hby hd) rfl k) K
theorem k_lshr {x z : Int64} {y : Int32} (G : Ctx Γ Z own bytes maxl ret nm rm hs0) (X : W Γ n0 T h C S) (hd : decode bytes pc = .ok (.lshr, 1)) (hp : pc + 1 = pc') (hz : x >>> (y &&& 0x3f).toInt64 = z) (K : Go Γ n0 Q T (mkF Γ.m pc' Ls (.long z :: st))) : Go Γ n0 Q T (mkF Γ.m pc Ls (.int y :: .long x :: st)) := by
  subst hp
  obtain ⟨hx, hZ0, hown0, hby, hml, hret, hnm, hlk, hR, hsH⟩ := G
  obtain ⟨L, vm0, k0, X, e, N, hS, hk⟩ := X
  have hZ : Z.Warmed39 (Γ.s.setVm vm0).vm := State.Warmed39.trans hZ0 hS.1
  have hown : (Γ.s.setVm vm0).vm.findClass own = some Γ.m.cls := by rw [show (Γ.s.setVm vm0).vm = vm0 from rfl, hS.1.alike.findClass]; exact hown0
  subst hz
  exact Go.of (fun t k => XS.lshr X.here hx rfl (hb hby hd) rfl k) K
theorem k_lushr {x z : Int64} {y : Int32} (G : Ctx Γ Z own bytes maxl ret nm rm hs0) (X : W Γ n0 T h C S) (hd : decode bytes pc = .ok (.lushr, 1)) (hp : pc + 1 = pc') (hz : (x.toUInt64 >>> (y &&& 0x3f).toInt64.toUInt64).toInt64 = z) (K : Go Γ n0 Q T (mkF Γ.m pc' Ls (.long z :: st))) : Go Γ n0 Q T (mkF Γ.m pc Ls (.int y :: .long x :: st)) := by
  subst hp
  obtain ⟨hx, hZ0, hown0, hby, hml, hret, hnm, hlk, hR, hsH⟩ := G
  obtain ⟨L, vm0, k0, X, e, N, hS, hk⟩ := X
  have hZ : Z.Warmed39 (Γ.s.setVm vm0).vm := State.Warmed39.trans hZ0 hS.1
  have hown : (Γ.s.setVm vm0).vm.findClass own = some Γ.m.cls := by rw [show (Γ.s.setVm vm0).vm = vm0 from rfl, hS.1.alike.findClass]; exact hown0
  subst hz
  exact Go.of (fun t k => XS.lushr X.here hx rfl (hb hby hd) rfl k) K
theorem k_idiv {x y z : Int32} (G : Ctx Γ Z own bytes maxl ret nm rm hs0) (X : W Γ n0 T h C S) (hd : decode bytes pc = .ok (.idiv, 1)) (hp : pc + 1 = pc') (hy : y ≠ 0) (hz : x / y = z) (K : Go Γ n0 Q T (mkF Γ.m pc' Ls (.int z :: st))) : Go Γ n0 Q T (mkF Γ.m pc Ls (.int y :: .int x :: st)) := by
  subst hp
  obtain ⟨hx, hZ0, hown0, hby, hml, hret, hnm, hlk, hR, hsH⟩ := G
  obtain ⟨L, vm0, k0, X, e, N, hS, hk⟩ := X
  have hZ : Z.Warmed39 (Γ.s.setVm vm0).vm := State.Warmed39.trans hZ0 hS.1
  have hown : (Γ.s.setVm vm0).vm.findClass own = some Γ.m.cls := by rw [show (Γ.s.setVm vm0).vm = vm0 from rfl, hS.1.alike.findClass]; exact hown0
  subst hz
  exact Go.of (fun t k => XS.idiv X.here hx rfl (hb hby hd) rfl hy k) K
theorem k_irem {x y z : Int32} (G : Ctx Γ Z own bytes maxl ret nm rm hs0) (X : W Γ n0 T h C S) (hd : decode bytes pc = .ok (.irem, 1)) (hp : pc + 1 = pc') (hy : y ≠ 0) (hz : x % y = z) (K : Go Γ n0 Q T (mkF Γ.m pc' Ls (.int z :: st))) : Go Γ n0 Q T (mkF Γ.m pc Ls (.int y :: .int x :: st)) := by
  subst hp
  obtain ⟨hx, hZ0, hown0, hby, hml, hret, hnm, hlk, hR, hsH⟩ := G
  obtain ⟨L, vm0, k0, X, e, N, hS, hk⟩ := X
  have hZ : Z.Warmed39 (Γ.s.setVm vm0).vm := State.Warmed39.trans hZ0 hS.1
  have hown : (Γ.s.setVm vm0).vm.findClass own = some Γ.m.cls := by rw [show (Γ.s.setVm vm0).vm = vm0 from rfl, hS.1.alike.findClass]; exact hown0
  subst hz
  exact Go.of (fun t k => iremM X hx rfl (hb hby hd) rfl hy k) K
theorem k_ldiv {x y z : Int64} (G : Ctx Γ Z own bytes maxl ret nm rm hs0) (X : W Γ n0 T h C S) (hd : decode bytes pc = .ok (.ldiv, 1)) (hp : pc + 1 = pc') (hy : y ≠ 0) (hz : x / y = z) (K : Go Γ n0 Q T (mkF Γ.m pc' Ls (.long z :: st))) : Go Γ n0 Q T (mkF Γ.m pc Ls (.long y :: .long x :: st)) := by
  subst hp
  obtain ⟨hx, hZ0, hown0, hby, hml, hret, hnm, hlk, hR, hsH⟩ := G
  obtain ⟨L, vm0, k0, X, e, N, hS, hk⟩ := X
  have hZ : Z.Warmed39 (Γ.s.setVm vm0).vm := State.Warmed39.trans hZ0 hS.1
  have hown : (Γ.s.setVm vm0).vm.findClass own = some Γ.m.cls := by rw [show (Γ.s.setVm vm0).vm = vm0 from rfl, hS.1.alike.findClass]; exact hown0
  subst hz
  exact Go.of (fun t k => XS.ldiv X.here hx rfl (hb hby hd) rfl hy k) K
theorem k_lrem {x y z : Int64} (G : Ctx Γ Z own bytes maxl ret nm rm hs0) (X : W Γ n0 T h C S) (hd : decode bytes pc = .ok (.lrem, 1)) (hp : pc + 1 = pc') (hy : y ≠ 0) (hz : x % y = z) (K : Go Γ n0 Q T (mkF Γ.m pc' Ls (.long z :: st))) : Go Γ n0 Q T (mkF Γ.m pc Ls (.long y :: .long x :: st)) := by
  subst hp
  obtain ⟨hx, hZ0, hown0, hby, hml, hret, hnm, hlk, hR, hsH⟩ := G
  obtain ⟨L, vm0, k0, X, e, N, hS, hk⟩ := X
  have hZ : Z.Warmed39 (Γ.s.setVm vm0).vm := State.Warmed39.trans hZ0 hS.1
  have hown : (Γ.s.setVm vm0).vm.findClass own = some Γ.m.cls := by rw [show (Γ.s.setVm vm0).vm = vm0 from rfl, hS.1.alike.findClass]; exact hown0
  subst hz
  rw [← lrem_mod] at K
  exact Go.of (fun t k => XS.lrem X.here hx rfl (hb hby hd) rfl hy k) K
theorem k_lcmp {x y : Int64} {z : Int32} (G : Ctx Γ Z own bytes maxl ret nm rm hs0) (X : W Γ n0 T h C S) (hd : decode bytes pc = .ok (.lcmp, 1)) (hp : pc + 1 = pc') (hz : (if x > y then (1 : Int32) else if x = y then 0 else -1) = z) (K : Go Γ n0 Q T (mkF Γ.m pc' Ls (.int z :: st))) : Go Γ n0 Q T (mkF Γ.m pc Ls (.long y :: .long x :: st)) := by
  subst hp
  obtain ⟨hx, hZ0, hown0, hby, hml, hret, hnm, hlk, hR, hsH⟩ := G
  obtain ⟨L, vm0, k0, X, e, N, hS, hk⟩ := X
  have hZ : Z.Warmed39 (Γ.s.setVm vm0).vm := State.Warmed39.trans hZ0 hS.1
  have hown : (Γ.s.setVm vm0).vm.findClass own = some Γ.m.cls := by rw [show (Γ.s.setVm vm0).vm = vm0 from rfl, hS.1.alike.findClass]; exact hown0
  subst hz
  exact Go.of (fun t k => XS.lcmp X.here hx rfl (hb hby hd) rfl k) K
theorem k_ineg {x : Int32} {z : Int32} (G : Ctx Γ Z own bytes maxl ret nm rm hs0) (X : W Γ n0 T h C S) (hd : decode bytes pc = .ok (.ineg, 1)) (hp : pc + 1 = pc') (hz : -x = z) (K : Go Γ n0 Q T (mkF Γ.m pc' Ls (.int z :: st))) : Go Γ n0 Q T (mkF Γ.m pc Ls (.int x :: st)) := by
  subst hp
  obtain ⟨hx, hZ0, hown0, hby, hml, hret, hnm, hlk, hR, hsH⟩ := G
  obtain ⟨L, vm0, k0, X, e, N, hS, hk⟩ := X
  have hZ : Z.Warmed39 (Γ.s.setVm vm0).vm := State.Warmed39.trans hZ0 hS.1
  have hown : (Γ.s.setVm vm0).vm.findClass own = some Γ.m.cls := by rw [show (Γ.s.setVm vm0).vm = vm0 from rfl, hS.1.alike.findClass]; exact hown0
  subst hz
  exact Go.of (fun t k => XS.ineg X.here hx rfl (hb hby hd) rfl k) K
theorem k_lneg {x : Int64} {z : Int64} (G : Ctx Γ Z own bytes maxl ret nm rm hs0) (X : W Γ n0 T h C S) (hd : decode bytes pc = .ok (.lneg, 1)) (hp : pc + 1 = pc') (hz : -x = z) (K : Go Γ n0 Q T (mkF Γ.m pc' Ls (.long z :: st))) : Go Γ n0 Q T (mkF Γ.m pc Ls (.long x :: st)) := by
  subst hp
  obtain ⟨hx, hZ0, hown0, hby, hml, hret, hnm, hlk, hR, hsH⟩ := G
  obtain ⟨L, vm0, k0, X, e, N, hS, hk⟩ := X
  have hZ : Z.Warmed39 (Γ.s.setVm vm0).vm := State.Warmed39.trans hZ0 hS.1
  have hown : (Γ.s.setVm vm0).vm.findClass own = some Γ.m.cls := by rw [show (Γ.s.setVm vm0).vm = vm0 from rfl, hS.1.alike.findClass]; exact hown0
  subst hz
  exact Go.of (fun t k => XS.lneg X.here hx rfl (hb hby hd) rfl k) K
theorem k_i2l {x : Int32} {z : Int64} (G : Ctx Γ Z own bytes maxl ret nm rm hs0) (X : W Γ n0 T h C S) (hd : decode bytes pc = .ok (.i2l, 1)) (hp : pc + 1 = pc') (hz : x.toInt64 = z) (K : Go Γ n0 Q T (mkF Γ.m pc' Ls (.long z :: st))) : Go Γ n0 Q T (mkF Γ.m pc Ls (.int x :: st)) := by
  subst hp
  obtain ⟨hx, hZ0, hown0, hby, hml, hret, hnm, hlk, hR, hsH⟩ := G
  obtain ⟨L, vm0, k0, X, e, N, hS, hk⟩ := X
  have hZ : Z.Warmed39 (Γ.s.setVm vm0).vm := State.Warmed39.trans hZ0 hS.1
  have hown : (Γ.s.setVm vm0).vm.findClass own = some Γ.m.cls := by rw [show (Γ.s.setVm vm0).vm = vm0 from rfl, hS.1.alike.findClass]; exact hown0
  subst hz
  exact Go.of (fun t k => XS.i2l X.here hx rfl (hb hby hd) rfl k) K
theorem k_l2i {x : Int64} {z : Int32} (G : Ctx Γ Z own bytes maxl ret nm rm hs0) (X : W Γ n0 T h C S) (hd : decode bytes pc = .ok (.l2i, 1)) (hp : pc + 1 = pc') (hz : x.toInt32 = z) (K : Go Γ n0 Q T (mkF Γ.m pc' Ls (.int z :: st))) : Go Γ n0 Q T (mkF Γ.m pc Ls (.long x :: st)) := by
  subst hp
  obtain ⟨hx, hZ0, hown0, hby, hml, hret, hnm, hlk, hR, hsH⟩ := G
  obtain ⟨L, vm0, k0, X, e, N, hS, hk⟩ := X
  have hZ : Z.Warmed39 (Γ.s.setVm vm0).vm := State.Warmed39.trans hZ0 hS.1
  have hown : (Γ.s.setVm vm0).vm.findClass own = some Γ.m.cls := by rw [show (Γ.s.setVm vm0).vm = vm0 from rfl, hS.1.alike.findClass]; exact hown0
  subst hz
  exact Go.of (fun t k => XS.l2i X.here hx rfl (hb hby hd) rfl k) K
theorem k_i2b {x : Int32} {z : Int32} (G : Ctx Γ Z own bytes maxl ret nm rm hs0) (X : W Γ n0 T h C S) (hd : decode bytes pc = .ok (.i2b, 1)) (hp : pc + 1 = pc') (hz : x.toInt8.toInt32 = z) (K : Go Γ n0 Q T (mkF Γ.m pc' Ls (.int z :: st))) : Go Γ n0 Q T (mkF Γ.m pc Ls (.int x :: st)) := by
  subst hp
  obtain ⟨hx, hZ0, hown0, hby, hml, hret, hnm, hlk, hR, hsH⟩ := G
  obtain ⟨L, vm0, k0, X, e, N, hS, hk⟩ := X
  have hZ : Z.Warmed39 (Γ.s.setVm vm0).vm := State.Warmed39.trans hZ0 hS.1
  have hown : (Γ.s.setVm vm0).vm.findClass own = some Γ.m.cls := by rw [show (Γ.s.setVm vm0).vm = vm0 from rfl, hS.1.alike.findClass]; exact hown0
  subst hz
  exact Go.of (fun t k => XS.i2b X.here hx rfl (hb hby hd) rfl k) K
theorem k_i2s {x : Int32} {z : Int32} (G : Ctx Γ Z own bytes maxl ret nm rm hs0) (X : W Γ n0 T h C S) (hd : decode bytes pc = .ok (.i2s, 1)) (hp : pc + 1 = pc') (hz : x.toInt16.toInt32 = z) (K : Go Γ n0 Q T (mkF Γ.m pc' Ls (.int z :: st))) : Go Γ n0 Q T (mkF Γ.m pc Ls (.int x :: st)) := by
  subst hp
  obtain ⟨hx, hZ0, hown0, hby, hml, hret, hnm, hlk, hR, hsH⟩ := G
  obtain ⟨L, vm0, k0, X, e, N, hS, hk⟩ := X
  have hZ : Z.Warmed39 (Γ.s.setVm vm0).vm := State.Warmed39.trans hZ0 hS.1
  have hown : (Γ.s.setVm vm0).vm.findClass own = some Γ.m.cls := by rw [show (Γ.s.setVm vm0).vm = vm0 from rfl, hS.1.alike.findClass]; exact hown0
  subst hz
  exact Go.of (fun t k => XS.i2s X.here hx rfl (hb hby hd) rfl k) K
theorem k_i2c {x : Int32} {z : Int32} (G : Ctx Γ Z own bytes maxl ret nm rm hs0) (X : W Γ n0 T h C S) (hd : decode bytes pc = .ok (.i2c, 1)) (hp : pc + 1 = pc') (hz : x.toUInt32.toUInt16.toUInt32.toInt32 = z) (K : Go Γ n0 Q T (mkF Γ.m pc' Ls (.int z :: st))) : Go Γ n0 Q T (mkF Γ.m pc Ls (.int x :: st)) := by
  subst hp
  obtain ⟨hx, hZ0, hown0, hby, hml, hret, hnm, hlk, hR, hsH⟩ := G
  obtain ⟨L, vm0, k0, X, e, N, hS, hk⟩ := X
  have hZ : Z.Warmed39 (Γ.s.setVm vm0).vm := State.Warmed39.trans hZ0 hS.1
  have hown : (Γ.s.setVm vm0).vm.findClass own = some Γ.m.cls := by rw [show (Γ.s.setVm vm0).vm = vm0 from rfl, hS.1.alike.findClass]; exact hown0
  subst hz
  exact Go.of (fun t k => XS.i2c X.here hx rfl (hb hby hd) rfl k) K
theorem k_pop {x : Value} (G : Ctx Γ Z own bytes maxl ret nm rm hs0) (X : W Γ n0 T h C S) (hd : decode bytes pc = .ok (.pop, 1)) (hp : pc + 1 = pc') (hc : x.category = 1) (K : Go Γ n0 Q T (mkF Γ.m pc' Ls (st))) : Go Γ n0 Q T (mkF Γ.m pc Ls (x :: st)) := by
  subst hp
  obtain ⟨hx, hZ0, hown0, hby, hml, hret, hnm, hlk, hR, hsH⟩ := G
  obtain ⟨L, vm0, k0, X, e, N, hS, hk⟩ := X
  have hZ : Z.Warmed39 (Γ.s.setVm vm0).vm := State.Warmed39.trans hZ0 hS.1
  have hown : (Γ.s.setVm vm0).vm.findClass own = some Γ.m.cls := by rw [show (Γ.s.setVm vm0).vm = vm0 from rfl, hS.1.alike.findClass]; exact hown0
  exact Go.of (fun t k => XS.pop X.here hx rfl (hb hby hd) rfl hc k) K
theorem k_dup {x : Value} (G : Ctx Γ Z own bytes maxl ret nm rm hs0) (X : W Γ n0 T h C S) (hd : decode bytes pc = .ok (.dup, 1)) (hp : pc + 1 = pc') (hc : x.category = 1) (K : Go Γ n0 Q T (mkF Γ.m pc' Ls (x :: x :: st))) : Go Γ n0 Q T (mkF Γ.m pc Ls (x :: st)) := by
  subst hp
  obtain ⟨hx, hZ0, hown0, hby, hml, hret, hnm, hlk, hR, hsH⟩ := G
  obtain ⟨L, vm0, k0, X, e, N, hS, hk⟩ := X
  have hZ : Z.Warmed39 (Γ.s.setVm vm0).vm := State.Warmed39.trans hZ0 hS.1
  have hown : (Γ.s.setVm vm0).vm.findClass own = some Γ.m.cls := by rw [show (Γ.s.setVm vm0).vm = vm0 from rfl, hS.1.alike.findClass]; exact hown0
  exact Go.of (fun t k => XS.dup X.here hx rfl (hb hby hd) rfl hc k) K
theorem k_dupx1 {x y : Value} (G : Ctx Γ Z own bytes maxl ret nm rm hs0) (X : W Γ n0 T h C S) (hd : decode bytes pc = .ok (.dup_x1, 1)) (hp : pc + 1 = pc') (hc : x.category = 1) (hc' : y.category = 1) (K : Go Γ n0 Q T (mkF Γ.m pc' Ls (x :: y :: x :: st))) : Go Γ n0 Q T (mkF Γ.m pc Ls (x :: y :: st)) := by
  subst hp
  obtain ⟨hx, hZ0, hown0, hby, hml, hret, hnm, hlk, hR, hsH⟩ := G
  obtain ⟨L, vm0, k0, X, e, N, hS, hk⟩ := X
  have hZ : Z.Warmed39 (Γ.s.setVm vm0).vm := State.Warmed39.trans hZ0 hS.1
  have hown : (Γ.s.setVm vm0).vm.findClass own = some Γ.m.cls := by rw [show (Γ.s.setVm vm0).vm = vm0 from rfl, hS.1.alike.findClass]; exact hown0
  exact Go.of (fun t k => XS.dupX1 X.here hx rfl (hb hby hd) rfl hc hc' k) K
theorem k_dup2 {x y : Value} (G : Ctx Γ Z own bytes maxl ret nm rm hs0) (X : W Γ n0 T h C S) (hd : decode bytes pc = .ok (.dup2, 1)) (hp : pc + 1 = pc') (hc : x.category = 1) (hc' : y.category = 1) (K : Go Γ n0 Q T (mkF Γ.m pc' Ls (x :: y :: x :: y :: st))) : Go Γ n0 Q T (mkF Γ.m pc Ls (x :: y :: st)) := by
  subst hp
  obtain ⟨hx, hZ0, hown0, hby, hml, hret, hnm, hlk, hR, hsH⟩ := G
  obtain ⟨L, vm0, k0, X, e, N, hS, hk⟩ := X
  have hZ : Z.Warmed39 (Γ.s.setVm vm0).vm := State.Warmed39.trans hZ0 hS.1
  have hown : (Γ.s.setVm vm0).vm.findClass own = some Γ.m.cls := by rw [show (Γ.s.setVm vm0).vm = vm0 from rfl, hS.1.alike.findClass]; exact hown0
  exact Go.of (fun t k => XT.dup2 X.here hx rfl (hb hby hd) rfl hc hc' k) K
theorem k_dup2l {x : Int64} (G : Ctx Γ Z own bytes maxl ret nm rm hs0) (X : W Γ n0 T h C S) (hd : decode bytes pc = .ok (.dup2, 1)) (hp : pc + 1 = pc')  (K : Go Γ n0 Q T (mkF Γ.m pc' Ls (.long x :: .long x :: st))) : Go Γ n0 Q T (mkF Γ.m pc Ls (.long x :: st)) := by
  subst hp
  obtain ⟨hx, hZ0, hown0, hby, hml, hret, hnm, hlk, hR, hsH⟩ := G
  obtain ⟨L, vm0, k0, X, e, N, hS, hk⟩ := X
  have hZ : Z.Warmed39 (Γ.s.setVm vm0).vm := State.Warmed39.trans hZ0 hS.1
  have hown : (Γ.s.setVm vm0).vm.findClass own = some Γ.m.cls := by rw [show (Γ.s.setVm vm0).vm = vm0 from rfl, hS.1.alike.findClass]; exact hown0
  exact Go.of (fun t k => XT.dup2L X.here hx rfl (hb hby hd) rfl k) K
theorem k_iinc {k : Nat} {cst : Int} {x z : Int32} {l' : Array Slot} (G : Ctx Γ Z own bytes maxl ret nm rm hs0) (X : W Γ n0 T h C S) (hd : decode bytes pc = .ok (.iinc k cst, 3)) (hp : pc + 3 = pc') (hl : Ls[k]? = some (.val (.int x))) (hz : x + Int32.ofInt cst = z) (hl' : storeLocals Ls k (.int z) = some l') (K : Go Γ n0 Q T (mkF Γ.m pc' l' (st))) : Go Γ n0 Q T (mkF Γ.m pc Ls (st)) := by
  subst hp
  obtain ⟨hx, hZ0, hown0, hby, hml, hret, hnm, hlk, hR, hsH⟩ := G
  obtain ⟨L, vm0, k0, X, e, N, hS, hk⟩ := X
  have hZ : Z.Warmed39 (Γ.s.setVm vm0).vm := State.Warmed39.trans hZ0 hS.1
  have hown : (Γ.s.setVm vm0).vm.findClass own = some Γ.m.cls := by rw [show (Γ.s.setVm vm0).vm = vm0 from rfl, hS.1.alike.findClass]; exact hown0
  subst hz
  exact Go.of (fun t k => XS.iinc X.here hx rfl (hb hby hd) hl hl' k) K
theorem k_istoreS {k : Nat} {v : Int32} {o : Slot} {l' : Array Slot} (G : Ctx Γ Z own bytes maxl ret nm rm hs0) (X : W Γ n0 T h C S) (hd : decode bytes pc = .ok (.istore k, 2)) (hp : pc + 2 = pc') (hold : Ls[k]? = some o) (ho : o = .unset ∨ ∃ w, o = .val w ∧ w.category = 1) (hl : Ls.setIfInBounds k (.val (.int v)) = l') (K : Go Γ n0 Q T (mkF Γ.m pc' l' (st))) : Go Γ n0 Q T (mkF Γ.m pc Ls (.int v :: st)) := by
  subst hp
  obtain ⟨hx, hZ0, hown0, hby, hml, hret, hnm, hlk, hR, hsH⟩ := G
  obtain ⟨L, vm0, k0, X, e, N, hS, hk⟩ := X
  have hZ : Z.Warmed39 (Γ.s.setVm vm0).vm := State.Warmed39.trans hZ0 hS.1
  have hown : (Γ.s.setVm vm0).vm.findClass own = some Γ.m.cls := by rw [show (Γ.s.setVm vm0).vm = vm0 from rfl, hS.1.alike.findClass]; exact hown0
  subst hl
  exact Go.of (fun t k => XS.istoreS X.here hx rfl (hb hby hd) rfl hold ho k) K
theorem k_istoreNS {k : Fin 4} {v : Int32} {o : Slot} {l' : Array Slot} (G : Ctx Γ Z own bytes maxl ret nm rm hs0) (X : W Γ n0 T h C S) (hd : decode bytes pc = .ok (.istore_n k, 1)) (hp : pc + 1 = pc') (hold : Ls[k.val]? = some o) (ho : o = .unset ∨ ∃ w, o = .val w ∧ w.category = 1) (hl : Ls.setIfInBounds k.val (.val (.int v)) = l') (K : Go Γ n0 Q T (mkF Γ.m pc' l' (st))) : Go Γ n0 Q T (mkF Γ.m pc Ls (.int v :: st)) := by
  subst hp
  obtain ⟨hx, hZ0, hown0, hby, hml, hret, hnm, hlk, hR, hsH⟩ := G
  obtain ⟨L, vm0, k0, X, e, N, hS, hk⟩ := X
  have hZ : Z.Warmed39 (Γ.s.setVm vm0).vm := State.Warmed39.trans hZ0 hS.1
  have hown : (Γ.s.setVm vm0).vm.findClass own = some Γ.m.cls := by rw [show (Γ.s.setVm vm0).vm = vm0 from rfl, hS.1.alike.findClass]; exact hown0
  subst hl
  exact Go.of (fun t k => XS.istoreNS X.here hx rfl (hb hby hd) rfl hold ho k) K
theorem k_astoreS {k : Nat} {v : Value} {o : Slot} {l' : Array Slot} (G : Ctx Γ Z own bytes maxl ret nm rm hs0) (X : W Γ n0 T h C S) (hd : decode bytes pc = .ok (.astore k, 2)) (hp : pc + 2 = pc') (hv : v.isRef = true) (hold : Ls[k]? = some o) (ho : o = .unset ∨ ∃ w, o = .val w ∧ w.category = 1) (hl : Ls.setIfInBounds k (.val v) = l') (K : Go Γ n0 Q T (mkF Γ.m pc' l' (st))) : Go Γ n0 Q T (mkF Γ.m pc Ls (v :: st)) := by
  subst hp
  obtain ⟨hx, hZ0, hown0, hby, hml, hret, hnm, hlk, hR, hsH⟩ := G
  obtain ⟨L, vm0, k0, X, e, N, hS, hk⟩ := X
  have hZ : Z.Warmed39 (Γ.s.setVm vm0).vm := State.Warmed39.trans hZ0 hS.1
  have hown : (Γ.s.setVm vm0).vm.findClass own = some Γ.m.cls := by rw [show (Γ.s.setVm vm0).vm = vm0 from rfl, hS.1.alike.findClass]; exact hown0
  subst hl
  exact Go.of (fun t k => XS.astoreS X.here hx rfl (hb hby hd) rfl hv (by cases v <;> first | rfl | (simp [Value.isRef] at hv)) hold ho k) K
theorem k_astoreNS {k : Fin 4} {v : Value} {o : Slot} {l' : Array Slot} (G : Ctx Γ Z own bytes maxl ret nm rm hs0) (X : W Γ n0 T h C S) (hd : decode bytes pc = .ok (.astore_n k, 1)) (hp : pc + 1 = pc') (hv : v.isRef = true) (hold : Ls[k.val]? = some o) (ho : o = .unset ∨ ∃ w, o = .val w ∧ w.category = 1) (hl : Ls.setIfInBounds k.val (.val v) = l') (K : Go Γ n0 Q T (mkF Γ.m pc' l' (st))) : Go Γ n0 Q T (mkF Γ.m pc Ls (v :: st)) := by
  subst hp
  obtain ⟨hx, hZ0, hown0, hby, hml, hret, hnm, hlk, hR, hsH⟩ := G
  obtain ⟨L, vm0, k0, X, e, N, hS, hk⟩ := X
  have hZ : Z.Warmed39 (Γ.s.setVm vm0).vm := State.Warmed39.trans hZ0 hS.1
  have hown : (Γ.s.setVm vm0).vm.findClass own = some Γ.m.cls := by rw [show (Γ.s.setVm vm0).vm = vm0 from rfl, hS.1.alike.findClass]; exact hown0
  subst hl
  exact Go.of (fun t k => XS.astoreN X.here hx rfl (hb hby hd) rfl hv (XS.store1 hold ho (by cases v <;> first | rfl | (simp [Value.isRef] at hv))) k) K
theorem k_goto {o : Int} (G : Ctx Γ Z own bytes maxl ret nm rm hs0) (X : W Γ n0 T h C S) (hd : decode bytes pc = .ok (.goto o, 3)) (ho : 0 ≤ (pc : Int) + o) (hp : ((pc : Int) + o).toNat = pc') (K : Go Γ n0 Q T (mkF Γ.m pc' Ls st)) : Go Γ n0 Q T (mkF Γ.m pc Ls st) := by
  obtain ⟨hx, hZ0, hown0, hby, hml, hret, hnm, hlk, hR, hsH⟩ := G
  obtain ⟨L, vm0, k0, X, e, N, hS, hk⟩ := X
  have hZ : Z.Warmed39 (Γ.s.setVm vm0).vm := State.Warmed39.trans hZ0 hS.1
  have hown : (Γ.s.setVm vm0).vm.findClass own = some Γ.m.cls := by rw [show (Γ.s.setVm vm0).vm = vm0 from rfl, hS.1.alike.findClass]; exact hown0
  exact Go.of (fun t k => XS.goto X.here hx rfl (pc0 := pc) rfl (hb hby hd) ho hp k) K
theorem z32 : (0 : Int32).toInt = 0 := rfl
theorem hold_eq (x y : Int32) : (if_icmp.holds .eq x y = true → x = y) ∧ (if_icmp.holds .eq x y = false → x ≠ y) := by
  constructor <;> intro q <;> simp only [if_icmp.holds] at q <;> simp [Int32.lt_iff_toInt_lt, Int32.le_iff_toInt_le] at q ⊢ <;> first | exact q | omega
theorem hold0_eq (x : Int32) : (ifCond.holds .eq x = true → x = 0) ∧ (ifCond.holds .eq x = false → x ≠ 0) := by
  have z := z32
  constructor <;> intro q <;> simp only [ifCond.holds] at q <;> simp [Int32.lt_iff_toInt_lt, Int32.le_iff_toInt_le] at q ⊢ <;> first | exact q | omega
theorem k_icmp_eq {o : Int} {x y : Int32} {pc'' : Nat} (G : Ctx Γ Z own bytes maxl ret nm rm hs0) (X : W Γ n0 T h C S) (hd : decode bytes pc = .ok (.if_icmp .eq o, 3)) (hp : ((pc : Int) + o).toNat = pc') (ho : 0 ≤ (pc : Int) + o) (hp' : pc + 3 = pc'') (K : x = y → Go Γ n0 Q T (mkF Γ.m pc' Ls st)) (K' : x ≠ y → Go Γ n0 Q T (mkF Γ.m pc'' Ls st)) : Go Γ n0 Q T (mkF Γ.m pc Ls (.int y :: .int x :: st)) := by
  subst hp'
  obtain ⟨hx, hZ0, hown0, hby, hml, hret, hnm, hlk, hR, hsH⟩ := G
  obtain ⟨L, vm0, k0, X, e, N, hS, hk⟩ := X
  have hZ : Z.Warmed39 (Γ.s.setVm vm0).vm := State.Warmed39.trans hZ0 hS.1
  have hown : (Γ.s.setVm vm0).vm.findClass own = some Γ.m.cls := by rw [show (Γ.s.setVm vm0).vm = vm0 from rfl, hS.1.alike.findClass]; exact hown0
  cases q : if_icmp.holds .eq x y
  · exact Go.of (fun t k => XS.icmpNo X.here hx rfl (hb hby hd) rfl q k) (K' ((hold_eq x y).2 q))
  · exact Go.of (fun t k => XS.icmpYes X.here hx rfl (pc0 := pc) rfl (hb hby hd) rfl q ho hp k) (K ((hold_eq x y).1 q))
theorem k_if_eq {o : Int} {x : Int32} {pc'' : Nat} (G : Ctx Γ Z own bytes maxl ret nm rm hs0) (X : W Γ n0 T h C S) (hd : decode bytes pc = .ok (.ifCond .eq o, 3)) (hp : ((pc : Int) + o).toNat = pc') (ho : 0 ≤ (pc : Int) + o) (hp' : pc + 3 = pc'') (K : x = 0 → Go Γ n0 Q T (mkF Γ.m pc' Ls st)) (K' : x ≠ 0 → Go Γ n0 Q T (mkF Γ.m pc'' Ls st)) : Go Γ n0 Q T (mkF Γ.m pc Ls (.int x :: st)) := by
  subst hp'
  obtain ⟨hx, hZ0, hown0, hby, hml, hret, hnm, hlk, hR, hsH⟩ := G
  obtain ⟨L, vm0, k0, X, e, N, hS, hk⟩ := X
  have hZ : Z.Warmed39 (Γ.s.setVm vm0).vm := State.Warmed39.trans hZ0 hS.1
  have hown : (Γ.s.setVm vm0).vm.findClass own = some Γ.m.cls := by rw [show (Γ.s.setVm vm0).vm = vm0 from rfl, hS.1.alike.findClass]; exact hown0
  cases q : ifCond.holds .eq x
  · exact Go.of (fun t k => XS.ifNo X.here hx rfl (hb hby hd) rfl q k) (K' ((hold0_eq x).2 q))
  · exact Go.of (fun t k => XS.ifYes X.here hx rfl (pc0 := pc) rfl (hb hby hd) rfl q ho hp k) (K ((hold0_eq x).1 q))
theorem hold_ne (x y : Int32) : (if_icmp.holds .ne x y = true → x ≠ y) ∧ (if_icmp.holds .ne x y = false → x = y) := by
  constructor <;> intro q <;> simp only [if_icmp.holds] at q <;> simp [Int32.lt_iff_toInt_lt, Int32.le_iff_toInt_le] at q ⊢ <;> first | exact q | omega
theorem hold0_ne (x : Int32) : (ifCond.holds .ne x = true → x ≠ 0) ∧ (ifCond.holds .ne x = false → x = 0) := by
  have z := z32
  constructor <;> intro q <;> simp only [ifCond.holds] at q <;> simp [Int32.lt_iff_toInt_lt, Int32.le_iff_toInt_le] at q ⊢ <;> first | exact q | omega
theorem k_icmp_ne {o : Int} {x y : Int32} {pc'' : Nat} (G : Ctx Γ Z own bytes maxl ret nm rm hs0) (X : W Γ n0 T h C S) (hd : decode bytes pc = .ok (.if_icmp .ne o, 3)) (hp : ((pc : Int) + o).toNat = pc') (ho : 0 ≤ (pc : Int) + o) (hp' : pc + 3 = pc'') (K : x ≠ y → Go Γ n0 Q T (mkF Γ.m pc' Ls st)) (K' : x = y → Go Γ n0 Q T (mkF Γ.m pc'' Ls st)) : Go Γ n0 Q T (mkF Γ.m pc Ls (.int y :: .int x :: st)) := by
  subst hp'
  obtain ⟨hx, hZ0, hown0, hby, hml, hret, hnm, hlk, hR, hsH⟩ := G
  obtain ⟨L, vm0, k0, X, e, N, hS, hk⟩ := X
  have hZ : Z.Warmed39 (Γ.s.setVm vm0).vm := State.Warmed39.trans hZ0 hS.1
  have hown : (Γ.s.setVm vm0).vm.findClass own = some Γ.m.cls := by rw [show (Γ.s.setVm vm0).vm = vm0 from rfl, hS.1.alike.findClass]; exact hown0
  cases q : if_icmp.holds .ne x y
  · exact Go.of (fun t k => XS.icmpNo X.here hx rfl (hb hby hd) rfl q k) (K' ((hold_ne x y).2 q))
  · exact Go.of (fun t k => XS.icmpYes X.here hx rfl (pc0 := pc) rfl (hb hby hd) rfl q ho hp k) (K ((hold_ne x y).1 q))
theorem k_if_ne {o : Int} {x : Int32} {pc'' : Nat} (G : Ctx Γ Z own bytes maxl ret nm rm hs0) (X : W Γ n0 T h C S) (hd : decode bytes pc = .ok (.ifCond .ne o, 3)) (hp : ((pc : Int) + o).toNat = pc') (ho : 0 ≤ (pc : Int) + o) (hp' : pc + 3 = pc'') (K : x ≠ 0 → Go Γ n0 Q T (mkF Γ.m pc' Ls st)) (K' : x = 0 → Go Γ n0 Q T (mkF Γ.m pc'' Ls st)) : Go Γ n0 Q T (mkF Γ.m pc Ls (.int x :: st)) := by
  subst hp'
  obtain ⟨hx, hZ0, hown0, hby, hml, hret, hnm, hlk, hR, hsH⟩ := G
  obtain ⟨L, vm0, k0, X, e, N, hS, hk⟩ := X
  have hZ : Z.Warmed39 (Γ.s.setVm vm0).vm := State.Warmed39.trans hZ0 hS.1
  have hown : (Γ.s.setVm vm0).vm.findClass own = some Γ.m.cls := by rw [show (Γ.s.setVm vm0).vm = vm0 from rfl, hS.1.alike.findClass]; exact hown0
  cases q : ifCond.holds .ne x
  · exact Go.of (fun t k => XS.ifNo X.here hx rfl (hb hby hd) rfl q k) (K' ((hold0_ne x).2 q))
  · exact Go.of (fun t k => XS.ifYes X.here hx rfl (pc0 := pc) rfl (hb hby hd) rfl q ho hp k) (K ((hold0_ne x).1 q))
theorem hold_lt (x y : Int32) : (if_icmp.holds .lt x y = true → x.toInt < y.toInt) ∧ (if_icmp.holds .lt x y = false → y.toInt ≤ x.toInt) := by
  constructor <;> intro q <;> simp only [if_icmp.holds] at q <;> simp [Int32.lt_iff_toInt_lt, Int32.le_iff_toInt_le] at q ⊢ <;> first | exact q | omega
theorem hold0_lt (x : Int32) : (ifCond.holds .lt x = true → x.toInt < 0) ∧ (ifCond.holds .lt x = false → 0 ≤ x.toInt) := by
  have z := z32
  constructor <;> intro q <;> simp only [ifCond.holds] at q <;> simp [Int32.lt_iff_toInt_lt, Int32.le_iff_toInt_le] at q ⊢ <;> first | exact q | omega
theorem k_icmp_lt {o : Int} {x y : Int32} {pc'' : Nat} (G : Ctx Γ Z own bytes maxl ret nm rm hs0) (X : W Γ n0 T h C S) (hd : decode bytes pc = .ok (.if_icmp .lt o, 3)) (hp : ((pc : Int) + o).toNat = pc') (ho : 0 ≤ (pc : Int) + o) (hp' : pc + 3 = pc'') (K : x.toInt < y.toInt → Go Γ n0 Q T (mkF Γ.m pc' Ls st)) (K' : y.toInt ≤ x.toInt → Go Γ n0 Q T (mkF Γ.m pc'' Ls st)) : Go Γ n0 Q T (mkF Γ.m pc Ls (.int y :: .int x :: st)) := by
  subst hp'
  obtain ⟨hx, hZ0, hown0, hby, hml, hret, hnm, hlk, hR, hsH⟩ := G
  obtain ⟨L, vm0, k0, X, e, N, hS, hk⟩ := X
  have hZ : Z.Warmed39 (Γ.s.setVm vm0).vm := State.Warmed39.trans hZ0 hS.1
  have hown : (Γ.s.setVm vm0).vm.findClass own = some Γ.m.cls := by rw [show (Γ.s.setVm vm0).vm = vm0 from rfl, hS.1.alike.findClass]; exact hown0
  cases q : if_icmp.holds .lt x y
  · exact Go.of (fun t k => XS.icmpNo X.here hx rfl (hb hby hd) rfl q k) (K' ((hold_lt x y).2 q))
  · exact Go.of (fun t k => XS.icmpYes X.here hx rfl (pc0 := pc) rfl (hb hby hd) rfl q ho hp k) (K ((hold_lt x y).1 q))
theorem k_if_lt {o : Int} {x : Int32} {pc'' : Nat} (G : Ctx Γ Z own bytes maxl ret nm rm hs0) (X : W Γ n0 T h C S) (hd : decode bytes pc = .ok (.ifCond .lt o, 3)) (hp : ((pc : Int) + o).toNat = pc') (ho : 0 ≤ (pc : Int) + o) (hp' : pc + 3 = pc'') (K : x.toInt < 0 → Go Γ n0 Q T (mkF Γ.m pc' Ls st)) (K' : 0 ≤ x.toInt → Go Γ n0 Q T (mkF Γ.m pc'' Ls st)) : Go Γ n0 Q T (mkF Γ.m pc Ls (.int x :: st)) := by
  subst hp'
  obtain ⟨hx, hZ0, hown0, hby, hml, hret, hnm, hlk, hR, hsH⟩ := G
  obtain ⟨L, vm0, k0, X, e, N, hS, hk⟩ := X
  have hZ : Z.Warmed39 (Γ.s.setVm vm0).vm := State.Warmed39.trans hZ0 hS.1
  have hown : (Γ.s.setVm vm0).vm.findClass own = some Γ.m.cls := by rw [show (Γ.s.setVm vm0).vm = vm0 from rfl, hS.1.alike.findClass]; exact hown0
  cases q : ifCond.holds .lt x
  · exact Go.of (fun t k => XS.ifNo X.here hx rfl (hb hby hd) rfl q k) (K' ((hold0_lt x).2 q))
  · exact Go.of (fun t k => XS.ifYes X.here hx rfl (pc0 := pc) rfl (hb hby hd) rfl q ho hp k) (K ((hold0_lt x).1 q))
theorem hold_ge (x y : Int32) : (if_icmp.holds .ge x y = true → y.toInt ≤ x.toInt) ∧ (if_icmp.holds .ge x y = false → x.toInt < y.toInt) := by
  constructor <;> intro q <;> simp only [if_icmp.holds] at q <;> simp [Int32.lt_iff_toInt_lt, Int32.le_iff_toInt_le] at q ⊢ <;> first | exact q | omega
theorem hold0_ge (x : Int32) : (ifCond.holds .ge x = true → 0 ≤ x.toInt) ∧ (ifCond.holds .ge x = false → x.toInt < 0) := by
  have z := z32
  constructor <;> intro q <;> simp only [ifCond.holds] at q <;> simp [Int32.lt_iff_toInt_lt, Int32.le_iff_toInt_le] at q ⊢ <;> first | exact q | omega
theorem k_icmp_ge {o : Int} {x y : Int32} {pc'' : Nat} (G : Ctx Γ Z own bytes maxl ret nm rm hs0) (X : W Γ n0 T h C S) (hd : decode bytes pc = .ok (.if_icmp .ge o, 3)) (hp : ((pc : Int) + o).toNat = pc') (ho : 0 ≤ (pc : Int) + o) (hp' : pc + 3 = pc'') (K : y.toInt ≤ x.toInt → Go Γ n0 Q T (mkF Γ.m pc' Ls st)) (K' : x.toInt < y.toInt → Go Γ n0 Q T (mkF Γ.m pc'' Ls st)) : Go Γ n0 Q T (mkF Γ.m pc Ls (.int y :: .int x :: st)) := by
  subst hp'
  obtain ⟨hx, hZ0, hown0, hby, hml, hret, hnm, hlk, hR, hsH⟩ := G
  obtain ⟨L, vm0, k0, X, e, N, hS, hk⟩ := X
  have hZ : Z.Warmed39 (Γ.s.setVm vm0).vm := State.Warmed39.trans hZ0 hS.1
  have hown : (Γ.s.setVm vm0).vm.findClass own = some Γ.m.cls := by rw [show (Γ.s.setVm vm0).vm = vm0 from rfl, hS.1.alike.findClass]; exact hown0
  cases q : if_icmp.holds .ge x y
  · exact Go.of (fun t k => XS.icmpNo X.here hx rfl (hb hby hd) rfl q k) (K' ((hold_ge x y).2 q))
  · exact Go.of (fun t k => XS.icmpYes X.here hx rfl (pc0 := pc) rfl (hb hby hd) rfl q ho hp k) (K ((hold_ge x y).1 q))
theorem k_if_ge {o : Int} {x : Int32} {pc'' : Nat} (G : Ctx Γ Z own bytes maxl ret nm rm hs0) (X : W Γ n0 T h C S) (hd : decode bytes pc = .ok (.ifCond .ge o, 3)) (hp : ((pc : Int) + o).toNat = pc') (ho : 0 ≤ (pc : Int) + o) (hp' : pc + 3 = pc'') (K : 0 ≤ x.toInt → Go Γ n0 Q T (mkF Γ.m pc' Ls st)) (K' : x.toInt < 0 → Go Γ n0 Q T (mkF Γ.m pc'' Ls st)) : Go Γ n0 Q T (mkF Γ.m pc Ls (.int x :: st)) := by
  subst hp'
  obtain ⟨hx, hZ0, hown0, hby, hml, hret, hnm, hlk, hR, hsH⟩ := G
  obtain ⟨L, vm0, k0, X, e, N, hS, hk⟩ := X
  have hZ : Z.Warmed39 (Γ.s.setVm vm0).vm := State.Warmed39.trans hZ0 hS.1
  have hown : (Γ.s.setVm vm0).vm.findClass own = some Γ.m.cls := by rw [show (Γ.s.setVm vm0).vm = vm0 from rfl, hS.1.alike.findClass]; exact hown0
  cases q : ifCond.holds .ge x
  · exact Go.of (fun t k => XS.ifNo X.here hx rfl (hb hby hd) rfl q k) (K' ((hold0_ge x).2 q))
  · exact Go.of (fun t k => XS.ifYes X.here hx rfl (pc0 := pc) rfl (hb hby hd) rfl q ho hp k) (K ((hold0_ge x).1 q))
theorem hold_gt (x y : Int32) : (if_icmp.holds .gt x y = true → y.toInt < x.toInt) ∧ (if_icmp.holds .gt x y = false → x.toInt ≤ y.toInt) := by
  constructor <;> intro q <;> simp only [if_icmp.holds] at q <;> simp [Int32.lt_iff_toInt_lt, Int32.le_iff_toInt_le] at q ⊢ <;> first | exact q | omega
theorem hold0_gt (x : Int32) : (ifCond.holds .gt x = true → 0 < x.toInt) ∧ (ifCond.holds .gt x = false → x.toInt ≤ 0) := by
  have z := z32
  constructor <;> intro q <;> simp only [ifCond.holds] at q <;> simp [Int32.lt_iff_toInt_lt, Int32.le_iff_toInt_le] at q ⊢ <;> first | exact q | omega
theorem k_icmp_gt {o : Int} {x y : Int32} {pc'' : Nat} (G : Ctx Γ Z own bytes maxl ret nm rm hs0) (X : W Γ n0 T h C S) (hd : decode bytes pc = .ok (.if_icmp .gt o, 3)) (hp : ((pc : Int) + o).toNat = pc') (ho : 0 ≤ (pc : Int) + o) (hp' : pc + 3 = pc'') (K : y.toInt < x.toInt → Go Γ n0 Q T (mkF Γ.m pc' Ls st)) (K' : x.toInt ≤ y.toInt → Go Γ n0 Q T (mkF Γ.m pc'' Ls st)) : Go Γ n0 Q T (mkF Γ.m pc Ls (.int y :: .int x :: st)) := by
  subst hp'
  obtain ⟨hx, hZ0, hown0, hby, hml, hret, hnm, hlk, hR, hsH⟩ := G
  obtain ⟨L, vm0, k0, X, e, N, hS, hk⟩ := X
  have hZ : Z.Warmed39 (Γ.s.setVm vm0).vm := State.Warmed39.trans hZ0 hS.1
  have hown : (Γ.s.setVm vm0).vm.findClass own = some Γ.m.cls := by rw [show (Γ.s.setVm vm0).vm = vm0 from rfl, hS.1.alike.findClass]; exact hown0
  cases q : if_icmp.holds .gt x y
  · exact Go.of (fun t k => XS.icmpNo X.here hx rfl (hb hby hd) rfl q k) (K' ((hold_gt x y).2 q))
  · exact Go.of (fun t k => XS.icmpYes X.here hx rfl (pc0 := pc) rfl (hb hby hd) rfl q ho hp k) (K ((hold_gt x y).1 q))
theorem k_if_gt {o : Int} {x : Int32} {pc'' : Nat} (G : Ctx Γ Z own bytes maxl ret nm rm hs0) (X : W Γ n0 T h C S) (hd : decode bytes pc = .ok (.ifCond .gt o, 3)) (hp : ((pc : Int) + o).toNat = pc') (ho : 0 ≤ (pc : Int) + o) (hp' : pc + 3 = pc'') (K : 0 < x.toInt → Go Γ n0 Q T (mkF Γ.m pc' Ls st)) (K' : x.toInt ≤ 0 → Go Γ n0 Q T (mkF Γ.m pc'' Ls st)) : Go Γ n0 Q T (mkF Γ.m pc Ls (.int x :: st)) := by
  subst hp'
  obtain ⟨hx, hZ0, hown0, hby, hml, hret, hnm, hlk, hR, hsH⟩ := G
  obtain ⟨L, vm0, k0, X, e, N, hS, hk⟩ := X
  have hZ : Z.Warmed39 (Γ.s.setVm vm0).vm := State.Warmed39.trans hZ0 hS.1
  have hown : (Γ.s.setVm vm0).vm.findClass own = some Γ.m.cls := by rw [show (Γ.s.setVm vm0).vm = vm0 from rfl, hS.1.alike.findClass]; exact hown0
  cases q : ifCond.holds .gt x
  · exact Go.of (fun t k => XS.ifNo X.here hx rfl (hb hby hd) rfl q k) (K' ((hold0_gt x).2 q))
  · exact Go.of (fun t k => XS.ifYes X.here hx rfl (pc0 := pc) rfl (hb hby hd) rfl q ho hp k) (K ((hold0_gt x).1 q))
theorem hold_le (x y : Int32) : (if_icmp.holds .le x y = true → x.toInt ≤ y.toInt) ∧ (if_icmp.holds .le x y = false → y.toInt < x.toInt) := by
  constructor <;> intro q <;> simp only [if_icmp.holds] at q <;> simp [Int32.lt_iff_toInt_lt, Int32.le_iff_toInt_le] at q ⊢ <;> first | exact q | omega
theorem hold0_le (x : Int32) : (ifCond.holds .le x = true → x.toInt ≤ 0) ∧ (ifCond.holds .le x = false → 0 < x.toInt) := by
  have z := z32
  constructor <;> intro q <;> simp only [ifCond.holds] at q <;> simp [Int32.lt_iff_toInt_lt, Int32.le_iff_toInt_le] at q ⊢ <;> first | exact q | omega
theorem k_icmp_le {o : Int} {x y : Int32} {pc'' : Nat} (G : Ctx Γ Z own bytes maxl ret nm rm hs0) (X : W Γ n0 T h C S) (hd : decode bytes pc = .ok (.if_icmp .le o, 3)) (hp : ((pc : Int) + o).toNat = pc') (ho : 0 ≤ (pc : Int) + o) (hp' : pc + 3 = pc'') (K : x.toInt ≤ y.toInt → Go Γ n0 Q T (mkF Γ.m pc' Ls st)) (K' : y.toInt < x.toInt → Go Γ n0 Q T (mkF Γ.m pc'' Ls st)) : Go Γ n0 Q T (mkF Γ.m pc Ls (.int y :: .int x :: st)) := by
  subst hp'
  obtain ⟨hx, hZ0, hown0, hby, hml, hret, hnm, hlk, hR, hsH⟩ := G
  obtain ⟨L, vm0, k0, X, e, N, hS, hk⟩ := X
  have hZ : Z.Warmed39 (Γ.s.setVm vm0).vm := State.Warmed39.trans hZ0 hS.1
  have hown : (Γ.s.setVm vm0).vm.findClass own = some Γ.m.cls := by rw [show (Γ.s.setVm vm0).vm = vm0 from rfl, hS.1.alike.findClass]; exact hown0
  cases q : if_icmp.holds .le x y
  · exact Go.of (fun t k => XS.icmpNo X.here hx rfl (hb hby hd) rfl q k) (K' ((hold_le x y).2 q))
  · exact Go.of (fun t k => XS.icmpYes X.here hx rfl (pc0 := pc) rfl (hb hby hd) rfl q ho hp k) (K ((hold_le x y).1 q))
theorem k_if_le {o : Int} {x : Int32} {pc'' : Nat} (G : Ctx Γ Z own bytes maxl ret nm rm hs0) (X : W Γ n0 T h C S) (hd : decode bytes pc = .ok (.ifCond .le o, 3)) (hp : ((pc : Int) + o).toNat = pc') (ho : 0 ≤ (pc : Int) + o) (hp' : pc + 3 = pc'') (K : x.toInt ≤ 0 → Go Γ n0 Q T (mkF Γ.m pc' Ls st)) (K' : 0 < x.toInt → Go Γ n0 Q T (mkF Γ.m pc'' Ls st)) : Go Γ n0 Q T (mkF Γ.m pc Ls (.int x :: st)) := by
  subst hp'
  obtain ⟨hx, hZ0, hown0, hby, hml, hret, hnm, hlk, hR, hsH⟩ := G
  obtain ⟨L, vm0, k0, X, e, N, hS, hk⟩ := X
  have hZ : Z.Warmed39 (Γ.s.setVm vm0).vm := State.Warmed39.trans hZ0 hS.1
  have hown : (Γ.s.setVm vm0).vm.findClass own = some Γ.m.cls := by rw [show (Γ.s.setVm vm0).vm = vm0 from rfl, hS.1.alike.findClass]; exact hown0
  cases q : ifCond.holds .le x
  · exact Go.of (fun t k => XS.ifNo X.here hx rfl (hb hby hd) rfl q k) (K' ((hold0_le x).2 q))
  · exact Go.of (fun t k => XS.ifYes X.here hx rfl (pc0 := pc) rfl (hb hby hd) rfl q ho hp k) (K ((hold0_le x).1 q))
theorem k_acmp_eq {o : Int} {x y : Value} {pc'' : Nat} (G : Ctx Γ Z own bytes maxl ret nm rm hs0) (X : W Γ n0 T h C S) (hd : decode bytes pc = .ok (.if_acmp .eq o, 3)) (hp : ((pc : Int) + o).toNat = pc') (ho : 0 ≤ (pc : Int) + o) (hp' : pc + 3 = pc'') (h1 : x.isRef = true) (h2 : y.isRef = true) (K : x = y → Go Γ n0 Q T (mkF Γ.m pc' Ls st)) (K' : x ≠ y → Go Γ n0 Q T (mkF Γ.m pc'' Ls st)) : Go Γ n0 Q T (mkF Γ.m pc Ls (y :: x :: st)) := by
  subst hp hp'
  obtain ⟨hx, hZ0, hown0, hby, hml, hret, hnm, hlk, hR, hsH⟩ := G
  obtain ⟨L, vm0, k0, X, e, N, hS, hk⟩ := X
  have hZ : Z.Warmed39 (Γ.s.setVm vm0).vm := State.Warmed39.trans hZ0 hS.1
  have hown : (Γ.s.setVm vm0).vm.findClass own = some Γ.m.cls := by rw [show (Γ.s.setVm vm0).vm = vm0 from rfl, hS.1.alike.findClass]; exact hown0
  by_cases q : x = y
  · exact Go.of (fun t k => acmp (g := mkF Γ.m pc Ls (y :: x :: st)) X hx rfl h1 h2 (pc0 := pc) (same := true) rfl (hb hby hd) rfl (decide_eq_true q) ho rfl k) (K q)
  · exact Go.of (fun t k => acmp (g := mkF Γ.m pc Ls (y :: x :: st)) X hx rfl h1 h2 (pc0 := pc) (same := false) rfl (hb hby hd) rfl (decide_eq_false q) ho rfl k) (K' q)
theorem k_acmp_ne {o : Int} {x y : Value} {pc'' : Nat} (G : Ctx Γ Z own bytes maxl ret nm rm hs0) (X : W Γ n0 T h C S) (hd : decode bytes pc = .ok (.if_acmp .ne o, 3)) (hp : ((pc : Int) + o).toNat = pc') (ho : 0 ≤ (pc : Int) + o) (hp' : pc + 3 = pc'') (h1 : x.isRef = true) (h2 : y.isRef = true) (K : x ≠ y → Go Γ n0 Q T (mkF Γ.m pc' Ls st)) (K' : x = y → Go Γ n0 Q T (mkF Γ.m pc'' Ls st)) : Go Γ n0 Q T (mkF Γ.m pc Ls (y :: x :: st)) := by
  subst hp hp'
  obtain ⟨hx, hZ0, hown0, hby, hml, hret, hnm, hlk, hR, hsH⟩ := G
  obtain ⟨L, vm0, k0, X, e, N, hS, hk⟩ := X
  have hZ : Z.Warmed39 (Γ.s.setVm vm0).vm := State.Warmed39.trans hZ0 hS.1
  have hown : (Γ.s.setVm vm0).vm.findClass own = some Γ.m.cls := by rw [show (Γ.s.setVm vm0).vm = vm0 from rfl, hS.1.alike.findClass]; exact hown0
  by_cases q : x = y
  · exact Go.of (fun t k => acmp (g := mkF Γ.m pc Ls (y :: x :: st)) X hx rfl h1 h2 (pc0 := pc) (same := true) rfl (hb hby hd) rfl (decide_eq_true q) ho rfl k) (K' q)
  · exact Go.of (fun t k => acmp (g := mkF Γ.m pc Ls (y :: x :: st)) X hx rfl h1 h2 (pc0 := pc) (same := false) rfl (hb hby hd) rfl (decide_eq_false q) ho rfl k) (K q)
theorem k_ifnull {o : Int} {x : Value} {pc'' : Nat} (G : Ctx Γ Z own bytes maxl ret nm rm hs0) (X : W Γ n0 T h C S) (hd : decode bytes pc = .ok (.ifnull o, 3)) (hp : ((pc : Int) + o).toNat = pc') (ho : 0 ≤ (pc : Int) + o) (hp' : pc + 3 = pc'') (h1 : x.isRef = true) (K : x = .null → Go Γ n0 Q T (mkF Γ.m pc' Ls st)) (K' : ∀ a, x = .ref a → Go Γ n0 Q T (mkF Γ.m pc'' Ls st)) : Go Γ n0 Q T (mkF Γ.m pc Ls (x :: st)) := by
  subst hp'
  obtain ⟨hx, hZ0, hown0, hby, hml, hret, hnm, hlk, hR, hsH⟩ := G
  obtain ⟨L, vm0, k0, X, e, N, hS, hk⟩ := X
  have hZ : Z.Warmed39 (Γ.s.setVm vm0).vm := State.Warmed39.trans hZ0 hS.1
  have hown : (Γ.s.setVm vm0).vm.findClass own = some Γ.m.cls := by rw [show (Γ.s.setVm vm0).vm = vm0 from rfl, hS.1.alike.findClass]; exact hown0
  rcases ref_cases h1 with rfl | ⟨a, rfl⟩
  · exact Go.of (fun t k => XS.ifnullYes X.here hx rfl (pc0 := pc) rfl (hb hby hd) rfl ho hp k) (K rfl)
  · exact Go.of (fun t k => XS.ifnullNo X.here hx rfl (hb hby hd) rfl k) (K' a rfl)
theorem k_ifnonnull {o : Int} {x : Value} {pc'' : Nat} (G : Ctx Γ Z own bytes maxl ret nm rm hs0) (X : W Γ n0 T h C S) (hd : decode bytes pc = .ok (.ifnonnull o, 3)) (hp : ((pc : Int) + o).toNat = pc') (ho : 0 ≤ (pc : Int) + o) (hp' : pc + 3 = pc'') (h1 : x.isRef = true) (K : ∀ a, x = .ref a → Go Γ n0 Q T (mkF Γ.m pc' Ls st)) (K' : x = .null → Go Γ n0 Q T (mkF Γ.m pc'' Ls st)) : Go Γ n0 Q T (mkF Γ.m pc Ls (x :: st)) := by
  subst hp'
  obtain ⟨hx, hZ0, hown0, hby, hml, hret, hnm, hlk, hR, hsH⟩ := G
  obtain ⟨L, vm0, k0, X, e, N, hS, hk⟩ := X
  have hZ : Z.Warmed39 (Γ.s.setVm vm0).vm := State.Warmed39.trans hZ0 hS.1
  have hown : (Γ.s.setVm vm0).vm.findClass own = some Γ.m.cls := by rw [show (Γ.s.setVm vm0).vm = vm0 from rfl, hS.1.alike.findClass]; exact hown0
  rcases ref_cases h1 with rfl | ⟨a, rfl⟩
  · exact Go.of (fun t k => XS.ifnonnullNo X.here hx rfl (hb hby hd) rfl k) (K' rfl)
  · exact Go.of (fun t k => XS.ifnonnullYes X.here hx rfl (pc0 := pc) rfl (hb hby hd) rfl ho hp k) (K a rfl)
theorem k_lswHit {k : Int32} {dflt : Int} {pairs : Array (Int × Int)} {len : Nat} {a off : Int} (G : Ctx Γ Z own bytes maxl ret nm rm hs0) (X : W Γ n0 T h C S) (hd : decode bytes pc = .ok (.lookupswitch dflt pairs, len)) (hs : (pairs.toList.zip (pairs.toList.drop 1)).all (fun (a, next) => a.1 < next.1) = true) (hf : pairs.find? (·.1 == k.toInt) = some (a, off)) (ho : 0 ≤ (pc : Int) + off) (hp : ((pc : Int) + off).toNat = pc') (K : Go Γ n0 Q T (mkF Γ.m pc' Ls st)) : Go Γ n0 Q T (mkF Γ.m pc Ls (.int k :: st)) := by
  subst hp
  obtain ⟨hx, hZ0, hown0, hby, hml, hret, hnm, hlk, hR, hsH⟩ := G
  obtain ⟨L, vm0, k0, X, e, N, hS, hk⟩ := X
  have hZ : Z.Warmed39 (Γ.s.setVm vm0).vm := State.Warmed39.trans hZ0 hS.1
  have hown : (Γ.s.setVm vm0).vm.findClass own = some Γ.m.cls := by rw [show (Γ.s.setVm vm0).vm = vm0 from rfl, hS.1.alike.findClass]; exact hown0
  exact Go.of (fun t k' => X.lookupswitchHit hx (g := mkF Γ.m pc Ls (.int k :: st)) rfl rfl (hb hby hd) hs hf ho t k') K
theorem k_lswMiss {k : Int32} {dflt : Int} {pairs : Array (Int × Int)} {len : Nat} (G : Ctx Γ Z own bytes maxl ret nm rm hs0) (X : W Γ n0 T h C S) (hd : decode bytes pc = .ok (.lookupswitch dflt pairs, len)) (hs : (pairs.toList.zip (pairs.toList.drop 1)).all (fun (a, next) => a.1 < next.1) = true) (hf : pairs.find? (·.1 == k.toInt) = none) (ho : 0 ≤ (pc : Int) + dflt) (hp : ((pc : Int) + dflt).toNat = pc') (K : Go Γ n0 Q T (mkF Γ.m pc' Ls st)) : Go Γ n0 Q T (mkF Γ.m pc Ls (.int k :: st)) := by
  subst hp
  obtain ⟨hx, hZ0, hown0, hby, hml, hret, hnm, hlk, hR, hsH⟩ := G
  obtain ⟨L, vm0, k0, X, e, N, hS, hk⟩ := X
  have hZ : Z.Warmed39 (Γ.s.setVm vm0).vm := State.Warmed39.trans hZ0 hS.1
  have hown : (Γ.s.setVm vm0).vm.findClass own = some Γ.m.cls := by rw [show (Γ.s.setVm vm0).vm = vm0 from rfl, hS.1.alike.findClass]; exact hown0
  exact Go.of (fun t k' => X.lookupswitchMiss hx (g := mkF Γ.m pc Ls (.int k :: st)) rfl rfl (hb hby hd) hs hf ho t k') K
theorem k_tswIn {k : Int32} {dflt low high : Int} {offs : Array Int} {len : Nat} {off : Int} (G : Ctx Γ Z own bytes maxl ret nm rm hs0) (X : W Γ n0 T h C S) (hd : decode bytes pc = .ok (.tableswitch dflt low high offs, len)) (hin : low ≤ k.toInt ∧ k.toInt ≤ high) (hf : offs[(k.toInt - low).toNat]? = some off) (ho : 0 ≤ (pc : Int) + off) (hp : ((pc : Int) + off).toNat = pc') (K : Go Γ n0 Q T (mkF Γ.m pc' Ls st)) : Go Γ n0 Q T (mkF Γ.m pc Ls (.int k :: st)) := by
  subst hp
  obtain ⟨hx, hZ0, hown0, hby, hml, hret, hnm, hlk, hR, hsH⟩ := G
  obtain ⟨L, vm0, k0, X, e, N, hS, hk⟩ := X
  have hZ : Z.Warmed39 (Γ.s.setVm vm0).vm := State.Warmed39.trans hZ0 hS.1
  have hown : (Γ.s.setVm vm0).vm.findClass own = some Γ.m.cls := by rw [show (Γ.s.setVm vm0).vm = vm0 from rfl, hS.1.alike.findClass]; exact hown0
  exact Go.of (fun t k' => X.tableswitchIn hx (g := mkF Γ.m pc Ls (.int k :: st)) rfl rfl (hb hby hd) (by omega) hf ho t k') K
theorem k_tswOut {k : Int32} {dflt low high : Int} {offs : Array Int} {len : Nat} (G : Ctx Γ Z own bytes maxl ret nm rm hs0) (X : W Γ n0 T h C S) (hd : decode bytes pc = .ok (.tableswitch dflt low high offs, len)) (hout : k.toInt < low ∨ high < k.toInt) (ho : 0 ≤ (pc : Int) + dflt) (hp : ((pc : Int) + dflt).toNat = pc') (K : Go Γ n0 Q T (mkF Γ.m pc' Ls st)) : Go Γ n0 Q T (mkF Γ.m pc Ls (.int k :: st)) := by
  subst hp
  obtain ⟨hx, hZ0, hown0, hby, hml, hret, hnm, hlk, hR, hsH⟩ := G
  obtain ⟨L, vm0, k0, X, e, N, hS, hk⟩ := X
  have hZ : Z.Warmed39 (Γ.s.setVm vm0).vm := State.Warmed39.trans hZ0 hS.1
  have hown : (Γ.s.setVm vm0).vm.findClass own = some Γ.m.cls := by rw [show (Γ.s.setVm vm0).vm = vm0 from rfl, hS.1.alike.findClass]; exact hown0
  exact Go.of (fun t k' => X.tableswitchOut hx (g := mkF Γ.m pc Ls (.int k :: st)) rfl rfl (hb hby hd) hout ho t k') K
theorem k_ldcI {a0 : Array Value} {idx : Nat} {v : Int32} (G : Ctx Γ Z own bytes maxl ret nm rm hs0) (X : W Γ n0 T h C S) (w : (Cond.constant own idx v).before a0 Z = true) (hd : decode bytes pc = .ok (.ldc idx, 2)) (hp : pc + 2 = pc') (K : Go Γ n0 Q T (mkF Γ.m pc' Ls (.int v :: st))) : Go Γ n0 Q T (mkF Γ.m pc Ls st) := by
  subst hp
  obtain ⟨hx, hZ0, hown0, hby, hml, hret, hnm, hlk, hR, hsH⟩ := G
  obtain ⟨L, vm0, k0, X, e, N, hS, hk⟩ := X
  have hZ : Z.Warmed39 (Γ.s.setVm vm0).vm := State.Warmed39.trans hZ0 hS.1
  have hown : (Γ.s.setVm vm0).vm.findClass own = some Γ.m.cls := by rw [show (Γ.s.setVm vm0).vm = vm0 from rfl, hS.1.alike.findClass]; exact hown0
  exact Go.of (fun t k => X.ldcInt hx hown (mvT hZ w) (g := mkF Γ.m pc Ls st) rfl (hb hby hd) t k) K
theorem k_ldcwI {a0 : Array Value} {idx : Nat} {v : Int32} (G : Ctx Γ Z own bytes maxl ret nm rm hs0) (X : W Γ n0 T h C S) (w : (Cond.constant own idx v).before a0 Z = true) (hd : decode bytes pc = .ok (.ldc_w idx, 3)) (hp : pc + 3 = pc') (K : Go Γ n0 Q T (mkF Γ.m pc' Ls (.int v :: st))) : Go Γ n0 Q T (mkF Γ.m pc Ls st) := by
  subst hp
  obtain ⟨hx, hZ0, hown0, hby, hml, hret, hnm, hlk, hR, hsH⟩ := G
  obtain ⟨L, vm0, k0, X, e, N, hS, hk⟩ := X
  have hZ : Z.Warmed39 (Γ.s.setVm vm0).vm := State.Warmed39.trans hZ0 hS.1
  have hown : (Γ.s.setVm vm0).vm.findClass own = some Γ.m.cls := by rw [show (Γ.s.setVm vm0).vm = vm0 from rfl, hS.1.alike.findClass]; exact hown0
  exact Go.of (fun t k => X.ldcwInt hx hown (mvT hZ w) (g := mkF Γ.m pc Ls st) rfl (hb hby hd) t k) K
theorem k_ldcL {a0 : Array Value} {idx : Nat} {v : Int64} (G : Ctx Γ Z own bytes maxl ret nm rm hs0) (X : W Γ n0 T h C S) (w : (Cond.constantLong own idx v).before a0 Z = true) (hd : decode bytes pc = .ok (.ldc2_w idx, 3)) (hp : pc + 3 = pc') (K : Go Γ n0 Q T (mkF Γ.m pc' Ls (.long v :: st))) : Go Γ n0 Q T (mkF Γ.m pc Ls st) := by
  subst hp
  obtain ⟨hx, hZ0, hown0, hby, hml, hret, hnm, hlk, hR, hsH⟩ := G
  obtain ⟨L, vm0, k0, X, e, N, hS, hk⟩ := X
  have hZ : Z.Warmed39 (Γ.s.setVm vm0).vm := State.Warmed39.trans hZ0 hS.1
  have hown : (Γ.s.setVm vm0).vm.findClass own = some Γ.m.cls := by rw [show (Γ.s.setVm vm0).vm = vm0 from rfl, hS.1.alike.findClass]; exact hown0
  exact Go.of (fun t k => X.ldc2Long hx hown (mvT hZ w) (g := mkF Γ.m pc Ls st) rfl (hb hby hd) t k) K
theorem k_getS {a0 : Array Value} {idx : Nat} {R0 O n d host : String} {v : Value} (G : Ctx Γ Z own bytes maxl ret nm rm hs0) (X : W Γ n0 T h C S) (w : (Cond.fieldLink own idx R0 n d).before a0 Z = true ∨ (Cond.fieldLinkNest own idx R0 n d host).before a0 Z = true) (via : Via Z R0 O n d) (F : Sta Z h O n d v) (hd : decode bytes pc = .ok (.getstatic idx, 3)) (hp : pc + 3 = pc') (K : ∀ T, W Γ n0 T h C S → Go Γ n0 Q T (mkF Γ.m pc' Ls (v :: st))) : Go Γ n0 Q T (mkF Γ.m pc Ls st) := by
  subst hp
  obtain ⟨hx, hZ0, hown0, hby, hml, hret, hnm, hlk, hR, hsH⟩ := G
  obtain ⟨L, vm0, k0, X, e, N, hS, hk⟩ := X
  have hZ : Z.Warmed39 (Γ.s.setVm vm0).vm := State.Warmed39.trans hZ0 hS.1
  have hown : (Γ.s.setVm vm0).vm.findClass own = some Γ.m.cls := by rw [show (Γ.s.setVm vm0).vm = vm0 from rfl, hS.1.alike.findClass]; exact hown0
  obtain ⟨T', X', e', st'⟩ := getS2 X hx hZ hown w via e F (g := mkF Γ.m pc Ls st) rfl (hb hby hd)
  exact Go.of st' (K T' ⟨L, vm0, k0, X', e', N, hS, hk⟩)
theorem k_getF {a0 : Array Value} {idx : Nat} {R0 O n d host : String} {v : Value} {a : Addr} (G : Ctx Γ Z own bytes maxl ret nm rm hs0) (X : W Γ n0 T h C S) (w : (Cond.fieldLink own idx R0 n d).before a0 Z = true ∨ (Cond.fieldLinkNest own idx R0 n d host).before a0 Z = true) (via : Via Z R0 O n d) (F : Fld Z h a O n d v) (hd : decode bytes pc = .ok (.getfield idx, 3)) (hp : pc + 3 = pc') (K : ∀ T, W Γ n0 T h C S → Go Γ n0 Q T (mkF Γ.m pc' Ls (v :: st))) : Go Γ n0 Q T (mkF Γ.m pc Ls (.ref a :: st)) := by
  subst hp
  obtain ⟨hx, hZ0, hown0, hby, hml, hret, hnm, hlk, hR, hsH⟩ := G
  obtain ⟨L, vm0, k0, X, e, N, hS, hk⟩ := X
  have hZ : Z.Warmed39 (Γ.s.setVm vm0).vm := State.Warmed39.trans hZ0 hS.1
  have hown : (Γ.s.setVm vm0).vm.findClass own = some Γ.m.cls := by rw [show (Γ.s.setVm vm0).vm = vm0 from rfl, hS.1.alike.findClass]; exact hown0
  obtain ⟨T', X', e', st'⟩ := getF X hx hZ hown w via e F (g := mkF Γ.m pc Ls (.ref a :: st)) rfl rfl (hb hby hd)
  exact Go.of st' (K T' ⟨L, vm0, k0, X', e', N, hS, hk⟩)
theorem k_putF {a0 : Array Value} {idx kk : Nat} {R0 O n d host CC : String} {v old : Value} {ty : FieldType} {a : Addr} (G : Ctx Γ Z own bytes maxl ret nm rm hs0) (X : W Γ n0 T h C S) (w : (Cond.fieldLink own idx R0 n d).before a0 Z = true ∨ (Cond.fieldLinkNest own idx R0 n d host).before a0 Z = true) (via : Via Z R0 O n d) (F : Fld Z h a O n d old) (E : Exa Z h a CC) (lay : (Cond.lays CC O n d).before a0 Z = true ∨ ((Cond.laysFinal CC O n d).before a0 Z = true ∧ own = O ∧ nm = "<init>")) (wi : (Cond.instantiable CC kk).before a0 Z = true) (ht : parseFieldDescriptor d = some ty) (hn : narrow ty v = v) (hf : fits ty v = true) (ga : n0 ≤ a) (hd : decode bytes pc = .ok (.putfield idx, 3)) (hp : pc + 3 = pc') (K : ∀ T h', Wr h h' a (Jvm.RoadKit.slotOf Z O n d) v → W Γ n0 T h' C S → Go Γ n0 Q T (mkF Γ.m pc' Ls st)) : Go Γ n0 Q T (mkF Γ.m pc Ls (v :: .ref a :: st)) := by
  subst hp
  obtain ⟨hx, hZ0, hown0, hby, hml, hret, hnm, hlk, hR, hsH⟩ := G
  obtain ⟨L, vm0, k0, X, e, N, hS, hk⟩ := X
  have hZ : Z.Warmed39 (Γ.s.setVm vm0).vm := State.Warmed39.trans hZ0 hS.1
  have hown : (Γ.s.setVm vm0).vm.findClass own = some Γ.m.cls := by rw [show (Γ.s.setVm vm0).vm = vm0 from rfl, hS.1.alike.findClass]; exact hown0
  obtain ⟨T', h', X', e', W', st'⟩ := putF X hx hZ hown w via e F E (by rw [hnm]; exact lay) wi ht hn hf (g := mkF Γ.m pc Ls (v :: .ref a :: st)) rfl rfl (hb hby hd)
  exact Go.of st' (K T' h' W' ⟨_, vm0, k0, X', e', Fr.snoc X' N ga, hS, (by rw [W'.size]; exact hk)⟩)
theorem k_putFN {a0 : Array Value} {idx kk : Nat} {R0 O n d CC : String} {v v' old : Value} {ty : FieldType} {a : Addr} (G : Ctx Γ Z own bytes maxl ret nm rm hs0) (X : W Γ n0 T h C S) (w : (Cond.fieldLink own idx R0 n d).before a0 Z = true) (via : Via Z R0 O n d) (F : Fld Z h a O n d old) (E : Exa Z h a CC) (lay : (Cond.lays CC O n d).before a0 Z = true ∨ ((Cond.laysFinal CC O n d).before a0 Z = true ∧ own = O ∧ nm = "<init>")) (wi : (Cond.instantiable CC kk).before a0 Z = true) (ht : parseFieldDescriptor d = some ty) (hn : narrow ty v = v') (hf : fits ty v' = true) (ga : n0 ≤ a) (hd : decode bytes pc = .ok (.putfield idx, 3)) (hp : pc + 3 = pc') (K : ∀ T h', Wr h h' a (Jvm.RoadKit.slotOf Z O n d) v' → W Γ n0 T h' C S → Go Γ n0 Q T (mkF Γ.m pc' Ls st)) : Go Γ n0 Q T (mkF Γ.m pc Ls (v :: .ref a :: st)) := by
  subst hp
  obtain ⟨hx, hZ0, hown0, hby, hml, hret, hnm, hlk, hR, hsH⟩ := G
  obtain ⟨L, vm0, k0, X, e, N, hS, hk⟩ := X
  have hZ : Z.Warmed39 (Γ.s.setVm vm0).vm := State.Warmed39.trans hZ0 hS.1
  have hown : (Γ.s.setVm vm0).vm.findClass own = some Γ.m.cls := by rw [show (Γ.s.setVm vm0).vm = vm0 from rfl, hS.1.alike.findClass]; exact hown0
  obtain ⟨T', h', X', e', W', st'⟩ := putFN X hx hZ hown w via e F E (by rw [hnm]; exact lay) wi ht hn hf (g := mkF Γ.m pc Ls (v :: .ref a :: st)) rfl rfl (hb hby hd)
  exact Go.of st' (K T' h' W' ⟨_, vm0, k0, X', e', Fr.snoc X' N ga, hS, (by rw [W'.size]; exact hk)⟩)
theorem k_new {a0 : Array Value} {idx k : Nat} {CC : String} (G : Ctx Γ Z own bytes maxl ret nm rm hs0) (X : W Γ n0 T h C S) (w : (Cond.classLink own idx CC).before a0 Z = true) (wi : (Cond.instantiable CC k).before a0 Z = true) (wz : (Cond.initialized CC).before a0 Z = true) (hd : decode bytes pc = .ok (.new idx, 3)) (hp : pc + 3 = pc') (hc : C + 1 ≤ rm.cells) (hs : S + k ≤ rm.slots)
    (K : ∀ T h' a, a = h.size → Ext h h' → Exa Z h' a CC → (∀ {O nm d : String} {ty : FieldType}, Laid Z a0 CC O nm d → parseFieldDescriptor d = some ty → Fld Z h' a O nm d (defaultValue ty)) → W Γ n0 T h' (C + 1) (S + k) → Go Γ n0 Q T (mkF Γ.m pc' Ls (.ref a :: st))) : Go Γ n0 Q T (mkF Γ.m pc Ls st) := by
  subst hp
  obtain ⟨hx, hZ0, hown0, hby, hml, hret, hnm, hlk, hR, hsH⟩ := G
  obtain ⟨L, vm0, k0, X, e, N, hS, hk⟩ := X
  have hZ : Z.Warmed39 (Γ.s.setVm vm0).vm := State.Warmed39.trans hZ0 hS.1
  have hown : (Γ.s.setVm vm0).vm.findClass own = some Γ.m.cls := by rw [show (Γ.s.setVm vm0).vm = vm0 from rfl, hS.1.alike.findClass]; exact hown0
  obtain ⟨T', h', X', e', E', A', D', -, st'⟩ := newO X hx hZ hown w wi wz e (g := mkF Γ.m pc Ls st) rfl (hb hby hd) (hR ▸ hc) (hR ▸ hs)
  exact Go.of st' (K T' h' _ rfl E' A' D' ⟨L, vm0, k0, X', e', N, hS, (Nat.le_trans hk E'.1)⟩)
theorem k_initO {a0 : Array Value} {idx : Nat} {a : Addr} {wd : Nat} (G : Ctx Γ Z own bytes maxl ret nm rm hs0) (X : W Γ n0 T h C S) (w1 : (Cond.methodLink own idx Lib.objectInit).before a0 Z = true) (w2 : (Cond.instanceMethod Lib.objectInit).before a0 Z = true) (w3 : (Cond.code Lib.objectInit ⟨#[0xb1]⟩ 1 none).before a0 Z = true) (hd : decode bytes pc = .ok (.invokespecial idx, 3)) (hp : pc + 3 = pc') (hL : Ls.size = maxl) (hf : 1 ≤ rm.frames) (hwd : (st.map fun v => v.category).sum = wd) (hl : wd + 12 ≤ rm.locals) (K : ∀ T, W Γ n0 T h C S → Go Γ n0 Q T (mkF Γ.m pc' Ls st)) : Go Γ n0 Q T (mkF Γ.m pc Ls (.ref a :: st)) := by
  subst hp
  obtain ⟨hx, hZ0, hown0, hby, hml, hret, hnm, hlk, hR, hsH⟩ := G
  obtain ⟨L, vm0, k0, X, e, N, hS, hk⟩ := X
  have hZ : Z.Warmed39 (Γ.s.setVm vm0).vm := State.Warmed39.trans hZ0 hS.1
  have hown : (Γ.s.setVm vm0).vm.findClass own = some Γ.m.cls := by rw [show (Γ.s.setVm vm0).vm = vm0 from rfl, hS.1.alike.findClass]; exact hown0
  obtain ⟨T', X', e', st'⟩ := initO X hx hZ hown w1 w2 w3 e (g := mkF Γ.m pc Ls (.ref a :: st)) rfl (by rw [hml]; exact hL) rfl (hb hby hd) (hR ▸ hf) (W := wd) (by show 2 * 0 + _ ≤ _; omega) (hR ▸ hl)
  exact Go.of st' (K T' ⟨L, vm0, k0, X', e', N, hS, hk⟩)
theorem k_castY {a0 : Array Value} {idx : Nat} {KK : String} {a : Addr} (G : Ctx Γ Z own bytes maxl ret nm rm hs0) (X : W Γ n0 T h C S) (w : (Cond.classLink own idx KK).before a0 Z = true) (F : Ins Z h a KK true) (hd : decode bytes pc = .ok (.checkcast idx, 3)) (hp : pc + 3 = pc') (K : ∀ T, W Γ n0 T h C S → Go Γ n0 Q T (mkF Γ.m pc' Ls (.ref a :: st))) : Go Γ n0 Q T (mkF Γ.m pc Ls (.ref a :: st)) := by
  subst hp
  obtain ⟨hx, hZ0, hown0, hby, hml, hret, hnm, hlk, hR, hsH⟩ := G
  obtain ⟨L, vm0, k0, X, e, N, hS, hk⟩ := X
  have hZ : Z.Warmed39 (Γ.s.setVm vm0).vm := State.Warmed39.trans hZ0 hS.1
  have hown : (Γ.s.setVm vm0).vm.findClass own = some Γ.m.cls := by rw [show (Γ.s.setVm vm0).vm = vm0 from rfl, hS.1.alike.findClass]; exact hown0
  obtain ⟨T', X', e', st'⟩ := castY X hx hZ hown w e F (g := mkF Γ.m pc Ls (.ref a :: st)) rfl rfl (hb hby hd)
  exact Go.of st' (K T' ⟨L, vm0, k0, X', e', N, hS, hk⟩)
theorem k_instY {a0 : Array Value} {idx : Nat} {KK : String} {a : Addr} (G : Ctx Γ Z own bytes maxl ret nm rm hs0) (X : W Γ n0 T h C S) (w : (Cond.classLink own idx KK).before a0 Z = true) (F : Ins Z h a KK true) (hd : decode bytes pc = .ok (.instanceof idx, 3)) (hp : pc + 3 = pc') (K : ∀ T, W Γ n0 T h C S → Go Γ n0 Q T (mkF Γ.m pc' Ls (.int 1 :: st))) : Go Γ n0 Q T (mkF Γ.m pc Ls (.ref a :: st)) := by
  subst hp
  obtain ⟨hx, hZ0, hown0, hby, hml, hret, hnm, hlk, hR, hsH⟩ := G
  obtain ⟨L, vm0, k0, X, e, N, hS, hk⟩ := X
  have hZ : Z.Warmed39 (Γ.s.setVm vm0).vm := State.Warmed39.trans hZ0 hS.1
  have hown : (Γ.s.setVm vm0).vm.findClass own = some Γ.m.cls := by rw [show (Γ.s.setVm vm0).vm = vm0 from rfl, hS.1.alike.findClass]; exact hown0
  obtain ⟨T', X', e', st'⟩ := instY X hx hZ hown w e F (g := mkF Γ.m pc Ls (.ref a :: st)) rfl rfl (hb hby hd)
  exact Go.of st' (K T' ⟨L, vm0, k0, X', e', N, hS, hk⟩)
theorem k_callS {a0 : Array Value} {idx : Nat} {y : MethodName} {by' : ByteArray} {maxL' : Nat} {ret' : Option FieldType} {rm' : Room} {ps : List FieldType} {rt : Option FieldType} {wd : Nat} {QY : Option Value → Heap → Prop} {argsL rest : List Value} (G : Ctx Γ Z own bytes maxl ret nm rm hs0) (X : W Γ n0 T h C S) (hst : st = argsL.reverse ++ rest) (w1 : (Cond.methodLink own idx y).before a0 Z = true) (w2 : (Cond.static y).before a0 Z = true) (wz : (Cond.initialized y.cls).before a0 Z = true) (wc : (Cond.code y by' maxL' ret').before a0 Z = true) (hy : y.cls ≠ "java/lang/invoke/MethodHandle" ∧ y.cls ≠ "java/lang/invoke/VarHandle") (M : Met Z y by' maxL' ret' rm' argsL.toArray h n0 QY) (hd : decode bytes pc = .ok (.invokestatic idx, 3)) (pd : parseMethodDescriptor y.desc = some ⟨ps, rt⟩) (hn : argsL.length = ps.length) (hp : pc + 3 = pc') (hL : Ls.size = maxl) (hwd : (rest.map fun v => v.category).sum = wd) (hf : rm'.frames + 1 ≤ rm.frames) (hlo : wd + (maxL' + 11) + rm'.locals ≤ rm.locals) (hc : C + rm'.cells ≤ rm.cells) (hs : S + rm'.slots ≤ rm.slots) (K : ∀ T h' v, W Γ n0 T h' (C + rm'.cells) (S + rm'.slots) → QY v h' → Go Γ n0 Q T (mkF Γ.m pc' Ls (v.toList ++ rest))) : Go Γ n0 Q T (mkF Γ.m pc Ls st) := by
  subst hp hst
  obtain ⟨hx, hZ0, hown0, hby, hml, hret, hnm, hlk, hR, hsH⟩ := G
  obtain ⟨L, vm0, k0, X, e, N, hS, hk⟩ := X
  have hZ : Z.Warmed39 (Γ.s.setVm vm0).vm := State.Warmed39.trans hZ0 hS.1
  have hown : (Γ.s.setVm vm0).vm.findClass own = some Γ.m.cls := by rw [show (Γ.s.setVm vm0).vm = vm0 from rfl, hS.1.alike.findClass]; exact hown0
  obtain ⟨v1, _, ⟨T1, L1, k1, n1⟩, -, X1, hS1, hg1, ⟨Lc1, q1, l1, y1, z1⟩, s1⟩ := callSS X hx hown (mvT hZ w1) (mvT hZ w2) (mvT hZ wz) (mvT hZ wc) hy (backOfS (W := wd) (Q := fun v h L => QY v h ∧ Fr n0 L) (M Γ.l) hZ wc wz (hR ▸ hf) (hR ▸ hlo)) (g := mkF Γ.m pc Ls (argsL.reverse ++ rest)) rfl (by rw [hml]; exact hL) (argsL := argsL) (rest := rest) (lenOf pd hn) rfl (by show 2 * 0 + _ ≤ _; omega) (hb hby hd) (fun _ _ => ⟨rfl, e, hR ▸ hc, hR ▸ hs⟩)
  dsimp only [Pt.U, Pt.locs, Pt.cells, Pt.slots] at X1 hS1 hg1 l1 y1 z1 s1 q1
  subst l1 y1 z1
  exact Go.of (fun t k => s1.trans k) (K T1 _ v1 ⟨_, _, _, X1, rfl, Fr.app N q1.2, foldS hS (by rw [e]; exact hk) hS1 hg1, Nat.le_refl _⟩ q1.1)
theorem k_callI {a0 : Array Value} {idx : Nat} {y : MethodName} {by' : ByteArray} {maxL' : Nat} {rm' : Room} {ps : List FieldType} {rt : Option FieldType} {wd : Nat} {QY : Option Value → Heap → Prop} {argsL rest : List Value} {a : Addr} (G : Ctx Γ Z own bytes maxl ret nm rm hs0) (X : W Γ n0 T h C S) (hst : st = argsL.reverse ++ .ref a :: rest) (hy1 : y.name = "<init>") (w1 : (Cond.methodLink own idx y).before a0 Z = true) (w2 : (Cond.instanceMethod y).before a0 Z = true) (wz : (Cond.initialized y.cls).before a0 Z = true) (wc : (Cond.code y by' maxL' none).before a0 Z = true) (hy : y.cls ≠ "java/lang/invoke/MethodHandle" ∧ y.cls ≠ "java/lang/invoke/VarHandle") (M : Met Z y by' maxL' none rm' (.ref a :: argsL).toArray h n0 QY) (hd : decode bytes pc = .ok (.invokespecial idx, 3)) (pd : parseMethodDescriptor y.desc = some ⟨ps, rt⟩) (hn : argsL.length = ps.length) (hp : pc + 3 = pc') (hL : Ls.size = maxl) (hwd : (rest.map fun v => v.category).sum = wd) (hf : rm'.frames + 1 ≤ rm.frames) (hlo : wd + (maxL' + 11) + rm'.locals ≤ rm.locals) (hc : C + rm'.cells ≤ rm.cells) (hs : S + rm'.slots ≤ rm.slots) (K : ∀ T h' v, W Γ n0 T h' (C + rm'.cells) (S + rm'.slots) → QY v h' → Go Γ n0 Q T (mkF Γ.m pc' Ls (v.toList ++ rest))) : Go Γ n0 Q T (mkF Γ.m pc Ls st) := by
  subst hp hst
  obtain ⟨hx, hZ0, hown0, hby, hml, hret, hnm, hlk, hR, hsH⟩ := G
  obtain ⟨L, vm0, k0, X, e, N, hS, hk⟩ := X
  have hZ : Z.Warmed39 (Γ.s.setVm vm0).vm := State.Warmed39.trans hZ0 hS.1
  have hown : (Γ.s.setVm vm0).vm.findClass own = some Γ.m.cls := by rw [show (Γ.s.setVm vm0).vm = vm0 from rfl, hS.1.alike.findClass]; exact hown0
  obtain ⟨v1, _, ⟨T1, L1, k1, n1⟩, -, X1, hS1, hg1, ⟨Lc1, q1, l1, y1, z1⟩, s1⟩ := X.specialBackS hx hy1 hown (mvT hZ w1) (mvT hZ w2) (mvT hZ wc) hy (backOfS (W := wd) (Q := fun v h L => QY v h ∧ Fr n0 L) (M Γ.l) hZ wc wz (hR ▸ hf) (hR ▸ hlo)) (g := mkF Γ.m pc Ls (argsL.reverse ++ .ref a :: rest)) rfl (by rw [hml]; exact hL) (Steps.refl _) (a := a) (argsL := argsL) (rest := rest) (lenOf pd hn) rfl (by show 2 * 0 + _ ≤ _; omega) (hb hby hd) (fun _ _ => ⟨rfl, e, hR ▸ hc, hR ▸ hs⟩)
  dsimp only [Pt.U, Pt.locs, Pt.cells, Pt.slots] at X1 hS1 hg1 l1 y1 z1 s1 q1
  subst l1 y1 z1
  exact Go.of (fun t k => s1.trans k) (K T1 _ v1 ⟨_, _, _, X1, rfl, Fr.app N q1.2, foldS hS (by rw [e]; exact hk) hS1 hg1, Nat.le_refl _⟩ q1.1)
theorem k_callV {a0 : Array Value} {idx : Nat} {y : MethodName} {by' : ByteArray} {maxL' : Nat} {ret' : Option FieldType} {rm' : Room} {ps : List FieldType} {rt : Option FieldType} {wd : Nat} {QY : Option Value → Heap → Prop} {argsL rest : List Value} {a : Addr} {CC : String} {z : MethodName} (G : Ctx Γ Z own bytes maxl ret nm rm hs0) (X : W Γ n0 T h C S) (hst : st = argsL.reverse ++ .ref a :: rest) (E : Exa Z h a CC) (w1 : (Cond.methodLink own idx y).before a0 Z = true) (w2 : (Cond.declares y).before a0 Z = true) (nf : ∀ s : State, Z.Warmed39 s.vm → NotFace s y) (w3 : (Cond.selects CC y z).before a0 Z = true) (w4 : (Cond.instanceMethod z).before a0 Z = true) (wz : (Cond.initialized z.cls).before a0 Z = true) (wc : (Cond.code z by' maxL' ret').before a0 Z = true) (hy : y.cls ≠ "java/lang/invoke/MethodHandle" ∧ y.cls ≠ "java/lang/invoke/VarHandle") (M : Met Z z by' maxL' ret' rm' (.ref a :: argsL).toArray h n0 QY) (hd : decode bytes pc = .ok (.invokevirtual idx, 3)) (pd : parseMethodDescriptor y.desc = some ⟨ps, rt⟩) (hn : argsL.length = ps.length) (hp : pc + 3 = pc') (hL : Ls.size = maxl) (hwd : (rest.map fun v => v.category).sum = wd) (hf : rm'.frames + 1 ≤ rm.frames) (hlo : wd + (maxL' + 11) + rm'.locals ≤ rm.locals) (hc : C + rm'.cells ≤ rm.cells) (hs : S + rm'.slots ≤ rm.slots) (K : ∀ T h' v, W Γ n0 T h' (C + rm'.cells) (S + rm'.slots) → QY v h' → Go Γ n0 Q T (mkF Γ.m pc' Ls (v.toList ++ rest))) : Go Γ n0 Q T (mkF Γ.m pc Ls st) := by
  subst hp hst
  obtain ⟨hx, hZ0, hown0, hby, hml, hret, hnm, hlk, hR, hsH⟩ := G
  obtain ⟨L, vm0, k0, X, e, N, hS, hk⟩ := X
  have hZ : Z.Warmed39 (Γ.s.setVm vm0).vm := State.Warmed39.trans hZ0 hS.1
  have hown : (Γ.s.setVm vm0).vm.findClass own = some Γ.m.cls := by rw [show (Γ.s.setVm vm0).vm = vm0 from rfl, hS.1.alike.findClass]; exact hown0
  obtain ⟨cq, kq, qa, qb, qc⟩ := isOf hZ e E
  obtain ⟨v1, _, ⟨T1, L1, k1, n1⟩, -, X1, hS1, hg1, ⟨Lc1, q1, l1, y1, z1⟩, s1⟩ := X.virtualBackS hx hown (mvT hZ w1) (mvT hZ w2) (nf _ hZ) (mvT hZ w3) (mvT hZ w4) hy (backOfS (W := wd) (Q := fun v h L => QY v h ∧ Fr n0 L) (M Γ.l) hZ wc wz (hR ▸ hf) (hR ▸ hlo)) qa qc (g := mkF Γ.m pc Ls (argsL.reverse ++ .ref a :: rest)) rfl (by rw [hml]; exact hL) (Steps.refl _) (argsL := argsL) (rest := rest) (lenOf pd hn) rfl (by show 2 * 0 + _ ≤ _; omega) (hb hby hd) (fun _ _ => ⟨rfl, e, hR ▸ hc, hR ▸ hs⟩)
  dsimp only [Pt.U, Pt.locs, Pt.cells, Pt.slots] at X1 hS1 hg1 l1 y1 z1 s1 q1
  subst l1 y1 z1
  exact Go.of (fun t k => s1.trans k) (K T1 _ v1 ⟨_, _, _, X1, rfl, Fr.app N q1.2, foldS hS (by rw [e]; exact hk) hS1 hg1, Nat.le_refl _⟩ q1.1)
theorem nf_sel {a0 : Array Value} {CC : String} {y : MethodName} (w3 : (Cond.selects CC y y).before a0 Z = true) : ∀ s : State, Z.Warmed39 s.vm → NotFace s y := fun s hZ => notFace_of_selects (args := #[]) (mvT hZ w3)
theorem k_callVU {a0 : Array Value} {idx : Nat} {y : MethodName} {by' : ByteArray} {maxL' : Nat} {ret' : Option FieldType} {rm' : Room} {ps : List FieldType} {rt : Option FieldType} {wd : Nat} {QY : Option Value → Heap → Prop} {argsL rest : List Value} {a : Addr} {CC owner : String} {z : MethodName} (G : Ctx Γ Z own bytes maxl ret nm rm hs0) (X : W Γ n0 T h C S) (hst : st = argsL.reverse ++ .ref a :: rest) (E : Exa Z h a CC) (w1 : (Cond.methodLink own idx y).before a0 Z = true) (ws : (Cond.sameMethod y.cls owner y.name y.desc).before a0 Z = true) (w2 : (Cond.declares ⟨owner, y.name, y.desc⟩).before a0 Z = true) (w3 : (Cond.selects CC y z).before a0 Z = true) (w4 : (Cond.instanceMethod z).before a0 Z = true) (wz : (Cond.initialized z.cls).before a0 Z = true) (wc : (Cond.code z by' maxL' ret').before a0 Z = true) (hy : owner ≠ "java/lang/invoke/MethodHandle" ∧ owner ≠ "java/lang/invoke/VarHandle") (M : Met Z z by' maxL' ret' rm' (.ref a :: argsL).toArray h n0 QY) (hd : decode bytes pc = .ok (.invokevirtual idx, 3)) (pd : parseMethodDescriptor y.desc = some ⟨ps, rt⟩) (hn : argsL.length = ps.length) (hp : pc + 3 = pc') (hL : Ls.size = maxl) (hwd : (rest.map fun v => v.category).sum = wd) (hf : rm'.frames + 1 ≤ rm.frames) (hlo : wd + (maxL' + 11) + rm'.locals ≤ rm.locals) (hc : C + rm'.cells ≤ rm.cells) (hs : S + rm'.slots ≤ rm.slots) (K : ∀ T h' v, W Γ n0 T h' (C + rm'.cells) (S + rm'.slots) → QY v h' → Go Γ n0 Q T (mkF Γ.m pc' Ls (v.toList ++ rest))) : Go Γ n0 Q T (mkF Γ.m pc Ls st) := by
  subst hp hst
  obtain ⟨hx, hZ0, hown0, hby, hml, hret, hnm, hlk, hR, hsH⟩ := G
  obtain ⟨L, vm0, k0, X, e, N, hS, hk⟩ := X
  have hZ : Z.Warmed39 (Γ.s.setVm vm0).vm := State.Warmed39.trans hZ0 hS.1
  have hown : (Γ.s.setVm vm0).vm.findClass own = some Γ.m.cls := by rw [show (Γ.s.setVm vm0).vm = vm0 from rfl, hS.1.alike.findClass]; exact hown0
  obtain ⟨cq, kq, qa, qb, qc⟩ := isOf hZ e E
  obtain ⟨v1, _, ⟨T1, L1, k1, n1⟩, -, X1, hS1, hg1, ⟨Lc1, q1, l1, y1, z1⟩, s1⟩ := X.virtualBackUpS hx hown (mvT hZ w1) (mvT hZ ws) (mvT hZ w2) hy (mvT hZ w3) (mvT hZ w4) (backOfS (W := wd) (Q := fun v h L => QY v h ∧ Fr n0 L) (M Γ.l) hZ wc wz (hR ▸ hf) (hR ▸ hlo)) qa qc (g := mkF Γ.m pc Ls (argsL.reverse ++ .ref a :: rest)) rfl (by rw [hml]; exact hL) (Steps.refl _) (argsL := argsL) (rest := rest) (lenOf pd hn) rfl (by show 2 * 0 + _ ≤ _; omega) (hb hby hd) (fun _ _ => ⟨rfl, e, hR ▸ hc, hR ▸ hs⟩)
  dsimp only [Pt.U, Pt.locs, Pt.cells, Pt.slots] at X1 hS1 hg1 l1 y1 z1 s1 q1
  subst l1 y1 z1
  exact Go.of (fun t k => s1.trans k) (K T1 _ v1 ⟨_, _, _, X1, rfl, Fr.app N q1.2, foldS hS (by rw [e]; exact hk) hS1 hg1, Nat.le_refl _⟩ q1.1)
theorem k_callF {a0 : Array Value} {idx : Nat} {y : MethodName} {by' : ByteArray} {maxL' : Nat} {ret' : Option FieldType} {rm' : Room} {ps : List FieldType} {rt : Option FieldType} {wd : Nat} {QY : Option Value → Heap → Prop} {argsL rest : List Value} {a : Addr} {CC : String} {z : MethodName} {cnt : Nat} (G : Ctx Γ Z own bytes maxl ret nm rm hs0) (X : W Γ n0 T h C S) (hst : st = argsL.reverse ++ .ref a :: rest) (E : Exa Z h a CC) (w1 : (Cond.methodLink own idx y).before a0 Z = true) (w2 : (Cond.declares y).before a0 Z = true) (wf : (Cond.interfaceMethod y.cls y.cls y.name y.desc).before a0 Z = true) (hwf : ((Cond.interfaceMethod y.cls y.cls y.name y.desc).onTables && (Cond.interfaceMethod y.cls y.cls y.name y.desc).keepsFace) = true) (w3 : (Cond.selects CC y z).before a0 Z = true) (w4 : (Cond.instanceMethod z).before a0 Z = true) (wp : (Cond.publicMethod z).before a0 Z = true) (wu : (Cond.unhidden CC y.name y.desc).before a0 Z = true) (wk : (Cond.castable CC y.cls).before a0 Z = true) (wz : (Cond.initialized z.cls).before a0 Z = true) (wc : (Cond.code z by' maxL' ret').before a0 Z = true) (hy : y.cls ≠ "java/lang/invoke/MethodHandle" ∧ y.cls ≠ "java/lang/invoke/VarHandle") (M : Met Z z by' maxL' ret' rm' (.ref a :: argsL).toArray h n0 QY) (hd : decode bytes pc = .ok (.invokeinterface idx cnt, 5)) (pd : parseMethodDescriptor y.desc = some ⟨ps, rt⟩) (hn : argsL.length = ps.length) (hp : pc + 5 = pc') (hL : Ls.size = maxl) (hwd : (rest.map fun v => v.category).sum = wd) (hf : rm'.frames + 1 ≤ rm.frames) (hlo : wd + (maxL' + 11) + rm'.locals ≤ rm.locals) (hc : C + rm'.cells ≤ rm.cells) (hs : S + rm'.slots ≤ rm.slots) (K : ∀ T h' v, W Γ n0 T h' (C + rm'.cells) (S + rm'.slots) → QY v h' → Go Γ n0 Q T (mkF Γ.m pc' Ls (v.toList ++ rest))) : Go Γ n0 Q T (mkF Γ.m pc Ls st) := by
  subst hp hst
  obtain ⟨hx, hZ0, hown0, hby, hml, hret, hnm, hlk, hR, hsH⟩ := G
  obtain ⟨L, vm0, k0, X, e, N, hS, hk⟩ := X
  have hZ : Z.Warmed39 (Γ.s.setVm vm0).vm := State.Warmed39.trans hZ0 hS.1
  have hown : (Γ.s.setVm vm0).vm.findClass own = some Γ.m.cls := by rw [show (Γ.s.setVm vm0).vm = vm0 from rfl, hS.1.alike.findClass]; exact hown0
  obtain ⟨cq, kq, qa, qb, qc⟩ := isOf hZ e E
  obtain ⟨v1, _, ⟨T1, L1, k1, n1⟩, -, X1, hS1, hg1, ⟨Lc1, q1, l1, y1, z1⟩, s1⟩ := X.interfaceBackS hx hown (mvT hZ w1) (mvT hZ w2) (mvT hZ wf hwf) (mvT hZ w3) (mvT hZ w4) (mvT hZ wp) (mvT hZ wu) (mvT hZ wk) hy (backOfS (W := wd) (Q := fun v h L => QY v h ∧ Fr n0 L) (M Γ.l) hZ wc wz (hR ▸ hf) (hR ▸ hlo)) qa qb qc (g := mkF Γ.m pc Ls (argsL.reverse ++ .ref a :: rest)) rfl (by rw [hml]; exact hL) (Steps.refl _) (argsL := argsL) (rest := rest) (lenOf pd hn) rfl (by show 2 * 0 + _ ≤ _; omega) (hb hby hd) (fun _ _ => ⟨rfl, e, hR ▸ hc, hR ▸ hs⟩)
  dsimp only [Pt.U, Pt.locs, Pt.cells, Pt.slots] at X1 hS1 hg1 l1 y1 z1 s1 q1
  subst l1 y1 z1
  exact Go.of (fun t k => s1.trans k) (K T1 _ v1 ⟨_, _, _, X1, rfl, Fr.app N q1.2, foldS hS (by rw [e]; exact hk) hS1 hg1, Nat.le_refl _⟩ q1.1)
theorem k_callP {a0 : Array Value} {idx : Nat} {y : MethodName} {by' : ByteArray} {maxL' : Nat} {ret' : Option FieldType} {rm' : Room} {ps : List FieldType} {rt : Option FieldType} {wd : Nat} {QY : Option Value → Heap → Prop} {argsL rest : List Value} {a : Addr} {CC : String} (G : Ctx Γ Z own bytes maxl ret nm rm hs0) (X : W Γ n0 T h C S) (hst : st = argsL.reverse ++ .ref a :: rest) (E : Exa Z h a CC) (w1 : (Cond.methodLink own idx y).before a0 Z = true) (w2 : (Cond.instanceMethod y).before a0 Z = true) (w3 : (Cond.selects y.cls y y).before a0 Z = true) (wp : (Cond.privateMethod y).before a0 Z = true) (wz : (Cond.initialized y.cls).before a0 Z = true) (wc : (Cond.code y by' maxL' ret').before a0 Z = true) (hy : y.cls ≠ "java/lang/invoke/MethodHandle" ∧ y.cls ≠ "java/lang/invoke/VarHandle") (M : Met Z y by' maxL' ret' rm' (.ref a :: argsL).toArray h n0 QY) (hd : decode bytes pc = .ok (.invokevirtual idx, 3)) (pd : parseMethodDescriptor y.desc = some ⟨ps, rt⟩) (hn : argsL.length = ps.length) (hp : pc + 3 = pc') (hL : Ls.size = maxl) (hwd : (rest.map fun v => v.category).sum = wd) (hf : rm'.frames + 1 ≤ rm.frames) (hlo : wd + (maxL' + 11) + rm'.locals ≤ rm.locals) (hc : C + rm'.cells ≤ rm.cells) (hs : S + rm'.slots ≤ rm.slots) (K : ∀ T h' v, W Γ n0 T h' (C + rm'.cells) (S + rm'.slots) → QY v h' → Go Γ n0 Q T (mkF Γ.m pc' Ls (v.toList ++ rest))) : Go Γ n0 Q T (mkF Γ.m pc Ls st) := by
  subst hp hst
  obtain ⟨hx, hZ0, hown0, hby, hml, hret, hnm, hlk, hR, hsH⟩ := G
  obtain ⟨L, vm0, k0, X, e, N, hS, hk⟩ := X
  have hZ : Z.Warmed39 (Γ.s.setVm vm0).vm := State.Warmed39.trans hZ0 hS.1
  have hown : (Γ.s.setVm vm0).vm.findClass own = some Γ.m.cls := by rw [show (Γ.s.setVm vm0).vm = vm0 from rfl, hS.1.alike.findClass]; exact hown0
  obtain ⟨cq, qa, qb⟩ := E.cell
  obtain ⟨v1, _, ⟨T1, L1, k1, n1⟩, -, X1, hS1, hg1, ⟨Lc1, q1, l1, y1, z1⟩, s1⟩ := X.privateBackS hx hown (mvT hZ w1) (mvT hZ w2) (mvT hZ w3) (Cond.privateMethod_at (mvP hZ wp (args := #[]))) (mvT hZ wc) hy (backOfS (W := wd) (Q := fun v h L => QY v h ∧ Fr n0 L) (M Γ.l) hZ wc wz (hR ▸ hf) (hR ▸ hlo)) (g := mkF Γ.m pc Ls (argsL.reverse ++ .ref a :: rest)) rfl (by rw [hml]; exact hL) (Steps.refl _) (a := a) (by rw [e]; exact qa) qb (argsL := argsL) (rest := rest) (lenOf pd hn) rfl (by show 2 * 0 + _ ≤ _; omega) (hb hby hd) (fun _ _ => ⟨rfl, e, hR ▸ hc, hR ▸ hs⟩)
  dsimp only [Pt.U, Pt.locs, Pt.cells, Pt.slots] at X1 hS1 hg1 l1 y1 z1 s1 q1
  subst l1 y1 z1
  exact Go.of (fun t k => s1.trans k) (K T1 _ v1 ⟨_, _, _, X1, rfl, Fr.app N q1.2, foldS hS (by rw [e]; exact hk) hS1 hg1, Nat.le_refl _⟩ q1.1)
theorem k_callU {a0 : Array Value} {idx : Nat} {y : MethodName} {by' : ByteArray} {maxL' : Nat} {ret' : Option FieldType} {rm' : Room} {ps : List FieldType} {rt : Option FieldType} {wd : Nat} {QY : Option Value → Heap → Prop} {argsL rest : List Value} {a : Addr} {KS : String} (G : Ctx Γ Z own bytes maxl ret nm rm hs0) (X : W Γ n0 T h C S) (hst : st = argsL.reverse ++ .ref a :: rest) (I : Ins Z h a KS true) (w1 : (Cond.methodLink own idx y).before a0 Z = true) (w2 : (Cond.sameMethod y.cls y.cls y.name y.desc).before a0 Z = true) (w3 : (Cond.instanceMethod y).before a0 Z = true) (w4 : (Cond.superclass own y.cls).before a0 Z = true) (hni : y.name ≠ "<init>") (wz : (Cond.initialized y.cls).before a0 Z = true) (wc : (Cond.code y by' maxL' ret').before a0 Z = true) (M : Met Z y by' maxL' ret' rm' (.ref a :: argsL).toArray h n0 QY) (hd : decode bytes pc = .ok (.invokespecial idx, 3)) (pd : parseMethodDescriptor y.desc = some ⟨ps, rt⟩) (hn : argsL.length = ps.length) (hp : pc + 3 = pc') (hL : Ls.size = maxl) (hwd : (rest.map fun v => v.category).sum = wd) (hf : rm'.frames + 1 ≤ rm.frames) (hlo : wd + (maxL' + 11) + rm'.locals ≤ rm.locals) (hc : C + rm'.cells ≤ rm.cells) (hs : S + rm'.slots ≤ rm.slots) (K : ∀ T h' v, W Γ n0 T h' (C + rm'.cells) (S + rm'.slots) → QY v h' → Go Γ n0 Q T (mkF Γ.m pc' Ls (v.toList ++ rest))) : Go Γ n0 Q T (mkF Γ.m pc Ls st) := by
  subst hp hst
  obtain ⟨hx, hZ0, hown0, hby, hml, hret, hnm, hlk, hR, hsH⟩ := G
  obtain ⟨L, vm0, k0, X, e, N, hS, hk⟩ := X
  have hZ : Z.Warmed39 (Γ.s.setVm vm0).vm := State.Warmed39.trans hZ0 hS.1
  have hown : (Γ.s.setVm vm0).vm.findClass own = some Γ.m.cls := by rw [show (Γ.s.setVm vm0).vm = vm0 from rfl, hS.1.alike.findClass]; exact hown0
  obtain ⟨v1, _, ⟨T1, L1, k1, n1⟩, -, X1, hS1, hg1, ⟨Lc1, q1, l1, y1, z1⟩, s1⟩ := superBackS X hx hZ hown w1 w2 w3 w4 hni (backOfS (W := wd) (Q := fun v h L => QY v h ∧ Fr n0 L) (M Γ.l) hZ wc wz (hR ▸ hf) (hR ▸ hlo)) e I (g := mkF Γ.m pc Ls (argsL.reverse ++ .ref a :: rest)) rfl (by rw [hml]; exact hL) wc (argsL := argsL) (rest := rest) (lenOf pd hn) rfl (by show 2 * 0 + _ ≤ _; omega) (hb hby hd) (fun _ _ => ⟨rfl, e, hR ▸ hc, hR ▸ hs⟩)
  dsimp only [Pt.U, Pt.locs, Pt.cells, Pt.slots] at X1 hS1 hg1 l1 y1 z1 s1 q1
  subst l1 y1 z1
  exact Go.of (fun t k => s1.trans k) (K T1 _ v1 ⟨_, _, _, X1, rfl, Fr.app N q1.2, foldS hS (by rw [e]; exact hk) hS1 hg1, Nat.le_refl _⟩ q1.1)
/-! ### arrays: the components by a function of their place -/
def Arf (Z : State) (h : Heap) (a : Addr) (k : ClassId) (ty : FieldType) (n : Nat) (f : Nat → Value) : Prop := ∃ c : Cell, Arr Z h a c ty ∧ c.cls = k ∧ c.slots.size = n ∧ n < 2147483648 ∧ ∀ i, i < n → c.slots[i]? = some (f i) ∧ fits ty (f i) = true
section A
variable {h' : Heap} {a b : Addr} {k : ClassId} {ty : FieldType} {n : Nat} {f g : Nat → Value} {v : Value} {sl : Nat} {ws : List Addr}
theorem Arf.lt (F : Arf Z h a k ty n f) : a < h.size := by obtain ⟨c, A, -⟩ := F; exact A.lt
theorem Arf.ext (F : Arf Z h a k ty n f) (E : Ext h h') : Arf Z h' a k ty n f := by obtain ⟨c, A, r⟩ := F; exact ⟨c, A.ext E, r⟩
theorem Arf.other (F : Arf Z h b k ty n f) (W : Wr h h' a sl v) (q : b ≠ a) : Arf Z h' b k ty n f := by obtain ⟨c, A, r⟩ := F; exact ⟨c, A.other W q, r⟩
theorem Arf.keep (F : Arf Z h a k ty n f) (K : Keep h h' ws) (q : a ∉ ws) : Arf Z h' a k ty n f := by obtain ⟨c, A, r⟩ := F; exact ⟨c, ⟨K.2.1 a c A.1 q, A.2⟩, r⟩
theorem Arf.congr (F : Arf Z h a k ty n f) (q : ∀ i, i < n → f i = g i) : Arf Z h a k ty n g := by
  obtain ⟨c, A, r1, r2, r3, H⟩ := F
  exact ⟨c, A, r1, r2, r3, fun i hi => by rw [← q i hi]; exact H i hi⟩
theorem Arf.size_lt (F : Arf Z h a k ty n f) : n < 2147483648 := by obtain ⟨c, A, r1, r2, r3, H⟩ := F; exact r3
theorem Arf.fits (F : Arf Z h a k ty n f) {i : Nat} (hi : i < n) : fits ty (f i) = true := by obtain ⟨c, A, r1, r2, r3, H⟩ := F; exact (H i hi).2
theorem idx_of {j : Int32} {i : Nat} (hj : j.toInt = i) : ¬ j < 0 ∧ j.toNatClampNeg = i := by
  rw [Int32.lt_iff_toInt_lt, show (0 : Int32).toInt = 0 from rfl, hj]
  exact ⟨by omega, by simp only [Int32.toNatClampNeg, hj]; omega⟩
theorem Arf.set (F : Arf Z h a k ty n f) {i : Nat} (W : Wr h h' a i v) (hi : i < n) (hv : Jvm.fits ty v = true) : Arf Z h' a k ty n (fun x => if x = i then v else f x) := by
  obtain ⟨c, A, r1, r2, r3, H⟩ := F
  refine ⟨_, A.same W, r1, by rw [sz_set]; exact r2, r3, fun x hx => ?_⟩
  by_cases q : x = i
  · subst q
    refine ⟨?_, by simpa using hv⟩
    simp [Cell.setSlot, r2, hx]
  · refine ⟨?_, by simpa [q] using (H x hx).2⟩
    simp only [Cell.setSlot, if_neg q]
    rw [Array.getElem?_setIfInBounds_ne (fun e => q e.symm)]; exact (H x hx).1
theorem Arf.new {z : Int32} (A : Arr Z h a (newA k ty z) ty) (hz : z.toInt = n) : Arf Z h a k ty n (fun _ => defaultValue ty) := by
  have q := idx_of hz
  refine ⟨_, A, rfl, by rw [sz_new, q.2], by have := Int32.toInt_lt z; omega, fun i hi => ⟨?_, by cases ty <;> rfl⟩⟩
  simp [newA, q.2, hi]
theorem Arf.arv (F : Arf Z h a k ty n f) {z : Int32} (hz : z.toInt = n) (dv : Value) : Arv Z h a k ty z ((List.range n).map f) dv := by
  obtain ⟨c, A, r1, r2, r3, H⟩ := F
  have q := idx_of hz
  refine ⟨c, A, r1, by rw [r2, q.2], q.1, fun i hi => ?_, fun i hi => ?_⟩
  · rw [r2] at hi; rw [(H i hi).1]; simp [List.getD_eq_getElem?_getD, hi]
  · rw [r2] at hi; have := (H i hi).2; simpa [List.getD_eq_getElem?_getD, hi] using this
theorem Arf.of_arv {z : Int32} {vs : List Value} {dv : Value} (F : Arv Z h a k ty z vs dv) (hz : z.toInt = n) (q : ∀ i, i < n → vs.getD i dv = f i) : Arf Z h a k ty n f := by
  obtain ⟨c, A, r1, r2, r3, H, G⟩ := F
  have q' := idx_of hz
  refine ⟨c, A, r1, by rw [r2, q'.2], by have := Int32.toInt_lt z; omega, fun i hi => ?_⟩
  have hi' : i < c.slots.size := by rw [r2, q'.2]; exact hi
  rw [← q i hi]; exact ⟨H i hi', G i hi'⟩
theorem Arf.sto (F : Arf Z h a k ty n f) {CC : String} {y : Addr} (O : Ovr Z k CC) (I : Ins Z h y CC true) : Sto Z h a (.ref y) := by
  obtain ⟨c, A, r1, -⟩ := F; exact Sto.ofV A r1 O I
end A

theorem k_newP {a0 : Array Value} {aty : ArrayType} {z : Int32} {n cap : Nat} (G : Ctx Γ Z own bytes maxl ret nm rm hs0) (X : W Γ n0 T h C S) (w : (Cond.arrayClass (newarray.typeOf aty)).before a0 Z = true) (hd : decode bytes pc = .ok (.newarray aty, 2)) (hp : pc + 2 = pc') (hz : z.toInt = n) (hcap : n ≤ cap) (hbig : cap * 8 ≤ 536870912) (hc : C + 1 ≤ rm.cells) (hs : S + cap ≤ rm.slots) (K : ∀ T h' a k, a = h.size → Ext h h' → Arf Z h' a k (newarray.typeOf aty) n (fun _ => defaultValue (newarray.typeOf aty)) → W Γ n0 T h' (C + 1) (S + cap) → Go Γ n0 Q T (mkF Γ.m pc' Ls (.ref a :: st))) : Go Γ n0 Q T (mkF Γ.m pc Ls (.int z :: st)) := by
  subst hp
  obtain ⟨hx, hZ0, hown0, hby, hml, hret, hnm, hlk, hR, hsH⟩ := G
  obtain ⟨L, vm0, k0, X, e, N, hS, hk⟩ := X
  have hZ : Z.Warmed39 (Γ.s.setVm vm0).vm := State.Warmed39.trans hZ0 hS.1
  have hown : (Γ.s.setVm vm0).vm.findClass own = some Γ.m.cls := by rw [show (Γ.s.setVm vm0).vm = vm0 from rfl, hS.1.alike.findClass]; exact hown0
  obtain ⟨T', h', k', X', e', E', A', st'⟩ := newP X hx hZ w e (g := mkF Γ.m pc Ls (.int z :: st)) rfl (hb hby hd) rfl (idx_of hz).1 (cap := cap) (by rw [(idx_of hz).2]; exact hcap) hbig (hR ▸ hc) (hR ▸ hs)
  exact Go.of st' (K T' h' _ k' rfl E' (Arf.new A' hz) ⟨L, vm0, k0, X', e', N, hS, (Nat.le_trans hk E'.1)⟩)
theorem k_newR {a0 : Array Value} {idx : Nat} {CC : String} {z : Int32} {n cap : Nat} (G : Ctx Γ Z own bytes maxl ret nm rm hs0) (X : W Γ n0 T h C S) (w1 : (Cond.classLink own idx CC).before a0 Z = true) (w2 : (Cond.arrayOver (.object CC)).before a0 Z = true) (hd : decode bytes pc = .ok (.anewarray idx, 3)) (hp : pc + 3 = pc') (hz : z.toInt = n) (hcap : n ≤ cap) (hbig : cap * 8 ≤ 536870912) (hc : C + 1 ≤ rm.cells) (hs : S + cap ≤ rm.slots) (K : ∀ T h' a k, a = h.size → Ext h h' → Arf Z h' a k (.object CC) n (fun _ => .null) → Ovr Z k CC → W Γ n0 T h' (C + 1) (S + cap) → Go Γ n0 Q T (mkF Γ.m pc' Ls (.ref a :: st))) : Go Γ n0 Q T (mkF Γ.m pc Ls (.int z :: st)) := by
  subst hp
  obtain ⟨hx, hZ0, hown0, hby, hml, hret, hnm, hlk, hR, hsH⟩ := G
  obtain ⟨L, vm0, k0, X, e, N, hS, hk⟩ := X
  have hZ : Z.Warmed39 (Γ.s.setVm vm0).vm := State.Warmed39.trans hZ0 hS.1
  have hown : (Γ.s.setVm vm0).vm.findClass own = some Γ.m.cls := by rw [show (Γ.s.setVm vm0).vm = vm0 from rfl, hS.1.alike.findClass]; exact hown0
  obtain ⟨T', h', k', X', e', E', A', O', st'⟩ := newR X hx hZ hown w1 w2 e (g := mkF Γ.m pc Ls (.int z :: st)) rfl (hb hby hd) rfl (idx_of hz).1 (cap := cap) (by rw [(idx_of hz).2]; exact hcap) hbig (hR ▸ hc) (hR ▸ hs)
  exact Go.of st' (K T' h' _ k' rfl E' (Arf.new A' hz) O' ⟨L, vm0, k0, X', e', N, hS, (Nat.le_trans hk E'.1)⟩)
theorem k_alen {a : Addr} {k : ClassId} {ty : FieldType} {n : Nat} {f : Nat → Value} {z : Int32} (G : Ctx Γ Z own bytes maxl ret nm rm hs0) (X : W Γ n0 T h C S) (F : Arf Z h a k ty n f) (hz : z.toInt = n) (hd : decode bytes pc = .ok (.arraylength, 1)) (hp : pc + 1 = pc') (K : Go Γ n0 Q T (mkF Γ.m pc' Ls (.int z :: st))) : Go Γ n0 Q T (mkF Γ.m pc Ls (.ref a :: st)) := by
  subst hp
  obtain ⟨hx, hZ0, hown0, hby, hml, hret, hnm, hlk, hR, hsH⟩ := G
  obtain ⟨L, vm0, k0, X, e, N, hS, hk⟩ := X
  have hZ : Z.Warmed39 (Γ.s.setVm vm0).vm := State.Warmed39.trans hZ0 hS.1
  have hown : (Γ.s.setVm vm0).vm.findClass own = some Γ.m.cls := by rw [show (Γ.s.setVm vm0).vm = vm0 from rfl, hS.1.alike.findClass]; exact hown0
  obtain ⟨cl, A, r1, r2, r3, H⟩ := F
  have q : cl.slots.size.toInt32 = z := by rw [r2]; exact Int32.toInt_inj.mp (by rw [len_toInt r3, hz])
  rw [← q] at K
  exact Go.of (fun t k' => X.arraylength hx (by rw [e]; exact A.1) (State.isArrayOf_alike hZ.alike A.2.1) (g := mkF Γ.m pc Ls (.ref a :: st)) rfl rfl (hb hby hd) t k') K
theorem k_iaload {a : Addr} {k : ClassId} {n i : Nat} {f : Nat → Value} {j : Int32} {v : Value} (G : Ctx Γ Z own bytes maxl ret nm rm hs0) (X : W Γ n0 T h C S) (F : Arf Z h a k .int n f) (hj : j.toInt = i) (hi : i < n) (hv : f i = v) (hd : decode bytes pc = .ok (.iaload, 1)) (hp : pc + 1 = pc') (K : Go Γ n0 Q T (mkF Γ.m pc' Ls (v :: st))) : Go Γ n0 Q T (mkF Γ.m pc Ls (.int j :: .ref a :: st)) := by
  subst hp hv
  obtain ⟨hx, hZ0, hown0, hby, hml, hret, hnm, hlk, hR, hsH⟩ := G
  obtain ⟨L, vm0, k0, X, e, N, hS, hk⟩ := X
  have hZ : Z.Warmed39 (Γ.s.setVm vm0).vm := State.Warmed39.trans hZ0 hS.1
  have hown : (Γ.s.setVm vm0).vm.findClass own = some Γ.m.cls := by rw [show (Γ.s.setVm vm0).vm = vm0 from rfl, hS.1.alike.findClass]; exact hown0
  obtain ⟨cl, A, r1, r2, r3, H⟩ := F
  have q := idx_of hj
  exact Go.of (fun t k' => X.iaload hx (by rw [e]; exact A.1) (State.isArrayOf_alike hZ.alike A.2.1) A.2.2 (by rw [r2, q.2]; exact fun u => u.elim q.1 (Nat.not_le.mpr hi)) (by rw [q.2]; exact (H i hi).1) (g := mkF Γ.m pc Ls (.int j :: .ref a :: st)) rfl rfl (hb hby hd) t k') K
theorem k_caload {a : Addr} {k : ClassId} {n i : Nat} {f : Nat → Value} {j : Int32} {v : Value} (G : Ctx Γ Z own bytes maxl ret nm rm hs0) (X : W Γ n0 T h C S) (F : Arf Z h a k .char n f) (hj : j.toInt = i) (hi : i < n) (hv : f i = v) (hd : decode bytes pc = .ok (.caload, 1)) (hp : pc + 1 = pc') (K : Go Γ n0 Q T (mkF Γ.m pc' Ls (v :: st))) : Go Γ n0 Q T (mkF Γ.m pc Ls (.int j :: .ref a :: st)) := by
  subst hp hv
  obtain ⟨hx, hZ0, hown0, hby, hml, hret, hnm, hlk, hR, hsH⟩ := G
  obtain ⟨L, vm0, k0, X, e, N, hS, hk⟩ := X
  have hZ : Z.Warmed39 (Γ.s.setVm vm0).vm := State.Warmed39.trans hZ0 hS.1
  have hown : (Γ.s.setVm vm0).vm.findClass own = some Γ.m.cls := by rw [show (Γ.s.setVm vm0).vm = vm0 from rfl, hS.1.alike.findClass]; exact hown0
  obtain ⟨cl, A, r1, r2, r3, H⟩ := F
  have q := idx_of hj
  exact Go.of (fun t k' => X.caload hx (by rw [e]; exact A.1) (State.isArrayOf_alike hZ.alike A.2.1) A.2.2 (by rw [r2, q.2]; exact fun u => u.elim q.1 (Nat.not_le.mpr hi)) (by rw [q.2]; exact (H i hi).1) (g := mkF Γ.m pc Ls (.int j :: .ref a :: st)) rfl rfl (hb hby hd) t k') K
theorem k_saload {a : Addr} {k : ClassId} {n i : Nat} {f : Nat → Value} {j : Int32} {v : Value} (G : Ctx Γ Z own bytes maxl ret nm rm hs0) (X : W Γ n0 T h C S) (F : Arf Z h a k .short n f) (hj : j.toInt = i) (hi : i < n) (hv : f i = v) (hd : decode bytes pc = .ok (.saload, 1)) (hp : pc + 1 = pc') (K : Go Γ n0 Q T (mkF Γ.m pc' Ls (v :: st))) : Go Γ n0 Q T (mkF Γ.m pc Ls (.int j :: .ref a :: st)) := by
  subst hp hv
  obtain ⟨hx, hZ0, hown0, hby, hml, hret, hnm, hlk, hR, hsH⟩ := G
  obtain ⟨L, vm0, k0, X, e, N, hS, hk⟩ := X
  have hZ : Z.Warmed39 (Γ.s.setVm vm0).vm := State.Warmed39.trans hZ0 hS.1
  have hown : (Γ.s.setVm vm0).vm.findClass own = some Γ.m.cls := by rw [show (Γ.s.setVm vm0).vm = vm0 from rfl, hS.1.alike.findClass]; exact hown0
  obtain ⟨cl, A, r1, r2, r3, H⟩ := F
  have q := idx_of hj
  exact Go.of (fun t k' => X.saload hx (by rw [e]; exact A.1) (State.isArrayOf_alike hZ.alike A.2.1) A.2.2 (by rw [r2, q.2]; exact fun u => u.elim q.1 (Nat.not_le.mpr hi)) (by rw [q.2]; exact (H i hi).1) (g := mkF Γ.m pc Ls (.int j :: .ref a :: st)) rfl rfl (hb hby hd) t k') K
theorem k_laload {a : Addr} {k : ClassId} {n i : Nat} {f : Nat → Value} {j : Int32} {v : Value} (G : Ctx Γ Z own bytes maxl ret nm rm hs0) (X : W Γ n0 T h C S) (F : Arf Z h a k .long n f) (hj : j.toInt = i) (hi : i < n) (hv : f i = v) (hd : decode bytes pc = .ok (.laload, 1)) (hp : pc + 1 = pc') (K : Go Γ n0 Q T (mkF Γ.m pc' Ls (v :: st))) : Go Γ n0 Q T (mkF Γ.m pc Ls (.int j :: .ref a :: st)) := by
  subst hp hv
  obtain ⟨hx, hZ0, hown0, hby, hml, hret, hnm, hlk, hR, hsH⟩ := G
  obtain ⟨L, vm0, k0, X, e, N, hS, hk⟩ := X
  have hZ : Z.Warmed39 (Γ.s.setVm vm0).vm := State.Warmed39.trans hZ0 hS.1
  have hown : (Γ.s.setVm vm0).vm.findClass own = some Γ.m.cls := by rw [show (Γ.s.setVm vm0).vm = vm0 from rfl, hS.1.alike.findClass]; exact hown0
  obtain ⟨cl, A, r1, r2, r3, H⟩ := F
  have q := idx_of hj
  exact Go.of (fun t k' => X.laload hx (by rw [e]; exact A.1) (State.isArrayOf_alike hZ.alike A.2.1) A.2.2 (by rw [r2, q.2]; exact fun u => u.elim q.1 (Nat.not_le.mpr hi)) (by rw [q.2]; exact (H i hi).1) (g := mkF Γ.m pc Ls (.int j :: .ref a :: st)) rfl rfl (hb hby hd) t k') K
theorem k_baload {a : Addr} {k : ClassId} {n i : Nat} {f : Nat → Value} {j : Int32} {v : Value} (G : Ctx Γ Z own bytes maxl ret nm rm hs0) (X : W Γ n0 T h C S) (F : Arf Z h a k .byte n f) (hj : j.toInt = i) (hi : i < n) (hv : f i = v) (hd : decode bytes pc = .ok (.baload, 1)) (hp : pc + 1 = pc') (K : Go Γ n0 Q T (mkF Γ.m pc' Ls (v :: st))) : Go Γ n0 Q T (mkF Γ.m pc Ls (.int j :: .ref a :: st)) := by
  subst hp hv
  obtain ⟨hx, hZ0, hown0, hby, hml, hret, hnm, hlk, hR, hsH⟩ := G
  obtain ⟨L, vm0, k0, X, e, N, hS, hk⟩ := X
  have hZ : Z.Warmed39 (Γ.s.setVm vm0).vm := State.Warmed39.trans hZ0 hS.1
  have hown : (Γ.s.setVm vm0).vm.findClass own = some Γ.m.cls := by rw [show (Γ.s.setVm vm0).vm = vm0 from rfl, hS.1.alike.findClass]; exact hown0
  obtain ⟨cl, A, r1, r2, r3, H⟩ := F
  have q := idx_of hj
  exact Go.of (fun t k' => X.baloadBytes hx (by rw [e]; exact A.1) (State.isArrayOf_alike hZ.alike A.2.1) A.2.2 (by rw [r2, q.2]; exact fun u => u.elim q.1 (Nat.not_le.mpr hi)) (by rw [q.2]; exact (H i hi).1) (g := mkF Γ.m pc Ls (.int j :: .ref a :: st)) rfl rfl (hb hby hd) t k') K
theorem k_aaload {a : Addr} {k : ClassId} {ty : FieldType} {n i : Nat} {f : Nat → Value} {j : Int32} {v : Value} (G : Ctx Γ Z own bytes maxl ret nm rm hs0) (X : W Γ n0 T h C S) (F : Arf Z h a k ty n f) (hty : ty.isReference = true) (hj : j.toInt = i) (hi : i < n) (hv : f i = v) (hd : decode bytes pc = .ok (.aaload, 1)) (hp : pc + 1 = pc') (K : Go Γ n0 Q T (mkF Γ.m pc' Ls (v :: st))) : Go Γ n0 Q T (mkF Γ.m pc Ls (.int j :: .ref a :: st)) := by
  subst hp hv
  obtain ⟨hx, hZ0, hown0, hby, hml, hret, hnm, hlk, hR, hsH⟩ := G
  obtain ⟨L, vm0, k0, X, e, N, hS, hk⟩ := X
  have hZ : Z.Warmed39 (Γ.s.setVm vm0).vm := State.Warmed39.trans hZ0 hS.1
  have hown : (Γ.s.setVm vm0).vm.findClass own = some Γ.m.cls := by rw [show (Γ.s.setVm vm0).vm = vm0 from rfl, hS.1.alike.findClass]; exact hown0
  obtain ⟨cl, A, r1, r2, r3, H⟩ := F
  have q := idx_of hj
  exact Go.of (fun t k' => X.aaload hx (by rw [e]; exact A.1) (State.isArrayOf_alike hZ.alike A.2.1) hty A.2.2 (by rw [r2, q.2]; exact fun u => u.elim q.1 (Nat.not_le.mpr hi)) (by rw [q.2]; exact (H i hi).1) (g := mkF Γ.m pc Ls (.int j :: .ref a :: st)) rfl rfl (hb hby hd) t k') K
theorem k_iastore {a : Addr} {k : ClassId} {n i : Nat} {f : Nat → Value} {j x z : Int32} (G : Ctx Γ Z own bytes maxl ret nm rm hs0) (X : W Γ n0 T h C S) (F : Arf Z h a k .int n f) (hj : j.toInt = i) (hi : i < n) (hz : x = z) (ga : n0 ≤ a) (hd : decode bytes pc = .ok (.iastore, 1)) (hp : pc + 1 = pc') (K : ∀ T h', Wr h h' a i (.int z) → Arf Z h' a k .int n (fun x => if x = i then (.int z) else f x) → W Γ n0 T h' C S → Go Γ n0 Q T (mkF Γ.m pc' Ls st)) : Go Γ n0 Q T (mkF Γ.m pc Ls (.int x :: .int j :: .ref a :: st)) := by
  subst hp hz
  obtain ⟨hx, hZ0, hown0, hby, hml, hret, hnm, hlk, hR, hsH⟩ := G
  obtain ⟨L, vm0, k0, X, e, N, hS, hk⟩ := X
  have hZ : Z.Warmed39 (Γ.s.setVm vm0).vm := State.Warmed39.trans hZ0 hS.1
  have hown : (Γ.s.setVm vm0).vm.findClass own = some Γ.m.cls := by rw [show (Γ.s.setVm vm0).vm = vm0 from rfl, hS.1.alike.findClass]; exact hown0
  have F0 := F
  obtain ⟨cl, A, r1, r2, r3, H⟩ := F
  have q := idx_of hj
  obtain ⟨T', h', X', e', W', st'⟩ := stI X hx hZ e A (j := j) (x := x) (by rw [r2, q.2]; exact fun u => u.elim q.1 (Nat.not_le.mpr hi)) (g := mkF Γ.m pc Ls (.int x :: .int j :: .ref a :: st)) rfl rfl (hb hby hd)
  rw [q.2] at W' X'
  exact Go.of st' (K T' h' W' (F0.set W' hi (rfl)) ⟨_, vm0, k0, X', e', Fr.snoc X' N ga, hS, (by rw [W'.size]; exact hk)⟩)
theorem k_castore {a : Addr} {k : ClassId} {n i : Nat} {f : Nat → Value} {j x z : Int32} (G : Ctx Γ Z own bytes maxl ret nm rm hs0) (X : W Γ n0 T h C S) (F : Arf Z h a k .char n f) (hj : j.toInt = i) (hi : i < n) (hz : nar .char x = z) (ga : n0 ≤ a) (hd : decode bytes pc = .ok (.castore, 1)) (hp : pc + 1 = pc') (K : ∀ T h', Wr h h' a i (.int z) → Arf Z h' a k .char n (fun x => if x = i then (.int z) else f x) → W Γ n0 T h' C S → Go Γ n0 Q T (mkF Γ.m pc' Ls st)) : Go Γ n0 Q T (mkF Γ.m pc Ls (.int x :: .int j :: .ref a :: st)) := by
  subst hp hz
  obtain ⟨hx, hZ0, hown0, hby, hml, hret, hnm, hlk, hR, hsH⟩ := G
  obtain ⟨L, vm0, k0, X, e, N, hS, hk⟩ := X
  have hZ : Z.Warmed39 (Γ.s.setVm vm0).vm := State.Warmed39.trans hZ0 hS.1
  have hown : (Γ.s.setVm vm0).vm.findClass own = some Γ.m.cls := by rw [show (Γ.s.setVm vm0).vm = vm0 from rfl, hS.1.alike.findClass]; exact hown0
  have F0 := F
  obtain ⟨cl, A, r1, r2, r3, H⟩ := F
  have q := idx_of hj
  obtain ⟨T', h', X', e', W', st'⟩ := stC X hx hZ e A (j := j) (x := x) (by rw [r2, q.2]; exact fun u => u.elim q.1 (Nat.not_le.mpr hi)) (g := mkF Γ.m pc Ls (.int x :: .int j :: .ref a :: st)) rfl rfl (hb hby hd)
  rw [q.2] at W' X'
  exact Go.of st' (K T' h' W' (F0.set W' hi (fits_nar_char _)) ⟨_, vm0, k0, X', e', Fr.snoc X' N ga, hS, (by rw [W'.size]; exact hk)⟩)
theorem k_sastore {a : Addr} {k : ClassId} {n i : Nat} {f : Nat → Value} {j x z : Int32} (G : Ctx Γ Z own bytes maxl ret nm rm hs0) (X : W Γ n0 T h C S) (F : Arf Z h a k .short n f) (hj : j.toInt = i) (hi : i < n) (hz : nar .short x = z) (ga : n0 ≤ a) (hd : decode bytes pc = .ok (.sastore, 1)) (hp : pc + 1 = pc') (K : ∀ T h', Wr h h' a i (.int z) → Arf Z h' a k .short n (fun x => if x = i then (.int z) else f x) → W Γ n0 T h' C S → Go Γ n0 Q T (mkF Γ.m pc' Ls st)) : Go Γ n0 Q T (mkF Γ.m pc Ls (.int x :: .int j :: .ref a :: st)) := by
  subst hp hz
  obtain ⟨hx, hZ0, hown0, hby, hml, hret, hnm, hlk, hR, hsH⟩ := G
  obtain ⟨L, vm0, k0, X, e, N, hS, hk⟩ := X
  have hZ : Z.Warmed39 (Γ.s.setVm vm0).vm := State.Warmed39.trans hZ0 hS.1
  have hown : (Γ.s.setVm vm0).vm.findClass own = some Γ.m.cls := by rw [show (Γ.s.setVm vm0).vm = vm0 from rfl, hS.1.alike.findClass]; exact hown0
  have F0 := F
  obtain ⟨cl, A, r1, r2, r3, H⟩ := F
  have q := idx_of hj
  obtain ⟨T', h', X', e', W', st'⟩ := stS X hx hZ e A (j := j) (x := x) (by rw [r2, q.2]; exact fun u => u.elim q.1 (Nat.not_le.mpr hi)) (g := mkF Γ.m pc Ls (.int x :: .int j :: .ref a :: st)) rfl rfl (hb hby hd)
  rw [q.2] at W' X'
  exact Go.of st' (K T' h' W' (F0.set W' hi (fits_nar_short _)) ⟨_, vm0, k0, X', e', Fr.snoc X' N ga, hS, (by rw [W'.size]; exact hk)⟩)
theorem k_bastore {a : Addr} {k : ClassId} {n i : Nat} {f : Nat → Value} {j x z : Int32} (G : Ctx Γ Z own bytes maxl ret nm rm hs0) (X : W Γ n0 T h C S) (F : Arf Z h a k .byte n f) (hj : j.toInt = i) (hi : i < n) (hz : nar .byte x = z) (ga : n0 ≤ a) (hd : decode bytes pc = .ok (.bastore, 1)) (hp : pc + 1 = pc') (K : ∀ T h', Wr h h' a i (.int z) → Arf Z h' a k .byte n (fun x => if x = i then (.int z) else f x) → W Γ n0 T h' C S → Go Γ n0 Q T (mkF Γ.m pc' Ls st)) : Go Γ n0 Q T (mkF Γ.m pc Ls (.int x :: .int j :: .ref a :: st)) := by
  subst hp hz
  obtain ⟨hx, hZ0, hown0, hby, hml, hret, hnm, hlk, hR, hsH⟩ := G
  obtain ⟨L, vm0, k0, X, e, N, hS, hk⟩ := X
  have hZ : Z.Warmed39 (Γ.s.setVm vm0).vm := State.Warmed39.trans hZ0 hS.1
  have hown : (Γ.s.setVm vm0).vm.findClass own = some Γ.m.cls := by rw [show (Γ.s.setVm vm0).vm = vm0 from rfl, hS.1.alike.findClass]; exact hown0
  have F0 := F
  obtain ⟨cl, A, r1, r2, r3, H⟩ := F
  have q := idx_of hj
  obtain ⟨T', h', X', e', W', st'⟩ := stB X hx hZ e A (j := j) (x := x) (by rw [r2, q.2]; exact fun u => u.elim q.1 (Nat.not_le.mpr hi)) (g := mkF Γ.m pc Ls (.int x :: .int j :: .ref a :: st)) rfl rfl (hb hby hd)
  rw [q.2] at W' X'
  exact Go.of st' (K T' h' W' (F0.set W' hi (fits_nar_byte _)) ⟨_, vm0, k0, X', e', Fr.snoc X' N ga, hS, (by rw [W'.size]; exact hk)⟩)
theorem k_lastore {a : Addr} {k : ClassId} {n i : Nat} {f : Nat → Value} {j : Int32} {y : Int64} (G : Ctx Γ Z own bytes maxl ret nm rm hs0) (X : W Γ n0 T h C S) (F : Arf Z h a k .long n f) (hj : j.toInt = i) (hi : i < n) (ga : n0 ≤ a) (hd : decode bytes pc = .ok (.lastore, 1)) (hp : pc + 1 = pc') (K : ∀ T h', Wr h h' a i (.long y) → Arf Z h' a k .long n (fun x => if x = i then (.long y) else f x) → W Γ n0 T h' C S → Go Γ n0 Q T (mkF Γ.m pc' Ls st)) : Go Γ n0 Q T (mkF Γ.m pc Ls (.long y :: .int j :: .ref a :: st)) := by
  subst hp
  obtain ⟨hx, hZ0, hown0, hby, hml, hret, hnm, hlk, hR, hsH⟩ := G
  obtain ⟨L, vm0, k0, X, e, N, hS, hk⟩ := X
  have hZ : Z.Warmed39 (Γ.s.setVm vm0).vm := State.Warmed39.trans hZ0 hS.1
  have hown : (Γ.s.setVm vm0).vm.findClass own = some Γ.m.cls := by rw [show (Γ.s.setVm vm0).vm = vm0 from rfl, hS.1.alike.findClass]; exact hown0
  have F0 := F
  obtain ⟨cl, A, r1, r2, r3, H⟩ := F
  have q := idx_of hj
  obtain ⟨T', h', X', e', W', st'⟩ := stJ X hx hZ e A (j := j) (x := y) (by rw [r2, q.2]; exact fun u => u.elim q.1 (Nat.not_le.mpr hi)) (g := mkF Γ.m pc Ls (.long y :: .int j :: .ref a :: st)) rfl rfl (hb hby hd)
  rw [q.2] at W' X'
  exact Go.of st' (K T' h' W' (F0.set W' hi rfl) ⟨_, vm0, k0, X', e', Fr.snoc X' N ga, hS, (by rw [W'.size]; exact hk)⟩)
theorem k_aastore {a : Addr} {k : ClassId} {ty : FieldType} {n i : Nat} {f : Nat → Value} {j : Int32} {v : Value} (G : Ctx Γ Z own bytes maxl ret nm rm hs0) (X : W Γ n0 T h C S) (F : Arf Z h a k ty n f) (hty : ty.isReference = true) (hj : j.toInt = i) (hi : i < n) (O : Sto Z h a v) (hv : fits ty v = true) (ga : n0 ≤ a) (hd : decode bytes pc = .ok (.aastore, 1)) (hp : pc + 1 = pc') (K : ∀ T h', Wr h h' a i v → Arf Z h' a k ty n (fun x => if x = i then v else f x) → W Γ n0 T h' C S → Go Γ n0 Q T (mkF Γ.m pc' Ls st)) : Go Γ n0 Q T (mkF Γ.m pc Ls (v :: .int j :: .ref a :: st)) := by
  subst hp
  obtain ⟨hx, hZ0, hown0, hby, hml, hret, hnm, hlk, hR, hsH⟩ := G
  obtain ⟨L, vm0, k0, X, e, N, hS, hk⟩ := X
  have hZ : Z.Warmed39 (Γ.s.setVm vm0).vm := State.Warmed39.trans hZ0 hS.1
  have hown : (Γ.s.setVm vm0).vm.findClass own = some Γ.m.cls := by rw [show (Γ.s.setVm vm0).vm = vm0 from rfl, hS.1.alike.findClass]; exact hown0
  have F0 := F
  obtain ⟨cl, A, r1, r2, r3, H⟩ := F
  have q := idx_of hj
  obtain ⟨T', h', X', e', W', st'⟩ := stR X hx hZ e A (j := j) (v := v) (by rw [r2, q.2]; exact fun u => u.elim q.1 (Nat.not_le.mpr hi)) hty O (g := mkF Γ.m pc Ls (v :: .int j :: .ref a :: st)) rfl rfl (hb hby hd)
  rw [q.2] at W' X'
  exact Go.of st' (K T' h' W' (F0.set W' hi hv) ⟨_, vm0, k0, X', e', Fr.snoc X' N ga, hS, (by rw [W'.size]; exact hk)⟩)
theorem k_copy {a0 : Array Value} {idx : Nat} {a b : Addr} {k k' : ClassId} {ty : FieldType} {n n' sp dp nn wd : Nat} {f g : Nat → Value} {js jd jn : Int32} (G : Ctx Γ Z own bytes maxl ret nm rm hs0) (X : W Γ n0 T h C S) (F : Arf Z h a k ty n f) (F' : Arf Z h b k' ty n' g) (hty : refKind ty = false)
    (w1 : (Cond.methodLink own idx Jvm.Stand.acN).before a0 Z = true) (w2 : (Cond.native Jvm.Stand.acN).before a0 Z = true) (w3 : (Cond.static Jvm.Stand.acN).before a0 Z = true) (w4 : (Cond.initialized "java/lang/System").before a0 Z = true)
    (hjs : js.toInt = sp) (hjd : jd.toInt = dp) (hjn : jn.toInt = nn) (h1 : sp + nn ≤ n) (h2 : dp + nn ≤ n') (gb : n0 ≤ b) (hd : decode bytes pc = .ok (.invokestatic idx, 3)) (hp : pc + 3 = pc') (hL : Ls.size = maxl) (hf : 1 ≤ rm.frames) (hwd : (st.map fun v => v.category).sum = wd) (hlo : wd + (nativeFrameWords "java/lang/System" "arraycopy" 5 + 11) ≤ rm.locals)
    (K : ∀ T h', Keep h h' [b] → Arf Z h' b k' ty n' (fun i => if dp ≤ i ∧ i < dp + nn then f (sp + (i - dp)) else g i) → W Γ n0 T h' C S → Go Γ n0 Q T (mkF Γ.m pc' Ls st)) : Go Γ n0 Q T (mkF Γ.m pc Ls (.int jn :: .int jd :: .ref b :: .int js :: .ref a :: st)) := by
  subst hp
  obtain ⟨hx, hZ0, hown0, hby, hml, hret, hnm, hlk, hR, hsH⟩ := G
  obtain ⟨L, vm0, k0, X, e, N, hS, hk⟩ := X
  have hZ : Z.Warmed39 (Γ.s.setVm vm0).vm := State.Warmed39.trans hZ0 hS.1
  have hown : (Γ.s.setVm vm0).vm.findClass own = some Γ.m.cls := by rw [show (Γ.s.setVm vm0).vm = vm0 from rfl, hS.1.alike.findClass]; exact hown0
  obtain ⟨z, hz⟩ : ∃ z : Int32, z.toInt = n := ⟨n.toInt32, len_toInt F.size_lt⟩
  obtain ⟨z', hz'⟩ : ∃ z : Int32, z.toInt = n' := ⟨n'.toInt32, len_toInt F'.size_lt⟩
  have A := F.arv hz .null
  have B := F'.arv hz' .null
  obtain ⟨qs1, qs2⟩ := idx_of hjs
  obtain ⟨qd1, qd2⟩ := idx_of hjd
  obtain ⟨qn1, qn2⟩ := idx_of hjn
  obtain ⟨T', h', L', X', e', N', K', A', st'⟩ := cpA X hx hZ hown w1 w2 w3 w4 e A B (Or.inl ⟨rfl, hty⟩) qs1 qd1 qn1 (by rw [qs2, qn2, (idx_of hz).2]; exact h1) (by rw [qd2, qn2, (idx_of hz').2]; exact h2) rfl (by rw [qd2, qn2]; simpa using h2) N gb (g := mkF Γ.m pc Ls (.int jn :: .int jd :: .ref b :: .int js :: .ref a :: st)) rfl (by rw [hml]; exact hL) rfl (hb hby hd) (hR ▸ hf) (W := wd) (by show 2 * 0 + _ ≤ _; omega) (hR ▸ hlo)
  refine Go.of st' (K T' h' K' (Arf.of_arv A' hz' fun i hi => ?_) ⟨L', vm0, k0, X', e', N', hS, Nat.le_trans hk K'.1⟩)
  rw [qs2, qd2, qn2]
  simp only [List.getD_eq_getElem?_getD]
  have lt : (((List.range n').map g).take dp).length = dp := by simp; omega
  by_cases c1 : i < dp
  · rw [List.append_assoc, List.getElem?_append_left (by rw [lt]; exact c1), List.getElem?_take_of_lt c1, if_neg (by omega)]
    simp [hi]
  · by_cases c2 : i < dp + nn
    · rw [List.getElem?_append_left (by rw [List.length_append, lt]; simp; omega), List.getElem?_append_right (by omega), lt, if_pos (by omega)]
      have q1 : i - dp < nn := by omega
      have q2 : sp + (i - dp) < n := by omega
      simp [q1, q2]
    · rw [List.getElem?_append_right (by rw [List.length_append, lt]; simp; omega), if_neg (by omega), List.getElem?_drop]
      have q3 : dp + nn + (i - (((List.range n').map g).take dp ++ (List.range nn).map fun i => (((List.range n).map f)[sp + i]?).getD .null).length) = i := by rw [List.length_append, lt]; simp; omega
      rw [q3]; simp [hi]
theorem k_instNull {idx : Nat} (G : Ctx Γ Z own bytes maxl ret nm rm hs0) (X : W Γ n0 T h C S) (hd : decode bytes pc = .ok (.instanceof idx, 3)) (hp : pc + 3 = pc') (K : Go Γ n0 Q T (mkF Γ.m pc' Ls (.int 0 :: st))) : Go Γ n0 Q T (mkF Γ.m pc Ls (.null :: st)) := by
  subst hp
  obtain ⟨hx, hZ0, hown0, hby, hml, hret, hnm, hlk, hR, hsH⟩ := G
  obtain ⟨L, vm0, k0, X, e, N, hS, hk⟩ := X
  have hZ : Z.Warmed39 (Γ.s.setVm vm0).vm := State.Warmed39.trans hZ0 hS.1
  have hown : (Γ.s.setVm vm0).vm.findClass own = some Γ.m.cls := by rw [show (Γ.s.setVm vm0).vm = vm0 from rfl, hS.1.alike.findClass]; exact hown0
  exact Go.of (fun t k => X.instanceofNull hx (g := mkF Γ.m pc Ls (.null :: st)) rfl rfl (hb hby hd) t k) K
theorem k_castNull {idx : Nat} (G : Ctx Γ Z own bytes maxl ret nm rm hs0) (X : W Γ n0 T h C S) (hd : decode bytes pc = .ok (.checkcast idx, 3)) (hp : pc + 3 = pc') (K : Go Γ n0 Q T (mkF Γ.m pc' Ls (.null :: st))) : Go Γ n0 Q T (mkF Γ.m pc Ls (.null :: st)) := by
  subst hp
  obtain ⟨hx, hZ0, hown0, hby, hml, hret, hnm, hlk, hR, hsH⟩ := G
  obtain ⟨L, vm0, k0, X, e, N, hS, hk⟩ := X
  have hZ : Z.Warmed39 (Γ.s.setVm vm0).vm := State.Warmed39.trans hZ0 hS.1
  have hown : (Γ.s.setVm vm0).vm.findClass own = some Γ.m.cls := by rw [show (Γ.s.setVm vm0).vm = vm0 from rfl, hS.1.alike.findClass]; exact hown0
  exact Go.of (fun t k => X.checkcastNull hx (g := mkF Γ.m pc Ls (.null :: st)) rfl rfl (hb hby hd) t k) K
theorem k_instN {a0 : Array Value} {idx : Nat} {KK CC : String} {a : Addr} (G : Ctx Γ Z own bytes maxl ret nm rm hs0) (X : W Γ n0 T h C S) (w : (Cond.classLink own idx KK).before a0 Z = true) (F : Ins Z hs0 a KK false) (E : Exa Z hs0 a CC) (hd : decode bytes pc = .ok (.instanceof idx, 3)) (hp : pc + 3 = pc') (K : ∀ T, W Γ n0 T h C S → Go Γ n0 Q T (mkF Γ.m pc' Ls (.int 0 :: st))) : Go Γ n0 Q T (mkF Γ.m pc Ls (.ref a :: st)) := by
  subst hp
  obtain ⟨hx, hZ0, hown0, hby, hml, hret, hnm, hlk, hR, hsH⟩ := G
  obtain ⟨L, vm0, k0, X, e, N, hS, hk⟩ := X
  have hZ : Z.Warmed39 (Γ.s.setVm vm0).vm := State.Warmed39.trans hZ0 hS.1
  have hown : (Γ.s.setVm vm0).vm.findClass own = some Γ.m.cls := by rw [show (Γ.s.setVm vm0).vm = vm0 from rfl, hS.1.alike.findClass]; exact hown0
  obtain ⟨T', X', e', st'⟩ := instN X hx hZ hown w e (show Ins Z Γ.s.heap a KK false by rw [hsH]; exact F) (show Exa Z Γ.s.heap a CC by rw [hsH]; exact E) (g := mkF Γ.m pc Ls (.ref a :: st)) rfl rfl (hb hby hd)
  exact Go.of st' (K T' ⟨L, vm0, k0, X', e', N, hS, hk⟩)
theorem k_ldcS {a0 : Array Value} {idx n : Nat} {text : String} (G : Ctx Γ Z own bytes maxl ret nm rm hs0) (X : W Γ n0 T h C S) (w : (Cond.stringLink own idx text).before a0 Z = true) (wS : ∀ a ∈ Bundle.stringAtoms, a.before a0 Z = true) (hd : decode bytes pc = .ok (.ldc idx, 2)) (hp : pc + 2 = pc') (hn : 4 * text.toList.length ≤ n) (hbig : n ≤ 536870912) (hc : C + 2 ≤ rm.cells) (hs : S + (n + 4) ≤ rm.slots) (K : ∀ T h' a, Ext h h' → W Γ n0 T h' (C + 2) (S + (n + 4)) → Go Γ n0 Q T (mkF Γ.m pc' Ls (.ref a :: st))) : Go Γ n0 Q T (mkF Γ.m pc Ls st) := by
  subst hp
  obtain ⟨hx, hZ0, hown0, hby, hml, hret, hnm, hlk, hR, hsH⟩ := G
  obtain ⟨L, vm0, k0, X, e, N, hS, hk⟩ := X
  have hZ : Z.Warmed39 (Γ.s.setVm vm0).vm := State.Warmed39.trans hZ0 hS.1
  have hown : (Γ.s.setVm vm0).vm.findClass own = some Γ.m.cls := by rw [show (Γ.s.setVm vm0).vm = vm0 from rfl, hS.1.alike.findClass]; exact hown0
  obtain ⟨a, T', h', k1, X', e', E', hS', hk', -, -, st'⟩ := ldcS X hx hZ hown w wS e hS hk (g := mkF Γ.m pc Ls st) rfl (hb hby hd) hn hbig (hR ▸ hc) (hR ▸ hs)
  exact Go.of st' (K T' h' a E' ⟨L, T'.vm, k1, X', e', N, hS', hk'⟩)
/-! ### facts -/
theorem W.eq {h' : Heap} (X : W Γ n0 T h' C S) (e : h' = h) : W Γ n0 T h C S := e ▸ X
theorem Old_le (O : Old Z n0 h) : n0 ≤ h.size := by rw [← O.1]; exact O.2.1
theorem Sta_old {CC n d : String} {v : Value} (O : Old Z n0 h) (F : Sta Z Z.heap CC n d v) : Sta Z h CC n d v := F.ext O.2
theorem Fld_old {CC n d : String} {v : Value} {a : Addr} (O : Old Z n0 h) (F : Fld Z Z.heap a CC n d v) : Fld Z h a CC n d v := F.ext O.2
theorem Exa_old {CC : String} {a : Addr} (O : Old Z n0 h) (F : Exa Z Z.heap a CC) : Exa Z h a CC := F.ext O.2
theorem Sta_keep {h' : Heap} {CC n d : String} {v : Value} (F : Sta Z h CC n d v) (K : Keep h h' []) : Sta Z h' CC n d v := by
  obtain ⟨cf, i, k, f, st, cell, h1, h2, h3, h4, h5, h6, h7⟩ := F
  exact ⟨cf, i, k, f, st, cell, h1, h2, h3, h4, K.2.1 _ _ h5 nin0, h6, h7⟩
end K
section Words
variable {s : State} {args : Array Value}
theorem s_exa {CC K n d : String} (hx : (Cond.exactly (Term.static CC n d) K).value args s none s [] = some true) (hi : (Cond.initialized CC).before args s = true) (hl : (Cond.laysStatic CC n d).before args s = true) : ∃ a, Sta s s.heap CC n d (.ref a) ∧ Exa s s.heap a K ∧ (Term.static CC n d).eval args s none [] s = some (.ref a) := by
  obtain ⟨a, ev⟩ := exa_v hx
  exact ⟨a, Sta.start ev (Or.inr ⟨hi, hl⟩), Exa.start ev hx, ev⟩
theorem s_fldI {t : Term} {a : Addr} {O n d : String} {z : Int32} (ev : t.eval args s none [] s = some (.ref a)) (hx : (Cond.eq (Term.field t O n d) (Term.int z)).value args s none s [] = some true) : Fld s s.heap a O n d (.int z) := by
  refine Fld.start ?_
  rw [← fld_at (args := args) (first := s) (o := none) (idx := []) ev]
  simp only [Cond.value, Term.int_eval] at hx
  cases hf : (Term.field t O n d).eval args s none [] s with
  | none => simp [hf] at hx
  | some v => cases v <;> simp [hf] at hx; rw [hx]
theorem s_fldN {t : Term} {a : Addr} {O n d : String} (ev : t.eval args s none [] s = some (.ref a)) (hx : (Cond.eq (Term.field t O n d) Term.null).value args s none s [] = some true) : Fld s s.heap a O n d .null := by
  refine Fld.start ?_
  rw [← fld_at (args := args) (first := s) (o := none) (idx := []) ev]
  exact null_v hx
theorem s_fldX {t : Term} {a : Addr} {O n d K : String} (ev : t.eval args s none [] s = some (.ref a)) (hx : (Cond.exactly (Term.field t O n d) K).value args s none s [] = some true) : ∃ b, Fld s s.heap a O n d (.ref b) ∧ Exa s s.heap b K := by
  obtain ⟨b, eb⟩ := exa_v hx
  refine ⟨b, Fld.start ?_, Exa.start eb hx⟩
  rw [← fld_at (args := args) (first := s) (o := none) (idx := []) ev]; exact eb
end Words
theorem of_toInt {z w : Int32} (h : z.toInt = w.toInt) : z = w := Int32.toInt_inj.mp h
theorem of_toInt64 {z w : Int64} (h : z.toInt = w.toInt) : z = w := Int64.toInt_inj.mp h
theorem rgI (x : Int32) : -2147483648 ≤ x.toInt ∧ x.toInt < 2147483648 := ⟨Int32.le_toInt x, Int32.toInt_lt x⟩
theorem rgL (x : Int64) : -9223372036854775808 ≤ x.toInt ∧ x.toInt < 9223372036854775808 := ⟨Int64.le_toInt x, Int64.toInt_lt x⟩
theorem and_rng (x : Int32) {m : Int32} (k : Int) (hk : m.toInt = k) (h : 0 ≤ k) : 0 ≤ (x &&& m).toInt ∧ (x &&& m).toInt ≤ k := by subst hk; exact c_and x m h
theorem rem_rng (x : Int32) {y : Int32} (d : Int) (hy : y.toInt = d) (hd : 0 < d) (hx : 0 ≤ x.toInt) : 0 ≤ (x % y).toInt ∧ (x % y).toInt < d := by
  rw [(c_irem x y d hy).1 hx]; exact ⟨Int.emod_nonneg _ (by omega), Int.emod_lt_of_pos _ hd⟩
theorem iadd_toInt {x y : Int32} (h1 : -2147483648 ≤ x.toInt + y.toInt) (h2 : x.toInt + y.toInt < 2147483648) : (x + y).toInt = x.toInt + y.toInt := by
  have := c_iadd x y; have := rgI (x + y); omega
theorem isub_toInt {x y : Int32} (h1 : -2147483648 ≤ x.toInt - y.toInt) (h2 : x.toInt - y.toInt < 2147483648) : (x - y).toInt = x.toInt - y.toInt := by
  have := c_isub x y; have := rgI (x - y); omega
theorem ladd_toInt {x y : Int64} (h1 : -9223372036854775808 ≤ x.toInt + y.toInt) (h2 : x.toInt + y.toInt < 9223372036854775808) : (x + y).toInt = x.toInt + y.toInt := by
  have := c_ladd x y; have := rgL (x + y); omega
theorem lcmp_toInt {x y : Int64} {z : Int32} (q : (if x > y then (1 : Int32) else if x = y then 0 else -1) = z) : (x.toInt < y.toInt → z.toInt = -1) ∧ (x.toInt = y.toInt → z.toInt = 0) ∧ (y.toInt < x.toInt → z.toInt = 1) := by
  subst q; exact c_lcmp x y
theorem and3 (x : Int32) : x &&& 3 = 0 ∨ x &&& 3 = 1 ∨ x &&& 3 = 2 ∨ x &&& 3 = 3 := by
  have h : ∀ b : BitVec 32, b &&& 3#32 = 0#32 ∨ b &&& 3#32 = 1#32 ∨ b &&& 3#32 = 2#32 ∨ b &&& 3#32 = 3#32 := fun b => by
    have e : (b &&& 3#32).toNat < 4 := by rw [BitVec.toNat_and]; exact Nat.lt_of_le_of_lt Nat.and_le_right (by decide)
    have : (b &&& 3#32).toNat = 0 ∨ (b &&& 3#32).toNat = 1 ∨ (b &&& 3#32).toNat = 2 ∨ (b &&& 3#32).toNat = 3 := by omega
    rcases this with q | q | q | q
    · exact Or.inl (BitVec.eq_of_toNat_eq q)
    · exact Or.inr (Or.inl (BitVec.eq_of_toNat_eq q))
    · exact Or.inr (Or.inr (Or.inl (BitVec.eq_of_toNat_eq q)))
    · exact Or.inr (Or.inr (Or.inr (BitVec.eq_of_toNat_eq q)))
  rcases h x.toBitVec with q | q | q | q
  · exact Or.inl (Int32.toBitVec_inj.mp q)
  · exact Or.inr (Or.inl (Int32.toBitVec_inj.mp q))
  · exact Or.inr (Or.inr (Or.inl (Int32.toBitVec_inj.mp q)))
  · exact Or.inr (Or.inr (Or.inr (Int32.toBitVec_inj.mp q)))
end Jvm.OwnK
namespace Jvm.Pilot.@@N@@
open Jvm Jvm.ClassFile Sem Op Lib Jvm.Free Jvm.Stand Jvm.LawKit Jvm.RoadKit Jvm.OwnK Bundle Jvm.Pilot.@@N@@.Jvm.D
abbrev HW (a0 : Array Value) (Z : State) : Prop := ∀ d ∈ tables_1, d.before a0 Z = true
section Wds
variable {a0 : Array Value} {Z : State}
theorem w0 (hw : HW a0 Z) : Jvm.Cond.before (Jvm.Cond.fieldLink "com/example/libinvariant/libinvariant/aiger/AigerHeaderBadStatePropertiesPinLaw" (13 : Nat) "com/example/libinvariant/libinvariant/aiger/AigerEncoding" "ASCII" "Lcom/example/libinvariant/libinvariant/aiger/AigerEncoding;") a0 Z = true := hw _ (List.mem_of_getElem? (i := 0) rfl)
theorem w1 (hw : HW a0 Z) : Jvm.Cond.before (Jvm.Cond.initialized "com/example/libinvariant/libinvariant/aiger/AigerEncoding") a0 Z = true := hw _ (List.mem_of_getElem? (i := 1) rfl)
theorem w2 (hw : HW a0 Z) : Jvm.Cond.before (Jvm.Cond.laysStatic "com/example/libinvariant/libinvariant/aiger/AigerEncoding" "ASCII" "Lcom/example/libinvariant/libinvariant/aiger/AigerEncoding;") a0 Z = true := hw _ (List.mem_of_getElem? (i := 2) rfl)
theorem w3 (hw : HW a0 Z) : Jvm.Cond.before (Jvm.Cond.constant "com/example/libinvariant/libinvariant/aiger/AigerHeaderBadStatePropertiesPinLaw" (16 : Nat) (1048575 : Int32)) a0 Z = true := hw _ (List.mem_of_getElem? (i := 3) rfl)
theorem w4 (hw : HW a0 Z) : Jvm.Cond.before (Jvm.Cond.constant "com/example/libinvariant/libinvariant/aiger/AigerHeaderBadStatePropertiesPinLaw" (17 : Nat) (268435455 : Int32)) a0 Z = true := hw _ (List.mem_of_getElem? (i := 4) rfl)
theorem w5 (hw : HW a0 Z) : Jvm.Cond.before (Jvm.Cond.constant "com/example/libinvariant/libinvariant/aiger/AigerHeaderBadStatePropertiesPinLaw" (18 : Nat) (2147483647 : Int32)) a0 Z = true := hw _ (List.mem_of_getElem? (i := 5) rfl)
theorem w6 (hw : HW a0 Z) : Jvm.Cond.before (Jvm.Cond.classLink "com/example/libinvariant/libinvariant/aiger/AigerHeaderBadStatePropertiesPinLaw" (19 : Nat) "com/example/libinvariant/libinvariant/aiger/AigerHeader") a0 Z = true := hw _ (List.mem_of_getElem? (i := 6) rfl)
theorem w7 (hw : HW a0 Z) : Jvm.Cond.before (Jvm.Cond.instantiable "com/example/libinvariant/libinvariant/aiger/AigerHeader" (11 : Nat)) a0 Z = true := hw _ (List.mem_of_getElem? (i := 7) rfl)
theorem w8 (hw : HW a0 Z) : Jvm.Cond.before (Jvm.Cond.initialized "com/example/libinvariant/libinvariant/aiger/AigerHeader") a0 Z = true := hw _ (List.mem_of_getElem? (i := 8) rfl)
theorem w9 (hw : HW a0 Z) : Jvm.Cond.before (Jvm.Cond.methodLink "com/example/libinvariant/libinvariant/aiger/AigerHeaderBadStatePropertiesPinLaw" (21 : Nat) ({ cls := "com/example/libinvariant/libinvariant/aiger/AigerHeader", name := "<init>", desc := "(Lcom/example/libinvariant/libinvariant/aiger/AigerEncoding;IIIIIIIIIZ)V" } : Jvm.MethodName)) a0 Z = true := hw _ (List.mem_of_getElem? (i := 9) rfl)
theorem w10 (hw : HW a0 Z) : Jvm.Cond.before (Jvm.Cond.instanceMethod ({ cls := "com/example/libinvariant/libinvariant/aiger/AigerHeader", name := "<init>", desc := "(Lcom/example/libinvariant/libinvariant/aiger/AigerEncoding;IIIIIIIIIZ)V" } : Jvm.MethodName)) a0 Z = true := hw _ (List.mem_of_getElem? (i := 10) rfl)
theorem w11 (hw : HW a0 Z) : Jvm.Cond.before (Jvm.Cond.code ({ cls := "com/example/libinvariant/libinvariant/aiger/AigerHeader", name := "<init>", desc := "(Lcom/example/libinvariant/libinvariant/aiger/AigerEncoding;IIIIIIIIIZ)V" } : Jvm.MethodName) prog_3_method_1_code (13 : Nat) (Option.none : Option Jvm.ClassFile.FieldType)) a0 Z = true := hw _ (List.mem_of_getElem? (i := 11) rfl)
theorem w12 (hw : HW a0 Z) : Jvm.Cond.before (Jvm.Cond.methodLink "com/example/libinvariant/libinvariant/aiger/AigerHeader" (3 : Nat) ({ cls := "java/lang/Record", name := "<init>", desc := "()V" } : Jvm.MethodName)) a0 Z = true := hw _ (List.mem_of_getElem? (i := 12) rfl)
theorem w13 (hw : HW a0 Z) : Jvm.Cond.before (Jvm.Cond.instanceMethod ({ cls := "java/lang/Record", name := "<init>", desc := "()V" } : Jvm.MethodName)) a0 Z = true := hw _ (List.mem_of_getElem? (i := 13) rfl)
theorem w15 (hw : HW a0 Z) : Jvm.Cond.before (Jvm.Cond.initialized "java/lang/Record") a0 Z = true := hw _ (List.mem_of_getElem? (i := 15) rfl)
theorem w16 (hw : HW a0 Z) : Jvm.Cond.before (Jvm.Cond.code ({ cls := "java/lang/Record", name := "<init>", desc := "()V" } : Jvm.MethodName) jdk_30_method_1_code (1 : Nat) (Option.none : Option Jvm.ClassFile.FieldType)) a0 Z = true := hw _ (List.mem_of_getElem? (i := 16) rfl)
theorem w17 (hw : HW a0 Z) : Jvm.Cond.before (Jvm.Cond.methodLink "java/lang/Record" (1 : Nat) ({ cls := "java/lang/Object", name := "<init>", desc := "()V" } : Jvm.MethodName)) a0 Z = true := hw _ (List.mem_of_getElem? (i := 17) rfl)
theorem w18 (hw : HW a0 Z) : Jvm.Cond.before (Jvm.Cond.instanceMethod ({ cls := "java/lang/Object", name := "<init>", desc := "()V" } : Jvm.MethodName)) a0 Z = true := hw _ (List.mem_of_getElem? (i := 18) rfl)
theorem w19 (hw : HW a0 Z) : Jvm.Cond.before (Jvm.Cond.code ({ cls := "java/lang/Object", name := "<init>", desc := "()V" } : Jvm.MethodName) object_method_1_code (1 : Nat) (Option.none : Option Jvm.ClassFile.FieldType)) a0 Z = true := hw _ (List.mem_of_getElem? (i := 19) rfl)
theorem w20 (hw : HW a0 Z) : Jvm.Cond.before (Jvm.Cond.stringLink "com/example/libinvariant/libinvariant/aiger/AigerHeader" (9 : Nat) "encoding") a0 Z = true := hw _ (List.mem_of_getElem? (i := 20) rfl)
theorem w28 (hw : HW a0 Z) : Jvm.Cond.before (Jvm.Cond.methodLink "com/example/libinvariant/libinvariant/aiger/AigerHeader" (11 : Nat) ({ cls := "java/util/Objects", name := "requireNonNull", desc := "(Ljava/lang/Object;Ljava/lang/String;)Ljava/lang/Object;" } : Jvm.MethodName)) a0 Z = true := hw _ (List.mem_of_getElem? (i := 28) rfl)
theorem w29 (hw : HW a0 Z) : Jvm.Cond.before (Jvm.Cond.static ({ cls := "java/util/Objects", name := "requireNonNull", desc := "(Ljava/lang/Object;Ljava/lang/String;)Ljava/lang/Object;" } : Jvm.MethodName)) a0 Z = true := hw _ (List.mem_of_getElem? (i := 29) rfl)
theorem w30 (hw : HW a0 Z) : Jvm.Cond.before (Jvm.Cond.initialized "java/util/Objects") a0 Z = true := hw _ (List.mem_of_getElem? (i := 30) rfl)
theorem w31 (hw : HW a0 Z) : Jvm.Cond.before (Jvm.Cond.code ({ cls := "java/util/Objects", name := "requireNonNull", desc := "(Ljava/lang/Object;Ljava/lang/String;)Ljava/lang/Object;" } : Jvm.MethodName) jdk_31_method_11_code (2 : Nat) (Option.some (Jvm.ClassFile.FieldType.object "java/lang/Object"))) a0 Z = true := hw _ (List.mem_of_getElem? (i := 31) rfl)
theorem w32 (hw : HW a0 Z) : Jvm.Cond.before (Jvm.Cond.methodLink "com/example/libinvariant/libinvariant/aiger/AigerHeader" (24 : Nat) ({ cls := "com/example/libinvariant/libinvariant/aiger/AigerHeader", name := "inconsistency", desc := "(Lcom/example/libinvariant/libinvariant/aiger/AigerEncoding;IIIIIZ)Ljava/lang/String;" } : Jvm.MethodName)) a0 Z = true := hw _ (List.mem_of_getElem? (i := 32) rfl)
theorem w33 (hw : HW a0 Z) : Jvm.Cond.before (Jvm.Cond.static ({ cls := "com/example/libinvariant/libinvariant/aiger/AigerHeader", name := "inconsistency", desc := "(Lcom/example/libinvariant/libinvariant/aiger/AigerEncoding;IIIIIZ)Ljava/lang/String;" } : Jvm.MethodName)) a0 Z = true := hw _ (List.mem_of_getElem? (i := 33) rfl)
theorem w34 (hw : HW a0 Z) : Jvm.Cond.before (Jvm.Cond.code ({ cls := "com/example/libinvariant/libinvariant/aiger/AigerHeader", name := "inconsistency", desc := "(Lcom/example/libinvariant/libinvariant/aiger/AigerEncoding;IIIIIZ)Ljava/lang/String;" } : Jvm.MethodName) prog_3_method_5_code (10 : Nat) (Option.some (Jvm.ClassFile.FieldType.object "java/lang/String"))) a0 Z = true := hw _ (List.mem_of_getElem? (i := 34) rfl)
theorem w35 (hw : HW a0 Z) : Jvm.Cond.before (Jvm.Cond.constant "com/example/libinvariant/libinvariant/aiger/AigerHeader" (127 : Nat) (1073741823 : Int32)) a0 Z = true := hw _ (List.mem_of_getElem? (i := 35) rfl)
theorem w36 (hw : HW a0 Z) : Jvm.Cond.before (Jvm.Cond.constant "com/example/libinvariant/libinvariant/aiger/AigerHeader" (129 : Nat) (1048576 : Int32)) a0 Z = true := hw _ (List.mem_of_getElem? (i := 36) rfl)
theorem w37 (hw : HW a0 Z) : Jvm.Cond.before (Jvm.Cond.fieldLink "com/example/libinvariant/libinvariant/aiger/AigerHeader" (134 : Nat) "com/example/libinvariant/libinvariant/aiger/AigerEncoding" "BINARY" "Lcom/example/libinvariant/libinvariant/aiger/AigerEncoding;") a0 Z = true := hw _ (List.mem_of_getElem? (i := 37) rfl)
theorem w38 (hw : HW a0 Z) : Jvm.Cond.before (Jvm.Cond.laysStatic "com/example/libinvariant/libinvariant/aiger/AigerEncoding" "BINARY" "Lcom/example/libinvariant/libinvariant/aiger/AigerEncoding;") a0 Z = true := hw _ (List.mem_of_getElem? (i := 38) rfl)
theorem w39 (hw : HW a0 Z) : Jvm.Cond.before (Jvm.Cond.fieldLink "com/example/libinvariant/libinvariant/aiger/AigerHeader" (30 : Nat) "com/example/libinvariant/libinvariant/aiger/AigerHeader" "encoding" "Lcom/example/libinvariant/libinvariant/aiger/AigerEncoding;") a0 Z = true := hw _ (List.mem_of_getElem? (i := 39) rfl)
theorem w40 (hw : HW a0 Z) : Jvm.Cond.before (Jvm.Cond.laysFinal "com/example/libinvariant/libinvariant/aiger/AigerHeader" "com/example/libinvariant/libinvariant/aiger/AigerHeader" "encoding" "Lcom/example/libinvariant/libinvariant/aiger/AigerEncoding;") a0 Z = true := hw _ (List.mem_of_getElem? (i := 40) rfl)
theorem w41 (hw : HW a0 Z) : Jvm.Cond.before (Jvm.Cond.fieldLink "com/example/libinvariant/libinvariant/aiger/AigerHeader" (33 : Nat) "com/example/libinvariant/libinvariant/aiger/AigerHeader" "maxVariable" "I") a0 Z = true := hw _ (List.mem_of_getElem? (i := 41) rfl)
theorem w42 (hw : HW a0 Z) : Jvm.Cond.before (Jvm.Cond.laysFinal "com/example/libinvariant/libinvariant/aiger/AigerHeader" "com/example/libinvariant/libinvariant/aiger/AigerHeader" "maxVariable" "I") a0 Z = true := hw _ (List.mem_of_getElem? (i := 42) rfl)
theorem w43 (hw : HW a0 Z) : Jvm.Cond.before (Jvm.Cond.fieldLink "com/example/libinvariant/libinvariant/aiger/AigerHeader" (37 : Nat) "com/example/libinvariant/libinvariant/aiger/AigerHeader" "inputs" "I") a0 Z = true := hw _ (List.mem_of_getElem? (i := 43) rfl)
theorem w44 (hw : HW a0 Z) : Jvm.Cond.before (Jvm.Cond.laysFinal "com/example/libinvariant/libinvariant/aiger/AigerHeader" "com/example/libinvariant/libinvariant/aiger/AigerHeader" "inputs" "I") a0 Z = true := hw _ (List.mem_of_getElem? (i := 44) rfl)
theorem w45 (hw : HW a0 Z) : Jvm.Cond.before (Jvm.Cond.fieldLink "com/example/libinvariant/libinvariant/aiger/AigerHeader" (40 : Nat) "com/example/libinvariant/libinvariant/aiger/AigerHeader" "latches" "I") a0 Z = true := hw _ (List.mem_of_getElem? (i := 45) rfl)
theorem w46 (hw : HW a0 Z) : Jvm.Cond.before (Jvm.Cond.laysFinal "com/example/libinvariant/libinvariant/aiger/AigerHeader" "com/example/libinvariant/libinvariant/aiger/AigerHeader" "latches" "I") a0 Z = true := hw _ (List.mem_of_getElem? (i := 46) rfl)
theorem w47 (hw : HW a0 Z) : Jvm.Cond.before (Jvm.Cond.fieldLink "com/example/libinvariant/libinvariant/aiger/AigerHeader" (43 : Nat) "com/example/libinvariant/libinvariant/aiger/AigerHeader" "outputs" "I") a0 Z = true := hw _ (List.mem_of_getElem? (i := 47) rfl)
theorem w48 (hw : HW a0 Z) : Jvm.Cond.before (Jvm.Cond.laysFinal "com/example/libinvariant/libinvariant/aiger/AigerHeader" "com/example/libinvariant/libinvariant/aiger/AigerHeader" "outputs" "I") a0 Z = true := hw _ (List.mem_of_getElem? (i := 48) rfl)
theorem w49 (hw : HW a0 Z) : Jvm.Cond.before (Jvm.Cond.fieldLink "com/example/libinvariant/libinvariant/aiger/AigerHeader" (46 : Nat) "com/example/libinvariant/libinvariant/aiger/AigerHeader" "andGates" "I") a0 Z = true := hw _ (List.mem_of_getElem? (i := 49) rfl)
theorem w50 (hw : HW a0 Z) : Jvm.Cond.before (Jvm.Cond.laysFinal "com/example/libinvariant/libinvariant/aiger/AigerHeader" "com/example/libinvariant/libinvariant/aiger/AigerHeader" "andGates" "I") a0 Z = true := hw _ (List.mem_of_getElem? (i := 50) rfl)
theorem w51 (hw : HW a0 Z) : Jvm.Cond.before (Jvm.Cond.fieldLink "com/example/libinvariant/libinvariant/aiger/AigerHeader" (49 : Nat) "com/example/libinvariant/libinvariant/aiger/AigerHeader" "badStates" "I") a0 Z = true := hw _ (List.mem_of_getElem? (i := 51) rfl)
theorem w52 (hw : HW a0 Z) : Jvm.Cond.before (Jvm.Cond.laysFinal "com/example/libinvariant/libinvariant/aiger/AigerHeader" "com/example/libinvariant/libinvariant/aiger/AigerHeader" "badStates" "I") a0 Z = true := hw _ (List.mem_of_getElem? (i := 52) rfl)
theorem w53 (hw : HW a0 Z) : Jvm.Cond.before (Jvm.Cond.fieldLink "com/example/libinvariant/libinvariant/aiger/AigerHeader" (52 : Nat) "com/example/libinvariant/libinvariant/aiger/AigerHeader" "constraints" "I") a0 Z = true := hw _ (List.mem_of_getElem? (i := 53) rfl)
theorem w54 (hw : HW a0 Z) : Jvm.Cond.before (Jvm.Cond.laysFinal "com/example/libinvariant/libinvariant/aiger/AigerHeader" "com/example/libinvariant/libinvariant/aiger/AigerHeader" "constraints" "I") a0 Z = true := hw _ (List.mem_of_getElem? (i := 54) rfl)
theorem w55 (hw : HW a0 Z) : Jvm.Cond.before (Jvm.Cond.fieldLink "com/example/libinvariant/libinvariant/aiger/AigerHeader" (55 : Nat) "com/example/libinvariant/libinvariant/aiger/AigerHeader" "justice" "I") a0 Z = true := hw _ (List.mem_of_getElem? (i := 55) rfl)
theorem w56 (hw : HW a0 Z) : Jvm.Cond.before (Jvm.Cond.laysFinal "com/example/libinvariant/libinvariant/aiger/AigerHeader" "com/example/libinvariant/libinvariant/aiger/AigerHeader" "justice" "I") a0 Z = true := hw _ (List.mem_of_getElem? (i := 56) rfl)
theorem w57 (hw : HW a0 Z) : Jvm.Cond.before (Jvm.Cond.fieldLink "com/example/libinvariant/libinvariant/aiger/AigerHeader" (58 : Nat) "com/example/libinvariant/libinvariant/aiger/AigerHeader" "fairness" "I") a0 Z = true := hw _ (List.mem_of_getElem? (i := 57) rfl)
theorem w58 (hw : HW a0 Z) : Jvm.Cond.before (Jvm.Cond.laysFinal "com/example/libinvariant/libinvariant/aiger/AigerHeader" "com/example/libinvariant/libinvariant/aiger/AigerHeader" "fairness" "I") a0 Z = true := hw _ (List.mem_of_getElem? (i := 58) rfl)
theorem w59 (hw : HW a0 Z) : Jvm.Cond.before (Jvm.Cond.fieldLink "com/example/libinvariant/libinvariant/aiger/AigerHeader" (61 : Nat) "com/example/libinvariant/libinvariant/aiger/AigerHeader" "olderForm" "Z") a0 Z = true := hw _ (List.mem_of_getElem? (i := 59) rfl)
theorem w60 (hw : HW a0 Z) : Jvm.Cond.before (Jvm.Cond.laysFinal "com/example/libinvariant/libinvariant/aiger/AigerHeader" "com/example/libinvariant/libinvariant/aiger/AigerHeader" "olderForm" "Z") a0 Z = true := hw _ (List.mem_of_getElem? (i := 60) rfl)
theorem w61 (hw : HW a0 Z) : Jvm.Cond.before (Jvm.Cond.methodLink "com/example/libinvariant/libinvariant/aiger/AigerHeaderBadStatePropertiesPinLaw" (24 : Nat) ({ cls := "com/example/libinvariant/libinvariant/aiger/AigerHeader", name := "badStateProperties", desc := "()I" } : Jvm.MethodName)) a0 Z = true := hw _ (List.mem_of_getElem? (i := 61) rfl)
theorem w62 (hw : HW a0 Z) : Jvm.Cond.before (Jvm.Cond.declares ({ cls := "com/example/libinvariant/libinvariant/aiger/AigerHeader", name := "badStateProperties", desc := "()I" } : Jvm.MethodName)) a0 Z = true := hw _ (List.mem_of_getElem? (i := 62) rfl)
theorem w63 (hw : HW a0 Z) : Jvm.Cond.before (Jvm.Cond.instanceMethod ({ cls := "com/example/libinvariant/libinvariant/aiger/AigerHeader", name := "badStateProperties", desc := "()I" } : Jvm.MethodName)) a0 Z = true := hw _ (List.mem_of_getElem? (i := 63) rfl)
theorem w64 (hw : HW a0 Z) : Jvm.Cond.before (Jvm.Cond.selects "com/example/libinvariant/libinvariant/aiger/AigerHeader" ({ cls := "com/example/libinvariant/libinvariant/aiger/AigerHeader", name := "badStateProperties", desc := "()I" } : Jvm.MethodName) ({ cls := "com/example/libinvariant/libinvariant/aiger/AigerHeader", name := "badStateProperties", desc := "()I" } : Jvm.MethodName)) a0 Z = true := hw _ (List.mem_of_getElem? (i := 64) rfl)
theorem w65 (hw : HW a0 Z) : Jvm.Cond.before (Jvm.Cond.code ({ cls := "com/example/libinvariant/libinvariant/aiger/AigerHeader", name := "badStateProperties", desc := "()I" } : Jvm.MethodName) prog_3_method_3_code (1 : Nat) (Option.some Jvm.ClassFile.FieldType.int)) a0 Z = true := hw _ (List.mem_of_getElem? (i := 65) rfl)
theorem w66 (hw : HW a0 Z) : Jvm.Cond.before (Jvm.Cond.fieldLink "com/example/libinvariant/libinvariant/aiger/AigerHeaderBadStatePropertiesPinLaw" (7 : Nat) "com/example/libinvariant/libinvariant/aiger/AigerEncoding" "BINARY" "Lcom/example/libinvariant/libinvariant/aiger/AigerEncoding;") a0 Z = true := hw _ (List.mem_of_getElem? (i := 66) rfl)
end Wds
theorem strAtoms {a0 : Array Value} {Z : State} (hw : HW a0 Z) : ∀ a ∈ Bundle.stringAtoms, a.before a0 Z = true := by
  intro d hd
  simp only [Bundle.stringAtoms, List.mem_cons, List.not_mem_nil, or_false] at hd
  rcases hd with rfl | rfl | rfl | rfl | rfl | rfl | rfl
  · exact hw _ (List.mem_of_getElem? (i := 21) rfl)
  · exact hw _ (List.mem_of_getElem? (i := 22) rfl)
  · exact hw _ (List.mem_of_getElem? (i := 23) rfl)
  · exact hw _ (List.mem_of_getElem? (i := 24) rfl)
  · exact hw _ (List.mem_of_getElem? (i := 25) rfl)
  · exact hw _ (List.mem_of_getElem? (i := 26) rfl)
  · exact hw _ (List.mem_of_getElem? (i := 27) rfl)
theorem d1_0 : decode prog_3_method_1_code 0 = .ok (.aload_n 0, 1) := by decide +kernel
theorem d1_1 : decode prog_3_method_1_code 1 = .ok (.invokespecial 3, 3) := by decide +kernel
theorem d1_4 : decode prog_3_method_1_code 4 = .ok (.aload_n 1, 1) := by decide +kernel
theorem d1_5 : decode prog_3_method_1_code 5 = .ok (.ldc 9, 2) := by decide +kernel
theorem d1_7 : decode prog_3_method_1_code 7 = .ok (.invokestatic 11, 3) := by decide +kernel
theorem d1_10 : decode prog_3_method_1_code 10 = .ok (.pop, 1) := by decide +kernel
theorem d1_11 : decode prog_3_method_1_code 11 = .ok (.iload_n 2, 1) := by decide +kernel
theorem d1_12 : decode prog_3_method_1_code 12 = .ok (.iload_n 3, 1) := by decide +kernel
theorem d1_13 : decode prog_3_method_1_code 13 = .ok (.ior, 1) := by decide +kernel
theorem d1_14 : decode prog_3_method_1_code 14 = .ok (.iload 4, 2) := by decide +kernel
theorem d1_16 : decode prog_3_method_1_code 16 = .ok (.ior, 1) := by decide +kernel
theorem d1_17 : decode prog_3_method_1_code 17 = .ok (.iload 5, 2) := by decide +kernel
theorem d1_19 : decode prog_3_method_1_code 19 = .ok (.ior, 1) := by decide +kernel
theorem d1_20 : decode prog_3_method_1_code 20 = .ok (.iload 6, 2) := by decide +kernel
theorem d1_22 : decode prog_3_method_1_code 22 = .ok (.ior, 1) := by decide +kernel
theorem d1_23 : decode prog_3_method_1_code 23 = .ok (.iload 7, 2) := by decide +kernel
theorem d1_25 : decode prog_3_method_1_code 25 = .ok (.ior, 1) := by decide +kernel
theorem d1_26 : decode prog_3_method_1_code 26 = .ok (.iload 8, 2) := by decide +kernel
theorem d1_28 : decode prog_3_method_1_code 28 = .ok (.ior, 1) := by decide +kernel
theorem d1_29 : decode prog_3_method_1_code 29 = .ok (.iload 9, 2) := by decide +kernel
theorem d1_31 : decode prog_3_method_1_code 31 = .ok (.ior, 1) := by decide +kernel
theorem d1_32 : decode prog_3_method_1_code 32 = .ok (.iload 10, 2) := by decide +kernel
theorem d1_34 : decode prog_3_method_1_code 34 = .ok (.ior, 1) := by decide +kernel
theorem d1_35 : decode prog_3_method_1_code 35 = .ok (.ifCond .ge 13, 3) := by decide +kernel
theorem d1_48 : decode prog_3_method_1_code 48 = .ok (.aload_n 1, 1) := by decide +kernel
theorem d1_49 : decode prog_3_method_1_code 49 = .ok (.iload_n 2, 1) := by decide +kernel
theorem d1_50 : decode prog_3_method_1_code 50 = .ok (.iload_n 3, 1) := by decide +kernel
theorem d1_51 : decode prog_3_method_1_code 51 = .ok (.iload 4, 2) := by decide +kernel
theorem d1_53 : decode prog_3_method_1_code 53 = .ok (.iload 6, 2) := by decide +kernel
theorem d1_55 : decode prog_3_method_1_code 55 = .ok (.iload 7, 2) := by decide +kernel
theorem d1_57 : decode prog_3_method_1_code 57 = .ok (.iload 8, 2) := by decide +kernel
theorem d1_59 : decode prog_3_method_1_code 59 = .ok (.ior, 1) := by decide +kernel
theorem d1_60 : decode prog_3_method_1_code 60 = .ok (.iload 9, 2) := by decide +kernel
theorem d1_62 : decode prog_3_method_1_code 62 = .ok (.ior, 1) := by decide +kernel
theorem d1_63 : decode prog_3_method_1_code 63 = .ok (.iload 10, 2) := by decide +kernel
theorem d1_65 : decode prog_3_method_1_code 65 = .ok (.ior, 1) := by decide +kernel
theorem d1_66 : decode prog_3_method_1_code 66 = .ok (.iload 11, 2) := by decide +kernel
theorem d1_68 : decode prog_3_method_1_code 68 = .ok (.invokestatic 24, 3) := by decide +kernel
theorem d1_71 : decode prog_3_method_1_code 71 = .ok (.astore 12, 2) := by decide +kernel
theorem d1_73 : decode prog_3_method_1_code 73 = .ok (.aload 12, 2) := by decide +kernel
theorem d1_75 : decode prog_3_method_1_code 75 = .ok (.ifnull 13, 3) := by decide +kernel
theorem d1_88 : decode prog_3_method_1_code 88 = .ok (.aload_n 0, 1) := by decide +kernel
theorem d1_89 : decode prog_3_method_1_code 89 = .ok (.aload_n 1, 1) := by decide +kernel
theorem d1_90 : decode prog_3_method_1_code 90 = .ok (.putfield 30, 3) := by decide +kernel
theorem d1_93 : decode prog_3_method_1_code 93 = .ok (.aload_n 0, 1) := by decide +kernel
theorem d1_94 : decode prog_3_method_1_code 94 = .ok (.iload_n 2, 1) := by decide +kernel
theorem d1_95 : decode prog_3_method_1_code 95 = .ok (.putfield 33, 3) := by decide +kernel
theorem d1_98 : decode prog_3_method_1_code 98 = .ok (.aload_n 0, 1) := by decide +kernel
theorem d1_99 : decode prog_3_method_1_code 99 = .ok (.iload_n 3, 1) := by decide +kernel
theorem d1_100 : decode prog_3_method_1_code 100 = .ok (.putfield 37, 3) := by decide +kernel
theorem d1_103 : decode prog_3_method_1_code 103 = .ok (.aload_n 0, 1) := by decide +kernel
theorem d1_104 : decode prog_3_method_1_code 104 = .ok (.iload 4, 2) := by decide +kernel
theorem d1_106 : decode prog_3_method_1_code 106 = .ok (.putfield 40, 3) := by decide +kernel
theorem d1_109 : decode prog_3_method_1_code 109 = .ok (.aload_n 0, 1) := by decide +kernel
theorem d1_110 : decode prog_3_method_1_code 110 = .ok (.iload 5, 2) := by decide +kernel
theorem d1_112 : decode prog_3_method_1_code 112 = .ok (.putfield 43, 3) := by decide +kernel
theorem d1_115 : decode prog_3_method_1_code 115 = .ok (.aload_n 0, 1) := by decide +kernel
theorem d1_116 : decode prog_3_method_1_code 116 = .ok (.iload 6, 2) := by decide +kernel
theorem d1_118 : decode prog_3_method_1_code 118 = .ok (.putfield 46, 3) := by decide +kernel
theorem d1_121 : decode prog_3_method_1_code 121 = .ok (.aload_n 0, 1) := by decide +kernel
theorem d1_122 : decode prog_3_method_1_code 122 = .ok (.iload 7, 2) := by decide +kernel
theorem d1_124 : decode prog_3_method_1_code 124 = .ok (.putfield 49, 3) := by decide +kernel
theorem d1_127 : decode prog_3_method_1_code 127 = .ok (.aload_n 0, 1) := by decide +kernel
theorem d1_128 : decode prog_3_method_1_code 128 = .ok (.iload 8, 2) := by decide +kernel
theorem d1_130 : decode prog_3_method_1_code 130 = .ok (.putfield 52, 3) := by decide +kernel
theorem d1_133 : decode prog_3_method_1_code 133 = .ok (.aload_n 0, 1) := by decide +kernel
theorem d1_134 : decode prog_3_method_1_code 134 = .ok (.iload 9, 2) := by decide +kernel
theorem d1_136 : decode prog_3_method_1_code 136 = .ok (.putfield 55, 3) := by decide +kernel
theorem d1_139 : decode prog_3_method_1_code 139 = .ok (.aload_n 0, 1) := by decide +kernel
theorem d1_140 : decode prog_3_method_1_code 140 = .ok (.iload 10, 2) := by decide +kernel
theorem d1_142 : decode prog_3_method_1_code 142 = .ok (.putfield 58, 3) := by decide +kernel
theorem d1_145 : decode prog_3_method_1_code 145 = .ok (.aload_n 0, 1) := by decide +kernel
theorem d1_146 : decode prog_3_method_1_code 146 = .ok (.iload 11, 2) := by decide +kernel
theorem d1_148 : decode prog_3_method_1_code 148 = .ok (.putfield 61, 3) := by decide +kernel
theorem d1_151 : decode prog_3_method_1_code 151 = .ok (.return_, 1) := by decide +kernel
theorem d2_0 : decode jdk_30_method_1_code 0 = .ok (.aload_n 0, 1) := by decide +kernel
theorem d2_1 : decode jdk_30_method_1_code 1 = .ok (.invokespecial 1, 3) := by decide +kernel
theorem d2_4 : decode jdk_30_method_1_code 4 = .ok (.return_, 1) := by decide +kernel
theorem d4_0 : decode jdk_31_method_11_code 0 = .ok (.aload_n 0, 1) := by decide +kernel
theorem d4_1 : decode jdk_31_method_11_code 1 = .ok (.ifnonnull 12, 3) := by decide +kernel
theorem d4_13 : decode jdk_31_method_11_code 13 = .ok (.aload_n 0, 1) := by decide +kernel
theorem d4_14 : decode jdk_31_method_11_code 14 = .ok (.areturn, 1) := by decide +kernel
theorem d5_0 : decode prog_3_method_5_code 0 = .ok (.iload_n 2, 1) := by decide +kernel
theorem d5_1 : decode prog_3_method_5_code 1 = .ok (.i2l, 1) := by decide +kernel
theorem d5_2 : decode prog_3_method_5_code 2 = .ok (.iload_n 3, 1) := by decide +kernel
theorem d5_3 : decode prog_3_method_5_code 3 = .ok (.i2l, 1) := by decide +kernel
theorem d5_4 : decode prog_3_method_5_code 4 = .ok (.ladd, 1) := by decide +kernel
theorem d5_5 : decode prog_3_method_5_code 5 = .ok (.iload 4, 2) := by decide +kernel
theorem d5_7 : decode prog_3_method_5_code 7 = .ok (.i2l, 1) := by decide +kernel
theorem d5_8 : decode prog_3_method_5_code 8 = .ok (.ladd, 1) := by decide +kernel
theorem d5_9 : decode prog_3_method_5_code 9 = .ok (.lstore 7, 2) := by decide +kernel
theorem d5_11 : decode prog_3_method_5_code 11 = .ok (.aconst_null, 1) := by decide +kernel
theorem d5_12 : decode prog_3_method_5_code 12 = .ok (.astore 9, 2) := by decide +kernel
theorem d5_14 : decode prog_3_method_5_code 14 = .ok (.iload_n 1, 1) := by decide +kernel
theorem d5_15 : decode prog_3_method_5_code 15 = .ok (.ldc 127, 2) := by decide +kernel
theorem d5_17 : decode prog_3_method_5_code 17 = .ok (.if_icmp .le 14, 3) := by decide +kernel
theorem d5_31 : decode prog_3_method_5_code 31 = .ok (.iload_n 2, 1) := by decide +kernel
theorem d5_32 : decode prog_3_method_5_code 32 = .ok (.ldc 129, 2) := by decide +kernel
theorem d5_34 : decode prog_3_method_5_code 34 = .ok (.if_icmp .le 14, 3) := by decide +kernel
theorem d5_48 : decode prog_3_method_5_code 48 = .ok (.iload_n 1, 1) := by decide +kernel
theorem d5_49 : decode prog_3_method_5_code 49 = .ok (.i2l, 1) := by decide +kernel
theorem d5_50 : decode prog_3_method_5_code 50 = .ok (.lload 7, 2) := by decide +kernel
theorem d5_52 : decode prog_3_method_5_code 52 = .ok (.lcmp, 1) := by decide +kernel
theorem d5_53 : decode prog_3_method_5_code 53 = .ok (.ifCond .ge 16, 3) := by decide +kernel
theorem d5_69 : decode prog_3_method_5_code 69 = .ok (.aload_n 0, 1) := by decide +kernel
theorem d5_70 : decode prog_3_method_5_code 70 = .ok (.getstatic 134, 3) := by decide +kernel
theorem d5_73 : decode prog_3_method_5_code 73 = .ok (.if_acmp .ne 24, 3) := by decide +kernel
theorem d5_76 : decode prog_3_method_5_code 76 = .ok (.iload_n 1, 1) := by decide +kernel
theorem d5_77 : decode prog_3_method_5_code 77 = .ok (.i2l, 1) := by decide +kernel
theorem d5_78 : decode prog_3_method_5_code 78 = .ok (.lload 7, 2) := by decide +kernel
theorem d5_80 : decode prog_3_method_5_code 80 = .ok (.lcmp, 1) := by decide +kernel
theorem d5_81 : decode prog_3_method_5_code 81 = .ok (.ifCond .eq 16, 3) := by decide +kernel
theorem d5_97 : decode prog_3_method_5_code 97 = .ok (.iload 6, 2) := by decide +kernel
theorem d5_99 : decode prog_3_method_5_code 99 = .ok (.ifCond .eq 12, 3) := by decide +kernel
theorem d5_102 : decode prog_3_method_5_code 102 = .ok (.iload 5, 2) := by decide +kernel
theorem d5_104 : decode prog_3_method_5_code 104 = .ok (.ifCond .eq 7, 3) := by decide +kernel
theorem d5_111 : decode prog_3_method_5_code 111 = .ok (.aload 9, 2) := by decide +kernel
theorem d5_113 : decode prog_3_method_5_code 113 = .ok (.areturn, 1) := by decide +kernel
theorem d6_0 : decode prog_3_method_3_code 0 = .ok (.aload_n 0, 1) := by decide +kernel
theorem d6_1 : decode prog_3_method_3_code 1 = .ok (.getfield 61, 3) := by decide +kernel
theorem d6_4 : decode prog_3_method_3_code 4 = .ok (.ifCond .eq 10, 3) := by decide +kernel
theorem d6_7 : decode prog_3_method_3_code 7 = .ok (.aload_n 0, 1) := by decide +kernel
theorem d6_8 : decode prog_3_method_3_code 8 = .ok (.getfield 43, 3) := by decide +kernel
theorem d6_11 : decode prog_3_method_3_code 11 = .ok (.goto 7, 3) := by decide +kernel
theorem d6_14 : decode prog_3_method_3_code 14 = .ok (.aload_n 0, 1) := by decide +kernel
theorem d6_15 : decode prog_3_method_3_code 15 = .ok (.getfield 49, 3) := by decide +kernel
theorem d6_18 : decode prog_3_method_3_code 18 = .ok (.ireturn, 1) := by decide +kernel
theorem pd0 : parseMethodDescriptor "()V" = some ⟨[], none⟩ := by decide +kernel
theorem pd1 : parseMethodDescriptor "(Ljava/lang/Object;Ljava/lang/String;)Ljava/lang/Object;" = some ⟨[(.object "java/lang/Object"), (.object "java/lang/String")], some (.object "java/lang/Object")⟩ := by decide +kernel
theorem pd2 : parseMethodDescriptor "(Lcom/example/libinvariant/libinvariant/aiger/AigerEncoding;IIIIIZ)Ljava/lang/String;" = some ⟨[(.object "com/example/libinvariant/libinvariant/aiger/AigerEncoding"), .int, .int, .int, .int, .int, .boolean], some (.object "java/lang/String")⟩ := by decide +kernel
theorem pd3 : parseMethodDescriptor "(Lcom/example/libinvariant/libinvariant/aiger/AigerEncoding;IIIIIIIIIZ)V" = some ⟨[(.object "com/example/libinvariant/libinvariant/aiger/AigerEncoding"), .int, .int, .int, .int, .int, .int, .int, .int, .int, .boolean], none⟩ := by decide +kernel
theorem pd4 : parseMethodDescriptor "()I" = some ⟨[], some .int⟩ := by decide +kernel
theorem pn_2 : plainFor (⟨"java/lang/Record", "<init>", "()V"⟩ : MethodName) = true := plainFor_of_name (by first | (simp [plainName, overriddenIn]; done) | decide +kernel)
set_option maxRecDepth 65536 in
set_option maxHeartbeats 40000000 in
theorem rm2 {Z : State} {a0 : Array Value} (hw : HW a0 Z) (a : Addr) (h0 : Heap) (n0 : Nat) :
    MetW Z (⟨"java/lang/Record", "<init>", "()V"⟩ : MethodName) jdk_30_method_1_code 1 none [] ({ frames := 1, cells := 0, slots := 0, locals := 12 } : Room) #[(.ref a)] h0 n0 (fun v h => v = none ∧ h = h0) := by
  refine k_body (f := (fun m => mkF m 0 #[.val (.ref a)] [])) pn_2 (fun m => by first | (simp [entryFrame, mkF, argsToLocals, Value.category, maxLocals]; done) | rfl) ?_
  intro Γ T G X
  show Go Γ n0 _ T (mkF Γ.m 0 #[.val (.ref a)] [])
  refine k_aloadN G X d2_0 (pc' := 1) rfl rfl rfl ?_
  refine k_initO G X (w17 hw) (w18 hw) (w19 hw) d2_1 (pc' := 4) rfl rfl (by decide) (wd := 0) rfl (by decide) (fun T X => ?_)
  refine k_retv G X d2_4 rfl ?_ (by decide) (by decide)
  exact ⟨rfl, rfl⟩
theorem pn_4 : plainFor (⟨"java/util/Objects", "requireNonNull", "(Ljava/lang/Object;Ljava/lang/String;)Ljava/lang/Object;"⟩ : MethodName) = true := plainFor_of_name (by first | (simp [plainName, overriddenIn]; done) | decide +kernel)
set_option maxRecDepth 65536 in
set_option maxHeartbeats 40000000 in
theorem rm4 {Z : State} {a0 : Array Value} (hw : HW a0 Z) (a b : Addr) (h0 : Heap) (n0 : Nat) :
    MetW Z (⟨"java/util/Objects", "requireNonNull", "(Ljava/lang/Object;Ljava/lang/String;)Ljava/lang/Object;"⟩ : MethodName) jdk_31_method_11_code 2 (some (.object "java/lang/Object")) [] ({ frames := 0, cells := 0, slots := 0, locals := 0 } : Room) #[(.ref a), (.ref b)] h0 n0 (fun v h => v = some (.ref a) ∧ h = h0) := by
  refine k_body (f := (fun m => mkF m 0 #[.val (.ref a), .val (.ref b)] [])) pn_4 (fun m => by first | (simp [entryFrame, mkF, argsToLocals, Value.category, maxLocals]; done) | rfl) ?_
  intro Γ T G X
  show Go Γ n0 _ T (mkF Γ.m 0 #[.val (.ref a), .val (.ref b)] [])
  refine k_aloadN G X d4_0 (pc' := 1) rfl rfl rfl ?_
  refine k_ifnonnull G X d4_1 (pc' := 13) rfl (by decide) (pc'' := 4) rfl rfl (fun _ c1 => ?_) (fun c1 => (absurd c1 (by simp)))
  refine k_aloadN G X d4_13 (pc' := 14) rfl rfl rfl ?_
  refine k_reta G X d4_14 (t := (.object "java/lang/Object")) rfl rfl rfl ?_ (by decide) (by decide)
  exact ⟨rfl, rfl⟩
theorem pn_5 : plainFor (⟨"com/example/libinvariant/libinvariant/aiger/AigerHeader", "inconsistency", "(Lcom/example/libinvariant/libinvariant/aiger/AigerEncoding;IIIIIZ)Ljava/lang/String;"⟩ : MethodName) = true := plainFor_of_name (by first | (simp [plainName, overriddenIn]; done) | decide +kernel)
set_option maxRecDepth 65536 in
set_option maxHeartbeats 40000000 in
theorem rm5 {Z : State} {a0 : Array Value} (hw : HW a0 Z) (e aB : Addr) (xm xi xl xg xx old : Int32) (h0 : Heap) (n0 : Nat) (S_BIN : Sta Z h0 "com/example/libinvariant/libinvariant/aiger/AigerEncoding" "BINARY" "Lcom/example/libinvariant/libinvariant/aiger/AigerEncoding;" (.ref aB)) (u1 : xm.toInt ≤ 1073741823) (u2 : xi.toInt ≤ 1048576) (u3 : xi.toInt + xl.toInt + xg.toInt ≤ xm.toInt) (u4 : e = aB → xm.toInt = xi.toInt + xl.toInt + xg.toInt) (u5 : old = 0 ∨ xx = 0) (n1 : 0 ≤ xi.toInt) (n2 : 0 ≤ xl.toInt) (n3 : 0 ≤ xg.toInt) :
    MetW Z (⟨"com/example/libinvariant/libinvariant/aiger/AigerHeader", "inconsistency", "(Lcom/example/libinvariant/libinvariant/aiger/AigerEncoding;IIIIIZ)Ljava/lang/String;"⟩ : MethodName) prog_3_method_5_code 10 (some (.object "java/lang/String")) [] ({ frames := 0, cells := 0, slots := 0, locals := 0 } : Room) #[(.ref e), (.int xm), (.int xi), (.int xl), (.int xg), (.int xx), (.int old)] h0 n0 (fun v h => v = some .null ∧ h = h0) := by
  refine k_body (f := (fun m => mkF m 0 #[.val (.ref e), .val (.int xm), .val (.int xi), .val (.int xl), .val (.int xg), .val (.int xx), .val (.int old), .unset, .unset, .unset] [])) pn_5 (fun m => by first | (simp [entryFrame, mkF, argsToLocals, Value.category, maxLocals]; done) | rfl) ?_
  intro Γ T G X
  have r1 := rgI xi; have r2 := rgI xl; have r3 := rgI xg; have r4 := rgI xm
  show Go Γ n0 _ T (mkF Γ.m 0 #[.val (.ref e), .val (.int xm), .val (.int xi), .val (.int xl), .val (.int xg), .val (.int xx), .val (.int old), .unset, .unset, .unset] [])
  refine k_iloadN G X d5_0 (pc' := 1) rfl rfl ?_
  obtain ⟨v1, q_v1⟩ : ∃ z, (xi.toInt64) = z := ⟨_, rfl⟩
  refine k_i2l G X d5_1 (pc' := 2) rfl q_v1 ?_
  have n_v1 := c_i2l xi
  rw [q_v1] at n_v1
  refine k_iloadN G X d5_2 (pc' := 3) rfl rfl ?_
  obtain ⟨v2, q_v2⟩ : ∃ z, (xl.toInt64) = z := ⟨_, rfl⟩
  refine k_i2l G X d5_3 (pc' := 4) rfl q_v2 ?_
  have n_v2 := c_i2l xl
  rw [q_v2] at n_v2
  obtain ⟨v3, q_v3⟩ : ∃ z, (v1 + v2) = z := ⟨_, rfl⟩
  refine k_ladd G X d5_4 (pc' := 5) rfl q_v3 ?_
  have n_v3 := c_ladd v1 v2
  rw [q_v3] at n_v3
  have r_v3 := rgL v3
  refine k_iload G X d5_5 (pc' := 7) rfl rfl ?_
  obtain ⟨v4, q_v4⟩ : ∃ z, (xg.toInt64) = z := ⟨_, rfl⟩
  refine k_i2l G X d5_7 (pc' := 8) rfl q_v4 ?_
  have n_v4 := c_i2l xg
  rw [q_v4] at n_v4
  obtain ⟨v5, q_v5⟩ : ∃ z, (v3 + v4) = z := ⟨_, rfl⟩
  refine k_ladd G X d5_8 (pc' := 9) rfl q_v5 ?_
  have n_v5 := c_ladd v3 v4
  rw [q_v5] at n_v5
  have r_v5 := rgL v5
  refine k_lstore G X d5_9 (pc' := 11) rfl (l' := #[.val (.ref e), .val (.int xm), .val (.int xi), .val (.int xl), .val (.int xg), .val (.int xx), .val (.int old), .val (.long v5), .second, .unset]) rfl ?_
  refine k_anull G X d5_11 (pc' := 12) rfl ?_
  refine k_astore G X d5_12 (pc' := 14) rfl rfl (l' := #[.val (.ref e), .val (.int xm), .val (.int xi), .val (.int xl), .val (.int xg), .val (.int xx), .val (.int old), .val (.long v5), .second, .val .null]) rfl ?_
  refine k_iloadN G X d5_14 (pc' := 15) rfl rfl ?_
  refine k_ldcI G X (w35 hw) d5_15 (pc' := 17) rfl ?_
  refine k_icmp_le G X d5_17 (pc' := 31) rfl (by decide) (pc'' := 20) rfl (fun c17 => ?_) (fun c17 => (absurd c17 (by have : (1073741823 : Int32).toInt = 1073741823 := rfl; omega)))
  refine k_iloadN G X d5_31 (pc' := 32) rfl rfl ?_
  refine k_ldcI G X (w36 hw) d5_32 (pc' := 34) rfl ?_
  refine k_icmp_le G X d5_34 (pc' := 48) rfl (by decide) (pc'' := 37) rfl (fun c34 => ?_) (fun c34 => (absurd c34 (by have : (1048576 : Int32).toInt = 1048576 := rfl; omega)))
  refine k_iloadN G X d5_48 (pc' := 49) rfl rfl ?_
  obtain ⟨v6, q_v6⟩ : ∃ z, (xm.toInt64) = z := ⟨_, rfl⟩
  refine k_i2l G X d5_49 (pc' := 50) rfl q_v6 ?_
  have n_v6 := c_i2l xm
  rw [q_v6] at n_v6
  refine k_lload G X d5_50 (pc' := 52) rfl rfl ?_
  obtain ⟨v7, q_v7⟩ : ∃ z, (if v6 > v5 then (1 : Int32) else if v6 = v5 then 0 else -1) = z := ⟨_, rfl⟩
  refine k_lcmp G X d5_52 (pc' := 53) rfl q_v7 ?_
  have n_v7 := lcmp_toInt q_v7
  refine k_if_ge G X d5_53 (pc' := 69) rfl (by decide) (pc'' := 56) rfl (fun c53 => ?_) (fun c53 => (absurd c53 (by omega)))
  refine k_aloadN G X d5_69 (pc' := 70) rfl rfl rfl ?_
  refine k_getS G X (host := "") (Or.inl (w37 hw)) Via.refl S_BIN d5_70 (pc' := 73) rfl (fun T X => ?_)
  refine k_acmp_ne G X d5_73 (pc' := 97) rfl (by decide) (pc'' := 76) rfl rfl rfl (fun c73 => ?_) (fun c73 => ?_)
  · refine k_iload G X d5_97 (pc' := 99) rfl rfl ?_
    refine k_if_eq G X d5_99 (pc' := 111) rfl (by decide) (pc'' := 102) rfl (fun c99 => ?_) (fun c99 => ?_)
    · refine k_aload G X d5_111 (pc' := 113) rfl rfl rfl ?_
      refine k_reta G X d5_113 (t := (.object "java/lang/String")) rfl rfl rfl ?_ (by decide) (by decide)
      exact ⟨rfl, rfl⟩
    · refine k_iload G X d5_102 (pc' := 104) rfl rfl ?_
      refine k_if_eq G X d5_104 (pc' := 111) rfl (by decide) (pc'' := 107) rfl (fun c104 => ?_) (fun c104 => (absurd c104 (by rcases u5 with h | h; exact absurd h c99; simp [h])))
      refine k_aload G X d5_111 (pc' := 113) rfl rfl rfl ?_
      refine k_reta G X d5_113 (t := (.object "java/lang/String")) rfl rfl rfl ?_ (by decide) (by decide)
      exact ⟨rfl, rfl⟩
  · refine k_iloadN G X d5_76 (pc' := 77) rfl rfl ?_
    obtain ⟨v8, q_v8⟩ : ∃ z, (xm.toInt64) = z := ⟨_, rfl⟩
    refine k_i2l G X d5_77 (pc' := 78) rfl q_v8 ?_
    have n_v8 := c_i2l xm
    rw [q_v8] at n_v8
    refine k_lload G X d5_78 (pc' := 80) rfl rfl ?_
    obtain ⟨v9, q_v9⟩ : ∃ z, (if v8 > v5 then (1 : Int32) else if v8 = v5 then 0 else -1) = z := ⟨_, rfl⟩
    refine k_lcmp G X d5_80 (pc' := 81) rfl q_v9 ?_
    have n_v9 := lcmp_toInt q_v9
    refine k_if_eq G X d5_81 (pc' := 97) rfl (by decide) (pc'' := 84) rfl (fun c81 => ?_) (fun c81 => (absurd c81 (by have := u4 (by simpa using c73); intro h; exact h (of_toInt (by rw [z32]; omega)))))
    refine k_iload G X d5_97 (pc' := 99) rfl rfl ?_
    refine k_if_eq G X d5_99 (pc' := 111) rfl (by decide) (pc'' := 102) rfl (fun c99 => ?_) (fun c99 => ?_)
    · refine k_aload G X d5_111 (pc' := 113) rfl rfl rfl ?_
      refine k_reta G X d5_113 (t := (.object "java/lang/String")) rfl rfl rfl ?_ (by decide) (by decide)
      exact ⟨rfl, rfl⟩
    · refine k_iload G X d5_102 (pc' := 104) rfl rfl ?_
      refine k_if_eq G X d5_104 (pc' := 111) rfl (by decide) (pc'' := 107) rfl (fun c104 => ?_) (fun c104 => (absurd c104 (by rcases u5 with h | h; exact absurd h c99; simp [h])))
      refine k_aload G X d5_111 (pc' := 113) rfl rfl rfl ?_
      refine k_reta G X d5_113 (t := (.object "java/lang/String")) rfl rfl rfl ?_ (by decide) (by decide)
      exact ⟨rfl, rfl⟩
theorem pn_6 : plainFor (⟨"com/example/libinvariant/libinvariant/aiger/AigerHeader", "badStateProperties", "()I"⟩ : MethodName) = true := plainFor_of_name (by first | (simp [plainName, overriddenIn]; done) | decide +kernel)
set_option maxRecDepth 65536 in
set_option maxHeartbeats 40000000 in
theorem rm6_0 {Z : State} {a0 : Array Value} (hw : HW a0 Z) (a : Addr) (xo xb : Int32) (h0 : Heap) (n0 : Nat) (F_old : Fld Z h0 a "com/example/libinvariant/libinvariant/aiger/AigerHeader" "olderForm" "Z" (.int (0 : Int32))) (F_out : Fld Z h0 a "com/example/libinvariant/libinvariant/aiger/AigerHeader" "outputs" "I" (.int xo)) (F_bad : Fld Z h0 a "com/example/libinvariant/libinvariant/aiger/AigerHeader" "badStates" "I" (.int xb)) :
    MetW Z (⟨"com/example/libinvariant/libinvariant/aiger/AigerHeader", "badStateProperties", "()I"⟩ : MethodName) prog_3_method_3_code 1 (some .int) [] ({ frames := 0, cells := 0, slots := 0, locals := 0 } : Room) #[(.ref a)] h0 n0 (fun v h => v = some (.int xb) ∧ h = h0) := by
  refine k_body (f := (fun m => mkF m 0 #[.val (.ref a)] [])) pn_6 (fun m => by first | (simp [entryFrame, mkF, argsToLocals, Value.category, maxLocals]; done) | rfl) ?_
  intro Γ T G X
  show Go Γ n0 _ T (mkF Γ.m 0 #[.val (.ref a)] [])
  refine k_aloadN G X d6_0 (pc' := 1) rfl rfl rfl ?_
  refine k_getF G X (host := "") (Or.inl (w59 hw)) Via.refl F_old d6_1 (pc' := 4) rfl (fun T X => ?_)
  refine k_if_eq G X d6_4 (pc' := 14) rfl (by decide) (pc'' := 7) rfl (fun c4 => ?_) (fun c4 => (absurd c4 (by decide)))
  refine k_aloadN G X d6_14 (pc' := 15) rfl rfl rfl ?_
  refine k_getF G X (host := "") (Or.inl (w51 hw)) Via.refl F_bad d6_15 (pc' := 18) rfl (fun T X => ?_)
  refine k_reti G X d6_18 rfl ?_ (by decide) (by decide)
  exact ⟨rfl, rfl⟩
set_option maxRecDepth 65536 in
set_option maxHeartbeats 40000000 in
theorem rm6_1 {Z : State} {a0 : Array Value} (hw : HW a0 Z) (a : Addr) (xo xb : Int32) (h0 : Heap) (n0 : Nat) (F_old : Fld Z h0 a "com/example/libinvariant/libinvariant/aiger/AigerHeader" "olderForm" "Z" (.int (1 : Int32))) (F_out : Fld Z h0 a "com/example/libinvariant/libinvariant/aiger/AigerHeader" "outputs" "I" (.int xo)) (F_bad : Fld Z h0 a "com/example/libinvariant/libinvariant/aiger/AigerHeader" "badStates" "I" (.int xb)) :
    MetW Z (⟨"com/example/libinvariant/libinvariant/aiger/AigerHeader", "badStateProperties", "()I"⟩ : MethodName) prog_3_method_3_code 1 (some .int) [] ({ frames := 0, cells := 0, slots := 0, locals := 0 } : Room) #[(.ref a)] h0 n0 (fun v h => v = some (.int xo) ∧ h = h0) := by
  refine k_body (f := (fun m => mkF m 0 #[.val (.ref a)] [])) pn_6 (fun m => by first | (simp [entryFrame, mkF, argsToLocals, Value.category, maxLocals]; done) | rfl) ?_
  intro Γ T G X
  show Go Γ n0 _ T (mkF Γ.m 0 #[.val (.ref a)] [])
  refine k_aloadN G X d6_0 (pc' := 1) rfl rfl rfl ?_
  refine k_getF G X (host := "") (Or.inl (w59 hw)) Via.refl F_old d6_1 (pc' := 4) rfl (fun T X => ?_)
  refine k_if_eq G X d6_4 (pc' := 14) rfl (by decide) (pc'' := 7) rfl (fun c4 => (absurd c4 (by decide))) (fun c4 => ?_)
  refine k_aloadN G X d6_7 (pc' := 8) rfl rfl rfl ?_
  refine k_getF G X (host := "") (Or.inl (w47 hw)) Via.refl F_out d6_8 (pc' := 11) rfl (fun T X => ?_)
  refine k_goto G X d6_11 (by decide) (pc' := 18) rfl ?_
  refine k_reti G X d6_18 rfl ?_ (by decide) (by decide)
  exact ⟨rfl, rfl⟩
theorem pn_1 : plainFor (⟨"com/example/libinvariant/libinvariant/aiger/AigerHeader", "<init>", "(Lcom/example/libinvariant/libinvariant/aiger/AigerEncoding;IIIIIIIIIZ)V"⟩ : MethodName) = true := plainFor_of_name (by first | (simp [plainName, overriddenIn]; done) | decide +kernel)
set_option maxRecDepth 65536 in
set_option maxHeartbeats 40000000 in
theorem rm1 {Z : State} {a0 : Array Value} (hw : HW a0 Z) (ob en aB : Addr) (xm xi xl xo xg xb xc xj xf old : Int32) (h0 : Heap) (n0 : Nat) (ge_ob : n0 ≤ ob) (E : Exa Z h0 ob "com/example/libinvariant/libinvariant/aiger/AigerHeader") (F_encoding : Fld Z h0 ob "com/example/libinvariant/libinvariant/aiger/AigerHeader" "encoding" "Lcom/example/libinvariant/libinvariant/aiger/AigerEncoding;" .null) (F_maxVariable : Fld Z h0 ob "com/example/libinvariant/libinvariant/aiger/AigerHeader" "maxVariable" "I" (.int (0 : Int32))) (F_inputs : Fld Z h0 ob "com/example/libinvariant/libinvariant/aiger/AigerHeader" "inputs" "I" (.int (0 : Int32))) (F_latches : Fld Z h0 ob "com/example/libinvariant/libinvariant/aiger/AigerHeader" "latches" "I" (.int (0 : Int32))) (F_outputs : Fld Z h0 ob "com/example/libinvariant/libinvariant/aiger/AigerHeader" "outputs" "I" (.int (0 : Int32))) (F_andGates : Fld Z h0 ob "com/example/libinvariant/libinvariant/aiger/AigerHeader" "andGates" "I" (.int (0 : Int32))) (F_badStates : Fld Z h0 ob "com/example/libinvariant/libinvariant/aiger/AigerHeader" "badStates" "I" (.int (0 : Int32))) (F_constraints : Fld Z h0 ob "com/example/libinvariant/libinvariant/aiger/AigerHeader" "constraints" "I" (.int (0 : Int32))) (F_justice : Fld Z h0 ob "com/example/libinvariant/libinvariant/aiger/AigerHeader" "justice" "I" (.int (0 : Int32))) (F_fairness : Fld Z h0 ob "com/example/libinvariant/libinvariant/aiger/AigerHeader" "fairness" "I" (.int (0 : Int32))) (F_olderForm : Fld Z h0 ob "com/example/libinvariant/libinvariant/aiger/AigerHeader" "olderForm" "Z" (.int (0 : Int32))) (S_BIN : Sta Z h0 "com/example/libinvariant/libinvariant/aiger/AigerEncoding" "BINARY" "Lcom/example/libinvariant/libinvariant/aiger/AigerEncoding;" (.ref aB)) (u1 : xm.toInt ≤ 1073741823) (u2 : xi.toInt ≤ 1048576) (u3 : xi.toInt + xl.toInt + xg.toInt ≤ xm.toInt) (u4 : en = aB → xm.toInt = xi.toInt + xl.toInt + xg.toInt) (u5 : old = 0 ∨ (((xb ||| xc) ||| xj) ||| xf) = 0) (hold : old = 0 ∨ old = 1) (n1 : 0 ≤ xm.toInt) (n2 : 0 ≤ xi.toInt) (n3 : 0 ≤ xl.toInt) (n4 : 0 ≤ xo.toInt) (n5 : 0 ≤ xg.toInt) (n6 : 0 ≤ xb.toInt) (n7 : 0 ≤ xc.toInt) (n8 : 0 ≤ xj.toInt) (n9 : 0 ≤ xf.toInt) :
    MetW Z (⟨"com/example/libinvariant/libinvariant/aiger/AigerHeader", "<init>", "(Lcom/example/libinvariant/libinvariant/aiger/AigerEncoding;IIIIIIIIIZ)V"⟩ : MethodName) prog_3_method_1_code 13 none [] ({ frames := 2, cells := 2, slots := 36, locals := 40 } : Room) #[(.ref ob), (.ref en), (.int xm), (.int xi), (.int xl), (.int xo), (.int xg), (.int xb), (.int xc), (.int xj), (.int xf), (.int old)] h0 n0 (fun v h => v = none ∧ Exa Z h ob "com/example/libinvariant/libinvariant/aiger/AigerHeader" ∧ Fld Z h ob "com/example/libinvariant/libinvariant/aiger/AigerHeader" "outputs" "I" (.int xo) ∧ Fld Z h ob "com/example/libinvariant/libinvariant/aiger/AigerHeader" "badStates" "I" (.int xb) ∧ Fld Z h ob "com/example/libinvariant/libinvariant/aiger/AigerHeader" "olderForm" "Z" (.int old)) := by
  refine k_body (f := (fun m => mkF m 0 #[.val (.ref ob), .val (.ref en), .val (.int xm), .val (.int xi), .val (.int xl), .val (.int xo), .val (.int xg), .val (.int xb), .val (.int xc), .val (.int xj), .val (.int xf), .val (.int old), .unset] [])) pn_1 (fun m => by first | (simp [entryFrame, mkF, argsToLocals, Value.category, maxLocals]; done) | rfl) ?_
  intro Γ T G X
  have hor : 0 ≤ ((((((((xm ||| xi) ||| xl) ||| xo) ||| xg) ||| xb) ||| xc) ||| xj) ||| xf).toInt := ((c_orS _ _).1 ((c_orS _ _).1 ((c_orS _ _).1 ((c_orS _ _).1 ((c_orS _ _).1 ((c_orS _ _).1 ((c_orS _ _).1 ((c_orS _ _).1 n1 n2) n3) n4) n5) n6) n7) n8) n9)
  show Go Γ n0 _ T (mkF Γ.m 0 #[.val (.ref ob), .val (.ref en), .val (.int xm), .val (.int xi), .val (.int xl), .val (.int xo), .val (.int xg), .val (.int xb), .val (.int xc), .val (.int xj), .val (.int xf), .val (.int old), .unset] [])
  refine k_aloadN G X d1_0 (pc' := 1) rfl rfl rfl ?_
  refine k_callI G X (argsL := []) (rest := []) rfl rfl (w12 hw) (w13 hw) (w15 hw) (w16 hw) (by decide) (rm2 hw ob h0 n0) d1_1 pd0 rfl (pc' := 4) rfl rfl (wd := 0) rfl (by decide) (by decide) (by decide) (by decide) (fun T h1 v X q => ?_)
  obtain ⟨rfl, e1⟩ := q
  replace X := X.eq e1
  show Go Γ n0 _ T (mkF Γ.m 4 #[.val (.ref ob), .val (.ref en), .val (.int xm), .val (.int xi), .val (.int xl), .val (.int xo), .val (.int xg), .val (.int xb), .val (.int xc), .val (.int xj), .val (.int xf), .val (.int old), .unset] [])
  refine k_aloadN G X d1_4 (pc' := 5) rfl rfl rfl ?_
  refine k_ldcS G X (n := 32) (w20 hw) (strAtoms hw) d1_5 (pc' := 7) rfl (by decide) (by decide) (by decide) (by decide) (fun T h5 s5 E5 X => ?_)
  replace S_BIN := S_BIN.ext E5
  replace E := E.ext E5
  replace F_encoding := F_encoding.ext E5
  replace F_maxVariable := F_maxVariable.ext E5
  replace F_inputs := F_inputs.ext E5
  replace F_latches := F_latches.ext E5
  replace F_outputs := F_outputs.ext E5
  replace F_andGates := F_andGates.ext E5
  replace F_badStates := F_badStates.ext E5
  replace F_constraints := F_constraints.ext E5
  replace F_justice := F_justice.ext E5
  replace F_fairness := F_fairness.ext E5
  replace F_olderForm := F_olderForm.ext E5
  refine k_callS G X (argsL := [(.ref en), (.ref s5)]) (rest := []) rfl (w28 hw) (w29 hw) (w30 hw) (w31 hw) (by decide) (rm4 hw en s5 h5 n0) d1_7 pd1 rfl (pc' := 10) rfl rfl (wd := 0) rfl (by decide) (by decide) (by decide) (by decide) (fun T h7 v X q => ?_)
  obtain ⟨rfl, e7⟩ := q
  replace X := X.eq e7
  show Go Γ n0 _ T (mkF Γ.m 10 #[.val (.ref ob), .val (.ref en), .val (.int xm), .val (.int xi), .val (.int xl), .val (.int xo), .val (.int xg), .val (.int xb), .val (.int xc), .val (.int xj), .val (.int xf), .val (.int old), .unset] [(.ref en)])
  refine k_pop G X d1_10 (pc' := 11) rfl rfl ?_
  refine k_iloadN G X d1_11 (pc' := 12) rfl rfl ?_
  refine k_iloadN G X d1_12 (pc' := 13) rfl rfl ?_
  refine k_ior G X d1_13 (pc' := 14) rfl rfl ?_
  refine k_iload G X d1_14 (pc' := 16) rfl rfl ?_
  refine k_ior G X d1_16 (pc' := 17) rfl rfl ?_
  refine k_iload G X d1_17 (pc' := 19) rfl rfl ?_
  refine k_ior G X d1_19 (pc' := 20) rfl rfl ?_
  refine k_iload G X d1_20 (pc' := 22) rfl rfl ?_
  refine k_ior G X d1_22 (pc' := 23) rfl rfl ?_
  refine k_iload G X d1_23 (pc' := 25) rfl rfl ?_
  refine k_ior G X d1_25 (pc' := 26) rfl rfl ?_
  refine k_iload G X d1_26 (pc' := 28) rfl rfl ?_
  refine k_ior G X d1_28 (pc' := 29) rfl rfl ?_
  refine k_iload G X d1_29 (pc' := 31) rfl rfl ?_
  refine k_ior G X d1_31 (pc' := 32) rfl rfl ?_
  refine k_iload G X d1_32 (pc' := 34) rfl rfl ?_
  refine k_ior G X d1_34 (pc' := 35) rfl rfl ?_
  refine k_if_ge G X d1_35 (pc' := 48) rfl (by decide) (pc'' := 38) rfl (fun c35 => ?_) (fun c35 => (absurd c35 (by omega)))
  refine k_aloadN G X d1_48 (pc' := 49) rfl rfl rfl ?_
  refine k_iloadN G X d1_49 (pc' := 50) rfl rfl ?_
  refine k_iloadN G X d1_50 (pc' := 51) rfl rfl ?_
  refine k_iload G X d1_51 (pc' := 53) rfl rfl ?_
  refine k_iload G X d1_53 (pc' := 55) rfl rfl ?_
  refine k_iload G X d1_55 (pc' := 57) rfl rfl ?_
  refine k_iload G X d1_57 (pc' := 59) rfl rfl ?_
  refine k_ior G X d1_59 (pc' := 60) rfl rfl ?_
  refine k_iload G X d1_60 (pc' := 62) rfl rfl ?_
  refine k_ior G X d1_62 (pc' := 63) rfl rfl ?_
  refine k_iload G X d1_63 (pc' := 65) rfl rfl ?_
  refine k_ior G X d1_65 (pc' := 66) rfl rfl ?_
  refine k_iload G X d1_66 (pc' := 68) rfl rfl ?_
  refine k_callS G X (argsL := [(.ref en), (.int xm), (.int xi), (.int xl), (.int xg), (.int (((xb ||| xc) ||| xj) ||| xf)), (.int old)]) (rest := []) rfl (w32 hw) (w33 hw) (w8 hw) (w34 hw) (by decide) (rm5 hw en aB xm xi xl xg (((xb ||| xc) ||| xj) ||| xf) old h5 n0 S_BIN u1 u2 u3 u4 u5 n2 n3 n5) d1_68 pd2 rfl (pc' := 71) rfl rfl (wd := 0) rfl (by decide) (by decide) (by decide) (by decide) (fun T h68 v X q => ?_)
  obtain ⟨rfl, e68⟩ := q
  replace X := X.eq e68
  show Go Γ n0 _ T (mkF Γ.m 71 #[.val (.ref ob), .val (.ref en), .val (.int xm), .val (.int xi), .val (.int xl), .val (.int xo), .val (.int xg), .val (.int xb), .val (.int xc), .val (.int xj), .val (.int xf), .val (.int old), .unset] [.null])
  refine k_astore G X d1_71 (pc' := 73) rfl rfl (l' := #[.val (.ref ob), .val (.ref en), .val (.int xm), .val (.int xi), .val (.int xl), .val (.int xo), .val (.int xg), .val (.int xb), .val (.int xc), .val (.int xj), .val (.int xf), .val (.int old), .val .null]) rfl ?_
  refine k_aload G X d1_73 (pc' := 75) rfl rfl rfl ?_
  refine k_ifnull G X d1_75 (pc' := 88) rfl (by decide) (pc'' := 78) rfl rfl (fun c75 => ?_) (fun _ c75 => (absurd c75 (by simp)))
  refine k_aloadN G X d1_88 (pc' := 89) rfl rfl rfl ?_
  refine k_aloadN G X d1_89 (pc' := 90) rfl rfl rfl ?_
  refine k_putF G X (host := "") (Or.inl (w39 hw)) Via.refl F_encoding E (Or.inr ⟨(w40 hw), rfl, rfl⟩) (w7 hw) (ty := (.object "com/example/libinvariant/libinvariant/aiger/AigerEncoding")) (by decide) rfl rfl ge_ob d1_90 (pc' := 93) rfl (fun T h90 W90 X => ?_)
  replace S_BIN := S_BIN.wr W90
  replace E := E.wr W90
  replace F_encoding := F_encoding.same W90
  replace F_maxVariable := F_maxVariable.other W90 (Or.inr (slot_ne (Or.inr (w42 hw)) (Or.inr (w40 hw)) (by decide) (t := .int) (t' := (.object "com/example/libinvariant/libinvariant/aiger/AigerEncoding")) (by decide) (by decide)))
  replace F_inputs := F_inputs.other W90 (Or.inr (slot_ne (Or.inr (w44 hw)) (Or.inr (w40 hw)) (by decide) (t := .int) (t' := (.object "com/example/libinvariant/libinvariant/aiger/AigerEncoding")) (by decide) (by decide)))
  replace F_latches := F_latches.other W90 (Or.inr (slot_ne (Or.inr (w46 hw)) (Or.inr (w40 hw)) (by decide) (t := .int) (t' := (.object "com/example/libinvariant/libinvariant/aiger/AigerEncoding")) (by decide) (by decide)))
  replace F_outputs := F_outputs.other W90 (Or.inr (slot_ne (Or.inr (w48 hw)) (Or.inr (w40 hw)) (by decide) (t := .int) (t' := (.object "com/example/libinvariant/libinvariant/aiger/AigerEncoding")) (by decide) (by decide)))
  replace F_andGates := F_andGates.other W90 (Or.inr (slot_ne (Or.inr (w50 hw)) (Or.inr (w40 hw)) (by decide) (t := .int) (t' := (.object "com/example/libinvariant/libinvariant/aiger/AigerEncoding")) (by decide) (by decide)))
  replace F_badStates := F_badStates.other W90 (Or.inr (slot_ne (Or.inr (w52 hw)) (Or.inr (w40 hw)) (by decide) (t := .int) (t' := (.object "com/example/libinvariant/libinvariant/aiger/AigerEncoding")) (by decide) (by decide)))
  replace F_constraints := F_constraints.other W90 (Or.inr (slot_ne (Or.inr (w54 hw)) (Or.inr (w40 hw)) (by decide) (t := .int) (t' := (.object "com/example/libinvariant/libinvariant/aiger/AigerEncoding")) (by decide) (by decide)))
  replace F_justice := F_justice.other W90 (Or.inr (slot_ne (Or.inr (w56 hw)) (Or.inr (w40 hw)) (by decide) (t := .int) (t' := (.object "com/example/libinvariant/libinvariant/aiger/AigerEncoding")) (by decide) (by decide)))
  replace F_fairness := F_fairness.other W90 (Or.inr (slot_ne (Or.inr (w58 hw)) (Or.inr (w40 hw)) (by decide) (t := .int) (t' := (.object "com/example/libinvariant/libinvariant/aiger/AigerEncoding")) (by decide) (by decide)))
  replace F_olderForm := F_olderForm.other W90 (Or.inr (slot_ne (Or.inr (w60 hw)) (Or.inr (w40 hw)) (by decide) (t := .boolean) (t' := (.object "com/example/libinvariant/libinvariant/aiger/AigerEncoding")) (by decide) (by decide)))
  refine k_aloadN G X d1_93 (pc' := 94) rfl rfl rfl ?_
  refine k_iloadN G X d1_94 (pc' := 95) rfl rfl ?_
  refine k_putF G X (host := "") (Or.inl (w41 hw)) Via.refl F_maxVariable E (Or.inr ⟨(w42 hw), rfl, rfl⟩) (w7 hw) (ty := .int) (by decide) rfl rfl ge_ob d1_95 (pc' := 98) rfl (fun T h95 W95 X => ?_)
  replace S_BIN := S_BIN.wr W95
  replace E := E.wr W95
  replace F_maxVariable := F_maxVariable.same W95
  replace F_inputs := F_inputs.other W95 (Or.inr (slot_ne (Or.inr (w44 hw)) (Or.inr (w42 hw)) (by decide) (t := .int) (t' := .int) (by decide) (by decide)))
  replace F_latches := F_latches.other W95 (Or.inr (slot_ne (Or.inr (w46 hw)) (Or.inr (w42 hw)) (by decide) (t := .int) (t' := .int) (by decide) (by decide)))
  replace F_outputs := F_outputs.other W95 (Or.inr (slot_ne (Or.inr (w48 hw)) (Or.inr (w42 hw)) (by decide) (t := .int) (t' := .int) (by decide) (by decide)))
  replace F_andGates := F_andGates.other W95 (Or.inr (slot_ne (Or.inr (w50 hw)) (Or.inr (w42 hw)) (by decide) (t := .int) (t' := .int) (by decide) (by decide)))
  replace F_badStates := F_badStates.other W95 (Or.inr (slot_ne (Or.inr (w52 hw)) (Or.inr (w42 hw)) (by decide) (t := .int) (t' := .int) (by decide) (by decide)))
  replace F_constraints := F_constraints.other W95 (Or.inr (slot_ne (Or.inr (w54 hw)) (Or.inr (w42 hw)) (by decide) (t := .int) (t' := .int) (by decide) (by decide)))
  replace F_justice := F_justice.other W95 (Or.inr (slot_ne (Or.inr (w56 hw)) (Or.inr (w42 hw)) (by decide) (t := .int) (t' := .int) (by decide) (by decide)))
  replace F_fairness := F_fairness.other W95 (Or.inr (slot_ne (Or.inr (w58 hw)) (Or.inr (w42 hw)) (by decide) (t := .int) (t' := .int) (by decide) (by decide)))
  replace F_olderForm := F_olderForm.other W95 (Or.inr (slot_ne (Or.inr (w60 hw)) (Or.inr (w42 hw)) (by decide) (t := .boolean) (t' := .int) (by decide) (by decide)))
  refine k_aloadN G X d1_98 (pc' := 99) rfl rfl rfl ?_
  refine k_iloadN G X d1_99 (pc' := 100) rfl rfl ?_
  refine k_putF G X (host := "") (Or.inl (w43 hw)) Via.refl F_inputs E (Or.inr ⟨(w44 hw), rfl, rfl⟩) (w7 hw) (ty := .int) (by decide) rfl rfl ge_ob d1_100 (pc' := 103) rfl (fun T h100 W100 X => ?_)
  replace S_BIN := S_BIN.wr W100
  replace E := E.wr W100
  replace F_inputs := F_inputs.same W100
  replace F_latches := F_latches.other W100 (Or.inr (slot_ne (Or.inr (w46 hw)) (Or.inr (w44 hw)) (by decide) (t := .int) (t' := .int) (by decide) (by decide)))
  replace F_outputs := F_outputs.other W100 (Or.inr (slot_ne (Or.inr (w48 hw)) (Or.inr (w44 hw)) (by decide) (t := .int) (t' := .int) (by decide) (by decide)))
  replace F_andGates := F_andGates.other W100 (Or.inr (slot_ne (Or.inr (w50 hw)) (Or.inr (w44 hw)) (by decide) (t := .int) (t' := .int) (by decide) (by decide)))
  replace F_badStates := F_badStates.other W100 (Or.inr (slot_ne (Or.inr (w52 hw)) (Or.inr (w44 hw)) (by decide) (t := .int) (t' := .int) (by decide) (by decide)))
  replace F_constraints := F_constraints.other W100 (Or.inr (slot_ne (Or.inr (w54 hw)) (Or.inr (w44 hw)) (by decide) (t := .int) (t' := .int) (by decide) (by decide)))
  replace F_justice := F_justice.other W100 (Or.inr (slot_ne (Or.inr (w56 hw)) (Or.inr (w44 hw)) (by decide) (t := .int) (t' := .int) (by decide) (by decide)))
  replace F_fairness := F_fairness.other W100 (Or.inr (slot_ne (Or.inr (w58 hw)) (Or.inr (w44 hw)) (by decide) (t := .int) (t' := .int) (by decide) (by decide)))
  replace F_olderForm := F_olderForm.other W100 (Or.inr (slot_ne (Or.inr (w60 hw)) (Or.inr (w44 hw)) (by decide) (t := .boolean) (t' := .int) (by decide) (by decide)))
  refine k_aloadN G X d1_103 (pc' := 104) rfl rfl rfl ?_
  refine k_iload G X d1_104 (pc' := 106) rfl rfl ?_
  refine k_putF G X (host := "") (Or.inl (w45 hw)) Via.refl F_latches E (Or.inr ⟨(w46 hw), rfl, rfl⟩) (w7 hw) (ty := .int) (by decide) rfl rfl ge_ob d1_106 (pc' := 109) rfl (fun T h106 W106 X => ?_)
  replace S_BIN := S_BIN.wr W106
  replace E := E.wr W106
  replace F_latches := F_latches.same W106
  replace F_outputs := F_outputs.other W106 (Or.inr (slot_ne (Or.inr (w48 hw)) (Or.inr (w46 hw)) (by decide) (t := .int) (t' := .int) (by decide) (by decide)))
  replace F_andGates := F_andGates.other W106 (Or.inr (slot_ne (Or.inr (w50 hw)) (Or.inr (w46 hw)) (by decide) (t := .int) (t' := .int) (by decide) (by decide)))
  replace F_badStates := F_badStates.other W106 (Or.inr (slot_ne (Or.inr (w52 hw)) (Or.inr (w46 hw)) (by decide) (t := .int) (t' := .int) (by decide) (by decide)))
  replace F_constraints := F_constraints.other W106 (Or.inr (slot_ne (Or.inr (w54 hw)) (Or.inr (w46 hw)) (by decide) (t := .int) (t' := .int) (by decide) (by decide)))
  replace F_justice := F_justice.other W106 (Or.inr (slot_ne (Or.inr (w56 hw)) (Or.inr (w46 hw)) (by decide) (t := .int) (t' := .int) (by decide) (by decide)))
  replace F_fairness := F_fairness.other W106 (Or.inr (slot_ne (Or.inr (w58 hw)) (Or.inr (w46 hw)) (by decide) (t := .int) (t' := .int) (by decide) (by decide)))
  replace F_olderForm := F_olderForm.other W106 (Or.inr (slot_ne (Or.inr (w60 hw)) (Or.inr (w46 hw)) (by decide) (t := .boolean) (t' := .int) (by decide) (by decide)))
  refine k_aloadN G X d1_109 (pc' := 110) rfl rfl rfl ?_
  refine k_iload G X d1_110 (pc' := 112) rfl rfl ?_
  refine k_putF G X (host := "") (Or.inl (w47 hw)) Via.refl F_outputs E (Or.inr ⟨(w48 hw), rfl, rfl⟩) (w7 hw) (ty := .int) (by decide) rfl rfl ge_ob d1_112 (pc' := 115) rfl (fun T h112 W112 X => ?_)
  replace S_BIN := S_BIN.wr W112
  replace E := E.wr W112
  replace F_outputs := F_outputs.same W112
  replace F_andGates := F_andGates.other W112 (Or.inr (slot_ne (Or.inr (w50 hw)) (Or.inr (w48 hw)) (by decide) (t := .int) (t' := .int) (by decide) (by decide)))
  replace F_badStates := F_badStates.other W112 (Or.inr (slot_ne (Or.inr (w52 hw)) (Or.inr (w48 hw)) (by decide) (t := .int) (t' := .int) (by decide) (by decide)))
  replace F_constraints := F_constraints.other W112 (Or.inr (slot_ne (Or.inr (w54 hw)) (Or.inr (w48 hw)) (by decide) (t := .int) (t' := .int) (by decide) (by decide)))
  replace F_justice := F_justice.other W112 (Or.inr (slot_ne (Or.inr (w56 hw)) (Or.inr (w48 hw)) (by decide) (t := .int) (t' := .int) (by decide) (by decide)))
  replace F_fairness := F_fairness.other W112 (Or.inr (slot_ne (Or.inr (w58 hw)) (Or.inr (w48 hw)) (by decide) (t := .int) (t' := .int) (by decide) (by decide)))
  replace F_olderForm := F_olderForm.other W112 (Or.inr (slot_ne (Or.inr (w60 hw)) (Or.inr (w48 hw)) (by decide) (t := .boolean) (t' := .int) (by decide) (by decide)))
  refine k_aloadN G X d1_115 (pc' := 116) rfl rfl rfl ?_
  refine k_iload G X d1_116 (pc' := 118) rfl rfl ?_
  refine k_putF G X (host := "") (Or.inl (w49 hw)) Via.refl F_andGates E (Or.inr ⟨(w50 hw), rfl, rfl⟩) (w7 hw) (ty := .int) (by decide) rfl rfl ge_ob d1_118 (pc' := 121) rfl (fun T h118 W118 X => ?_)
  replace S_BIN := S_BIN.wr W118
  replace E := E.wr W118
  replace F_outputs := F_outputs.other W118 (Or.inr (slot_ne (Or.inr (w48 hw)) (Or.inr (w50 hw)) (by decide) (t := .int) (t' := .int) (by decide) (by decide)))
  replace F_andGates := F_andGates.same W118
  replace F_badStates := F_badStates.other W118 (Or.inr (slot_ne (Or.inr (w52 hw)) (Or.inr (w50 hw)) (by decide) (t := .int) (t' := .int) (by decide) (by decide)))
  replace F_constraints := F_constraints.other W118 (Or.inr (slot_ne (Or.inr (w54 hw)) (Or.inr (w50 hw)) (by decide) (t := .int) (t' := .int) (by decide) (by decide)))
  replace F_justice := F_justice.other W118 (Or.inr (slot_ne (Or.inr (w56 hw)) (Or.inr (w50 hw)) (by decide) (t := .int) (t' := .int) (by decide) (by decide)))
  replace F_fairness := F_fairness.other W118 (Or.inr (slot_ne (Or.inr (w58 hw)) (Or.inr (w50 hw)) (by decide) (t := .int) (t' := .int) (by decide) (by decide)))
  replace F_olderForm := F_olderForm.other W118 (Or.inr (slot_ne (Or.inr (w60 hw)) (Or.inr (w50 hw)) (by decide) (t := .boolean) (t' := .int) (by decide) (by decide)))
  refine k_aloadN G X d1_121 (pc' := 122) rfl rfl rfl ?_
  refine k_iload G X d1_122 (pc' := 124) rfl rfl ?_
  refine k_putF G X (host := "") (Or.inl (w51 hw)) Via.refl F_badStates E (Or.inr ⟨(w52 hw), rfl, rfl⟩) (w7 hw) (ty := .int) (by decide) rfl rfl ge_ob d1_124 (pc' := 127) rfl (fun T h124 W124 X => ?_)
  replace S_BIN := S_BIN.wr W124
  replace E := E.wr W124
  replace F_outputs := F_outputs.other W124 (Or.inr (slot_ne (Or.inr (w48 hw)) (Or.inr (w52 hw)) (by decide) (t := .int) (t' := .int) (by decide) (by decide)))
  replace F_badStates := F_badStates.same W124
  replace F_constraints := F_constraints.other W124 (Or.inr (slot_ne (Or.inr (w54 hw)) (Or.inr (w52 hw)) (by decide) (t := .int) (t' := .int) (by decide) (by decide)))
  replace F_justice := F_justice.other W124 (Or.inr (slot_ne (Or.inr (w56 hw)) (Or.inr (w52 hw)) (by decide) (t := .int) (t' := .int) (by decide) (by decide)))
  replace F_fairness := F_fairness.other W124 (Or.inr (slot_ne (Or.inr (w58 hw)) (Or.inr (w52 hw)) (by decide) (t := .int) (t' := .int) (by decide) (by decide)))
  replace F_olderForm := F_olderForm.other W124 (Or.inr (slot_ne (Or.inr (w60 hw)) (Or.inr (w52 hw)) (by decide) (t := .boolean) (t' := .int) (by decide) (by decide)))
  refine k_aloadN G X d1_127 (pc' := 128) rfl rfl rfl ?_
  refine k_iload G X d1_128 (pc' := 130) rfl rfl ?_
  refine k_putF G X (host := "") (Or.inl (w53 hw)) Via.refl F_constraints E (Or.inr ⟨(w54 hw), rfl, rfl⟩) (w7 hw) (ty := .int) (by decide) rfl rfl ge_ob d1_130 (pc' := 133) rfl (fun T h130 W130 X => ?_)
  replace S_BIN := S_BIN.wr W130
  replace E := E.wr W130
  replace F_outputs := F_outputs.other W130 (Or.inr (slot_ne (Or.inr (w48 hw)) (Or.inr (w54 hw)) (by decide) (t := .int) (t' := .int) (by decide) (by decide)))
  replace F_badStates := F_badStates.other W130 (Or.inr (slot_ne (Or.inr (w52 hw)) (Or.inr (w54 hw)) (by decide) (t := .int) (t' := .int) (by decide) (by decide)))
  replace F_constraints := F_constraints.same W130
  replace F_justice := F_justice.other W130 (Or.inr (slot_ne (Or.inr (w56 hw)) (Or.inr (w54 hw)) (by decide) (t := .int) (t' := .int) (by decide) (by decide)))
  replace F_fairness := F_fairness.other W130 (Or.inr (slot_ne (Or.inr (w58 hw)) (Or.inr (w54 hw)) (by decide) (t := .int) (t' := .int) (by decide) (by decide)))
  replace F_olderForm := F_olderForm.other W130 (Or.inr (slot_ne (Or.inr (w60 hw)) (Or.inr (w54 hw)) (by decide) (t := .boolean) (t' := .int) (by decide) (by decide)))
  refine k_aloadN G X d1_133 (pc' := 134) rfl rfl rfl ?_
  refine k_iload G X d1_134 (pc' := 136) rfl rfl ?_
  refine k_putF G X (host := "") (Or.inl (w55 hw)) Via.refl F_justice E (Or.inr ⟨(w56 hw), rfl, rfl⟩) (w7 hw) (ty := .int) (by decide) rfl rfl ge_ob d1_136 (pc' := 139) rfl (fun T h136 W136 X => ?_)
  replace S_BIN := S_BIN.wr W136
  replace E := E.wr W136
  replace F_outputs := F_outputs.other W136 (Or.inr (slot_ne (Or.inr (w48 hw)) (Or.inr (w56 hw)) (by decide) (t := .int) (t' := .int) (by decide) (by decide)))
  replace F_badStates := F_badStates.other W136 (Or.inr (slot_ne (Or.inr (w52 hw)) (Or.inr (w56 hw)) (by decide) (t := .int) (t' := .int) (by decide) (by decide)))
  replace F_justice := F_justice.same W136
  replace F_fairness := F_fairness.other W136 (Or.inr (slot_ne (Or.inr (w58 hw)) (Or.inr (w56 hw)) (by decide) (t := .int) (t' := .int) (by decide) (by decide)))
  replace F_olderForm := F_olderForm.other W136 (Or.inr (slot_ne (Or.inr (w60 hw)) (Or.inr (w56 hw)) (by decide) (t := .boolean) (t' := .int) (by decide) (by decide)))
  refine k_aloadN G X d1_139 (pc' := 140) rfl rfl rfl ?_
  refine k_iload G X d1_140 (pc' := 142) rfl rfl ?_
  refine k_putF G X (host := "") (Or.inl (w57 hw)) Via.refl F_fairness E (Or.inr ⟨(w58 hw), rfl, rfl⟩) (w7 hw) (ty := .int) (by decide) rfl rfl ge_ob d1_142 (pc' := 145) rfl (fun T h142 W142 X => ?_)
  replace S_BIN := S_BIN.wr W142
  replace E := E.wr W142
  replace F_outputs := F_outputs.other W142 (Or.inr (slot_ne (Or.inr (w48 hw)) (Or.inr (w58 hw)) (by decide) (t := .int) (t' := .int) (by decide) (by decide)))
  replace F_badStates := F_badStates.other W142 (Or.inr (slot_ne (Or.inr (w52 hw)) (Or.inr (w58 hw)) (by decide) (t := .int) (t' := .int) (by decide) (by decide)))
  replace F_fairness := F_fairness.same W142
  replace F_olderForm := F_olderForm.other W142 (Or.inr (slot_ne (Or.inr (w60 hw)) (Or.inr (w58 hw)) (by decide) (t := .boolean) (t' := .int) (by decide) (by decide)))
  refine k_aloadN G X d1_145 (pc' := 146) rfl rfl rfl ?_
  refine k_iload G X d1_146 (pc' := 148) rfl rfl ?_
  refine k_putFN G X (w59 hw) Via.refl F_olderForm E (Or.inr ⟨(w60 hw), rfl, rfl⟩) (w7 hw) (ty := .boolean) (v' := (.int old)) (by decide) (by rcases hold with rfl | rfl <;> rfl) (by rcases hold with rfl | rfl <;> rfl) ge_ob d1_148 (pc' := 151) rfl (fun T h148 W148 X => ?_)
  replace S_BIN := S_BIN.wr W148
  replace E := E.wr W148
  replace F_outputs := F_outputs.other W148 (Or.inr (slot_ne (Or.inr (w48 hw)) (Or.inr (w60 hw)) (by decide) (t := .int) (t' := .boolean) (by decide) (by decide)))
  replace F_badStates := F_badStates.other W148 (Or.inr (slot_ne (Or.inr (w52 hw)) (Or.inr (w60 hw)) (by decide) (t := .int) (t' := .boolean) (by decide) (by decide)))
  replace F_olderForm := F_olderForm.same W148
  refine k_retv G X d1_151 rfl ?_ (by decide) (by decide)
  exact ⟨rfl, E, F_outputs, F_badStates, F_olderForm⟩
theorem pn_0 : plainFor (⟨"com/example/libinvariant/libinvariant/aiger/AigerHeaderBadStatePropertiesPinLaw", "law", "(IIIIII)Z"⟩ : MethodName) = true := plainFor_of_name (by first | (simp [plainName, overriddenIn]; done) | decide +kernel)
set_option maxRecDepth 65536 in
set_option maxHeartbeats 40000000 in
theorem rm0 {Z : State} {a0 : Array Value} (hw : HW a0 Z) (p0 p1 p2 p3 p4 p5 : Int32) (aA aB : Addr) (h0 : Heap) (n0 : Nat) (O : Old Z n0 h0) (S_BIN : Sta Z h0 "com/example/libinvariant/libinvariant/aiger/AigerEncoding" "BINARY" "Lcom/example/libinvariant/libinvariant/aiger/AigerEncoding;" (.ref aB)) (S_ASC : Sta Z h0 "com/example/libinvariant/libinvariant/aiger/AigerEncoding" "ASCII" "Lcom/example/libinvariant/libinvariant/aiger/AigerEncoding;" (.ref aA)) (ne_AB : aA ≠ aB) :
    MetW Z x code maxLocals ret tables_1 room_1 #[(.int p0), (.int p1), (.int p2), (.int p3), (.int p4), (.int p5)] h0 n0 (fun v h => v = some (.int 1)) := by
  refine k_body (f := (fun m => mkF m 0 #[.val (.int p0), .val (.int p1), .val (.int p2), .val (.int p3), .val (.int p4), .val (.int p5), .unset, .unset, .unset, .unset, .unset, .unset, .unset, .unset, .unset, .unset, .unset, .unset, .unset, .unset] [])) pn_0 (fun m => by first | (simp [entryFrame, mkF, argsToLocals, Value.category, maxLocals]; done) | rfl) ?_
  intro Γ T G X
  show Go Γ n0 _ T (mkF Γ.m 0 #[.val (.int p0), .val (.int p1), .val (.int p2), .val (.int p3), .val (.int p4), .val (.int p5), .unset, .unset, .unset, .unset, .unset, .unset, .unset, .unset, .unset, .unset, .unset, .unset, .unset, .unset] [])
  refine k_iloadN G X at_0 (pc' := 1) rfl rfl ?_
  refine k_iconst G X at_1 (pc' := 2) rfl (z := (1 : Int32)) (by decide) ?_
  obtain ⟨v1, q_v1⟩ : ∃ z, (p0 &&& (1 : Int32)) = z := ⟨_, rfl⟩
  refine k_iand G X at_2 (pc' := 3) rfl q_v1 ?_
  have n_v1 := and_rng p0 (m := (1 : Int32)) 1 rfl (by decide)
  rw [q_v1] at n_v1
  refine k_if_eq G X at_3 (pc' := 10) rfl (by decide) (pc'' := 6) rfl (fun c3 => ?_) (fun c3 => ?_)
  · refine k_iconst G X at_10 (pc' := 11) rfl (z := (0 : Int32)) (by decide) ?_
    refine k_istore G X at_11 (pc' := 13) rfl (l' := #[.val (.int p0), .val (.int p1), .val (.int p2), .val (.int p3), .val (.int p4), .val (.int p5), .val (.int (0 : Int32)), .unset, .unset, .unset, .unset, .unset, .unset, .unset, .unset, .unset, .unset, .unset, .unset, .unset]) rfl ?_
    refine k_iloadN G X at_13 (pc' := 14) rfl rfl ?_
    refine k_iconst G X at_14 (pc' := 15) rfl (z := (2 : Int32)) (by decide) ?_
    obtain ⟨v2, q_v2⟩ : ∃ z, (p0 &&& (2 : Int32)) = z := ⟨_, rfl⟩
    refine k_iand G X at_15 (pc' := 16) rfl q_v2 ?_
    have n_v2 := and_rng p0 (m := (2 : Int32)) 2 rfl (by decide)
    rw [q_v2] at n_v2
    refine k_if_eq G X at_16 (pc' := 23) rfl (by decide) (pc'' := 19) rfl (fun c16 => ?_) (fun c16 => ?_)
    · refine k_iconst G X at_23 (pc' := 24) rfl (z := (0 : Int32)) (by decide) ?_
      refine k_istore G X at_24 (pc' := 26) rfl (l' := #[.val (.int p0), .val (.int p1), .val (.int p2), .val (.int p3), .val (.int p4), .val (.int p5), .val (.int (0 : Int32)), .val (.int (0 : Int32)), .unset, .unset, .unset, .unset, .unset, .unset, .unset, .unset, .unset, .unset, .unset, .unset]) rfl ?_
      refine k_iload G X at_26 (pc' := 28) rfl rfl ?_
      refine k_if_eq G X at_28 (pc' := 37) rfl (by decide) (pc'' := 31) rfl (fun c28 => ?_) (fun c28 => (absurd c28 (by decide)))
      refine k_getS G X (host := "") (Or.inl (w0 hw)) Via.refl S_ASC at_37 (pc' := 40) rfl (fun T X => ?_)
      refine k_astore G X at_40 (pc' := 42) rfl rfl (l' := #[.val (.int p0), .val (.int p1), .val (.int p2), .val (.int p3), .val (.int p4), .val (.int p5), .val (.int (0 : Int32)), .val (.int (0 : Int32)), .val (.ref aA), .unset, .unset, .unset, .unset, .unset, .unset, .unset, .unset, .unset, .unset, .unset]) rfl ?_
      refine k_iloadN G X at_42 (pc' := 43) rfl rfl ?_
      refine k_ldcI G X (w3 hw) at_43 (pc' := 45) rfl ?_
      obtain ⟨v3, q_v3⟩ : ∃ z, (p3 &&& (1048575 : Int32)) = z := ⟨_, rfl⟩
      refine k_iand G X at_45 (pc' := 46) rfl q_v3 ?_
      have n_v3 := and_rng p3 (m := (1048575 : Int32)) 1048575 rfl (by decide)
      rw [q_v3] at n_v3
      refine k_istore G X at_46 (pc' := 48) rfl (l' := #[.val (.int p0), .val (.int p1), .val (.int p2), .val (.int p3), .val (.int p4), .val (.int p5), .val (.int (0 : Int32)), .val (.int (0 : Int32)), .val (.ref aA), .val (.int v3), .unset, .unset, .unset, .unset, .unset, .unset, .unset, .unset, .unset, .unset]) rfl ?_
      refine k_iload G X at_48 (pc' := 50) rfl rfl ?_
      refine k_ldcI G X (w4 hw) at_50 (pc' := 52) rfl ?_
      obtain ⟨v4, q_v4⟩ : ∃ z, (p4 &&& (268435455 : Int32)) = z := ⟨_, rfl⟩
      refine k_iand G X at_52 (pc' := 53) rfl q_v4 ?_
      have n_v4 := and_rng p4 (m := (268435455 : Int32)) 268435455 rfl (by decide)
      rw [q_v4] at n_v4
      refine k_istore G X at_53 (pc' := 55) rfl (l' := #[.val (.int p0), .val (.int p1), .val (.int p2), .val (.int p3), .val (.int p4), .val (.int p5), .val (.int (0 : Int32)), .val (.int (0 : Int32)), .val (.ref aA), .val (.int v3), .val (.int v4), .unset, .unset, .unset, .unset, .unset, .unset, .unset, .unset, .unset]) rfl ?_
      refine k_iload G X at_55 (pc' := 57) rfl rfl ?_
      refine k_ldcI G X (w4 hw) at_57 (pc' := 59) rfl ?_
      obtain ⟨v5, q_v5⟩ : ∃ z, (p5 &&& (268435455 : Int32)) = z := ⟨_, rfl⟩
      refine k_iand G X at_59 (pc' := 60) rfl q_v5 ?_
      have n_v5 := and_rng p5 (m := (268435455 : Int32)) 268435455 rfl (by decide)
      rw [q_v5] at n_v5
      refine k_istore G X at_60 (pc' := 62) rfl (l' := #[.val (.int p0), .val (.int p1), .val (.int p2), .val (.int p3), .val (.int p4), .val (.int p5), .val (.int (0 : Int32)), .val (.int (0 : Int32)), .val (.ref aA), .val (.int v3), .val (.int v4), .val (.int v5), .unset, .unset, .unset, .unset, .unset, .unset, .unset, .unset]) rfl ?_
      refine k_iload G X at_62 (pc' := 64) rfl rfl ?_
      refine k_iload G X at_64 (pc' := 66) rfl rfl ?_
      obtain ⟨v6, q_v6⟩ : ∃ z, (v3 + v4) = z := ⟨_, rfl⟩
      refine k_iadd G X at_66 (pc' := 67) rfl q_v6 ?_
      have n_v6 := c_iadd v3 v4
      rw [q_v6] at n_v6
      have r_v6 := rgI v6
      refine k_iload G X at_67 (pc' := 69) rfl rfl ?_
      obtain ⟨v7, q_v7⟩ : ∃ z, (v6 + v5) = z := ⟨_, rfl⟩
      refine k_iadd G X at_69 (pc' := 70) rfl q_v7 ?_
      have n_v7 := c_iadd v6 v5
      rw [q_v7] at n_v7
      have r_v7 := rgI v7
      refine k_istore G X at_70 (pc' := 72) rfl (l' := #[.val (.int p0), .val (.int p1), .val (.int p2), .val (.int p3), .val (.int p4), .val (.int p5), .val (.int (0 : Int32)), .val (.int (0 : Int32)), .val (.ref aA), .val (.int v3), .val (.int v4), .val (.int v5), .val (.int v7), .unset, .unset, .unset, .unset, .unset, .unset, .unset]) rfl ?_
      refine k_iloadN G X at_72 (pc' := 73) rfl rfl ?_
      refine k_iconst G X at_73 (pc' := 74) rfl (z := (2 : Int32)) (by decide) ?_
      obtain ⟨v8, q_v8⟩ : ∃ z, ((p0.toUInt32 >>> ((2 : Int32) &&& 31).toUInt32).toInt32) = z := ⟨_, rfl⟩
      refine k_iushr G X at_74 (pc' := 75) rfl q_v8 ?_
      have n_v8 := c_iushr p0 (2 : Int32) 2 rfl (by decide)
      rw [q_v8] at n_v8
      refine k_ldcI G X (w4 hw) at_75 (pc' := 77) rfl ?_
      obtain ⟨v9, q_v9⟩ : ∃ z, (v8 &&& (268435455 : Int32)) = z := ⟨_, rfl⟩
      refine k_iand G X at_77 (pc' := 78) rfl q_v9 ?_
      have n_v9 := and_rng v8 (m := (268435455 : Int32)) 268435455 rfl (by decide)
      rw [q_v9] at n_v9
      refine k_istore G X at_78 (pc' := 80) rfl (l' := #[.val (.int p0), .val (.int p1), .val (.int p2), .val (.int p3), .val (.int p4), .val (.int p5), .val (.int (0 : Int32)), .val (.int (0 : Int32)), .val (.ref aA), .val (.int v3), .val (.int v4), .val (.int v5), .val (.int v7), .val (.int v9), .unset, .unset, .unset, .unset, .unset, .unset]) rfl ?_
      refine k_iload G X at_80 (pc' := 82) rfl rfl ?_
      refine k_if_eq G X at_82 (pc' := 90) rfl (by decide) (pc'' := 85) rfl (fun c82 => ?_) (fun c82 => (absurd c82 (by decide)))
      refine k_iload G X at_90 (pc' := 92) rfl rfl ?_
      refine k_iload G X at_92 (pc' := 94) rfl rfl ?_
      obtain ⟨v10, q_v10⟩ : ∃ z, (v7 + v9) = z := ⟨_, rfl⟩
      refine k_iadd G X at_94 (pc' := 95) rfl q_v10 ?_
      have n_v10 := c_iadd v7 v9
      rw [q_v10] at n_v10
      have r_v10 := rgI v10
      refine k_istore G X at_95 (pc' := 97) rfl (l' := #[.val (.int p0), .val (.int p1), .val (.int p2), .val (.int p3), .val (.int p4), .val (.int p5), .val (.int (0 : Int32)), .val (.int (0 : Int32)), .val (.ref aA), .val (.int v3), .val (.int v4), .val (.int v5), .val (.int v7), .val (.int v9), .val (.int v10), .unset, .unset, .unset, .unset, .unset]) rfl ?_
      refine k_iloadN G X at_97 (pc' := 98) rfl rfl ?_
      refine k_ldcI G X (w5 hw) at_98 (pc' := 100) rfl ?_
      obtain ⟨v11, q_v11⟩ : ∃ z, (p1 &&& (2147483647 : Int32)) = z := ⟨_, rfl⟩
      refine k_iand G X at_100 (pc' := 101) rfl q_v11 ?_
      have n_v11 := and_rng p1 (m := (2147483647 : Int32)) 2147483647 rfl (by decide)
      rw [q_v11] at n_v11
      refine k_istore G X at_101 (pc' := 103) rfl (l' := #[.val (.int p0), .val (.int p1), .val (.int p2), .val (.int p3), .val (.int p4), .val (.int p5), .val (.int (0 : Int32)), .val (.int (0 : Int32)), .val (.ref aA), .val (.int v3), .val (.int v4), .val (.int v5), .val (.int v7), .val (.int v9), .val (.int v10), .val (.int v11), .unset, .unset, .unset, .unset]) rfl ?_
      refine k_iload G X at_103 (pc' := 105) rfl rfl ?_
      refine k_if_eq G X at_105 (pc' := 112) rfl (by decide) (pc'' := 108) rfl (fun c105 => ?_) (fun c105 => (absurd c105 (by decide)))
      refine k_iloadN G X at_112 (pc' := 113) rfl rfl ?_
      refine k_ldcI G X (w5 hw) at_113 (pc' := 115) rfl ?_
      obtain ⟨v12, q_v12⟩ : ∃ z, (p2 &&& (2147483647 : Int32)) = z := ⟨_, rfl⟩
      refine k_iand G X at_115 (pc' := 116) rfl q_v12 ?_
      have n_v12 := and_rng p2 (m := (2147483647 : Int32)) 2147483647 rfl (by decide)
      rw [q_v12] at n_v12
      refine k_istore G X at_116 (pc' := 118) rfl (l' := #[.val (.int p0), .val (.int p1), .val (.int p2), .val (.int p3), .val (.int p4), .val (.int p5), .val (.int (0 : Int32)), .val (.int (0 : Int32)), .val (.ref aA), .val (.int v3), .val (.int v4), .val (.int v5), .val (.int v7), .val (.int v9), .val (.int v10), .val (.int v11), .val (.int v12), .unset, .unset, .unset]) rfl ?_
      refine k_iload G X at_118 (pc' := 120) rfl rfl ?_
      refine k_if_eq G X at_120 (pc' := 127) rfl (by decide) (pc'' := 123) rfl (fun c120 => ?_) (fun c120 => (absurd c120 (by decide)))
      refine k_iloadN G X at_127 (pc' := 128) rfl rfl ?_
      refine k_iloadN G X at_128 (pc' := 129) rfl rfl ?_
      obtain ⟨v13, q_v13⟩ : ∃ z, (p1 ^^^ p2) = z := ⟨_, rfl⟩
      refine k_ixor G X at_129 (pc' := 130) rfl q_v13 ?_
      refine k_ldcI G X (w5 hw) at_130 (pc' := 132) rfl ?_
      obtain ⟨v14, q_v14⟩ : ∃ z, (v13 &&& (2147483647 : Int32)) = z := ⟨_, rfl⟩
      refine k_iand G X at_132 (pc' := 133) rfl q_v14 ?_
      have n_v14 := and_rng v13 (m := (2147483647 : Int32)) 2147483647 rfl (by decide)
      rw [q_v14] at n_v14
      refine k_istore G X at_133 (pc' := 135) rfl (l' := #[.val (.int p0), .val (.int p1), .val (.int p2), .val (.int p3), .val (.int p4), .val (.int p5), .val (.int (0 : Int32)), .val (.int (0 : Int32)), .val (.ref aA), .val (.int v3), .val (.int v4), .val (.int v5), .val (.int v7), .val (.int v9), .val (.int v10), .val (.int v11), .val (.int v12), .val (.int v14), .unset, .unset]) rfl ?_
      refine k_new G X (w6 hw) (w7 hw) (w8 hw) at_135 (pc' := 138) rfl (by decide) (by decide) (fun T h135 b135 s_b135 E135 X_b135 D135 X => ?_)
      have ge_b135 : n0 ≤ b135 := by have := Jvm.OwnK.Old_le O; omega
      replace S_BIN := S_BIN.ext E135
      replace S_ASC := S_ASC.ext E135
      replace O := O.ext E135
      have F_b135_encoding : Fld Z h135 b135 "com/example/libinvariant/libinvariant/aiger/AigerHeader" "encoding" "Lcom/example/libinvariant/libinvariant/aiger/AigerEncoding;" .null := D135 (Or.inr (w40 hw)) (ty := (.object "com/example/libinvariant/libinvariant/aiger/AigerEncoding")) (by decide)
      have F_b135_maxVariable : Fld Z h135 b135 "com/example/libinvariant/libinvariant/aiger/AigerHeader" "maxVariable" "I" (.int (0 : Int32)) := D135 (Or.inr (w42 hw)) (ty := .int) (by decide)
      have F_b135_inputs : Fld Z h135 b135 "com/example/libinvariant/libinvariant/aiger/AigerHeader" "inputs" "I" (.int (0 : Int32)) := D135 (Or.inr (w44 hw)) (ty := .int) (by decide)
      have F_b135_latches : Fld Z h135 b135 "com/example/libinvariant/libinvariant/aiger/AigerHeader" "latches" "I" (.int (0 : Int32)) := D135 (Or.inr (w46 hw)) (ty := .int) (by decide)
      have F_b135_outputs : Fld Z h135 b135 "com/example/libinvariant/libinvariant/aiger/AigerHeader" "outputs" "I" (.int (0 : Int32)) := D135 (Or.inr (w48 hw)) (ty := .int) (by decide)
      have F_b135_andGates : Fld Z h135 b135 "com/example/libinvariant/libinvariant/aiger/AigerHeader" "andGates" "I" (.int (0 : Int32)) := D135 (Or.inr (w50 hw)) (ty := .int) (by decide)
      have F_b135_badStates : Fld Z h135 b135 "com/example/libinvariant/libinvariant/aiger/AigerHeader" "badStates" "I" (.int (0 : Int32)) := D135 (Or.inr (w52 hw)) (ty := .int) (by decide)
      have F_b135_constraints : Fld Z h135 b135 "com/example/libinvariant/libinvariant/aiger/AigerHeader" "constraints" "I" (.int (0 : Int32)) := D135 (Or.inr (w54 hw)) (ty := .int) (by decide)
      have F_b135_justice : Fld Z h135 b135 "com/example/libinvariant/libinvariant/aiger/AigerHeader" "justice" "I" (.int (0 : Int32)) := D135 (Or.inr (w56 hw)) (ty := .int) (by decide)
      have F_b135_fairness : Fld Z h135 b135 "com/example/libinvariant/libinvariant/aiger/AigerHeader" "fairness" "I" (.int (0 : Int32)) := D135 (Or.inr (w58 hw)) (ty := .int) (by decide)
      have F_b135_olderForm : Fld Z h135 b135 "com/example/libinvariant/libinvariant/aiger/AigerHeader" "olderForm" "Z" (.int (0 : Int32)) := D135 (Or.inr (w60 hw)) (ty := .boolean) (by decide)
      refine k_dup G X at_138 (pc' := 139) rfl rfl ?_
      refine k_aload G X at_139 (pc' := 141) rfl rfl rfl ?_
      refine k_iload G X at_141 (pc' := 143) rfl rfl ?_
      refine k_iload G X at_143 (pc' := 145) rfl rfl ?_
      refine k_iload G X at_145 (pc' := 147) rfl rfl ?_
      refine k_iload G X at_147 (pc' := 149) rfl rfl ?_
      refine k_iload G X at_149 (pc' := 151) rfl rfl ?_
      refine k_iload G X at_151 (pc' := 153) rfl rfl ?_
      refine k_iload G X at_153 (pc' := 155) rfl rfl ?_
      refine k_iload G X at_155 (pc' := 157) rfl rfl ?_
      refine k_iload G X at_157 (pc' := 159) rfl rfl ?_
      refine k_iload G X at_159 (pc' := 161) rfl rfl ?_
      refine k_callI G X (argsL := [(.ref aA), (.int v10), (.int v3), (.int v4), (.int v11), (.int v5), (.int v12), (.int v14), (.int v14), (.int v14), (.int (0 : Int32))]) (rest := [(.ref b135)]) rfl rfl (w9 hw) (w10 hw) (w8 hw) (w11 hw) (by decide) (rm1 hw b135 aA aB v10 v3 v4 v11 v5 v12 v14 v14 v14 (0 : Int32) h135 n0 ge_b135 X_b135 F_b135_encoding F_b135_maxVariable F_b135_inputs F_b135_latches F_b135_outputs F_b135_andGates F_b135_badStates F_b135_constraints F_b135_justice F_b135_fairness F_b135_olderForm S_BIN (by omega) (by omega) (by omega) (fun h => absurd h ne_AB) (Or.inl rfl) (Or.inl rfl) (by omega) (by omega) (by omega) (by omega) (by omega) (by omega) (by omega) (by omega) (by omega)) at_161 pd3 rfl (pc' := 164) rfl rfl (wd := 1) rfl (by decide) (by decide) (by decide) (by decide) (fun T h161 v X q => ?_)
      obtain ⟨rfl, E_ob, F_out, F_bad, F_old⟩ := q
      show Go Γ n0 _ T (mkF Γ.m 164 #[.val (.int p0), .val (.int p1), .val (.int p2), .val (.int p3), .val (.int p4), .val (.int p5), .val (.int (0 : Int32)), .val (.int (0 : Int32)), .val (.ref aA), .val (.int v3), .val (.int v4), .val (.int v5), .val (.int v7), .val (.int v9), .val (.int v10), .val (.int v11), .val (.int v12), .val (.int v14), .unset, .unset] [(.ref b135)])
      refine k_astore G X at_164 (pc' := 166) rfl rfl (l' := #[.val (.int p0), .val (.int p1), .val (.int p2), .val (.int p3), .val (.int p4), .val (.int p5), .val (.int (0 : Int32)), .val (.int (0 : Int32)), .val (.ref aA), .val (.int v3), .val (.int v4), .val (.int v5), .val (.int v7), .val (.int v9), .val (.int v10), .val (.int v11), .val (.int v12), .val (.int v14), .val (.ref b135), .unset]) rfl ?_
      refine k_iload G X at_166 (pc' := 168) rfl rfl ?_
      refine k_if_eq G X at_168 (pc' := 176) rfl (by decide) (pc'' := 171) rfl (fun c168 => ?_) (fun c168 => (absurd c168 (by decide)))
      refine k_iload G X at_176 (pc' := 178) rfl rfl ?_
      refine k_istore G X at_178 (pc' := 180) rfl (l' := #[.val (.int p0), .val (.int p1), .val (.int p2), .val (.int p3), .val (.int p4), .val (.int p5), .val (.int (0 : Int32)), .val (.int (0 : Int32)), .val (.ref aA), .val (.int v3), .val (.int v4), .val (.int v5), .val (.int v7), .val (.int v9), .val (.int v10), .val (.int v11), .val (.int v12), .val (.int v14), .val (.ref b135), .val (.int v12)]) rfl ?_
      refine k_aload G X at_180 (pc' := 182) rfl rfl rfl ?_
      refine k_callV G X (argsL := []) (rest := []) rfl E_ob (w61 hw) (w62 hw) (nf_sel (w64 hw)) (w64 hw) (w63 hw) (w8 hw) (w65 hw) (by decide) (rm6_0 hw b135 v11 v12 h161 n0 F_old F_out F_bad) at_182 pd4 rfl (pc' := 185) rfl rfl (wd := 0) rfl (by decide) (by decide) (by decide) (by decide) (fun T h182 v X q => ?_)
      obtain ⟨rfl, e182⟩ := q
      replace X := X.eq e182
      show Go Γ n0 _ T (mkF Γ.m 185 #[.val (.int p0), .val (.int p1), .val (.int p2), .val (.int p3), .val (.int p4), .val (.int p5), .val (.int (0 : Int32)), .val (.int (0 : Int32)), .val (.ref aA), .val (.int v3), .val (.int v4), .val (.int v5), .val (.int v7), .val (.int v9), .val (.int v10), .val (.int v11), .val (.int v12), .val (.int v14), .val (.ref b135), .val (.int v12)] [(.int v12)])
      refine k_iload G X at_185 (pc' := 187) rfl rfl ?_
      refine k_icmp_ne G X at_187 (pc' := 194) rfl (by decide) (pc'' := 190) rfl (fun c187 => (absurd c187 (by simp))) (fun c187 => ?_)
      refine k_iconst G X at_190 (pc' := 191) rfl (z := (1 : Int32)) (by decide) ?_
      refine k_goto G X at_191 (by decide) (pc' := 195) rfl ?_
      refine k_retb G X at_195 (t := .boolean) rfl (by simp) rfl ?_ (by decide) (by decide)
      rfl
    · refine k_iconst G X at_19 (pc' := 20) rfl (z := (1 : Int32)) (by decide) ?_
      refine k_goto G X at_20 (by decide) (pc' := 24) rfl ?_
      refine k_istore G X at_24 (pc' := 26) rfl (l' := #[.val (.int p0), .val (.int p1), .val (.int p2), .val (.int p3), .val (.int p4), .val (.int p5), .val (.int (0 : Int32)), .val (.int (1 : Int32)), .unset, .unset, .unset, .unset, .unset, .unset, .unset, .unset, .unset, .unset, .unset, .unset]) rfl ?_
      refine k_iload G X at_26 (pc' := 28) rfl rfl ?_
      refine k_if_eq G X at_28 (pc' := 37) rfl (by decide) (pc'' := 31) rfl (fun c28 => (absurd c28 (by decide))) (fun c28 => ?_)
      refine k_getS G X (host := "") (Or.inl (w66 hw)) Via.refl S_BIN at_31 (pc' := 34) rfl (fun T X => ?_)
      refine k_goto G X at_34 (by decide) (pc' := 40) rfl ?_
      refine k_astore G X at_40 (pc' := 42) rfl rfl (l' := #[.val (.int p0), .val (.int p1), .val (.int p2), .val (.int p3), .val (.int p4), .val (.int p5), .val (.int (0 : Int32)), .val (.int (1 : Int32)), .val (.ref aB), .unset, .unset, .unset, .unset, .unset, .unset, .unset, .unset, .unset, .unset, .unset]) rfl ?_
      refine k_iloadN G X at_42 (pc' := 43) rfl rfl ?_
      refine k_ldcI G X (w3 hw) at_43 (pc' := 45) rfl ?_
      obtain ⟨v15, q_v15⟩ : ∃ z, (p3 &&& (1048575 : Int32)) = z := ⟨_, rfl⟩
      refine k_iand G X at_45 (pc' := 46) rfl q_v15 ?_
      have n_v15 := and_rng p3 (m := (1048575 : Int32)) 1048575 rfl (by decide)
      rw [q_v15] at n_v15
      refine k_istore G X at_46 (pc' := 48) rfl (l' := #[.val (.int p0), .val (.int p1), .val (.int p2), .val (.int p3), .val (.int p4), .val (.int p5), .val (.int (0 : Int32)), .val (.int (1 : Int32)), .val (.ref aB), .val (.int v15), .unset, .unset, .unset, .unset, .unset, .unset, .unset, .unset, .unset, .unset]) rfl ?_
      refine k_iload G X at_48 (pc' := 50) rfl rfl ?_
      refine k_ldcI G X (w4 hw) at_50 (pc' := 52) rfl ?_
      obtain ⟨v16, q_v16⟩ : ∃ z, (p4 &&& (268435455 : Int32)) = z := ⟨_, rfl⟩
      refine k_iand G X at_52 (pc' := 53) rfl q_v16 ?_
      have n_v16 := and_rng p4 (m := (268435455 : Int32)) 268435455 rfl (by decide)
      rw [q_v16] at n_v16
      refine k_istore G X at_53 (pc' := 55) rfl (l' := #[.val (.int p0), .val (.int p1), .val (.int p2), .val (.int p3), .val (.int p4), .val (.int p5), .val (.int (0 : Int32)), .val (.int (1 : Int32)), .val (.ref aB), .val (.int v15), .val (.int v16), .unset, .unset, .unset, .unset, .unset, .unset, .unset, .unset, .unset]) rfl ?_
      refine k_iload G X at_55 (pc' := 57) rfl rfl ?_
      refine k_ldcI G X (w4 hw) at_57 (pc' := 59) rfl ?_
      obtain ⟨v17, q_v17⟩ : ∃ z, (p5 &&& (268435455 : Int32)) = z := ⟨_, rfl⟩
      refine k_iand G X at_59 (pc' := 60) rfl q_v17 ?_
      have n_v17 := and_rng p5 (m := (268435455 : Int32)) 268435455 rfl (by decide)
      rw [q_v17] at n_v17
      refine k_istore G X at_60 (pc' := 62) rfl (l' := #[.val (.int p0), .val (.int p1), .val (.int p2), .val (.int p3), .val (.int p4), .val (.int p5), .val (.int (0 : Int32)), .val (.int (1 : Int32)), .val (.ref aB), .val (.int v15), .val (.int v16), .val (.int v17), .unset, .unset, .unset, .unset, .unset, .unset, .unset, .unset]) rfl ?_
      refine k_iload G X at_62 (pc' := 64) rfl rfl ?_
      refine k_iload G X at_64 (pc' := 66) rfl rfl ?_
      obtain ⟨v18, q_v18⟩ : ∃ z, (v15 + v16) = z := ⟨_, rfl⟩
      refine k_iadd G X at_66 (pc' := 67) rfl q_v18 ?_
      have n_v18 := c_iadd v15 v16
      rw [q_v18] at n_v18
      have r_v18 := rgI v18
      refine k_iload G X at_67 (pc' := 69) rfl rfl ?_
      obtain ⟨v19, q_v19⟩ : ∃ z, (v18 + v17) = z := ⟨_, rfl⟩
      refine k_iadd G X at_69 (pc' := 70) rfl q_v19 ?_
      have n_v19 := c_iadd v18 v17
      rw [q_v19] at n_v19
      have r_v19 := rgI v19
      refine k_istore G X at_70 (pc' := 72) rfl (l' := #[.val (.int p0), .val (.int p1), .val (.int p2), .val (.int p3), .val (.int p4), .val (.int p5), .val (.int (0 : Int32)), .val (.int (1 : Int32)), .val (.ref aB), .val (.int v15), .val (.int v16), .val (.int v17), .val (.int v19), .unset, .unset, .unset, .unset, .unset, .unset, .unset]) rfl ?_
      refine k_iloadN G X at_72 (pc' := 73) rfl rfl ?_
      refine k_iconst G X at_73 (pc' := 74) rfl (z := (2 : Int32)) (by decide) ?_
      obtain ⟨v20, q_v20⟩ : ∃ z, ((p0.toUInt32 >>> ((2 : Int32) &&& 31).toUInt32).toInt32) = z := ⟨_, rfl⟩
      refine k_iushr G X at_74 (pc' := 75) rfl q_v20 ?_
      have n_v20 := c_iushr p0 (2 : Int32) 2 rfl (by decide)
      rw [q_v20] at n_v20
      refine k_ldcI G X (w4 hw) at_75 (pc' := 77) rfl ?_
      obtain ⟨v21, q_v21⟩ : ∃ z, (v20 &&& (268435455 : Int32)) = z := ⟨_, rfl⟩
      refine k_iand G X at_77 (pc' := 78) rfl q_v21 ?_
      have n_v21 := and_rng v20 (m := (268435455 : Int32)) 268435455 rfl (by decide)
      rw [q_v21] at n_v21
      refine k_istore G X at_78 (pc' := 80) rfl (l' := #[.val (.int p0), .val (.int p1), .val (.int p2), .val (.int p3), .val (.int p4), .val (.int p5), .val (.int (0 : Int32)), .val (.int (1 : Int32)), .val (.ref aB), .val (.int v15), .val (.int v16), .val (.int v17), .val (.int v19), .val (.int v21), .unset, .unset, .unset, .unset, .unset, .unset]) rfl ?_
      refine k_iload G X at_80 (pc' := 82) rfl rfl ?_
      refine k_if_eq G X at_82 (pc' := 90) rfl (by decide) (pc'' := 85) rfl (fun c82 => (absurd c82 (by decide))) (fun c82 => ?_)
      refine k_iload G X at_85 (pc' := 87) rfl rfl ?_
      refine k_goto G X at_87 (by decide) (pc' := 95) rfl ?_
      refine k_istore G X at_95 (pc' := 97) rfl (l' := #[.val (.int p0), .val (.int p1), .val (.int p2), .val (.int p3), .val (.int p4), .val (.int p5), .val (.int (0 : Int32)), .val (.int (1 : Int32)), .val (.ref aB), .val (.int v15), .val (.int v16), .val (.int v17), .val (.int v19), .val (.int v21), .val (.int v19), .unset, .unset, .unset, .unset, .unset]) rfl ?_
      refine k_iloadN G X at_97 (pc' := 98) rfl rfl ?_
      refine k_ldcI G X (w5 hw) at_98 (pc' := 100) rfl ?_
      obtain ⟨v22, q_v22⟩ : ∃ z, (p1 &&& (2147483647 : Int32)) = z := ⟨_, rfl⟩
      refine k_iand G X at_100 (pc' := 101) rfl q_v22 ?_
      have n_v22 := and_rng p1 (m := (2147483647 : Int32)) 2147483647 rfl (by decide)
      rw [q_v22] at n_v22
      refine k_istore G X at_101 (pc' := 103) rfl (l' := #[.val (.int p0), .val (.int p1), .val (.int p2), .val (.int p3), .val (.int p4), .val (.int p5), .val (.int (0 : Int32)), .val (.int (1 : Int32)), .val (.ref aB), .val (.int v15), .val (.int v16), .val (.int v17), .val (.int v19), .val (.int v21), .val (.int v19), .val (.int v22), .unset, .unset, .unset, .unset]) rfl ?_
      refine k_iload G X at_103 (pc' := 105) rfl rfl ?_
      refine k_if_eq G X at_105 (pc' := 112) rfl (by decide) (pc'' := 108) rfl (fun c105 => ?_) (fun c105 => (absurd c105 (by decide)))
      refine k_iloadN G X at_112 (pc' := 113) rfl rfl ?_
      refine k_ldcI G X (w5 hw) at_113 (pc' := 115) rfl ?_
      obtain ⟨v23, q_v23⟩ : ∃ z, (p2 &&& (2147483647 : Int32)) = z := ⟨_, rfl⟩
      refine k_iand G X at_115 (pc' := 116) rfl q_v23 ?_
      have n_v23 := and_rng p2 (m := (2147483647 : Int32)) 2147483647 rfl (by decide)
      rw [q_v23] at n_v23
      refine k_istore G X at_116 (pc' := 118) rfl (l' := #[.val (.int p0), .val (.int p1), .val (.int p2), .val (.int p3), .val (.int p4), .val (.int p5), .val (.int (0 : Int32)), .val (.int (1 : Int32)), .val (.ref aB), .val (.int v15), .val (.int v16), .val (.int v17), .val (.int v19), .val (.int v21), .val (.int v19), .val (.int v22), .val (.int v23), .unset, .unset, .unset]) rfl ?_
      refine k_iload G X at_118 (pc' := 120) rfl rfl ?_
      refine k_if_eq G X at_120 (pc' := 127) rfl (by decide) (pc'' := 123) rfl (fun c120 => ?_) (fun c120 => (absurd c120 (by decide)))
      refine k_iloadN G X at_127 (pc' := 128) rfl rfl ?_
      refine k_iloadN G X at_128 (pc' := 129) rfl rfl ?_
      obtain ⟨v24, q_v24⟩ : ∃ z, (p1 ^^^ p2) = z := ⟨_, rfl⟩
      refine k_ixor G X at_129 (pc' := 130) rfl q_v24 ?_
      refine k_ldcI G X (w5 hw) at_130 (pc' := 132) rfl ?_
      obtain ⟨v25, q_v25⟩ : ∃ z, (v24 &&& (2147483647 : Int32)) = z := ⟨_, rfl⟩
      refine k_iand G X at_132 (pc' := 133) rfl q_v25 ?_
      have n_v25 := and_rng v24 (m := (2147483647 : Int32)) 2147483647 rfl (by decide)
      rw [q_v25] at n_v25
      refine k_istore G X at_133 (pc' := 135) rfl (l' := #[.val (.int p0), .val (.int p1), .val (.int p2), .val (.int p3), .val (.int p4), .val (.int p5), .val (.int (0 : Int32)), .val (.int (1 : Int32)), .val (.ref aB), .val (.int v15), .val (.int v16), .val (.int v17), .val (.int v19), .val (.int v21), .val (.int v19), .val (.int v22), .val (.int v23), .val (.int v25), .unset, .unset]) rfl ?_
      refine k_new G X (w6 hw) (w7 hw) (w8 hw) at_135 (pc' := 138) rfl (by decide) (by decide) (fun T h135 b135 s_b135 E135 X_b135 D135 X => ?_)
      have ge_b135 : n0 ≤ b135 := by have := Jvm.OwnK.Old_le O; omega
      replace S_BIN := S_BIN.ext E135
      replace S_ASC := S_ASC.ext E135
      replace O := O.ext E135
      have F_b135_encoding : Fld Z h135 b135 "com/example/libinvariant/libinvariant/aiger/AigerHeader" "encoding" "Lcom/example/libinvariant/libinvariant/aiger/AigerEncoding;" .null := D135 (Or.inr (w40 hw)) (ty := (.object "com/example/libinvariant/libinvariant/aiger/AigerEncoding")) (by decide)
      have F_b135_maxVariable : Fld Z h135 b135 "com/example/libinvariant/libinvariant/aiger/AigerHeader" "maxVariable" "I" (.int (0 : Int32)) := D135 (Or.inr (w42 hw)) (ty := .int) (by decide)
      have F_b135_inputs : Fld Z h135 b135 "com/example/libinvariant/libinvariant/aiger/AigerHeader" "inputs" "I" (.int (0 : Int32)) := D135 (Or.inr (w44 hw)) (ty := .int) (by decide)
      have F_b135_latches : Fld Z h135 b135 "com/example/libinvariant/libinvariant/aiger/AigerHeader" "latches" "I" (.int (0 : Int32)) := D135 (Or.inr (w46 hw)) (ty := .int) (by decide)
      have F_b135_outputs : Fld Z h135 b135 "com/example/libinvariant/libinvariant/aiger/AigerHeader" "outputs" "I" (.int (0 : Int32)) := D135 (Or.inr (w48 hw)) (ty := .int) (by decide)
      have F_b135_andGates : Fld Z h135 b135 "com/example/libinvariant/libinvariant/aiger/AigerHeader" "andGates" "I" (.int (0 : Int32)) := D135 (Or.inr (w50 hw)) (ty := .int) (by decide)
      have F_b135_badStates : Fld Z h135 b135 "com/example/libinvariant/libinvariant/aiger/AigerHeader" "badStates" "I" (.int (0 : Int32)) := D135 (Or.inr (w52 hw)) (ty := .int) (by decide)
      have F_b135_constraints : Fld Z h135 b135 "com/example/libinvariant/libinvariant/aiger/AigerHeader" "constraints" "I" (.int (0 : Int32)) := D135 (Or.inr (w54 hw)) (ty := .int) (by decide)
      have F_b135_justice : Fld Z h135 b135 "com/example/libinvariant/libinvariant/aiger/AigerHeader" "justice" "I" (.int (0 : Int32)) := D135 (Or.inr (w56 hw)) (ty := .int) (by decide)
      have F_b135_fairness : Fld Z h135 b135 "com/example/libinvariant/libinvariant/aiger/AigerHeader" "fairness" "I" (.int (0 : Int32)) := D135 (Or.inr (w58 hw)) (ty := .int) (by decide)
      have F_b135_olderForm : Fld Z h135 b135 "com/example/libinvariant/libinvariant/aiger/AigerHeader" "olderForm" "Z" (.int (0 : Int32)) := D135 (Or.inr (w60 hw)) (ty := .boolean) (by decide)
      refine k_dup G X at_138 (pc' := 139) rfl rfl ?_
      refine k_aload G X at_139 (pc' := 141) rfl rfl rfl ?_
      refine k_iload G X at_141 (pc' := 143) rfl rfl ?_
      refine k_iload G X at_143 (pc' := 145) rfl rfl ?_
      refine k_iload G X at_145 (pc' := 147) rfl rfl ?_
      refine k_iload G X at_147 (pc' := 149) rfl rfl ?_
      refine k_iload G X at_149 (pc' := 151) rfl rfl ?_
      refine k_iload G X at_151 (pc' := 153) rfl rfl ?_
      refine k_iload G X at_153 (pc' := 155) rfl rfl ?_
      refine k_iload G X at_155 (pc' := 157) rfl rfl ?_
      refine k_iload G X at_157 (pc' := 159) rfl rfl ?_
      refine k_iload G X at_159 (pc' := 161) rfl rfl ?_
      refine k_callI G X (argsL := [(.ref aB), (.int v19), (.int v15), (.int v16), (.int v22), (.int v17), (.int v23), (.int v25), (.int v25), (.int v25), (.int (0 : Int32))]) (rest := [(.ref b135)]) rfl rfl (w9 hw) (w10 hw) (w8 hw) (w11 hw) (by decide) (rm1 hw b135 aB aB v19 v15 v16 v22 v17 v23 v25 v25 v25 (0 : Int32) h135 n0 ge_b135 X_b135 F_b135_encoding F_b135_maxVariable F_b135_inputs F_b135_latches F_b135_outputs F_b135_andGates F_b135_badStates F_b135_constraints F_b135_justice F_b135_fairness F_b135_olderForm S_BIN (by omega) (by omega) (by omega) (fun _ => by omega) (Or.inl rfl) (Or.inl rfl) (by omega) (by omega) (by omega) (by omega) (by omega) (by omega) (by omega) (by omega) (by omega)) at_161 pd3 rfl (pc' := 164) rfl rfl (wd := 1) rfl (by decide) (by decide) (by decide) (by decide) (fun T h161 v X q => ?_)
      obtain ⟨rfl, E_ob, F_out, F_bad, F_old⟩ := q
      show Go Γ n0 _ T (mkF Γ.m 164 #[.val (.int p0), .val (.int p1), .val (.int p2), .val (.int p3), .val (.int p4), .val (.int p5), .val (.int (0 : Int32)), .val (.int (1 : Int32)), .val (.ref aB), .val (.int v15), .val (.int v16), .val (.int v17), .val (.int v19), .val (.int v21), .val (.int v19), .val (.int v22), .val (.int v23), .val (.int v25), .unset, .unset] [(.ref b135)])
      refine k_astore G X at_164 (pc' := 166) rfl rfl (l' := #[.val (.int p0), .val (.int p1), .val (.int p2), .val (.int p3), .val (.int p4), .val (.int p5), .val (.int (0 : Int32)), .val (.int (1 : Int32)), .val (.ref aB), .val (.int v15), .val (.int v16), .val (.int v17), .val (.int v19), .val (.int v21), .val (.int v19), .val (.int v22), .val (.int v23), .val (.int v25), .val (.ref b135), .unset]) rfl ?_
      refine k_iload G X at_166 (pc' := 168) rfl rfl ?_
      refine k_if_eq G X at_168 (pc' := 176) rfl (by decide) (pc'' := 171) rfl (fun c168 => ?_) (fun c168 => (absurd c168 (by decide)))
      refine k_iload G X at_176 (pc' := 178) rfl rfl ?_
      refine k_istore G X at_178 (pc' := 180) rfl (l' := #[.val (.int p0), .val (.int p1), .val (.int p2), .val (.int p3), .val (.int p4), .val (.int p5), .val (.int (0 : Int32)), .val (.int (1 : Int32)), .val (.ref aB), .val (.int v15), .val (.int v16), .val (.int v17), .val (.int v19), .val (.int v21), .val (.int v19), .val (.int v22), .val (.int v23), .val (.int v25), .val (.ref b135), .val (.int v23)]) rfl ?_
      refine k_aload G X at_180 (pc' := 182) rfl rfl rfl ?_
      refine k_callV G X (argsL := []) (rest := []) rfl E_ob (w61 hw) (w62 hw) (nf_sel (w64 hw)) (w64 hw) (w63 hw) (w8 hw) (w65 hw) (by decide) (rm6_0 hw b135 v22 v23 h161 n0 F_old F_out F_bad) at_182 pd4 rfl (pc' := 185) rfl rfl (wd := 0) rfl (by decide) (by decide) (by decide) (by decide) (fun T h182 v X q => ?_)
      obtain ⟨rfl, e182⟩ := q
      replace X := X.eq e182
      show Go Γ n0 _ T (mkF Γ.m 185 #[.val (.int p0), .val (.int p1), .val (.int p2), .val (.int p3), .val (.int p4), .val (.int p5), .val (.int (0 : Int32)), .val (.int (1 : Int32)), .val (.ref aB), .val (.int v15), .val (.int v16), .val (.int v17), .val (.int v19), .val (.int v21), .val (.int v19), .val (.int v22), .val (.int v23), .val (.int v25), .val (.ref b135), .val (.int v23)] [(.int v23)])
      refine k_iload G X at_185 (pc' := 187) rfl rfl ?_
      refine k_icmp_ne G X at_187 (pc' := 194) rfl (by decide) (pc'' := 190) rfl (fun c187 => (absurd c187 (by simp))) (fun c187 => ?_)
      refine k_iconst G X at_190 (pc' := 191) rfl (z := (1 : Int32)) (by decide) ?_
      refine k_goto G X at_191 (by decide) (pc' := 195) rfl ?_
      refine k_retb G X at_195 (t := .boolean) rfl (by simp) rfl ?_ (by decide) (by decide)
      rfl
  · refine k_iconst G X at_6 (pc' := 7) rfl (z := (1 : Int32)) (by decide) ?_
    refine k_goto G X at_7 (by decide) (pc' := 11) rfl ?_
    refine k_istore G X at_11 (pc' := 13) rfl (l' := #[.val (.int p0), .val (.int p1), .val (.int p2), .val (.int p3), .val (.int p4), .val (.int p5), .val (.int (1 : Int32)), .unset, .unset, .unset, .unset, .unset, .unset, .unset, .unset, .unset, .unset, .unset, .unset, .unset]) rfl ?_
    refine k_iloadN G X at_13 (pc' := 14) rfl rfl ?_
    refine k_iconst G X at_14 (pc' := 15) rfl (z := (2 : Int32)) (by decide) ?_
    obtain ⟨v26, q_v26⟩ : ∃ z, (p0 &&& (2 : Int32)) = z := ⟨_, rfl⟩
    refine k_iand G X at_15 (pc' := 16) rfl q_v26 ?_
    have n_v26 := and_rng p0 (m := (2 : Int32)) 2 rfl (by decide)
    rw [q_v26] at n_v26
    refine k_if_eq G X at_16 (pc' := 23) rfl (by decide) (pc'' := 19) rfl (fun c16 => ?_) (fun c16 => ?_)
    · refine k_iconst G X at_23 (pc' := 24) rfl (z := (0 : Int32)) (by decide) ?_
      refine k_istore G X at_24 (pc' := 26) rfl (l' := #[.val (.int p0), .val (.int p1), .val (.int p2), .val (.int p3), .val (.int p4), .val (.int p5), .val (.int (1 : Int32)), .val (.int (0 : Int32)), .unset, .unset, .unset, .unset, .unset, .unset, .unset, .unset, .unset, .unset, .unset, .unset]) rfl ?_
      refine k_iload G X at_26 (pc' := 28) rfl rfl ?_
      refine k_if_eq G X at_28 (pc' := 37) rfl (by decide) (pc'' := 31) rfl (fun c28 => ?_) (fun c28 => (absurd c28 (by decide)))
      refine k_getS G X (host := "") (Or.inl (w0 hw)) Via.refl S_ASC at_37 (pc' := 40) rfl (fun T X => ?_)
      refine k_astore G X at_40 (pc' := 42) rfl rfl (l' := #[.val (.int p0), .val (.int p1), .val (.int p2), .val (.int p3), .val (.int p4), .val (.int p5), .val (.int (1 : Int32)), .val (.int (0 : Int32)), .val (.ref aA), .unset, .unset, .unset, .unset, .unset, .unset, .unset, .unset, .unset, .unset, .unset]) rfl ?_
      refine k_iloadN G X at_42 (pc' := 43) rfl rfl ?_
      refine k_ldcI G X (w3 hw) at_43 (pc' := 45) rfl ?_
      obtain ⟨v27, q_v27⟩ : ∃ z, (p3 &&& (1048575 : Int32)) = z := ⟨_, rfl⟩
      refine k_iand G X at_45 (pc' := 46) rfl q_v27 ?_
      have n_v27 := and_rng p3 (m := (1048575 : Int32)) 1048575 rfl (by decide)
      rw [q_v27] at n_v27
      refine k_istore G X at_46 (pc' := 48) rfl (l' := #[.val (.int p0), .val (.int p1), .val (.int p2), .val (.int p3), .val (.int p4), .val (.int p5), .val (.int (1 : Int32)), .val (.int (0 : Int32)), .val (.ref aA), .val (.int v27), .unset, .unset, .unset, .unset, .unset, .unset, .unset, .unset, .unset, .unset]) rfl ?_
      refine k_iload G X at_48 (pc' := 50) rfl rfl ?_
      refine k_ldcI G X (w4 hw) at_50 (pc' := 52) rfl ?_
      obtain ⟨v28, q_v28⟩ : ∃ z, (p4 &&& (268435455 : Int32)) = z := ⟨_, rfl⟩
      refine k_iand G X at_52 (pc' := 53) rfl q_v28 ?_
      have n_v28 := and_rng p4 (m := (268435455 : Int32)) 268435455 rfl (by decide)
      rw [q_v28] at n_v28
      refine k_istore G X at_53 (pc' := 55) rfl (l' := #[.val (.int p0), .val (.int p1), .val (.int p2), .val (.int p3), .val (.int p4), .val (.int p5), .val (.int (1 : Int32)), .val (.int (0 : Int32)), .val (.ref aA), .val (.int v27), .val (.int v28), .unset, .unset, .unset, .unset, .unset, .unset, .unset, .unset, .unset]) rfl ?_
      refine k_iload G X at_55 (pc' := 57) rfl rfl ?_
      refine k_ldcI G X (w4 hw) at_57 (pc' := 59) rfl ?_
      obtain ⟨v29, q_v29⟩ : ∃ z, (p5 &&& (268435455 : Int32)) = z := ⟨_, rfl⟩
      refine k_iand G X at_59 (pc' := 60) rfl q_v29 ?_
      have n_v29 := and_rng p5 (m := (268435455 : Int32)) 268435455 rfl (by decide)
      rw [q_v29] at n_v29
      refine k_istore G X at_60 (pc' := 62) rfl (l' := #[.val (.int p0), .val (.int p1), .val (.int p2), .val (.int p3), .val (.int p4), .val (.int p5), .val (.int (1 : Int32)), .val (.int (0 : Int32)), .val (.ref aA), .val (.int v27), .val (.int v28), .val (.int v29), .unset, .unset, .unset, .unset, .unset, .unset, .unset, .unset]) rfl ?_
      refine k_iload G X at_62 (pc' := 64) rfl rfl ?_
      refine k_iload G X at_64 (pc' := 66) rfl rfl ?_
      obtain ⟨v30, q_v30⟩ : ∃ z, (v27 + v28) = z := ⟨_, rfl⟩
      refine k_iadd G X at_66 (pc' := 67) rfl q_v30 ?_
      have n_v30 := c_iadd v27 v28
      rw [q_v30] at n_v30
      have r_v30 := rgI v30
      refine k_iload G X at_67 (pc' := 69) rfl rfl ?_
      obtain ⟨v31, q_v31⟩ : ∃ z, (v30 + v29) = z := ⟨_, rfl⟩
      refine k_iadd G X at_69 (pc' := 70) rfl q_v31 ?_
      have n_v31 := c_iadd v30 v29
      rw [q_v31] at n_v31
      have r_v31 := rgI v31
      refine k_istore G X at_70 (pc' := 72) rfl (l' := #[.val (.int p0), .val (.int p1), .val (.int p2), .val (.int p3), .val (.int p4), .val (.int p5), .val (.int (1 : Int32)), .val (.int (0 : Int32)), .val (.ref aA), .val (.int v27), .val (.int v28), .val (.int v29), .val (.int v31), .unset, .unset, .unset, .unset, .unset, .unset, .unset]) rfl ?_
      refine k_iloadN G X at_72 (pc' := 73) rfl rfl ?_
      refine k_iconst G X at_73 (pc' := 74) rfl (z := (2 : Int32)) (by decide) ?_
      obtain ⟨v32, q_v32⟩ : ∃ z, ((p0.toUInt32 >>> ((2 : Int32) &&& 31).toUInt32).toInt32) = z := ⟨_, rfl⟩
      refine k_iushr G X at_74 (pc' := 75) rfl q_v32 ?_
      have n_v32 := c_iushr p0 (2 : Int32) 2 rfl (by decide)
      rw [q_v32] at n_v32
      refine k_ldcI G X (w4 hw) at_75 (pc' := 77) rfl ?_
      obtain ⟨v33, q_v33⟩ : ∃ z, (v32 &&& (268435455 : Int32)) = z := ⟨_, rfl⟩
      refine k_iand G X at_77 (pc' := 78) rfl q_v33 ?_
      have n_v33 := and_rng v32 (m := (268435455 : Int32)) 268435455 rfl (by decide)
      rw [q_v33] at n_v33
      refine k_istore G X at_78 (pc' := 80) rfl (l' := #[.val (.int p0), .val (.int p1), .val (.int p2), .val (.int p3), .val (.int p4), .val (.int p5), .val (.int (1 : Int32)), .val (.int (0 : Int32)), .val (.ref aA), .val (.int v27), .val (.int v28), .val (.int v29), .val (.int v31), .val (.int v33), .unset, .unset, .unset, .unset, .unset, .unset]) rfl ?_
      refine k_iload G X at_80 (pc' := 82) rfl rfl ?_
      refine k_if_eq G X at_82 (pc' := 90) rfl (by decide) (pc'' := 85) rfl (fun c82 => ?_) (fun c82 => (absurd c82 (by decide)))
      refine k_iload G X at_90 (pc' := 92) rfl rfl ?_
      refine k_iload G X at_92 (pc' := 94) rfl rfl ?_
      obtain ⟨v34, q_v34⟩ : ∃ z, (v31 + v33) = z := ⟨_, rfl⟩
      refine k_iadd G X at_94 (pc' := 95) rfl q_v34 ?_
      have n_v34 := c_iadd v31 v33
      rw [q_v34] at n_v34
      have r_v34 := rgI v34
      refine k_istore G X at_95 (pc' := 97) rfl (l' := #[.val (.int p0), .val (.int p1), .val (.int p2), .val (.int p3), .val (.int p4), .val (.int p5), .val (.int (1 : Int32)), .val (.int (0 : Int32)), .val (.ref aA), .val (.int v27), .val (.int v28), .val (.int v29), .val (.int v31), .val (.int v33), .val (.int v34), .unset, .unset, .unset, .unset, .unset]) rfl ?_
      refine k_iloadN G X at_97 (pc' := 98) rfl rfl ?_
      refine k_ldcI G X (w5 hw) at_98 (pc' := 100) rfl ?_
      obtain ⟨v35, q_v35⟩ : ∃ z, (p1 &&& (2147483647 : Int32)) = z := ⟨_, rfl⟩
      refine k_iand G X at_100 (pc' := 101) rfl q_v35 ?_
      have n_v35 := and_rng p1 (m := (2147483647 : Int32)) 2147483647 rfl (by decide)
      rw [q_v35] at n_v35
      refine k_istore G X at_101 (pc' := 103) rfl (l' := #[.val (.int p0), .val (.int p1), .val (.int p2), .val (.int p3), .val (.int p4), .val (.int p5), .val (.int (1 : Int32)), .val (.int (0 : Int32)), .val (.ref aA), .val (.int v27), .val (.int v28), .val (.int v29), .val (.int v31), .val (.int v33), .val (.int v34), .val (.int v35), .unset, .unset, .unset, .unset]) rfl ?_
      refine k_iload G X at_103 (pc' := 105) rfl rfl ?_
      refine k_if_eq G X at_105 (pc' := 112) rfl (by decide) (pc'' := 108) rfl (fun c105 => (absurd c105 (by decide))) (fun c105 => ?_)
      refine k_iconst G X at_108 (pc' := 109) rfl (z := (0 : Int32)) (by decide) ?_
      refine k_goto G X at_109 (by decide) (pc' := 116) rfl ?_
      refine k_istore G X at_116 (pc' := 118) rfl (l' := #[.val (.int p0), .val (.int p1), .val (.int p2), .val (.int p3), .val (.int p4), .val (.int p5), .val (.int (1 : Int32)), .val (.int (0 : Int32)), .val (.ref aA), .val (.int v27), .val (.int v28), .val (.int v29), .val (.int v31), .val (.int v33), .val (.int v34), .val (.int v35), .val (.int (0 : Int32)), .unset, .unset, .unset]) rfl ?_
      refine k_iload G X at_118 (pc' := 120) rfl rfl ?_
      refine k_if_eq G X at_120 (pc' := 127) rfl (by decide) (pc'' := 123) rfl (fun c120 => (absurd c120 (by decide))) (fun c120 => ?_)
      refine k_iconst G X at_123 (pc' := 124) rfl (z := (0 : Int32)) (by decide) ?_
      refine k_goto G X at_124 (by decide) (pc' := 133) rfl ?_
      refine k_istore G X at_133 (pc' := 135) rfl (l' := #[.val (.int p0), .val (.int p1), .val (.int p2), .val (.int p3), .val (.int p4), .val (.int p5), .val (.int (1 : Int32)), .val (.int (0 : Int32)), .val (.ref aA), .val (.int v27), .val (.int v28), .val (.int v29), .val (.int v31), .val (.int v33), .val (.int v34), .val (.int v35), .val (.int (0 : Int32)), .val (.int (0 : Int32)), .unset, .unset]) rfl ?_
      refine k_new G X (w6 hw) (w7 hw) (w8 hw) at_135 (pc' := 138) rfl (by decide) (by decide) (fun T h135 b135 s_b135 E135 X_b135 D135 X => ?_)
      have ge_b135 : n0 ≤ b135 := by have := Jvm.OwnK.Old_le O; omega
      replace S_BIN := S_BIN.ext E135
      replace S_ASC := S_ASC.ext E135
      replace O := O.ext E135
      have F_b135_encoding : Fld Z h135 b135 "com/example/libinvariant/libinvariant/aiger/AigerHeader" "encoding" "Lcom/example/libinvariant/libinvariant/aiger/AigerEncoding;" .null := D135 (Or.inr (w40 hw)) (ty := (.object "com/example/libinvariant/libinvariant/aiger/AigerEncoding")) (by decide)
      have F_b135_maxVariable : Fld Z h135 b135 "com/example/libinvariant/libinvariant/aiger/AigerHeader" "maxVariable" "I" (.int (0 : Int32)) := D135 (Or.inr (w42 hw)) (ty := .int) (by decide)
      have F_b135_inputs : Fld Z h135 b135 "com/example/libinvariant/libinvariant/aiger/AigerHeader" "inputs" "I" (.int (0 : Int32)) := D135 (Or.inr (w44 hw)) (ty := .int) (by decide)
      have F_b135_latches : Fld Z h135 b135 "com/example/libinvariant/libinvariant/aiger/AigerHeader" "latches" "I" (.int (0 : Int32)) := D135 (Or.inr (w46 hw)) (ty := .int) (by decide)
      have F_b135_outputs : Fld Z h135 b135 "com/example/libinvariant/libinvariant/aiger/AigerHeader" "outputs" "I" (.int (0 : Int32)) := D135 (Or.inr (w48 hw)) (ty := .int) (by decide)
      have F_b135_andGates : Fld Z h135 b135 "com/example/libinvariant/libinvariant/aiger/AigerHeader" "andGates" "I" (.int (0 : Int32)) := D135 (Or.inr (w50 hw)) (ty := .int) (by decide)
      have F_b135_badStates : Fld Z h135 b135 "com/example/libinvariant/libinvariant/aiger/AigerHeader" "badStates" "I" (.int (0 : Int32)) := D135 (Or.inr (w52 hw)) (ty := .int) (by decide)
      have F_b135_constraints : Fld Z h135 b135 "com/example/libinvariant/libinvariant/aiger/AigerHeader" "constraints" "I" (.int (0 : Int32)) := D135 (Or.inr (w54 hw)) (ty := .int) (by decide)
      have F_b135_justice : Fld Z h135 b135 "com/example/libinvariant/libinvariant/aiger/AigerHeader" "justice" "I" (.int (0 : Int32)) := D135 (Or.inr (w56 hw)) (ty := .int) (by decide)
      have F_b135_fairness : Fld Z h135 b135 "com/example/libinvariant/libinvariant/aiger/AigerHeader" "fairness" "I" (.int (0 : Int32)) := D135 (Or.inr (w58 hw)) (ty := .int) (by decide)
      have F_b135_olderForm : Fld Z h135 b135 "com/example/libinvariant/libinvariant/aiger/AigerHeader" "olderForm" "Z" (.int (0 : Int32)) := D135 (Or.inr (w60 hw)) (ty := .boolean) (by decide)
      refine k_dup G X at_138 (pc' := 139) rfl rfl ?_
      refine k_aload G X at_139 (pc' := 141) rfl rfl rfl ?_
      refine k_iload G X at_141 (pc' := 143) rfl rfl ?_
      refine k_iload G X at_143 (pc' := 145) rfl rfl ?_
      refine k_iload G X at_145 (pc' := 147) rfl rfl ?_
      refine k_iload G X at_147 (pc' := 149) rfl rfl ?_
      refine k_iload G X at_149 (pc' := 151) rfl rfl ?_
      refine k_iload G X at_151 (pc' := 153) rfl rfl ?_
      refine k_iload G X at_153 (pc' := 155) rfl rfl ?_
      refine k_iload G X at_155 (pc' := 157) rfl rfl ?_
      refine k_iload G X at_157 (pc' := 159) rfl rfl ?_
      refine k_iload G X at_159 (pc' := 161) rfl rfl ?_
      refine k_callI G X (argsL := [(.ref aA), (.int v34), (.int v27), (.int v28), (.int v35), (.int v29), (.int (0 : Int32)), (.int (0 : Int32)), (.int (0 : Int32)), (.int (0 : Int32)), (.int (1 : Int32))]) (rest := [(.ref b135)]) rfl rfl (w9 hw) (w10 hw) (w8 hw) (w11 hw) (by decide) (rm1 hw b135 aA aB v34 v27 v28 v35 v29 (0 : Int32) (0 : Int32) (0 : Int32) (0 : Int32) (1 : Int32) h135 n0 ge_b135 X_b135 F_b135_encoding F_b135_maxVariable F_b135_inputs F_b135_latches F_b135_outputs F_b135_andGates F_b135_badStates F_b135_constraints F_b135_justice F_b135_fairness F_b135_olderForm S_BIN (by omega) (by omega) (by omega) (fun h => absurd h ne_AB) (Or.inr (by decide)) (Or.inr rfl) (by omega) (by omega) (by omega) (by omega) (by omega) (by decide) (by decide) (by decide) (by decide)) at_161 pd3 rfl (pc' := 164) rfl rfl (wd := 1) rfl (by decide) (by decide) (by decide) (by decide) (fun T h161 v X q => ?_)
      obtain ⟨rfl, E_ob, F_out, F_bad, F_old⟩ := q
      show Go Γ n0 _ T (mkF Γ.m 164 #[.val (.int p0), .val (.int p1), .val (.int p2), .val (.int p3), .val (.int p4), .val (.int p5), .val (.int (1 : Int32)), .val (.int (0 : Int32)), .val (.ref aA), .val (.int v27), .val (.int v28), .val (.int v29), .val (.int v31), .val (.int v33), .val (.int v34), .val (.int v35), .val (.int (0 : Int32)), .val (.int (0 : Int32)), .unset, .unset] [(.ref b135)])
      refine k_astore G X at_164 (pc' := 166) rfl rfl (l' := #[.val (.int p0), .val (.int p1), .val (.int p2), .val (.int p3), .val (.int p4), .val (.int p5), .val (.int (1 : Int32)), .val (.int (0 : Int32)), .val (.ref aA), .val (.int v27), .val (.int v28), .val (.int v29), .val (.int v31), .val (.int v33), .val (.int v34), .val (.int v35), .val (.int (0 : Int32)), .val (.int (0 : Int32)), .val (.ref b135), .unset]) rfl ?_
      refine k_iload G X at_166 (pc' := 168) rfl rfl ?_
      refine k_if_eq G X at_168 (pc' := 176) rfl (by decide) (pc'' := 171) rfl (fun c168 => (absurd c168 (by decide))) (fun c168 => ?_)
      refine k_iload G X at_171 (pc' := 173) rfl rfl ?_
      refine k_goto G X at_173 (by decide) (pc' := 178) rfl ?_
      refine k_istore G X at_178 (pc' := 180) rfl (l' := #[.val (.int p0), .val (.int p1), .val (.int p2), .val (.int p3), .val (.int p4), .val (.int p5), .val (.int (1 : Int32)), .val (.int (0 : Int32)), .val (.ref aA), .val (.int v27), .val (.int v28), .val (.int v29), .val (.int v31), .val (.int v33), .val (.int v34), .val (.int v35), .val (.int (0 : Int32)), .val (.int (0 : Int32)), .val (.ref b135), .val (.int v35)]) rfl ?_
      refine k_aload G X at_180 (pc' := 182) rfl rfl rfl ?_
      refine k_callV G X (argsL := []) (rest := []) rfl E_ob (w61 hw) (w62 hw) (nf_sel (w64 hw)) (w64 hw) (w63 hw) (w8 hw) (w65 hw) (by decide) (rm6_1 hw b135 v35 (0 : Int32) h161 n0 F_old F_out F_bad) at_182 pd4 rfl (pc' := 185) rfl rfl (wd := 0) rfl (by decide) (by decide) (by decide) (by decide) (fun T h182 v X q => ?_)
      obtain ⟨rfl, e182⟩ := q
      replace X := X.eq e182
      show Go Γ n0 _ T (mkF Γ.m 185 #[.val (.int p0), .val (.int p1), .val (.int p2), .val (.int p3), .val (.int p4), .val (.int p5), .val (.int (1 : Int32)), .val (.int (0 : Int32)), .val (.ref aA), .val (.int v27), .val (.int v28), .val (.int v29), .val (.int v31), .val (.int v33), .val (.int v34), .val (.int v35), .val (.int (0 : Int32)), .val (.int (0 : Int32)), .val (.ref b135), .val (.int v35)] [(.int v35)])
      refine k_iload G X at_185 (pc' := 187) rfl rfl ?_
      refine k_icmp_ne G X at_187 (pc' := 194) rfl (by decide) (pc'' := 190) rfl (fun c187 => (absurd c187 (by simp))) (fun c187 => ?_)
      refine k_iconst G X at_190 (pc' := 191) rfl (z := (1 : Int32)) (by decide) ?_
      refine k_goto G X at_191 (by decide) (pc' := 195) rfl ?_
      refine k_retb G X at_195 (t := .boolean) rfl (by simp) rfl ?_ (by decide) (by decide)
      rfl
    · refine k_iconst G X at_19 (pc' := 20) rfl (z := (1 : Int32)) (by decide) ?_
      refine k_goto G X at_20 (by decide) (pc' := 24) rfl ?_
      refine k_istore G X at_24 (pc' := 26) rfl (l' := #[.val (.int p0), .val (.int p1), .val (.int p2), .val (.int p3), .val (.int p4), .val (.int p5), .val (.int (1 : Int32)), .val (.int (1 : Int32)), .unset, .unset, .unset, .unset, .unset, .unset, .unset, .unset, .unset, .unset, .unset, .unset]) rfl ?_
      refine k_iload G X at_26 (pc' := 28) rfl rfl ?_
      refine k_if_eq G X at_28 (pc' := 37) rfl (by decide) (pc'' := 31) rfl (fun c28 => (absurd c28 (by decide))) (fun c28 => ?_)
      refine k_getS G X (host := "") (Or.inl (w66 hw)) Via.refl S_BIN at_31 (pc' := 34) rfl (fun T X => ?_)
      refine k_goto G X at_34 (by decide) (pc' := 40) rfl ?_
      refine k_astore G X at_40 (pc' := 42) rfl rfl (l' := #[.val (.int p0), .val (.int p1), .val (.int p2), .val (.int p3), .val (.int p4), .val (.int p5), .val (.int (1 : Int32)), .val (.int (1 : Int32)), .val (.ref aB), .unset, .unset, .unset, .unset, .unset, .unset, .unset, .unset, .unset, .unset, .unset]) rfl ?_
      refine k_iloadN G X at_42 (pc' := 43) rfl rfl ?_
      refine k_ldcI G X (w3 hw) at_43 (pc' := 45) rfl ?_
      obtain ⟨v36, q_v36⟩ : ∃ z, (p3 &&& (1048575 : Int32)) = z := ⟨_, rfl⟩
      refine k_iand G X at_45 (pc' := 46) rfl q_v36 ?_
      have n_v36 := and_rng p3 (m := (1048575 : Int32)) 1048575 rfl (by decide)
      rw [q_v36] at n_v36
      refine k_istore G X at_46 (pc' := 48) rfl (l' := #[.val (.int p0), .val (.int p1), .val (.int p2), .val (.int p3), .val (.int p4), .val (.int p5), .val (.int (1 : Int32)), .val (.int (1 : Int32)), .val (.ref aB), .val (.int v36), .unset, .unset, .unset, .unset, .unset, .unset, .unset, .unset, .unset, .unset]) rfl ?_
      refine k_iload G X at_48 (pc' := 50) rfl rfl ?_
      refine k_ldcI G X (w4 hw) at_50 (pc' := 52) rfl ?_
      obtain ⟨v37, q_v37⟩ : ∃ z, (p4 &&& (268435455 : Int32)) = z := ⟨_, rfl⟩
      refine k_iand G X at_52 (pc' := 53) rfl q_v37 ?_
      have n_v37 := and_rng p4 (m := (268435455 : Int32)) 268435455 rfl (by decide)
      rw [q_v37] at n_v37
      refine k_istore G X at_53 (pc' := 55) rfl (l' := #[.val (.int p0), .val (.int p1), .val (.int p2), .val (.int p3), .val (.int p4), .val (.int p5), .val (.int (1 : Int32)), .val (.int (1 : Int32)), .val (.ref aB), .val (.int v36), .val (.int v37), .unset, .unset, .unset, .unset, .unset, .unset, .unset, .unset, .unset]) rfl ?_
      refine k_iload G X at_55 (pc' := 57) rfl rfl ?_
      refine k_ldcI G X (w4 hw) at_57 (pc' := 59) rfl ?_
      obtain ⟨v38, q_v38⟩ : ∃ z, (p5 &&& (268435455 : Int32)) = z := ⟨_, rfl⟩
      refine k_iand G X at_59 (pc' := 60) rfl q_v38 ?_
      have n_v38 := and_rng p5 (m := (268435455 : Int32)) 268435455 rfl (by decide)
      rw [q_v38] at n_v38
      refine k_istore G X at_60 (pc' := 62) rfl (l' := #[.val (.int p0), .val (.int p1), .val (.int p2), .val (.int p3), .val (.int p4), .val (.int p5), .val (.int (1 : Int32)), .val (.int (1 : Int32)), .val (.ref aB), .val (.int v36), .val (.int v37), .val (.int v38), .unset, .unset, .unset, .unset, .unset, .unset, .unset, .unset]) rfl ?_
      refine k_iload G X at_62 (pc' := 64) rfl rfl ?_
      refine k_iload G X at_64 (pc' := 66) rfl rfl ?_
      obtain ⟨v39, q_v39⟩ : ∃ z, (v36 + v37) = z := ⟨_, rfl⟩
      refine k_iadd G X at_66 (pc' := 67) rfl q_v39 ?_
      have n_v39 := c_iadd v36 v37
      rw [q_v39] at n_v39
      have r_v39 := rgI v39
      refine k_iload G X at_67 (pc' := 69) rfl rfl ?_
      obtain ⟨v40, q_v40⟩ : ∃ z, (v39 + v38) = z := ⟨_, rfl⟩
      refine k_iadd G X at_69 (pc' := 70) rfl q_v40 ?_
      have n_v40 := c_iadd v39 v38
      rw [q_v40] at n_v40
      have r_v40 := rgI v40
      refine k_istore G X at_70 (pc' := 72) rfl (l' := #[.val (.int p0), .val (.int p1), .val (.int p2), .val (.int p3), .val (.int p4), .val (.int p5), .val (.int (1 : Int32)), .val (.int (1 : Int32)), .val (.ref aB), .val (.int v36), .val (.int v37), .val (.int v38), .val (.int v40), .unset, .unset, .unset, .unset, .unset, .unset, .unset]) rfl ?_
      refine k_iloadN G X at_72 (pc' := 73) rfl rfl ?_
      refine k_iconst G X at_73 (pc' := 74) rfl (z := (2 : Int32)) (by decide) ?_
      obtain ⟨v41, q_v41⟩ : ∃ z, ((p0.toUInt32 >>> ((2 : Int32) &&& 31).toUInt32).toInt32) = z := ⟨_, rfl⟩
      refine k_iushr G X at_74 (pc' := 75) rfl q_v41 ?_
      have n_v41 := c_iushr p0 (2 : Int32) 2 rfl (by decide)
      rw [q_v41] at n_v41
      refine k_ldcI G X (w4 hw) at_75 (pc' := 77) rfl ?_
      obtain ⟨v42, q_v42⟩ : ∃ z, (v41 &&& (268435455 : Int32)) = z := ⟨_, rfl⟩
      refine k_iand G X at_77 (pc' := 78) rfl q_v42 ?_
      have n_v42 := and_rng v41 (m := (268435455 : Int32)) 268435455 rfl (by decide)
      rw [q_v42] at n_v42
      refine k_istore G X at_78 (pc' := 80) rfl (l' := #[.val (.int p0), .val (.int p1), .val (.int p2), .val (.int p3), .val (.int p4), .val (.int p5), .val (.int (1 : Int32)), .val (.int (1 : Int32)), .val (.ref aB), .val (.int v36), .val (.int v37), .val (.int v38), .val (.int v40), .val (.int v42), .unset, .unset, .unset, .unset, .unset, .unset]) rfl ?_
      refine k_iload G X at_80 (pc' := 82) rfl rfl ?_
      refine k_if_eq G X at_82 (pc' := 90) rfl (by decide) (pc'' := 85) rfl (fun c82 => (absurd c82 (by decide))) (fun c82 => ?_)
      refine k_iload G X at_85 (pc' := 87) rfl rfl ?_
      refine k_goto G X at_87 (by decide) (pc' := 95) rfl ?_
      refine k_istore G X at_95 (pc' := 97) rfl (l' := #[.val (.int p0), .val (.int p1), .val (.int p2), .val (.int p3), .val (.int p4), .val (.int p5), .val (.int (1 : Int32)), .val (.int (1 : Int32)), .val (.ref aB), .val (.int v36), .val (.int v37), .val (.int v38), .val (.int v40), .val (.int v42), .val (.int v40), .unset, .unset, .unset, .unset, .unset]) rfl ?_
      refine k_iloadN G X at_97 (pc' := 98) rfl rfl ?_
      refine k_ldcI G X (w5 hw) at_98 (pc' := 100) rfl ?_
      obtain ⟨v43, q_v43⟩ : ∃ z, (p1 &&& (2147483647 : Int32)) = z := ⟨_, rfl⟩
      refine k_iand G X at_100 (pc' := 101) rfl q_v43 ?_
      have n_v43 := and_rng p1 (m := (2147483647 : Int32)) 2147483647 rfl (by decide)
      rw [q_v43] at n_v43
      refine k_istore G X at_101 (pc' := 103) rfl (l' := #[.val (.int p0), .val (.int p1), .val (.int p2), .val (.int p3), .val (.int p4), .val (.int p5), .val (.int (1 : Int32)), .val (.int (1 : Int32)), .val (.ref aB), .val (.int v36), .val (.int v37), .val (.int v38), .val (.int v40), .val (.int v42), .val (.int v40), .val (.int v43), .unset, .unset, .unset, .unset]) rfl ?_
      refine k_iload G X at_103 (pc' := 105) rfl rfl ?_
      refine k_if_eq G X at_105 (pc' := 112) rfl (by decide) (pc'' := 108) rfl (fun c105 => (absurd c105 (by decide))) (fun c105 => ?_)
      refine k_iconst G X at_108 (pc' := 109) rfl (z := (0 : Int32)) (by decide) ?_
      refine k_goto G X at_109 (by decide) (pc' := 116) rfl ?_
      refine k_istore G X at_116 (pc' := 118) rfl (l' := #[.val (.int p0), .val (.int p1), .val (.int p2), .val (.int p3), .val (.int p4), .val (.int p5), .val (.int (1 : Int32)), .val (.int (1 : Int32)), .val (.ref aB), .val (.int v36), .val (.int v37), .val (.int v38), .val (.int v40), .val (.int v42), .val (.int v40), .val (.int v43), .val (.int (0 : Int32)), .unset, .unset, .unset]) rfl ?_
      refine k_iload G X at_118 (pc' := 120) rfl rfl ?_
      refine k_if_eq G X at_120 (pc' := 127) rfl (by decide) (pc'' := 123) rfl (fun c120 => (absurd c120 (by decide))) (fun c120 => ?_)
      refine k_iconst G X at_123 (pc' := 124) rfl (z := (0 : Int32)) (by decide) ?_
      refine k_goto G X at_124 (by decide) (pc' := 133) rfl ?_
      refine k_istore G X at_133 (pc' := 135) rfl (l' := #[.val (.int p0), .val (.int p1), .val (.int p2), .val (.int p3), .val (.int p4), .val (.int p5), .val (.int (1 : Int32)), .val (.int (1 : Int32)), .val (.ref aB), .val (.int v36), .val (.int v37), .val (.int v38), .val (.int v40), .val (.int v42), .val (.int v40), .val (.int v43), .val (.int (0 : Int32)), .val (.int (0 : Int32)), .unset, .unset]) rfl ?_
      refine k_new G X (w6 hw) (w7 hw) (w8 hw) at_135 (pc' := 138) rfl (by decide) (by decide) (fun T h135 b135 s_b135 E135 X_b135 D135 X => ?_)
      have ge_b135 : n0 ≤ b135 := by have := Jvm.OwnK.Old_le O; omega
      replace S_BIN := S_BIN.ext E135
      replace S_ASC := S_ASC.ext E135
      replace O := O.ext E135
      have F_b135_encoding : Fld Z h135 b135 "com/example/libinvariant/libinvariant/aiger/AigerHeader" "encoding" "Lcom/example/libinvariant/libinvariant/aiger/AigerEncoding;" .null := D135 (Or.inr (w40 hw)) (ty := (.object "com/example/libinvariant/libinvariant/aiger/AigerEncoding")) (by decide)
      have F_b135_maxVariable : Fld Z h135 b135 "com/example/libinvariant/libinvariant/aiger/AigerHeader" "maxVariable" "I" (.int (0 : Int32)) := D135 (Or.inr (w42 hw)) (ty := .int) (by decide)
      have F_b135_inputs : Fld Z h135 b135 "com/example/libinvariant/libinvariant/aiger/AigerHeader" "inputs" "I" (.int (0 : Int32)) := D135 (Or.inr (w44 hw)) (ty := .int) (by decide)
      have F_b135_latches : Fld Z h135 b135 "com/example/libinvariant/libinvariant/aiger/AigerHeader" "latches" "I" (.int (0 : Int32)) := D135 (Or.inr (w46 hw)) (ty := .int) (by decide)
      have F_b135_outputs : Fld Z h135 b135 "com/example/libinvariant/libinvariant/aiger/AigerHeader" "outputs" "I" (.int (0 : Int32)) := D135 (Or.inr (w48 hw)) (ty := .int) (by decide)
      have F_b135_andGates : Fld Z h135 b135 "com/example/libinvariant/libinvariant/aiger/AigerHeader" "andGates" "I" (.int (0 : Int32)) := D135 (Or.inr (w50 hw)) (ty := .int) (by decide)
      have F_b135_badStates : Fld Z h135 b135 "com/example/libinvariant/libinvariant/aiger/AigerHeader" "badStates" "I" (.int (0 : Int32)) := D135 (Or.inr (w52 hw)) (ty := .int) (by decide)
      have F_b135_constraints : Fld Z h135 b135 "com/example/libinvariant/libinvariant/aiger/AigerHeader" "constraints" "I" (.int (0 : Int32)) := D135 (Or.inr (w54 hw)) (ty := .int) (by decide)
      have F_b135_justice : Fld Z h135 b135 "com/example/libinvariant/libinvariant/aiger/AigerHeader" "justice" "I" (.int (0 : Int32)) := D135 (Or.inr (w56 hw)) (ty := .int) (by decide)
      have F_b135_fairness : Fld Z h135 b135 "com/example/libinvariant/libinvariant/aiger/AigerHeader" "fairness" "I" (.int (0 : Int32)) := D135 (Or.inr (w58 hw)) (ty := .int) (by decide)
      have F_b135_olderForm : Fld Z h135 b135 "com/example/libinvariant/libinvariant/aiger/AigerHeader" "olderForm" "Z" (.int (0 : Int32)) := D135 (Or.inr (w60 hw)) (ty := .boolean) (by decide)
      refine k_dup G X at_138 (pc' := 139) rfl rfl ?_
      refine k_aload G X at_139 (pc' := 141) rfl rfl rfl ?_
      refine k_iload G X at_141 (pc' := 143) rfl rfl ?_
      refine k_iload G X at_143 (pc' := 145) rfl rfl ?_
      refine k_iload G X at_145 (pc' := 147) rfl rfl ?_
      refine k_iload G X at_147 (pc' := 149) rfl rfl ?_
      refine k_iload G X at_149 (pc' := 151) rfl rfl ?_
      refine k_iload G X at_151 (pc' := 153) rfl rfl ?_
      refine k_iload G X at_153 (pc' := 155) rfl rfl ?_
      refine k_iload G X at_155 (pc' := 157) rfl rfl ?_
      refine k_iload G X at_157 (pc' := 159) rfl rfl ?_
      refine k_iload G X at_159 (pc' := 161) rfl rfl ?_
      refine k_callI G X (argsL := [(.ref aB), (.int v40), (.int v36), (.int v37), (.int v43), (.int v38), (.int (0 : Int32)), (.int (0 : Int32)), (.int (0 : Int32)), (.int (0 : Int32)), (.int (1 : Int32))]) (rest := [(.ref b135)]) rfl rfl (w9 hw) (w10 hw) (w8 hw) (w11 hw) (by decide) (rm1 hw b135 aB aB v40 v36 v37 v43 v38 (0 : Int32) (0 : Int32) (0 : Int32) (0 : Int32) (1 : Int32) h135 n0 ge_b135 X_b135 F_b135_encoding F_b135_maxVariable F_b135_inputs F_b135_latches F_b135_outputs F_b135_andGates F_b135_badStates F_b135_constraints F_b135_justice F_b135_fairness F_b135_olderForm S_BIN (by omega) (by omega) (by omega) (fun _ => by omega) (Or.inr (by decide)) (Or.inr rfl) (by omega) (by omega) (by omega) (by omega) (by omega) (by decide) (by decide) (by decide) (by decide)) at_161 pd3 rfl (pc' := 164) rfl rfl (wd := 1) rfl (by decide) (by decide) (by decide) (by decide) (fun T h161 v X q => ?_)
      obtain ⟨rfl, E_ob, F_out, F_bad, F_old⟩ := q
      show Go Γ n0 _ T (mkF Γ.m 164 #[.val (.int p0), .val (.int p1), .val (.int p2), .val (.int p3), .val (.int p4), .val (.int p5), .val (.int (1 : Int32)), .val (.int (1 : Int32)), .val (.ref aB), .val (.int v36), .val (.int v37), .val (.int v38), .val (.int v40), .val (.int v42), .val (.int v40), .val (.int v43), .val (.int (0 : Int32)), .val (.int (0 : Int32)), .unset, .unset] [(.ref b135)])
      refine k_astore G X at_164 (pc' := 166) rfl rfl (l' := #[.val (.int p0), .val (.int p1), .val (.int p2), .val (.int p3), .val (.int p4), .val (.int p5), .val (.int (1 : Int32)), .val (.int (1 : Int32)), .val (.ref aB), .val (.int v36), .val (.int v37), .val (.int v38), .val (.int v40), .val (.int v42), .val (.int v40), .val (.int v43), .val (.int (0 : Int32)), .val (.int (0 : Int32)), .val (.ref b135), .unset]) rfl ?_
      refine k_iload G X at_166 (pc' := 168) rfl rfl ?_
      refine k_if_eq G X at_168 (pc' := 176) rfl (by decide) (pc'' := 171) rfl (fun c168 => (absurd c168 (by decide))) (fun c168 => ?_)
      refine k_iload G X at_171 (pc' := 173) rfl rfl ?_
      refine k_goto G X at_173 (by decide) (pc' := 178) rfl ?_
      refine k_istore G X at_178 (pc' := 180) rfl (l' := #[.val (.int p0), .val (.int p1), .val (.int p2), .val (.int p3), .val (.int p4), .val (.int p5), .val (.int (1 : Int32)), .val (.int (1 : Int32)), .val (.ref aB), .val (.int v36), .val (.int v37), .val (.int v38), .val (.int v40), .val (.int v42), .val (.int v40), .val (.int v43), .val (.int (0 : Int32)), .val (.int (0 : Int32)), .val (.ref b135), .val (.int v43)]) rfl ?_
      refine k_aload G X at_180 (pc' := 182) rfl rfl rfl ?_
      refine k_callV G X (argsL := []) (rest := []) rfl E_ob (w61 hw) (w62 hw) (nf_sel (w64 hw)) (w64 hw) (w63 hw) (w8 hw) (w65 hw) (by decide) (rm6_1 hw b135 v43 (0 : Int32) h161 n0 F_old F_out F_bad) at_182 pd4 rfl (pc' := 185) rfl rfl (wd := 0) rfl (by decide) (by decide) (by decide) (by decide) (fun T h182 v X q => ?_)
      obtain ⟨rfl, e182⟩ := q
      replace X := X.eq e182
      show Go Γ n0 _ T (mkF Γ.m 185 #[.val (.int p0), .val (.int p1), .val (.int p2), .val (.int p3), .val (.int p4), .val (.int p5), .val (.int (1 : Int32)), .val (.int (1 : Int32)), .val (.ref aB), .val (.int v36), .val (.int v37), .val (.int v38), .val (.int v40), .val (.int v42), .val (.int v40), .val (.int v43), .val (.int (0 : Int32)), .val (.int (0 : Int32)), .val (.ref b135), .val (.int v43)] [(.int v43)])
      refine k_iload G X at_185 (pc' := 187) rfl rfl ?_
      refine k_icmp_ne G X at_187 (pc' := 194) rfl (by decide) (pc'' := 190) rfl (fun c187 => (absurd c187 (by simp))) (fun c187 => ?_)
      refine k_iconst G X at_190 (pc' := 191) rfl (z := (1 : Int32)) (by decide) ?_
      refine k_goto G X at_191 (by decide) (pc' := 195) rfl ?_
      refine k_retb G X at_195 (t := .boolean) rfl (by simp) rfl ?_ (by decide) (by decide)
      rfl
set_option maxRecDepth 65536 in
set_option maxHeartbeats 40000000 in
theorem comes_1 {Post : Tables → Env → Array Value → State → Outcome → State → Prop} (hpost : ∀ tb e args s v u, (limb_1_1.after args s (.returned v) u = true ∧ limb_1_2.after args s (.returned v) u = true ∧ True) → ReturnedEndW s (.returned v) u (Jvm.fieldLocs frame_1_writes args s ++ Jvm.arrayLocs frame_1_arrays args s ++ Jvm.staticLocs frame_1_statics s) 16 1152 → Post tb e args s (.returned v) u) :
    ArmFor flags0 classFile x code maxLocals ret World_1 tables_1 room_1 Calls_1 rest_1 Pre_1 Post := by
  intro l hfl _ _ p e ha hc hk s m args below hf hA hF happ hP
  obtain ⟨hcalls, hrest, hpre⟩ := hP
  obtain ⟨-, -, -, hnamed, -, -, -, hat⟩ := (Spec.applies_iff hf).mp happ
  obtain ⟨hg, hn⟩ := and_e (Cond.before_iff.mp (show (Jvm.Cond.and given_1 narrow_1).before args s = true from hpre))
  obtain ⟨hg0, hgr0⟩ := and_e hg
  obtain ⟨hg1, hgr1⟩ := and_e hgr0
  obtain ⟨hg2, hgr2⟩ := and_e hgr1
  obtain ⟨hg3, hgr3⟩ := and_e hgr2
  obtain ⟨hg4, hgr4⟩ := and_e hgr3
  obtain ⟨hg5, hgr5⟩ := and_e hgr4
  obtain ⟨w0', w1', w2', w3', w4', w5', rfl⟩ : ∃ w0' w1' w2' w3' w4' w5' : Value, args = #[w0', w1', w2', w3', w4', w5'] := by
    have hs : args.size = 6 := by simpa [Cond.value, given_1] using hg0
    obtain ⟨L⟩ := args
    match L, hs with
    | [w0', w1', w2', w3', w4', w5'], _ => exact ⟨w0', w1', w2', w3', w4', w5', rfl⟩
  have hw : HW _ s := fun d (hd : d ∈ tables_1) => atoms_spec (ws := Jvm.Cond.code x code maxLocals ret :: tables_1) hat d (List.mem_cons_of_mem _ hd)
  have hfit : Fit s := fun {y c} hc i hi => by
    obtain ⟨ha, rfl⟩ := Array.getElem?_eq_some_iff.mp hc
    have q := List.all_eq_true.mp ((Array.all_eq_true_iff_forall_mem.mp hF) _ (Array.getElem_mem ha)) i (List.mem_range.mpr hi)
    simpa [Array.getElem?_eq_getElem hi] using q
  obtain ⟨i0, ei0⟩ := is_v hg1
  obtain rfl : w0' = (.int i0) := Option.some.inj ei0
  obtain ⟨i1, ei1⟩ := is_v hg2
  obtain rfl : w1' = (.int i1) := Option.some.inj ei1
  obtain ⟨i2, ei2⟩ := is_v hg3
  obtain rfl : w2' = (.int i2) := Option.some.inj ei2
  obtain ⟨i3, ei3⟩ := is_v hg4
  obtain rfl : w3' = (.int i3) := Option.some.inj ei3
  obtain ⟨i4, ei4⟩ := is_v hg5
  obtain rfl : w4' = (.int i4) := Option.some.inj ei4
  obtain ⟨i5, ei5⟩ := is_v hgr5
  obtain rfl : w5' = (.int i5) := Option.some.inj ei5
  obtain ⟨hx0, hn0⟩ := and_e hn
  obtain ⟨hx1, hn1⟩ := and_e hn0
  obtain ⟨hf0, hf1⟩ := and_e hn1
  obtain ⟨aA, S_A, E_A, ev_A⟩ := s_exa hx0 (w1 hw) (w2 hw)
  obtain ⟨aB, S_B, E_B, ev_B⟩ := s_exa hx1 (w1 hw) (w38 hw)
  have F_A := s_fldI ev_A hf0
  have F_B := s_fldI ev_B hf1
  obtain ⟨n, o, h1, h2, h3, _, L, rfl, ⟨rfl, N⟩, hq⟩ := rm0 hw i0 i1 i2 i3 i4 i5 aA aB s.heap s.heap.size (Old.start s) S_B S_A (F_A.ne F_B (by simp)) l p e ha hc hk s m _ below hf ((Spec.applies_iff_loose hf).mp happ).1 ⟨rfl, State.Warmed39.refl s, rfl⟩ trivial
  exact ⟨n, _, h1, h2, h3, hpost _ _ _ _ _ _ ⟨Cond.after_iff.mpr rfl, Cond.after_iff.mpr (eq_i res_at (Term.int_eval (1)) rfl), trivial⟩ ⟨hq.1, hq.2.1, hq.2.2.1, (hq.2.2.2.sift fun y hy => Or.inr (N y hy)).mono (by decide) (by decide)⟩⟩
theorem main_1_1 : Claimed_1_1 := comes_1 fun _ _ _ _ _ _ h hF => ⟨h.1, hF⟩
theorem main_1_2 : Claimed_1_2 := comes_1 fun _ _ _ _ _ _ h hF => ⟨h.2.1, hF⟩
end Jvm.Pilot.@@N@@
namespace Jvm.Pilot.@@N@@
open Jvm Jvm.ClassFile Sem Op Lib Jvm.Free Jvm.Stand Jvm.Pilot.@@N@@.Jvm.D
/-! MADE BY PROGRAM (witnessworld.py) out of the Statement's table words and the real class files: 18 classes; the members and pool entries that the words name. The judged class is class 1, her method 1. -/
namespace start1
open Jvm.ClassFile
def u (s : String) : CpInfo := .utf8 (stringToUtf16 s)
/-- a pool by its gaps: so many unusable entries, then the entry; so many at the end -/
def gap : Nat → List CpInfo → List CpInfo
  | 0, r => r
  | n + 1, r => .unusable :: gap n r
def poolList (es : List (Nat × CpInfo)) (last : Nat) : List CpInfo := es.foldr (fun e r => gap e.1 (e.2 :: r)) (gap last [])
def pool (es : List (Nat × CpInfo)) (last : Nat) : Array CpInfo := ⟨poolList es last⟩
def fileOf (pool : Array CpInfo) (this : Nat) (attrs : Array Attribute := #[]) (ms : Array MethodInfo := #[]) (fl : Nat := 33) (sup : Nat := 0) (ifs : Array Nat := #[]) (fds : Array FieldInfo := #[]) : ClassFile where
  minorVersion := 0
  majorVersion := 65
  constantPool := pool
  accessFlags := fl
  thisClass := this
  superClass := sup
  interfaces := ifs
  fields := fds
  methods := ms
  attributes := attrs
def plain (name : String) (sup : Option ClassId) : Class where
  name := name
  kind := .ordinary
  loader := none
  accessFlags := 33
  super := sup
  interfaces := #[]
  cf := none
  fields := #[]
  methods := #[]
  instanceTypes := #[]
  staticTypes := #[]
  resolved := #[]
  callSites := []
  init := .initialized
  statics := none
  mirror := none

def pool0 : Array CpInfo := pool [(5, u "<init>"), (0, u "()V"), (1, .class_ 10), (1, u "java/lang/Object")] 113

def k0c0 : Code := { maxStack := 0, maxLocals := 1, code := object_method_1_code, exceptionTable := #[], attributes := #[] }
def k0m0 : Method := { name := "<init>", desc := "()V", sig := { parameters := [], returnType := none }, accessFlags := 1, code := some k0c0 }
/-- java/lang/Object -/
def k0 : Class := { plain "java/lang/Object" none with
  accessFlags := 33
  interfaces := #[]
  cf := some (fileOf pool0 8 #[] #[{ accessFlags := 1, nameIndex := 5, descriptorIndex := 6, attributes := #[] }] 33 0 #[] #[])
  fields := #[]
  methods := #[k0m0]
  instanceTypes := #[]
  staticTypes := #[]
  resolved := Array.replicate 124 none
  statics := none }

def pool1 : Array CpInfo := pool [(2, .class_ 4), (1, u "java/lang/Object"), (0, u "<init>"), (0, u "()V"), (0, .fieldref 8 9), (0, .class_ 10), (0, .nameAndType 11 12), (0, u "com/example/libinvariant/libinvariant/aiger/AigerEncoding"), (0, u "BINARY"), (0, u "Lcom/example/libinvariant/libinvariant/aiger/AigerEncoding;"), (0, .fieldref 8 14), (0, .nameAndType 15 12), (0, u "ASCII"), (0, .integer 1048575), (0, .integer 268435455), (0, .integer 2147483647), (0, .class_ 20), (0, u "com/example/libinvariant/libinvariant/aiger/AigerHeader"), (0, .methodref 19 22), (0, .nameAndType 5 23), (0, u "(Lcom/example/libinvariant/libinvariant/aiger/AigerEncoding;IIIIIIIIIZ)V"), (0, .methodref 19 25), (0, .nameAndType 26 27), (0, u "badStateProperties"), (0, u "()I"), (0, .class_ 29), (0, u "com/example/libinvariant/libinvariant/aiger/AigerHeaderBadStatePropertiesPinLaw"), (2, u "law"), (0, u "(IIIIII)Z")] 3

def k1m0 : Method := { name := "<init>", desc := "()V", sig := { parameters := [], returnType := none }, accessFlags := 1, code := none }
def k1c1 : Code := { maxStack := 13, maxLocals := 20, code := code, exceptionTable := #[], attributes := #[] }
def k1m1 : Method := { name := "law", desc := "(IIIIII)Z", sig := { parameters := [.int, .int, .int, .int, .int, .int], returnType := some .boolean }, accessFlags := 9, code := some k1c1 }
/-- com/example/libinvariant/libinvariant/aiger/AigerHeaderBadStatePropertiesPinLaw -/
def k1 : Class := { plain "com/example/libinvariant/libinvariant/aiger/AigerHeaderBadStatePropertiesPinLaw" (some 0) with
  accessFlags := 49
  interfaces := #[]
  cf := some (fileOf pool1 28 #[] #[{ accessFlags := 1, nameIndex := 5, descriptorIndex := 6, attributes := #[] }, { accessFlags := 9, nameIndex := 32, descriptorIndex := 33, attributes := #[] }] 49 2 #[] #[])
  fields := #[]
  methods := #[k1m0, k1m1]
  instanceTypes := #[]
  staticTypes := #[]
  resolved := Array.replicate 37 none
  statics := none }

def pool2 : Array CpInfo := pool [(1, .class_ 2), (0, u "java/lang/constant/Constable"), (0, .class_ 4), (0, u "java/lang/Object")] 6

/-- java/lang/constant/Constable -/
def k2 : Class := { plain "java/lang/constant/Constable" (some 0) with
  accessFlags := 1537
  interfaces := #[]
  cf := some (fileOf pool2 1 #[] #[] 1537 3 #[] #[])
  fields := #[]
  methods := #[]
  instanceTypes := #[]
  staticTypes := #[]
  resolved := Array.replicate 11 none
  statics := none }

def pool3 : Array CpInfo := pool [(1, .class_ 2), (0, u "java/lang/Comparable"), (0, .class_ 4), (0, u "java/lang/Object")] 7

/-- java/lang/Comparable -/
def k3 : Class := { plain "java/lang/Comparable" (some 0) with
  accessFlags := 1537
  interfaces := #[]
  cf := some (fileOf pool3 1 #[] #[] 1537 3 #[] #[])
  fields := #[]
  methods := #[]
  instanceTypes := #[]
  staticTypes := #[]
  resolved := Array.replicate 12 none
  statics := none }

def pool4 : Array CpInfo := pool [(1, .class_ 2), (0, u "java/io/Serializable"), (0, .class_ 4), (0, u "java/lang/Object")] 2

/-- java/io/Serializable -/
def k4 : Class := { plain "java/io/Serializable" (some 0) with
  accessFlags := 1537
  interfaces := #[]
  cf := some (fileOf pool4 1 #[] #[] 1537 3 #[] #[])
  fields := #[]
  methods := #[]
  instanceTypes := #[]
  staticTypes := #[]
  resolved := Array.replicate 7 none
  statics := none }

def pool5 : Array CpInfo := pool [(2, .class_ 4), (1, u "java/lang/Enum"), (0, u "name"), (0, u "Ljava/lang/String;"), (2, u "ordinal"), (0, u "I"), (1, .class_ 14), (1, u "java/lang/Object"), (4, u "hash"), (86, .class_ 108), (1, u "java/lang/Enum$EnumDesc"), (2, .class_ 112), (0, u "java/lang/constant/Constable"), (0, .class_ 114), (0, u "java/lang/Comparable"), (0, .class_ 116), (0, u "java/io/Serializable")] 87

/-- java/lang/Enum -/
def k5 : Class := { plain "java/lang/Enum" (some 0) with
  accessFlags := 1057
  interfaces := #[2, 3, 4]
  cf := some (fileOf pool5 2 #[.nestMembers #[106]] #[] 1057 12 #[111, 113, 115] #[{ accessFlags := 18, nameIndex := 5, descriptorIndex := 6, attributes := #[] }, { accessFlags := 18, nameIndex := 9, descriptorIndex := 10, attributes := #[] }, { accessFlags := 2, nameIndex := 19, descriptorIndex := 10, attributes := #[] }])
  fields := #[{ name := "name", type := (.object "java/lang/String"), accessFlags := 18, slot := 0, constantValue := 0 }, { name := "ordinal", type := .int, accessFlags := 18, slot := 1, constantValue := 0 }, { name := "hash", type := .int, accessFlags := 2, slot := 2, constantValue := 0 }]
  methods := #[]
  instanceTypes := #[(.object "java/lang/String"), .int, .int]
  staticTypes := #[]
  resolved := Array.replicate 204 none
  statics := none }

def pool6 : Array CpInfo := pool [(1, .class_ 2), (0, u "com/example/libinvariant/libinvariant/aiger/AigerEncoding"), (2, u "ASCII"), (0, u "Lcom/example/libinvariant/libinvariant/aiger/AigerEncoding;"), (2, u "BINARY"), (2, u "$VALUES"), (0, u "[Lcom/example/libinvariant/libinvariant/aiger/AigerEncoding;"), (6, .class_ 22), (1, u "java/lang/Enum"), (8, u "magic"), (0, u "Ljava/lang/String;")] 26

/-- com/example/libinvariant/libinvariant/aiger/AigerEncoding -/
def k6 : Class := { plain "com/example/libinvariant/libinvariant/aiger/AigerEncoding" (some 5) with
  accessFlags := 16433
  interfaces := #[]
  cf := some (fileOf pool6 1 #[] #[] 16433 20 #[] #[{ accessFlags := 16409, nameIndex := 5, descriptorIndex := 6, attributes := #[] }, { accessFlags := 16409, nameIndex := 9, descriptorIndex := 6, attributes := #[] }, { accessFlags := 18, nameIndex := 31, descriptorIndex := 32, attributes := #[] }, { accessFlags := 4122, nameIndex := 12, descriptorIndex := 13, attributes := #[] }])
  fields := #[{ name := "ASCII", type := (.object "com/example/libinvariant/libinvariant/aiger/AigerEncoding"), accessFlags := 16409, slot := 0, constantValue := 0 }, { name := "BINARY", type := (.object "com/example/libinvariant/libinvariant/aiger/AigerEncoding"), accessFlags := 16409, slot := 1, constantValue := 0 }, { name := "magic", type := (.object "java/lang/String"), accessFlags := 18, slot := 3, constantValue := 0 }, { name := "$VALUES", type := (.array (.object "com/example/libinvariant/libinvariant/aiger/AigerEncoding")), accessFlags := 4122, slot := 2, constantValue := 0 }]
  methods := #[]
  instanceTypes := #[(.object "java/lang/String"), .int, .int, (.object "java/lang/String")]
  staticTypes := #[(.object "com/example/libinvariant/libinvariant/aiger/AigerEncoding"), (.object "com/example/libinvariant/libinvariant/aiger/AigerEncoding"), (.array (.object "com/example/libinvariant/libinvariant/aiger/AigerEncoding"))]
  resolved := Array.replicate 59 none
  statics := some 0 }

def pool7 : Array CpInfo := pool [(1, .methodref 2 3), (0, .class_ 4), (0, .nameAndType 5 6), (0, u "java/lang/Object"), (0, u "<init>"), (0, u "()V"), (0, .class_ 8), (0, u "java/lang/Record")] 13

def k7c0 : Code := { maxStack := 1, maxLocals := 1, code := jdk_30_method_1_code, exceptionTable := #[], attributes := #[] }
def k7m0 : Method := { name := "<init>", desc := "()V", sig := { parameters := [], returnType := none }, accessFlags := 4, code := some k7c0 }
/-- java/lang/Record -/
def k7 : Class := { plain "java/lang/Record" (some 0) with
  accessFlags := 1057
  interfaces := #[]
  cf := some (fileOf pool7 7 #[] #[{ accessFlags := 4, nameIndex := 5, descriptorIndex := 6, attributes := #[] }] 1057 2 #[] #[])
  fields := #[]
  methods := #[k7m0]
  instanceTypes := #[]
  staticTypes := #[]
  resolved := Array.replicate 22 none
  statics := none }

def pool8 : Array CpInfo := pool [(3, .methodref 4 5), (0, .class_ 6), (0, .nameAndType 7 8), (0, u "java/lang/Record"), (0, u "<init>"), (0, u "()V"), (0, .string 10), (0, u "encoding"), (0, .methodref 12 13), (0, .class_ 14), (0, .nameAndType 15 16), (0, u "java/util/Objects"), (0, u "requireNonNull"), (0, u "(Ljava/lang/Object;Ljava/lang/String;)Ljava/lang/Object;"), (7, .methodref 25 26), (0, .class_ 27), (0, .nameAndType 28 29), (0, u "com/example/libinvariant/libinvariant/aiger/AigerHeader"), (0, u "inconsistency"), (0, u "(Lcom/example/libinvariant/libinvariant/aiger/AigerEncoding;IIIIIZ)Ljava/lang/String;"), (0, .fieldref 25 31), (0, .nameAndType 10 32), (0, u "Lcom/example/libinvariant/libinvariant/aiger/AigerEncoding;"), (0, .fieldref 25 34), (0, .nameAndType 35 36), (0, u "maxVariable"), (0, u "I"), (0, .fieldref 25 38), (0, .nameAndType 39 36), (0, u "inputs"), (0, .fieldref 25 41), (0, .nameAndType 42 36), (0, u "latches"), (0, .fieldref 25 44), (0, .nameAndType 45 36), (0, u "outputs"), (0, .fieldref 25 47), (0, .nameAndType 48 36), (0, u "andGates"), (0, .fieldref 25 50), (0, .nameAndType 51 36), (0, u "badStates"), (0, .fieldref 25 53), (0, .nameAndType 54 36), (0, u "constraints"), (0, .fieldref 25 56), (0, .nameAndType 57 36), (0, u "justice"), (0, .fieldref 25 59), (0, .nameAndType 60 36), (0, u "fairness"), (0, .fieldref 25 62), (0, .nameAndType 63 64), (0, u "olderForm"), (0, u "Z"), (11, u "FIELDS"), (0, u "[Ljava/lang/String;"), (3, .class_ 83), (1, u "com/example/libinvariant/libinvariant/aiger/AigerEncoding"), (7, u "()I"), (22, u "(Lcom/example/libinvariant/libinvariant/aiger/AigerEncoding;IIIIIIIIIZ)V"), (12, .integer 1073741823), (1, .integer 1048576), (4, .fieldref 81 135), (0, .nameAndType 136 32), (0, u "BINARY"), (32, u "MAX_VARIABLE"), (1, u "MAX_INPUTS"), (0, u "OLDER_FORM_FIELDS"), (10, u "badStateProperties")] 53

def k8c0 : Code := { maxStack := 7, maxLocals := 13, code := prog_3_method_1_code, exceptionTable := #[], attributes := #[] }
def k8m0 : Method := { name := "<init>", desc := "(Lcom/example/libinvariant/libinvariant/aiger/AigerEncoding;IIIIIIIIIZ)V", sig := { parameters := [(.object "com/example/libinvariant/libinvariant/aiger/AigerEncoding"), .int, .int, .int, .int, .int, .int, .int, .int, .int, .boolean], returnType := none }, accessFlags := 1, code := some k8c0 }
def k8c1 : Code := { maxStack := 1, maxLocals := 1, code := prog_3_method_3_code, exceptionTable := #[], attributes := #[] }
def k8m1 : Method := { name := "badStateProperties", desc := "()I", sig := { parameters := [], returnType := some .int }, accessFlags := 1, code := some k8c1 }
def k8c2 : Code := { maxStack := 4, maxLocals := 10, code := prog_3_method_5_code, exceptionTable := #[], attributes := #[] }
def k8m2 : Method := { name := "inconsistency", desc := "(Lcom/example/libinvariant/libinvariant/aiger/AigerEncoding;IIIIIZ)Ljava/lang/String;", sig := { parameters := [(.object "com/example/libinvariant/libinvariant/aiger/AigerEncoding"), .int, .int, .int, .int, .int, .boolean], returnType := some (.object "java/lang/String") }, accessFlags := 10, code := some k8c2 }
/-- com/example/libinvariant/libinvariant/aiger/AigerHeader -/
def k8 : Class := { plain "com/example/libinvariant/libinvariant/aiger/AigerHeader" (some 7) with
  accessFlags := 49
  interfaces := #[]
  cf := some (fileOf pool8 25 #[] #[{ accessFlags := 1, nameIndex := 7, descriptorIndex := 114, attributes := #[] }, { accessFlags := 1, nameIndex := 183, descriptorIndex := 91, attributes := #[] }, { accessFlags := 10, nameIndex := 28, descriptorIndex := 29, attributes := #[] }] 49 4 #[] #[{ accessFlags := 18, nameIndex := 10, descriptorIndex := 32, attributes := #[] }, { accessFlags := 18, nameIndex := 35, descriptorIndex := 36, attributes := #[] }, { accessFlags := 18, nameIndex := 39, descriptorIndex := 36, attributes := #[] }, { accessFlags := 18, nameIndex := 42, descriptorIndex := 36, attributes := #[] }, { accessFlags := 18, nameIndex := 45, descriptorIndex := 36, attributes := #[] }, { accessFlags := 18, nameIndex := 48, descriptorIndex := 36, attributes := #[] }, { accessFlags := 18, nameIndex := 51, descriptorIndex := 36, attributes := #[] }, { accessFlags := 18, nameIndex := 54, descriptorIndex := 36, attributes := #[] }, { accessFlags := 18, nameIndex := 57, descriptorIndex := 36, attributes := #[] }, { accessFlags := 18, nameIndex := 60, descriptorIndex := 36, attributes := #[] }, { accessFlags := 18, nameIndex := 63, descriptorIndex := 64, attributes := #[] }, { accessFlags := 25, nameIndex := 169, descriptorIndex := 36, attributes := #[] }, { accessFlags := 25, nameIndex := 171, descriptorIndex := 36, attributes := #[] }, { accessFlags := 26, nameIndex := 76, descriptorIndex := 77, attributes := #[] }, { accessFlags := 26, nameIndex := 172, descriptorIndex := 36, attributes := #[] }])
  fields := #[{ name := "encoding", type := (.object "com/example/libinvariant/libinvariant/aiger/AigerEncoding"), accessFlags := 18, slot := 0, constantValue := 0 }, { name := "maxVariable", type := .int, accessFlags := 18, slot := 1, constantValue := 0 }, { name := "inputs", type := .int, accessFlags := 18, slot := 2, constantValue := 0 }, { name := "latches", type := .int, accessFlags := 18, slot := 3, constantValue := 0 }, { name := "outputs", type := .int, accessFlags := 18, slot := 4, constantValue := 0 }, { name := "andGates", type := .int, accessFlags := 18, slot := 5, constantValue := 0 }, { name := "badStates", type := .int, accessFlags := 18, slot := 6, constantValue := 0 }, { name := "constraints", type := .int, accessFlags := 18, slot := 7, constantValue := 0 }, { name := "justice", type := .int, accessFlags := 18, slot := 8, constantValue := 0 }, { name := "fairness", type := .int, accessFlags := 18, slot := 9, constantValue := 0 }, { name := "olderForm", type := .boolean, accessFlags := 18, slot := 10, constantValue := 0 }, { name := "MAX_VARIABLE", type := .int, accessFlags := 25, slot := 0, constantValue := 0 }, { name := "MAX_INPUTS", type := .int, accessFlags := 25, slot := 1, constantValue := 0 }, { name := "FIELDS", type := (.array (.object "java/lang/String")), accessFlags := 26, slot := 2, constantValue := 0 }, { name := "OLDER_FORM_FIELDS", type := .int, accessFlags := 26, slot := 3, constantValue := 0 }]
  methods := #[k8m0, k8m1, k8m2]
  instanceTypes := #[(.object "com/example/libinvariant/libinvariant/aiger/AigerEncoding"), .int, .int, .int, .int, .int, .int, .int, .int, .int, .boolean]
  staticTypes := #[.int, .int, (.array (.object "java/lang/String")), .int]
  resolved := Array.replicate 237 none
  statics := none }

def pool9 : Array CpInfo := pool [(2, .class_ 4), (1, u "java/lang/CharSequence"), (42, .class_ 48), (0, u "java/lang/CharSequence$1CodePointIterator"), (10, .class_ 60), (0, u "java/lang/CharSequence$1CharIterator"), (5, .class_ 67), (0, u "java/lang/Object")] 63

/-- java/lang/CharSequence -/
def k9 : Class := { plain "java/lang/CharSequence" (some 0) with
  accessFlags := 1537
  interfaces := #[]
  cf := some (fileOf pool9 2 #[.nestMembers #[47, 59]] #[] 1537 66 #[] #[])
  fields := #[]
  methods := #[]
  instanceTypes := #[]
  staticTypes := #[]
  resolved := Array.replicate 131 none
  statics := none }

def pool10 : Array CpInfo := pool [(1, .class_ 2), (0, u "java/lang/constant/ConstantDesc"), (0, .class_ 4), (0, u "java/lang/Object")] 32

/-- java/lang/constant/ConstantDesc -/
def k10 : Class := { plain "java/lang/constant/ConstantDesc" (some 0) with
  accessFlags := 1537
  interfaces := #[]
  cf := some (fileOf pool10 1 #[] #[] 1537 3 #[] #[])
  fields := #[]
  methods := #[]
  instanceTypes := #[]
  staticTypes := #[]
  resolved := Array.replicate 37 none
  statics := none }

def pool11 : Array CpInfo := pool [(2, .class_ 4), (1, u "java/lang/Object"), (0, u "<init>"), (0, u "()V"), (3, .class_ 12), (1, u "java/lang/String"), (0, u "value"), (0, u "[B"), (2, u "coder"), (0, u "B"), (2, u "hash"), (0, u "I"), (2, u "hashIsZero"), (0, u "Z"), (13, u "COMPACT_STRINGS"), (534, .class_ 576), (0, u "java/lang/CharSequence"), (22, u "CASE_INSENSITIVE_ORDER"), (0, u "Ljava/util/Comparator;"), (500, u "serialPersistentFields"), (0, u "[Ljava/io/ObjectStreamField;"), (0, .class_ 1104), (0, u "java/lang/String$CaseInsensitiveComparator"), (1, .class_ 1107), (0, u "java/io/Serializable"), (0, .class_ 1109), (0, u "java/lang/Comparable"), (0, .class_ 1111), (0, u "java/lang/constant/Constable"), (0, .class_ 1113), (0, u "java/lang/constant/ConstantDesc"), (2, u "serialVersionUID"), (0, u "J"), (3, u "REPL"), (0, u "C"), (2, u "LATIN1"), (1, u "UTF16")] 323

def k11m0 : Method := { name := "<init>", desc := "()V", sig := { parameters := [], returnType := none }, accessFlags := 1, code := none }
/-- java/lang/String -/
def k11 : Class := { plain "java/lang/String" (some 0) with
  accessFlags := 49
  interfaces := #[4, 3, 9, 2, 10]
  cf := some (fileOf pool11 10 #[.nestMembers #[1103]] #[{ accessFlags := 1, nameIndex := 5, descriptorIndex := 6, attributes := #[] }] 49 2 #[1106, 1108, 575, 1110, 1112] #[{ accessFlags := 18, nameIndex := 13, descriptorIndex := 14, attributes := #[] }, { accessFlags := 18, nameIndex := 17, descriptorIndex := 18, attributes := #[] }, { accessFlags := 2, nameIndex := 21, descriptorIndex := 22, attributes := #[] }, { accessFlags := 2, nameIndex := 25, descriptorIndex := 26, attributes := #[] }, { accessFlags := 26, nameIndex := 1116, descriptorIndex := 1117, attributes := #[] }, { accessFlags := 24, nameIndex := 40, descriptorIndex := 26, attributes := #[] }, { accessFlags := 26, nameIndex := 1101, descriptorIndex := 1102, attributes := #[] }, { accessFlags := 26, nameIndex := 1121, descriptorIndex := 1122, attributes := #[] }, { accessFlags := 25, nameIndex := 599, descriptorIndex := 600, attributes := #[] }, { accessFlags := 24, nameIndex := 1125, descriptorIndex := 18, attributes := #[] }, { accessFlags := 24, nameIndex := 1127, descriptorIndex := 18, attributes := #[] }])
  fields := #[{ name := "value", type := (.array .byte), accessFlags := 18, slot := 0, constantValue := 0 }, { name := "coder", type := .byte, accessFlags := 18, slot := 1, constantValue := 0 }, { name := "hash", type := .int, accessFlags := 2, slot := 2, constantValue := 0 }, { name := "hashIsZero", type := .boolean, accessFlags := 2, slot := 3, constantValue := 0 }, { name := "serialVersionUID", type := .long, accessFlags := 26, slot := 0, constantValue := 0 }, { name := "COMPACT_STRINGS", type := .boolean, accessFlags := 24, slot := 1, constantValue := 0 }, { name := "serialPersistentFields", type := (.array (.object "java/io/ObjectStreamField")), accessFlags := 26, slot := 2, constantValue := 0 }, { name := "REPL", type := .char, accessFlags := 26, slot := 3, constantValue := 0 }, { name := "CASE_INSENSITIVE_ORDER", type := (.object "java/util/Comparator"), accessFlags := 25, slot := 4, constantValue := 0 }, { name := "LATIN1", type := .byte, accessFlags := 24, slot := 5, constantValue := 0 }, { name := "UTF16", type := .byte, accessFlags := 24, slot := 6, constantValue := 0 }]
  methods := #[k11m0]
  instanceTypes := #[(.array .byte), .byte, .int, .boolean]
  staticTypes := #[.long, .boolean, (.array (.object "java/io/ObjectStreamField")), .char, (.object "java/util/Comparator"), .byte, .byte]
  resolved := Array.replicate 1451 none
  statics := none }

def pool12 : Array CpInfo := pool [(2, .class_ 4), (1, u "java/lang/Object"), (0, u "<init>"), (0, u "()V"), (35, .class_ 44), (1, u "java/util/Objects"), (0, u "requireNonNull"), (48, u "(Ljava/lang/Object;Ljava/lang/String;)Ljava/lang/Object;")] 89

def k12m0 : Method := { name := "<init>", desc := "()V", sig := { parameters := [], returnType := none }, accessFlags := 2, code := none }
def k12c1 : Code := { maxStack := 3, maxLocals := 2, code := jdk_31_method_11_code, exceptionTable := #[], attributes := #[] }
def k12m1 : Method := { name := "requireNonNull", desc := "(Ljava/lang/Object;Ljava/lang/String;)Ljava/lang/Object;", sig := { parameters := [(.object "java/lang/Object"), (.object "java/lang/String")], returnType := some (.object "java/lang/Object") }, accessFlags := 9, code := some k12c1 }
/-- java/util/Objects -/
def k12 : Class := { plain "java/util/Objects" (some 0) with
  accessFlags := 49
  interfaces := #[]
  cf := some (fileOf pool12 42 #[] #[{ accessFlags := 2, nameIndex := 5, descriptorIndex := 6, attributes := #[] }, { accessFlags := 9, nameIndex := 45, descriptorIndex := 94, attributes := #[] }] 49 2 #[] #[])
  fields := #[]
  methods := #[k12m0, k12m1]
  instanceTypes := #[]
  staticTypes := #[]
  resolved := Array.replicate 184 none
  statics := none }

def pool13 : Array CpInfo := pool [(1, u "java/lang/Cloneable"), (0, .class_ 1), (0, u "java/lang/Object"), (0, .class_ 3)] 3

/-- java/lang/Cloneable -/
def k13 : Class := { plain "java/lang/Cloneable" (some 0) with
  accessFlags := 1537
  interfaces := #[]
  cf := some (fileOf pool13 2 #[] #[] 1537 4 #[] #[])
  fields := #[]
  methods := #[]
  instanceTypes := #[]
  staticTypes := #[]
  resolved := Array.replicate 8 none
  statics := none }

/-- the primitive byte -/
def k14 : Class := { plain "byte" none with kind := .primitive 'B', accessFlags := 0x411 }
/-- [B -/
def k15 : Class := { plain "[B" (some 0) with kind := .array 14 .byte, interfaces := #[13, 4], accessFlags := 1041 }

/-- the primitive int -/
def k16 : Class := { plain "int" none with kind := .primitive 'I', accessFlags := 0x411 }
/-- [I -/
def k17 : Class := { plain "[I" (some 0) with kind := .array 16 .int, interfaces := #[13, 4], accessFlags := 1041 }

def heap : Heap := #[{ cls := 6, slots := #[.ref 1, .ref 2, .null], vm := .statics 6 },
  { cls := 6, slots := #[.null, .int 0, .int 0, .null], vm := .none },
  { cls := 6, slots := #[.null, .int 1, .int 0, .null], vm := .none }]
def classes : Array Class := #[k0, k1, k2, k3, k4, k5, k6, k7, k8, k9, k10, k11, k12, k13, k14, k15, k16, k17]
def interned : List (Array UInt16 × Addr) := []
def slotsUsed : Nat := 11
def theMethod : MethodId := ⟨1, 1⟩
def args0 : Array Value := #[.int 5, .int 6, .int 7, .int 8, .int 9, .int 10]
def aboutOver (below : List Frame) : State where
  vm := { classes := classes, interned := interned.toArray }
  heap := heap
  slotsUsed := slotsUsed
  threads := #[{ frames := .invoking theMethod args0 :: below }]
def below0 : List Frame := [.native { method := ⟨0, 0⟩, args := #[] }]
def about1 : State := aboutOver below0
def p0 : Program := .bare "" "" ""
def e0 : Env := launch0.env 0 0 0
theorem w_frames : about1.frames = Frame.invoking theMethod args0 :: below0 := rfl
set_option maxRecDepth 65536 in
theorem w_args : argsFit about1.vm theMethod args0 = true := by decide +kernel
set_option maxRecDepth 65536 in
theorem w_heap : heapFits about1 = true := by decide +kernel
set_option maxRecDepth 65536 in
theorem w_runnable : about1.curStatus? = some .runnable := by decide +kernel
set_option maxRecDepth 65536 in
theorem w_alone : about1.alone = true := by decide +kernel
set_option maxRecDepth 65536 in
theorem w_named : about1.methodNamed? x = some theMethod := by decide +kernel
set_option maxRecDepth 65536 in
theorem w_hears : about1.hears theMethod below0 = true := by decide +kernel
set_option maxRecDepth 65536 in
theorem w_ripe : about1.ripe theMethod args0 below0 = true := by decide +kernel
theorem w_running : about1.status = .running := rfl
set_option maxRecDepth 65536 in
theorem w_room : about1.hasRoom e0.platform room_1 = true :=
  launch0.hasRoom_least _ room_1 (by decide +kernel) (by decide +kernel) (by decide +kernel) (by decide +kernel) (by decide +kernel) (by decide +kernel)
theorem allAtoms_all (ts : List Jvm.Cond) (a : Array Jvm.Value) (st : Jvm.State) : (allAtoms ts).before a st = ts.all (fun c => c.before a st) := by
  induction ts with
  | nil => rfl
  | cons c t ih =>
    show (Jvm.Cond.and c (allAtoms t)).before a st = _
    rw [Jvm.Cond.before_and, ih, List.all_cons]
def words1 : List Jvm.Cond := Jvm.Cond.code x code maxLocals ret :: tables_1
/-- a 'code' word, met by the world's own term for the bytes: nothing is compared byte by byte -/
theorem code_word {y : MethodName} {bytes : ByteArray} {mx : Nat} {rt : Option FieldType} {a : Array Value} {s : State} {m : MethodId} {meth : Method} {c : Code} (h1 : s.methodNamed? y = some m) (h2 : s.vm.method? m = some meth) (h3 : meth.code = some c) (h4 : c.code = bytes)
    (h5 : (c.maxLocals == mx && c.exceptionTable.isEmpty && decide (c.maxStack ≤ mostOperands) && decide (meth.sig.returnType = rt) && !meth.locks && decide (parseMethodDescriptor y.desc = some meth.sig)) = true) : (Jvm.Cond.code y bytes mx rt).before a s = true := by
  simp only [Bool.and_eq_true, beq_iff_eq, Bool.not_eq_true', decide_eq_true_eq] at h5
  obtain ⟨⟨⟨⟨⟨g1, g2⟩, g3⟩, g4⟩, g5⟩, g6⟩ := h5
  simp [Cond.before, Cond.holds, Cond.value, h1, h2, h3, h4, g1, g2, g3, g4, g5, g6]
def isCode : Jvm.Cond → Bool
  | .code _ _ _ _ => true
  | _ => false
theorem all_split {L : List Jvm.Cond} {P : Jvm.Cond → Bool} (h1 : L.all (fun c => isCode c || P c) = true) (h2 : ∀ c ∈ L.filter isCode, P c = true) : L.all P = true := by
  refine List.all_eq_true.mpr fun c hc => ?_
  have h := List.all_eq_true.mp h1 c hc
  rcases Bool.eq_false_or_eq_true (isCode c) with hi | hi
  · exact h2 c (List.mem_filter.mpr ⟨hc, hi⟩)
  · simpa [hi] using h
set_option maxRecDepth 65536 in
theorem w_c0 : (Jvm.Cond.code x code maxLocals ret).before args0 about1 = true := code_word (m := ⟨1, 1⟩) (meth := k1m1) (c := k1c1) (by decide +kernel) rfl rfl rfl (by decide +kernel)
set_option maxRecDepth 65536 in
theorem w_c1 : (Jvm.Cond.code ({ cls := "com/example/libinvariant/libinvariant/aiger/AigerHeader", name := "<init>", desc := "(Lcom/example/libinvariant/libinvariant/aiger/AigerEncoding;IIIIIIIIIZ)V" } : Jvm.MethodName) prog_3_method_1_code (13 : Nat) (Option.none : Option Jvm.ClassFile.FieldType)).before args0 about1 = true := code_word (m := ⟨8, 0⟩) (meth := k8m0) (c := k8c0) (by decide +kernel) rfl rfl rfl (by decide +kernel)
set_option maxRecDepth 65536 in
theorem w_c2 : (Jvm.Cond.code ({ cls := "java/lang/Record", name := "<init>", desc := "()V" } : Jvm.MethodName) jdk_30_method_1_code (1 : Nat) (Option.none : Option Jvm.ClassFile.FieldType)).before args0 about1 = true := code_word (m := ⟨7, 0⟩) (meth := k7m0) (c := k7c0) (by decide +kernel) rfl rfl rfl (by decide +kernel)
set_option maxRecDepth 65536 in
theorem w_c3 : (Jvm.Cond.code ({ cls := "java/lang/Object", name := "<init>", desc := "()V" } : Jvm.MethodName) object_method_1_code (1 : Nat) (Option.none : Option Jvm.ClassFile.FieldType)).before args0 about1 = true := code_word (m := ⟨0, 0⟩) (meth := k0m0) (c := k0c0) (by decide +kernel) rfl rfl rfl (by decide +kernel)
set_option maxRecDepth 65536 in
theorem w_c4 : (Jvm.Cond.code ({ cls := "java/util/Objects", name := "requireNonNull", desc := "(Ljava/lang/Object;Ljava/lang/String;)Ljava/lang/Object;" } : Jvm.MethodName) jdk_31_method_11_code (2 : Nat) (Option.some (Jvm.ClassFile.FieldType.object "java/lang/Object"))).before args0 about1 = true := code_word (m := ⟨12, 1⟩) (meth := k12m1) (c := k12c1) (by decide +kernel) rfl rfl rfl (by decide +kernel)
set_option maxRecDepth 65536 in
theorem w_c5 : (Jvm.Cond.code ({ cls := "com/example/libinvariant/libinvariant/aiger/AigerHeader", name := "inconsistency", desc := "(Lcom/example/libinvariant/libinvariant/aiger/AigerEncoding;IIIIIZ)Ljava/lang/String;" } : Jvm.MethodName) prog_3_method_5_code (10 : Nat) (Option.some (Jvm.ClassFile.FieldType.object "java/lang/String"))).before args0 about1 = true := code_word (m := ⟨8, 2⟩) (meth := k8m2) (c := k8c2) (by decide +kernel) rfl rfl rfl (by decide +kernel)
set_option maxRecDepth 65536 in
theorem w_c6 : (Jvm.Cond.code ({ cls := "com/example/libinvariant/libinvariant/aiger/AigerHeader", name := "badStateProperties", desc := "()I" } : Jvm.MethodName) prog_3_method_3_code (1 : Nat) (Option.some Jvm.ClassFile.FieldType.int)).before args0 about1 = true := code_word (m := ⟨8, 1⟩) (meth := k8m1) (c := k8c1) (by decide +kernel) rfl rfl rfl (by decide +kernel)
def codes1 : List Jvm.Cond := [Jvm.Cond.code x code maxLocals ret, Jvm.Cond.code ({ cls := "com/example/libinvariant/libinvariant/aiger/AigerHeader", name := "<init>", desc := "(Lcom/example/libinvariant/libinvariant/aiger/AigerEncoding;IIIIIIIIIZ)V" } : Jvm.MethodName) prog_3_method_1_code (13 : Nat) (Option.none : Option Jvm.ClassFile.FieldType), Jvm.Cond.code ({ cls := "java/lang/Record", name := "<init>", desc := "()V" } : Jvm.MethodName) jdk_30_method_1_code (1 : Nat) (Option.none : Option Jvm.ClassFile.FieldType), Jvm.Cond.code ({ cls := "java/lang/Object", name := "<init>", desc := "()V" } : Jvm.MethodName) object_method_1_code (1 : Nat) (Option.none : Option Jvm.ClassFile.FieldType), Jvm.Cond.code ({ cls := "java/util/Objects", name := "requireNonNull", desc := "(Ljava/lang/Object;Ljava/lang/String;)Ljava/lang/Object;" } : Jvm.MethodName) jdk_31_method_11_code (2 : Nat) (Option.some (Jvm.ClassFile.FieldType.object "java/lang/Object")), Jvm.Cond.code ({ cls := "com/example/libinvariant/libinvariant/aiger/AigerHeader", name := "inconsistency", desc := "(Lcom/example/libinvariant/libinvariant/aiger/AigerEncoding;IIIIIZ)Ljava/lang/String;" } : Jvm.MethodName) prog_3_method_5_code (10 : Nat) (Option.some (Jvm.ClassFile.FieldType.object "java/lang/String")), Jvm.Cond.code ({ cls := "com/example/libinvariant/libinvariant/aiger/AigerHeader", name := "badStateProperties", desc := "()I" } : Jvm.MethodName) prog_3_method_3_code (1 : Nat) (Option.some Jvm.ClassFile.FieldType.int)]
set_option maxRecDepth 65536 in
theorem codes_eq : words1.filter isCode = codes1 := rfl
theorem w_codes : ∀ c ∈ words1.filter isCode, c.before args0 about1 = true := by
  rw [codes_eq]
  intro c hc
  simp only [codes1, List.mem_cons, List.not_mem_nil, or_false] at hc
  rcases hc with rfl | rfl | rfl | rfl | rfl | rfl | rfl
  · exact w_c0
  · exact w_c1
  · exact w_c2
  · exact w_c3
  · exact w_c4
  · exact w_c5
  · exact w_c6
set_option maxRecDepth 65536 in
theorem w_t1 : (words1.take 24).all (fun c => isCode c || c.before args0 about1) = true := by decide +kernel
set_option maxRecDepth 65536 in
theorem w_t2 : ((words1.drop 24).take 24).all (fun c => isCode c || c.before args0 about1) = true := by decide +kernel
set_option maxRecDepth 65536 in
theorem w_t3 : ((words1.drop 24).drop 24).all (fun c => isCode c || c.before args0 about1) = true := by decide +kernel
theorem w_tables : (allAtoms (Jvm.Cond.code x code maxLocals ret :: tables_1)).before args0 about1 = true := by
  rw [allAtoms_all]
  show words1.all (fun c => c.before args0 about1) = true
  refine all_split ?_ w_codes
  rw [← List.take_append_drop 24 words1, List.all_append, w_t1, ← List.take_append_drop 24 (words1.drop 24), List.all_append, w_t2, w_t3]
  rfl
set_option maxRecDepth 65536 in
theorem w_case : (Jvm.Cond.and given_1 narrow_1).before args0 about1 = true := by decide +kernel
theorem w_applies : (headSpec (Jvm.Cond.code x code maxLocals ret :: tables_1) room_1).applies x e0.platform about1 = true :=
  (Spec.applies_iff w_frames).mpr ⟨w_running, w_runnable, w_alone, w_named, w_hears, w_ripe, w_room, w_tables⟩
theorem atStart : AtStart classFile x code maxLocals ret World_1 tables_1 room_1 Calls_1 rest_1 Pre_1 launch0 p0 e0 about1 theMethod args0 below0 :=
  ⟨lists_1, trivial, launch0.admits_env _ _ _, launch0.least_env, fairChoices_fair.cas, fairChoices_fair.clock, w_frames, w_args, w_heap, w_applies, trivial, trivial, w_case⟩
end start1
theorem witness_1 : WitnessClaimed_1 := ⟨start1.p0, start1.e0, start1.about1, start1.theMethod, start1.args0, start1.below0, start1.atStart⟩
end Jvm.Pilot.@@N@@
