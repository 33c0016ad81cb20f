import JvmDerived
import JvmDerived.Pilot.@@N@@Statement
import JvmDerived.Pilot.@@N@@Code
set_option linter.unusedVariables false
set_option linter.unusedSimpArgs false
namespace Jvm.OwnK
open Sem ClassFile Op Lib Jvm.Stand Jvm.Free Jvm.LawKit Jvm.RoadKit
/-! a walk's surroundings: program, launch, environment, room, state at the call, method, arguments, frames below, the method's record and code -/
abbrev Cx : Type := Program × Launch × Env × Room × State × MethodId × Array Value × List Frame × Method × Code
abbrev Cx.p (Γ : Cx) : Program := Γ.1
abbrev Cx.l (Γ : Cx) : Launch := Γ.2.1
abbrev Cx.e (Γ : Cx) : Env := Γ.2.2.1
abbrev Cx.R (Γ : Cx) : Room := Γ.2.2.2.1
abbrev Cx.s (Γ : Cx) : State := Γ.2.2.2.2.1
abbrev Cx.m (Γ : Cx) : MethodId := Γ.2.2.2.2.2.1
abbrev Cx.args (Γ : Cx) : Array Value := Γ.2.2.2.2.2.2.1
abbrev Cx.below (Γ : Cx) : List Frame := Γ.2.2.2.2.2.2.2.1
abbrev Cx.meth (Γ : Cx) : Method := Γ.2.2.2.2.2.2.2.2.1
abbrev Cx.c (Γ : Cx) : Code := Γ.2.2.2.2.2.2.2.2.2
/-- what stays the same all along a walk -/
def Ctx (Γ : Cx) (Z : State) (own : String) (bytes : ByteArray) (maxl : Nat) (ret : Option FieldType) (nm : String) (rm : Room) (hs : Heap) : Prop :=
  Γ.p.tables.exec = Jvm.exec ∧ Z.Warmed39 Γ.s.vm ∧ Γ.s.vm.findClass own = some Γ.m.cls ∧ Γ.c.code = bytes ∧ Γ.c.maxLocals = maxl ∧ Γ.meth.sig.returnType = ret ∧ Γ.meth.name = nm ∧ Γ.meth.locks = false ∧ Γ.R = rm ∧ Γ.s.heap = hs
/-- where the walk stands: the state T with the heap h; at most C cells and S slots made; what was written lies in cells made since the law began -/
def W (Γ : Cx) (n0 : Nat) (T : State) (h : Heap) (C S : Nat) : Prop := ∃ locs, Stand Γ.p Γ.l Γ.e Γ.R Γ.s Γ.m Γ.args Γ.below Γ.meth Γ.c T locs C S ∧ T.heap = h ∧ Fr n0 locs
/-- from here the run comes to the method's end with what Q says -/
def Go (Γ : Cx) (n0 : Nat) (Q : Option Value → Heap → Prop) (T : State) (f : JFrame) : Prop :=
  ∃ s₂ o, Steps Γ.p.tables Γ.e Γ.below (T.setTop f) s₂ ∧ s₂.status = .running ∧ Ended s₂ Γ.below o ∧ ∃ v L, o = .returned v ∧ (Q v s₂.heap ∧ Fr n0 L) ∧ FrameEnd Γ.s o s₂ L Γ.R.cells Γ.R.slots
/-- a body's contract: called with these arguments at this heap it returns with what Q says -/
def MetW (Z : State) (y : MethodName) (bytes : ByteArray) (maxl : Nat) (ret : Option FieldType) (ws : List Cond) (rm : Room) (as' : Array Value) (h0 : Heap) (n0 : Nat) (Q : Option Value → Heap → Prop) : Prop :=
  ∀ l : Launch, MetFree l y (head1 (Cond.code y bytes maxl ret :: ws) rm) (fun a U => a = as' ∧ Z.Warmed39 U.vm ∧ U.heap = h0) (fun _ _ _ _ _ => True) (fun _ U o U' => ∃ v L, o = .returned v ∧ (Q v U'.heap ∧ Fr n0 L) ∧ FrameEnd U o U' L rm.cells rm.slots)
abbrev Met (Z : State) (y : MethodName) (bytes : ByteArray) (maxl : Nat) (ret : Option FieldType) (rm : Room) (as' : Array Value) (h0 : Heap) (n0 : Nat) (Q : Option Value → Heap → Prop) : Prop := MetW Z y bytes maxl ret [] rm as' h0 n0 Q
section K
variable {Γ : Cx} {Z : State} {own nm : String} {bytes : ByteArray} {maxl : Nat} {ret : Option FieldType} {rm : Room} {n0 : Nat} {T : State} {h hs0 : Heap} {C S : Nat} {Q : Option Value → Heap → Prop} {Ls : Array Slot} {st : List Value} {pc pc' : Nat}
theorem k_body {y : MethodName} {ws : List Cond} {as' : Array Value} {f : MethodId → JFrame} (hx : plainFor y = true) (hf : ∀ m, entryFrame m as' maxl = f m)
    (body : ∀ (Γ : Cx) (T : State), Ctx Γ Z y.cls bytes maxl ret y.name rm h → W Γ n0 T h 0 0 → Go Γ n0 Q T (f Γ.m)) : MetW Z y bytes maxl ret ws rm as' h n0 Q := by
  intro l
  refine MetFree.of_bodySF (ret := ret) hx hisR ?_
  intro p e s m args below meth c s₁ Bd hml0 hP hK
  obtain ⟨rfl, hZ, hh⟩ := hP
  have X0 : Stand p l e rm s m args below meth c s₁ [] 0 0 := Stand.of_body Bd
  have e0 : s₁.heap = h := by rw [← hh, Bd.state]; rfl
  have g := body (p, l, e, rm, s, m, args, below, meth, c) s₁ ⟨Bd.exec, hZ, findClass_of_methodNamed Bd.named, Bd.bytes, hml0, Bd.returns, (name_of_methodNamed Bd.named Bd.method).1, Bd.notSynchronized, rfl, hh⟩ ⟨[], X0, e0, Fr.nil n0⟩
  rw [← hf] at g
  exact g
theorem Go.of {T' : State} {f f' : JFrame} (k : ∀ target, Steps Γ.p.tables Γ.e Γ.below (T'.setTop f') target → Steps Γ.p.tables Γ.e Γ.below (T.setTop f) target) (K : Go Γ n0 Q T' f') : Go Γ n0 Q T f := by
  obtain ⟨s₂, o, h1, r⟩ := K
  exact ⟨s₂, o, k _ h1, r⟩
theorem Go.mono {Q' : Option Value → Heap → Prop} {f : JFrame} (K : Go Γ n0 Q T f) (q : ∀ v h, Q v h → Q' v h) : Go Γ n0 Q' T f := by
  obtain ⟨s₂, o, h1, h2, h3, v, L, h4, ⟨h5, h6⟩, h7⟩ := K
  exact ⟨s₂, o, h1, h2, h3, v, L, h4, ⟨q _ _ h5, h6⟩, h7⟩
theorem W.more {C' S' : Nat} (X : W Γ n0 T h C S) (hc : C ≤ C') (hs : S ≤ S') : W Γ n0 T h C' S' := by
  obtain ⟨L, X, r⟩ := X; exact ⟨L, X.more hc hs, r⟩
theorem MetW.mono {y : MethodName} {ws : List Cond} {as' : Array Value} {Q' : Option Value → Heap → Prop} (M : MetW Z y bytes maxl ret ws rm as' h n0 Q) (q : ∀ v h, Q v h → Q' v h) : MetW Z y bytes maxl ret ws rm as' h n0 Q' := by
  intro l p e h1 h2 h3 s m args below hf happ hP hK
  obtain ⟨n, o, a1, a2, a3, v, L, b1, ⟨b2, b3⟩, b4⟩ := M l p e h1 h2 h3 s m args below hf happ hP hK
  exact ⟨n, o, a1, a2, a3, v, L, b1, ⟨q _ _ b2, b3⟩, b4⟩
/-! ### returns -/
theorem k_retv (G : Ctx Γ Z own bytes maxl ret nm rm hs0) (X : W Γ n0 T h C S) (hd : decode bytes pc = .ok (.return_, 1)) (hr : ret = none) (q : Q none h) (hC : C ≤ rm.cells) (hS : S ≤ rm.slots) : Go Γ n0 Q T (mkF Γ.m pc Ls []) := by
  obtain ⟨hx, hZ, hown, hby, hml, hret, hnm, hlk, hR, hsH⟩ := G
  obtain ⟨L, X, e, N⟩ := X
  obtain ⟨fs, hr', hrun, hended, hW, hsame⟩ := X.leave (v := none) (fun _ => rfl) hlk
  subst hr
  refine ⟨_, _, ?_, hrun, hended, none, L, rfl, ⟨?_, N⟩, ⟨_, rfl⟩, hW, hsame.mono (hR ▸ hC) (hR ▸ hS)⟩
  · exact X.returnOut hx hret (hb hby hd) hr'
  · show Q none T.heap; rw [e]; exact q
theorem k_ret {w : Value} {t : FieldType} {i : Instr} {rest : List Value} (G : Ctx Γ Z own bytes maxl ret nm rm hs0) (X : W Γ n0 T h C S) (hd : decode bytes pc = .ok (i, 1)) (hr : ret = some t) (hn : narrow t w = w)
    (hi : (i = .ireturn ∧ (t = .int ∨ t = .boolean ∨ t = .byte ∨ t = .char ∨ t = .short) ∧ ∃ z, w = .int z) ∨ (i = .lreturn ∧ t = .long ∧ ∃ z, w = .long z) ∨ (i = .dreturn ∧ t = .double ∧ ∃ z, w = .double z) ∨ (i = .freturn ∧ t = .float ∧ ∃ z, w = .float z) ∨ (i = .areturn ∧ t.isReference = true ∧ w.isRef = true))
    (q : Q (some w) h) (hC : C ≤ rm.cells) (hS : S ≤ rm.slots) : Go Γ n0 Q T (mkF Γ.m pc Ls (w :: rest)) := by
  obtain ⟨hx, hZ, hown, hby, hml, hret, hnm, hlk, hR, hsH⟩ := G
  obtain ⟨L, X, e, N⟩ := X
  subst hr
  obtain ⟨fs, hr', hrun, hended, hW, hsame⟩ := X.leave (v := some w) (fun h => by rw [hret] at h; cases h) hlk
  refine ⟨_, _, ?_, hrun, hended, some w, L, rfl, ⟨?_, N⟩, ⟨_, rfl⟩, hW, hsame.mono (hR ▸ hC) (hR ▸ hS)⟩
  · exact retOut X hx hret hn hi (hb hby hd) hr'
  · show Q (some w) T.heap; rw [e]; exact q
theorem k_reti {z : Int32} {rest : List Value} (G : Ctx Γ Z own bytes maxl ret nm rm hs0) (X : W Γ n0 T h C S) (hd : decode bytes pc = .ok (.ireturn, 1)) (hr : ret = some .int) (q : Q (some (.int z)) h) (hC : C ≤ rm.cells) (hS : S ≤ rm.slots) : Go Γ n0 Q T (mkF Γ.m pc Ls (.int z :: rest)) :=
  k_ret G X hd hr rfl (Or.inl ⟨rfl, Or.inl rfl, _, rfl⟩) q hC hS
theorem k_retb {z : Int32} {rest : List Value} {t : FieldType} (G : Ctx Γ Z own bytes maxl ret nm rm hs0) (X : W Γ n0 T h C S) (hd : decode bytes pc = .ok (.ireturn, 1)) (hr : ret = some t) (ht : t = .int ∨ t = .boolean ∨ t = .byte ∨ t = .char ∨ t = .short) (hn : narrow t (.int z) = .int z) (q : Q (some (.int z)) h) (hC : C ≤ rm.cells) (hS : S ≤ rm.slots) : Go Γ n0 Q T (mkF Γ.m pc Ls (.int z :: rest)) :=
  k_ret G X hd hr hn (Or.inl ⟨rfl, ht, _, rfl⟩) q hC hS
theorem k_retl {z : Int64} {rest : List Value} (G : Ctx Γ Z own bytes maxl ret nm rm hs0) (X : W Γ n0 T h C S) (hd : decode bytes pc = .ok (.lreturn, 1)) (hr : ret = some .long) (q : Q (some (.long z)) h) (hC : C ≤ rm.cells) (hS : S ≤ rm.slots) : Go Γ n0 Q T (mkF Γ.m pc Ls (.long z :: rest)) :=
  k_ret G X hd hr rfl (Or.inr (Or.inl ⟨rfl, rfl, _, rfl⟩)) q hC hS
theorem narrow_ref {t : FieldType} {w : Value} (ht : t.isReference = true) : narrow t w = w := by cases t <;> first | (cases ht; done) | (cases w <;> rfl)
theorem k_reta {w : Value} {rest : List Value} {t : FieldType} (G : Ctx Γ Z own bytes maxl ret nm rm hs0) (X : W Γ n0 T h C S) (hd : decode bytes pc = .ok (.areturn, 1)) (hr : ret = some t) (ht : t.isReference = true) (hv : w.isRef = true) (q : Q (some w) h) (hC : C ≤ rm.cells) (hS : S ≤ rm.slots) : Go Γ n0 Q T (mkF Γ.m pc Ls (w :: rest)) :=
  k_ret G X hd hr (narrow_ref ht) (Or.inr (Or.inr (Or.inr (Or.inr ⟨rfl, ht, hv⟩)))) q hC hS
theorem k_iloadN {k : Fin 4} {v : Int32} (G : Ctx Γ Z own bytes maxl ret nm rm hs0) (X : W Γ n0 T h C S) (hd : decode bytes pc = .ok (.iload_n k, 1)) (hp : pc + 1 = pc') (hl : Ls[k.val]? = some (.val (.int v))) (K : Go Γ n0 Q T (mkF Γ.m pc' Ls (.int v :: st))) : Go Γ n0 Q T (mkF Γ.m pc Ls (st)) := by
  subst hp
  obtain ⟨hx, hZ, hown, hby, hml, hret, hnm, hlk, hR, hsH⟩ := G
  obtain ⟨L, X, e, N⟩ := X
  exact Go.of (fun t k => XS.iloadN X.here hx rfl (hb hby hd) hl k) K
theorem k_iload {k : Nat} {v : Int32} (G : Ctx Γ Z own bytes maxl ret nm rm hs0) (X : W Γ n0 T h C S) (hd : decode bytes pc = .ok (.iload k, 2)) (hp : pc + 2 = pc') (hl : Ls[k]? = some (.val (.int v))) (K : Go Γ n0 Q T (mkF Γ.m pc' Ls (.int v :: st))) : Go Γ n0 Q T (mkF Γ.m pc Ls (st)) := by
  subst hp
  obtain ⟨hx, hZ, hown, hby, hml, hret, hnm, hlk, hR, hsH⟩ := G
  obtain ⟨L, X, e, N⟩ := X
  exact Go.of (fun t k => XS.iload X.here hx rfl (hb hby hd) hl k) K
theorem k_lloadN {k : Fin 4} {v : Int64} (G : Ctx Γ Z own bytes maxl ret nm rm hs0) (X : W Γ n0 T h C S) (hd : decode bytes pc = .ok (.lload_n k, 1)) (hp : pc + 1 = pc') (hl : Ls[k.val]? = some (.val (.long v))) (K : Go Γ n0 Q T (mkF Γ.m pc' Ls (.long v :: st))) : Go Γ n0 Q T (mkF Γ.m pc Ls (st)) := by
  subst hp
  obtain ⟨hx, hZ, hown, hby, hml, hret, hnm, hlk, hR, hsH⟩ := G
  obtain ⟨L, X, e, N⟩ := X
  exact Go.of (fun t k => XS.lloadN X.here hx rfl (hb hby hd) hl k) K
theorem k_lload {k : Nat} {v : Int64} (G : Ctx Γ Z own bytes maxl ret nm rm hs0) (X : W Γ n0 T h C S) (hd : decode bytes pc = .ok (.lload k, 2)) (hp : pc + 2 = pc') (hl : Ls[k]? = some (.val (.long v))) (K : Go Γ n0 Q T (mkF Γ.m pc' Ls (.long v :: st))) : Go Γ n0 Q T (mkF Γ.m pc Ls (st)) := by
  subst hp
  obtain ⟨hx, hZ, hown, hby, hml, hret, hnm, hlk, hR, hsH⟩ := G
  obtain ⟨L, X, e, N⟩ := X
  exact Go.of (fun t k => XS.lload X.here hx rfl (hb hby hd) hl k) K
theorem k_aloadN {k : Fin 4} {v : Value} (G : Ctx Γ Z own bytes maxl ret nm rm hs0) (X : W Γ n0 T h C S) (hd : decode bytes pc = .ok (.aload_n k, 1)) (hp : pc + 1 = pc') (hl : Ls[k.val]? = some (.val v)) (hv : v.isRef = true) (K : Go Γ n0 Q T (mkF Γ.m pc' Ls (v :: st))) : Go Γ n0 Q T (mkF Γ.m pc Ls (st)) := by
  subst hp
  obtain ⟨hx, hZ, hown, hby, hml, hret, hnm, hlk, hR, hsH⟩ := G
  obtain ⟨L, X, e, N⟩ := X
  exact Go.of (fun t k => XS.aloadN X.here hx rfl (hb hby hd) hl hv k) K
theorem k_aload {k : Nat} {v : Value} (G : Ctx Γ Z own bytes maxl ret nm rm hs0) (X : W Γ n0 T h C S) (hd : decode bytes pc = .ok (.aload k, 2)) (hp : pc + 2 = pc') (hl : Ls[k]? = some (.val v)) (hv : v.isRef = true) (K : Go Γ n0 Q T (mkF Γ.m pc' Ls (v :: st))) : Go Γ n0 Q T (mkF Γ.m pc Ls (st)) := by
  subst hp
  obtain ⟨hx, hZ, hown, hby, hml, hret, hnm, hlk, hR, hsH⟩ := G
  obtain ⟨L, X, e, N⟩ := X
  exact Go.of (fun t k => XS.aload X.here hx rfl (hb hby hd) hl hv k) K
theorem k_istoreN {k : Fin 4} {v : Int32} {l' : Array Slot} (G : Ctx Γ Z own bytes maxl ret nm rm hs0) (X : W Γ n0 T h C S) (hd : decode bytes pc = .ok (.istore_n k, 1)) (hp : pc + 1 = pc') (hl : storeLocals Ls k.val (.int v) = some l') (K : Go Γ n0 Q T (mkF Γ.m pc' l' (st))) : Go Γ n0 Q T (mkF Γ.m pc Ls (.int v :: st)) := by
  subst hp
  obtain ⟨hx, hZ, hown, hby, hml, hret, hnm, hlk, hR, hsH⟩ := G
  obtain ⟨L, X, e, N⟩ := X
  exact Go.of (fun t k => XS.istoreN X.here hx rfl (hb hby hd) rfl hl k) K
theorem k_istore {k : Nat} {v : Int32} {l' : Array Slot} (G : Ctx Γ Z own bytes maxl ret nm rm hs0) (X : W Γ n0 T h C S) (hd : decode bytes pc = .ok (.istore k, 2)) (hp : pc + 2 = pc') (hl : storeLocals Ls k (.int v) = some l') (K : Go Γ n0 Q T (mkF Γ.m pc' l' (st))) : Go Γ n0 Q T (mkF Γ.m pc Ls (.int v :: st)) := by
  subst hp
  obtain ⟨hx, hZ, hown, hby, hml, hret, hnm, hlk, hR, hsH⟩ := G
  obtain ⟨L, X, e, N⟩ := X
  exact Go.of (fun t k => XS.istore X.here hx rfl (hb hby hd) rfl hl k) K
theorem k_lstoreN {k : Fin 4} {v : Int64} {l' : Array Slot} (G : Ctx Γ Z own bytes maxl ret nm rm hs0) (X : W Γ n0 T h C S) (hd : decode bytes pc = .ok (.lstore_n k, 1)) (hp : pc + 1 = pc') (hl : storeLocals Ls k.val (.long v) = some l') (K : Go Γ n0 Q T (mkF Γ.m pc' l' (st))) : Go Γ n0 Q T (mkF Γ.m pc Ls (.long v :: st)) := by
  subst hp
  obtain ⟨hx, hZ, hown, hby, hml, hret, hnm, hlk, hR, hsH⟩ := G
  obtain ⟨L, X, e, N⟩ := X
  exact Go.of (fun t k => XS.lstoreN X.here hx rfl (hb hby hd) rfl hl k) K
theorem k_lstore {k : Nat} {v : Int64} {l' : Array Slot} (G : Ctx Γ Z own bytes maxl ret nm rm hs0) (X : W Γ n0 T h C S) (hd : decode bytes pc = .ok (.lstore k, 2)) (hp : pc + 2 = pc') (hl : storeLocals Ls k (.long v) = some l') (K : Go Γ n0 Q T (mkF Γ.m pc' l' (st))) : Go Γ n0 Q T (mkF Γ.m pc Ls (.long v :: st)) := by
  subst hp
  obtain ⟨hx, hZ, hown, hby, hml, hret, hnm, hlk, hR, hsH⟩ := G
  obtain ⟨L, X, e, N⟩ := X
  exact Go.of (fun t k => XS.lstore X.here hx rfl (hb hby hd) rfl hl k) K
theorem k_astoreN {k : Fin 4} {v : Value} {l' : Array Slot} (G : Ctx Γ Z own bytes maxl ret nm rm hs0) (X : W Γ n0 T h C S) (hd : decode bytes pc = .ok (.astore_n k, 1)) (hp : pc + 1 = pc') (hv : v.isRef = true) (hl : storeLocals Ls k.val v = some l') (K : Go Γ n0 Q T (mkF Γ.m pc' l' (st))) : Go Γ n0 Q T (mkF Γ.m pc Ls (v :: st)) := by
  subst hp
  obtain ⟨hx, hZ, hown, hby, hml, hret, hnm, hlk, hR, hsH⟩ := G
  obtain ⟨L, X, e, N⟩ := X
  exact Go.of (fun t k => XS.astoreN X.here hx rfl (hb hby hd) rfl hv hl k) K
theorem k_astore {k : Nat} {v : Value} {l' : Array Slot} (G : Ctx Γ Z own bytes maxl ret nm rm hs0) (X : W Γ n0 T h C S) (hd : decode bytes pc = .ok (.astore k, 2)) (hp : pc + 2 = pc') (hv : v.isRef = true) (hl : storeLocals Ls k v = some l') (K : Go Γ n0 Q T (mkF Γ.m pc' l' (st))) : Go Γ n0 Q T (mkF Γ.m pc Ls (v :: st)) := by
  subst hp
  obtain ⟨hx, hZ, hown, hby, hml, hret, hnm, hlk, hR, hsH⟩ := G
  obtain ⟨L, X, e, N⟩ := X
  exact Go.of (fun t k => XS.astore X.here hx rfl (hb hby hd) rfl hv hl k) K
theorem k_iconst {i : Int} {z : Int32} (G : Ctx Γ Z own bytes maxl ret nm rm hs0) (X : W Γ n0 T h C S) (hd : decode bytes pc = .ok (.iconst i, 1)) (hp : pc + 1 = pc') (hz : Int32.ofInt i = z) (K : Go Γ n0 Q T (mkF Γ.m pc' Ls (.int z :: st))) : Go Γ n0 Q T (mkF Γ.m pc Ls (st)) := by
  subst hp
  obtain ⟨hx, hZ, hown, hby, hml, hret, hnm, hlk, hR, hsH⟩ := G
  obtain ⟨L, X, e, N⟩ := X
  subst hz
  exact Go.of (fun t k => XS.iconst X.here hx rfl (hb hby hd) k) K
theorem k_bipush {i : Int} {z : Int32} (G : Ctx Γ Z own bytes maxl ret nm rm hs0) (X : W Γ n0 T h C S) (hd : decode bytes pc = .ok (.bipush i, 2)) (hp : pc + 2 = pc') (hz : (Int8.ofInt i).toInt32 = z) (K : Go Γ n0 Q T (mkF Γ.m pc' Ls (.int z :: st))) : Go Γ n0 Q T (mkF Γ.m pc Ls (st)) := by
  subst hp
  obtain ⟨hx, hZ, hown, hby, hml, hret, hnm, hlk, hR, hsH⟩ := G
  obtain ⟨L, X, e, N⟩ := X
  subst hz
  exact Go.of (fun t k => XS.bipush X.here hx rfl (hb hby hd) k) K
theorem k_sipush {i : Int} {z : Int32} (G : Ctx Γ Z own bytes maxl ret nm rm hs0) (X : W Γ n0 T h C S) (hd : decode bytes pc = .ok (.sipush i, 3)) (hp : pc + 3 = pc') (hz : (Int16.ofInt i).toInt32 = z) (K : Go Γ n0 Q T (mkF Γ.m pc' Ls (.int z :: st))) : Go Γ n0 Q T (mkF Γ.m pc Ls (st)) := by
  subst hp
  obtain ⟨hx, hZ, hown, hby, hml, hret, hnm, hlk, hR, hsH⟩ := G
  obtain ⟨L, X, e, N⟩ := X
  subst hz
  exact Go.of (fun t k => XS.sipush X.here hx rfl (hb hby hd) k) K
theorem k_lconst {i : Fin 2} {z : Int64} (G : Ctx Γ Z own bytes maxl ret nm rm hs0) (X : W Γ n0 T h C S) (hd : decode bytes pc = .ok (.lconst i, 1)) (hp : pc + 1 = pc') (hz : Int64.ofNat i = z) (K : Go Γ n0 Q T (mkF Γ.m pc' Ls (.long z :: st))) : Go Γ n0 Q T (mkF Γ.m pc Ls (st)) := by
  subst hp
  obtain ⟨hx, hZ, hown, hby, hml, hret, hnm, hlk, hR, hsH⟩ := G
  obtain ⟨L, X, e, N⟩ := X
  subst hz
  exact Go.of (fun t k => XS.lconst X.here hx rfl (hb hby hd) k) K
theorem k_anull  (G : Ctx Γ Z own bytes maxl ret nm rm hs0) (X : W Γ n0 T h C S) (hd : decode bytes pc = .ok (.aconst_null, 1)) (hp : pc + 1 = pc')  (K : Go Γ n0 Q T (mkF Γ.m pc' Ls (.null :: st))) : Go Γ n0 Q T (mkF Γ.m pc Ls (st)) := by
  subst hp
  obtain ⟨hx, hZ, hown, hby, hml, hret, hnm, hlk, hR, hsH⟩ := G
  obtain ⟨L, X, e, N⟩ := X
  exact Go.of (fun t k => XS.aconstNull X.here hx rfl (hb hby hd) k) K
theorem k_iadd {x y z : Int32} (G : Ctx Γ Z own bytes maxl ret nm rm hs0) (X : W Γ n0 T h C S) (hd : decode bytes pc = .ok (.iadd, 1)) (hp : pc + 1 = pc') (hz : x + y = z) (K : Go Γ n0 Q T (mkF Γ.m pc' Ls (.int z :: st))) : Go Γ n0 Q T (mkF Γ.m pc Ls (.int y :: .int x :: st)) := by
  subst hp
  obtain ⟨hx, hZ, hown, hby, hml, hret, hnm, hlk, hR, hsH⟩ := G
  obtain ⟨L, X, e, N⟩ := X
  subst hz
  exact Go.of (fun t k => XS.iadd X.here hx rfl (hb hby hd) rfl k) K
theorem k_isub {x y z : Int32} (G : Ctx Γ Z own bytes maxl ret nm rm hs0) (X : W Γ n0 T h C S) (hd : decode bytes pc = .ok (.isub, 1)) (hp : pc + 1 = pc') (hz : x - y = z) (K : Go Γ n0 Q T (mkF Γ.m pc' Ls (.int z :: st))) : Go Γ n0 Q T (mkF Γ.m pc Ls (.int y :: .int x :: st)) := by
  subst hp
  obtain ⟨hx, hZ, hown, hby, hml, hret, hnm, hlk, hR, hsH⟩ := G
  obtain ⟨L, X, e, N⟩ := X
  subst hz
  exact Go.of (fun t k => XS.isub X.here hx rfl (hb hby hd) rfl k) K
theorem k_imul {x y z : Int32} (G : Ctx Γ Z own bytes maxl ret nm rm hs0) (X : W Γ n0 T h C S) (hd : decode bytes pc = .ok (.imul, 1)) (hp : pc + 1 = pc') (hz : x * y = z) (K : Go Γ n0 Q T (mkF Γ.m pc' Ls (.int z :: st))) : Go Γ n0 Q T (mkF Γ.m pc Ls (.int y :: .int x :: st)) := by
  subst hp
  obtain ⟨hx, hZ, hown, hby, hml, hret, hnm, hlk, hR, hsH⟩ := G
  obtain ⟨L, X, e, N⟩ := X
  subst hz
  exact Go.of (fun t k => XS.imul X.here hx rfl (hb hby hd) rfl k) K
theorem k_iand {x y z : Int32} (G : Ctx Γ Z own bytes maxl ret nm rm hs0) (X : W Γ n0 T h C S) (hd : decode bytes pc = .ok (.iand, 1)) (hp : pc + 1 = pc') (hz : x &&& y = z) (K : Go Γ n0 Q T (mkF Γ.m pc' Ls (.int z :: st))) : Go Γ n0 Q T (mkF Γ.m pc Ls (.int y :: .int x :: st)) := by
  subst hp
  obtain ⟨hx, hZ, hown, hby, hml, hret, hnm, hlk, hR, hsH⟩ := G
  obtain ⟨L, X, e, N⟩ := X
  subst hz
  exact Go.of (fun t k => XS.iand X.here hx rfl (hb hby hd) rfl k) K
theorem k_ior {x y z : Int32} (G : Ctx Γ Z own bytes maxl ret nm rm hs0) (X : W Γ n0 T h C S) (hd : decode bytes pc = .ok (.ior, 1)) (hp : pc + 1 = pc') (hz : x ||| y = z) (K : Go Γ n0 Q T (mkF Γ.m pc' Ls (.int z :: st))) : Go Γ n0 Q T (mkF Γ.m pc Ls (.int y :: .int x :: st)) := by
  subst hp
  obtain ⟨hx, hZ, hown, hby, hml, hret, hnm, hlk, hR, hsH⟩ := G
  obtain ⟨L, X, e, N⟩ := X
  subst hz
  exact Go.of (fun t k => XS.ior X.here hx rfl (hb hby hd) rfl k) K
theorem k_ixor {x y z : Int32} (G : Ctx Γ Z own bytes maxl ret nm rm hs0) (X : W Γ n0 T h C S) (hd : decode bytes pc = .ok (.ixor, 1)) (hp : pc + 1 = pc') (hz : x ^^^ y = z) (K : Go Γ n0 Q T (mkF Γ.m pc' Ls (.int z :: st))) : Go Γ n0 Q T (mkF Γ.m pc Ls (.int y :: .int x :: st)) := by
  subst hp
  obtain ⟨hx, hZ, hown, hby, hml, hret, hnm, hlk, hR, hsH⟩ := G
  obtain ⟨L, X, e, N⟩ := X
  subst hz
  exact Go.of (fun t k => XS.ixor X.here hx rfl (hb hby hd) rfl k) K
theorem k_ishl {x y z : Int32} (G : Ctx Γ Z own bytes maxl ret nm rm hs0) (X : W Γ n0 T h C S) (hd : decode bytes pc = .ok (.ishl, 1)) (hp : pc + 1 = pc') (hz : x <<< (y &&& 31) = z) (K : Go Γ n0 Q T (mkF Γ.m pc' Ls (.int z :: st))) : Go Γ n0 Q T (mkF Γ.m pc Ls (.int y :: .int x :: st)) := by
  subst hp
  obtain ⟨hx, hZ, hown, hby, hml, hret, hnm, hlk, hR, hsH⟩ := G
  obtain ⟨L, X, e, N⟩ := X
  subst hz
  exact Go.of (fun t k => XS.ishl X.here hx rfl (hb hby hd) rfl k) K
theorem k_ishr {x y z : Int32} (G : Ctx Γ Z own bytes maxl ret nm rm hs0) (X : W Γ n0 T h C S) (hd : decode bytes pc = .ok (.ishr, 1)) (hp : pc + 1 = pc') (hz : x >>> (y &&& 31) = z) (K : Go Γ n0 Q T (mkF Γ.m pc' Ls (.int z :: st))) : Go Γ n0 Q T (mkF Γ.m pc Ls (.int y :: .int x :: st)) := by
  subst hp
  obtain ⟨hx, hZ, hown, hby, hml, hret, hnm, hlk, hR, hsH⟩ := G
  obtain ⟨L, X, e, N⟩ := X
  subst hz
  exact Go.of (fun t k => XS.ishr X.here hx rfl (hb hby hd) rfl k) K
theorem k_iushr {x y z : Int32} (G : Ctx Γ Z own bytes maxl ret nm rm hs0) (X : W Γ n0 T h C S) (hd : decode bytes pc = .ok (.iushr, 1)) (hp : pc + 1 = pc') (hz : (x.toUInt32 >>> (y &&& 31).toUInt32).toInt32 = z) (K : Go Γ n0 Q T (mkF Γ.m pc' Ls (.int z :: st))) : Go Γ n0 Q T (mkF Γ.m pc Ls (.int y :: .int x :: st)) := by
  subst hp
  obtain ⟨hx, hZ, hown, hby, hml, hret, hnm, hlk, hR, hsH⟩ := G
  obtain ⟨L, X, e, N⟩ := X
  subst hz
  exact Go.of (fun t k => XS.iushr X.here hx rfl (hb hby hd) rfl k) K
theorem k_ladd {x y z : Int64} (G : Ctx Γ Z own bytes maxl ret nm rm hs0) (X : W Γ n0 T h C S) (hd : decode bytes pc = .ok (.ladd, 1)) (hp : pc + 1 = pc') (hz : x + y = z) (K : Go Γ n0 Q T (mkF Γ.m pc' Ls (.long z :: st))) : Go Γ n0 Q T (mkF Γ.m pc Ls (.long y :: .long x :: st)) := by
  subst hp
  obtain ⟨hx, hZ, hown, hby, hml, hret, hnm, hlk, hR, hsH⟩ := G
  obtain ⟨L, X, e, N⟩ := X
  subst hz
  exact Go.of (fun t k => XS.ladd X.here hx rfl (hb hby hd) rfl k) K
theorem k_lsub {x y z : Int64} (G : Ctx Γ Z own bytes maxl ret nm rm hs0) (X : W Γ n0 T h C S) (hd : decode bytes pc = .ok (.lsub, 1)) (hp : pc + 1 = pc') (hz : x - y = z) (K : Go Γ n0 Q T (mkF Γ.m pc' Ls (.long z :: st))) : Go Γ n0 Q T (mkF Γ.m pc Ls (.long y :: .long x :: st)) := by
  subst hp
  obtain ⟨hx, hZ, hown, hby, hml, hret, hnm, hlk, hR, hsH⟩ := G
  obtain ⟨L, X, e, N⟩ := X
  subst hz
  exact Go.of (fun t k => XS.lsub X.here hx rfl (hb hby hd) rfl k) K
theorem k_lmul {x y z : Int64} (G : Ctx Γ Z own bytes maxl ret nm rm hs0) (X : W Γ n0 T h C S) (hd : decode bytes pc = .ok (.lmul, 1)) (hp : pc + 1 = pc') (hz : x * y = z) (K : Go Γ n0 Q T (mkF Γ.m pc' Ls (.long z :: st))) : Go Γ n0 Q T (mkF Γ.m pc Ls (.long y :: .long x :: st)) := by
  subst hp
  obtain ⟨hx, hZ, hown, hby, hml, hret, hnm, hlk, hR, hsH⟩ := G
  obtain ⟨L, X, e, N⟩ := X
  subst hz
  exact Go.of (fun t k => XS.lmul X.here hx rfl (hb hby hd) rfl k) K
theorem k_land {x y z : Int64} (G : Ctx Γ Z own bytes maxl ret nm rm hs0) (X : W Γ n0 T h C S) (hd : decode bytes pc = .ok (.land, 1)) (hp : pc + 1 = pc') (hz : x &&& y = z) (K : Go Γ n0 Q T (mkF Γ.m pc' Ls (.long z :: st))) : Go Γ n0 Q T (mkF Γ.m pc Ls (.long y :: .long x :: st)) := by
  subst hp
  obtain ⟨hx, hZ, hown, hby, hml, hret, hnm, hlk, hR, hsH⟩ := G
  obtain ⟨L, X, e, N⟩ := X
  subst hz
  exact Go.of (fun t k => XS.land X.here hx rfl (hb hby hd) rfl k) K
theorem k_lor {x y z : Int64} (G : Ctx Γ Z own bytes maxl ret nm rm hs0) (X : W Γ n0 T h C S) (hd : decode bytes pc = .ok (.lor, 1)) (hp : pc + 1 = pc') (hz : x ||| y = z) (K : Go Γ n0 Q T (mkF Γ.m pc' Ls (.long z :: st))) : Go Γ n0 Q T (mkF Γ.m pc Ls (.long y :: .long x :: st)) := by
  subst hp
  obtain ⟨hx, hZ, hown, hby, hml, hret, hnm, hlk, hR, hsH⟩ := G
  obtain ⟨L, X, e, N⟩ := X
  subst hz
  exact Go.of (fun t k => XS.lor X.here hx rfl (hb hby hd) rfl k) K
theorem k_lxor {x y z : Int64} (G : Ctx Γ Z own bytes maxl ret nm rm hs0) (X : W Γ n0 T h C S) (hd : decode bytes pc = .ok (.lxor, 1)) (hp : pc + 1 = pc') (hz : x ^^^ y = z) (K : Go Γ n0 Q T (mkF Γ.m pc' Ls (.long z :: st))) : Go Γ n0 Q T (mkF Γ.m pc Ls (.long y :: .long x :: st)) := by
  subst hp
  obtain ⟨hx, hZ, hown, hby, hml, hret, hnm, hlk, hR, hsH⟩ := G
  obtain ⟨L, X, e, N⟩ := X
  subst hz
  exact Go.of (fun t k => XS.lxor X.here hx rfl (hb hby hd) rfl k) K
theorem k_lshl {x z : Int64} {y : Int32} (G : Ctx Γ Z own bytes maxl ret nm rm hs0) (X : W Γ n0 T h C S) (hd : decode bytes pc = .ok (.lshl, 1)) (hp : pc + 1 = pc') (hz : x <<< (y &&& 0x3f).toInt64 = z) (K : Go Γ n0 Q T (mkF Γ.m pc' Ls (.long z :: st))) : Go Γ n0 Q T (mkF Γ.m pc Ls (.int y :: .long x :: st)) := by
  subst hp
  obtain ⟨hx, hZ, hown, hby, hml, hret, hnm, hlk, hR, hsH⟩ := G
  obtain ⟨L, X, e, N⟩ := X
  subst hz
  exact Go.of (fun t k => XS.lshl X.here hx rfl (hb hby hd) rfl k) K
theorem k_lshr {x z : Int64} {y : Int32} (G : Ctx Γ Z own bytes maxl ret nm rm hs0) (X : W Γ n0 T h C S) (hd : decode bytes pc = .ok (.lshr, 1)) (hp : pc + 1 = pc') (hz : x >>> (y &&& 0x3f).toInt64 = z) (K : Go Γ n0 Q T (mkF Γ.m pc' Ls (.long z :: st))) : Go Γ n0 Q T (mkF Γ.m pc Ls (.int y :: .long x :: st)) := by
  subst hp
  obtain ⟨hx, hZ, hown, hby, hml, hret, hnm, hlk, hR, hsH⟩ := G
  obtain ⟨L, X, e, N⟩ := X
  subst hz
  exact Go.of (fun t k => XS.lshr X.here hx rfl (hb hby hd) rfl k) K
theorem k_lushr {x z : Int64} {y : Int32} (G : Ctx Γ Z own bytes maxl ret nm rm hs0) (X : W Γ n0 T h C S) (hd : decode bytes pc = .ok (.lushr, 1)) (hp : pc + 1 = pc') (hz : (x.toUInt64 >>> (y &&& 0x3f).toInt64.toUInt64).toInt64 = z) (K : Go Γ n0 Q T (mkF Γ.m pc' Ls (.long z :: st))) : Go Γ n0 Q T (mkF Γ.m pc Ls (.int y :: .long x :: st)) := by
  subst hp
  obtain ⟨hx, hZ, hown, hby, hml, hret, hnm, hlk, hR, hsH⟩ := G
  obtain ⟨L, X, e, N⟩ := X
  subst hz
  exact Go.of (fun t k => XS.lushr X.here hx rfl (hb hby hd) rfl k) K
theorem k_idiv {x y z : Int32} (G : Ctx Γ Z own bytes maxl ret nm rm hs0) (X : W Γ n0 T h C S) (hd : decode bytes pc = .ok (.idiv, 1)) (hp : pc + 1 = pc') (hy : y ≠ 0) (hz : x / y = z) (K : Go Γ n0 Q T (mkF Γ.m pc' Ls (.int z :: st))) : Go Γ n0 Q T (mkF Γ.m pc Ls (.int y :: .int x :: st)) := by
  subst hp
  obtain ⟨hx, hZ, hown, hby, hml, hret, hnm, hlk, hR, hsH⟩ := G
  obtain ⟨L, X, e, N⟩ := X
  subst hz
  exact Go.of (fun t k => XS.idiv X.here hx rfl (hb hby hd) rfl hy k) K
theorem k_irem {x y z : Int32} (G : Ctx Γ Z own bytes maxl ret nm rm hs0) (X : W Γ n0 T h C S) (hd : decode bytes pc = .ok (.irem, 1)) (hp : pc + 1 = pc') (hy : y ≠ 0) (hz : x % y = z) (K : Go Γ n0 Q T (mkF Γ.m pc' Ls (.int z :: st))) : Go Γ n0 Q T (mkF Γ.m pc Ls (.int y :: .int x :: st)) := by
  subst hp
  obtain ⟨hx, hZ, hown, hby, hml, hret, hnm, hlk, hR, hsH⟩ := G
  obtain ⟨L, X, e, N⟩ := X
  subst hz
  exact Go.of (fun t k => iremM X hx rfl (hb hby hd) rfl hy k) K
theorem k_ldiv {x y z : Int64} (G : Ctx Γ Z own bytes maxl ret nm rm hs0) (X : W Γ n0 T h C S) (hd : decode bytes pc = .ok (.ldiv, 1)) (hp : pc + 1 = pc') (hy : y ≠ 0) (hz : x / y = z) (K : Go Γ n0 Q T (mkF Γ.m pc' Ls (.long z :: st))) : Go Γ n0 Q T (mkF Γ.m pc Ls (.long y :: .long x :: st)) := by
  subst hp
  obtain ⟨hx, hZ, hown, hby, hml, hret, hnm, hlk, hR, hsH⟩ := G
  obtain ⟨L, X, e, N⟩ := X
  subst hz
  exact Go.of (fun t k => XS.ldiv X.here hx rfl (hb hby hd) rfl hy k) K
theorem k_lrem {x y z : Int64} (G : Ctx Γ Z own bytes maxl ret nm rm hs0) (X : W Γ n0 T h C S) (hd : decode bytes pc = .ok (.lrem, 1)) (hp : pc + 1 = pc') (hy : y ≠ 0) (hz : x % y = z) (K : Go Γ n0 Q T (mkF Γ.m pc' Ls (.long z :: st))) : Go Γ n0 Q T (mkF Γ.m pc Ls (.long y :: .long x :: st)) := by
  subst hp
  obtain ⟨hx, hZ, hown, hby, hml, hret, hnm, hlk, hR, hsH⟩ := G
  obtain ⟨L, X, e, N⟩ := X
  subst hz
  rw [← lrem_mod] at K
  exact Go.of (fun t k => XS.lrem X.here hx rfl (hb hby hd) rfl hy k) K
theorem k_lcmp {x y : Int64} {z : Int32} (G : Ctx Γ Z own bytes maxl ret nm rm hs0) (X : W Γ n0 T h C S) (hd : decode bytes pc = .ok (.lcmp, 1)) (hp : pc + 1 = pc') (hz : (if x > y then (1 : Int32) else if x = y then 0 else -1) = z) (K : Go Γ n0 Q T (mkF Γ.m pc' Ls (.int z :: st))) : Go Γ n0 Q T (mkF Γ.m pc Ls (.long y :: .long x :: st)) := by
  subst hp
  obtain ⟨hx, hZ, hown, hby, hml, hret, hnm, hlk, hR, hsH⟩ := G
  obtain ⟨L, X, e, N⟩ := X
  subst hz
  exact Go.of (fun t k => XS.lcmp X.here hx rfl (hb hby hd) rfl k) K
theorem k_ineg {x : Int32} {z : Int32} (G : Ctx Γ Z own bytes maxl ret nm rm hs0) (X : W Γ n0 T h C S) (hd : decode bytes pc = .ok (.ineg, 1)) (hp : pc + 1 = pc') (hz : -x = z) (K : Go Γ n0 Q T (mkF Γ.m pc' Ls (.int z :: st))) : Go Γ n0 Q T (mkF Γ.m pc Ls (.int x :: st)) := by
  subst hp
  obtain ⟨hx, hZ, hown, hby, hml, hret, hnm, hlk, hR, hsH⟩ := G
  obtain ⟨L, X, e, N⟩ := X
  subst hz
  exact Go.of (fun t k => XS.ineg X.here hx rfl (hb hby hd) rfl k) K
theorem k_lneg {x : Int64} {z : Int64} (G : Ctx Γ Z own bytes maxl ret nm rm hs0) (X : W Γ n0 T h C S) (hd : decode bytes pc = .ok (.lneg, 1)) (hp : pc + 1 = pc') (hz : -x = z) (K : Go Γ n0 Q T (mkF Γ.m pc' Ls (.long z :: st))) : Go Γ n0 Q T (mkF Γ.m pc Ls (.long x :: st)) := by
  subst hp
  obtain ⟨hx, hZ, hown, hby, hml, hret, hnm, hlk, hR, hsH⟩ := G
  obtain ⟨L, X, e, N⟩ := X
  subst hz
  exact Go.of (fun t k => XS.lneg X.here hx rfl (hb hby hd) rfl k) K
theorem k_i2l {x : Int32} {z : Int64} (G : Ctx Γ Z own bytes maxl ret nm rm hs0) (X : W Γ n0 T h C S) (hd : decode bytes pc = .ok (.i2l, 1)) (hp : pc + 1 = pc') (hz : x.toInt64 = z) (K : Go Γ n0 Q T (mkF Γ.m pc' Ls (.long z :: st))) : Go Γ n0 Q T (mkF Γ.m pc Ls (.int x :: st)) := by
  subst hp
  obtain ⟨hx, hZ, hown, hby, hml, hret, hnm, hlk, hR, hsH⟩ := G
  obtain ⟨L, X, e, N⟩ := X
  subst hz
  exact Go.of (fun t k => XS.i2l X.here hx rfl (hb hby hd) rfl k) K
theorem k_l2i {x : Int64} {z : Int32} (G : Ctx Γ Z own bytes maxl ret nm rm hs0) (X : W Γ n0 T h C S) (hd : decode bytes pc = .ok (.l2i, 1)) (hp : pc + 1 = pc') (hz : x.toInt32 = z) (K : Go Γ n0 Q T (mkF Γ.m pc' Ls (.int z :: st))) : Go Γ n0 Q T (mkF Γ.m pc Ls (.long x :: st)) := by
  subst hp
  obtain ⟨hx, hZ, hown, hby, hml, hret, hnm, hlk, hR, hsH⟩ := G
  obtain ⟨L, X, e, N⟩ := X
  subst hz
  exact Go.of (fun t k => XS.l2i X.here hx rfl (hb hby hd) rfl k) K
theorem k_i2b {x : Int32} {z : Int32} (G : Ctx Γ Z own bytes maxl ret nm rm hs0) (X : W Γ n0 T h C S) (hd : decode bytes pc = .ok (.i2b, 1)) (hp : pc + 1 = pc') (hz : x.toInt8.toInt32 = z) (K : Go Γ n0 Q T (mkF Γ.m pc' Ls (.int z :: st))) : Go Γ n0 Q T (mkF Γ.m pc Ls (.int x :: st)) := by
  subst hp
  obtain ⟨hx, hZ, hown, hby, hml, hret, hnm, hlk, hR, hsH⟩ := G
  obtain ⟨L, X, e, N⟩ := X
  subst hz
  exact Go.of (fun t k => XS.i2b X.here hx rfl (hb hby hd) rfl k) K
theorem k_i2s {x : Int32} {z : Int32} (G : Ctx Γ Z own bytes maxl ret nm rm hs0) (X : W Γ n0 T h C S) (hd : decode bytes pc = .ok (.i2s, 1)) (hp : pc + 1 = pc') (hz : x.toInt16.toInt32 = z) (K : Go Γ n0 Q T (mkF Γ.m pc' Ls (.int z :: st))) : Go Γ n0 Q T (mkF Γ.m pc Ls (.int x :: st)) := by
  subst hp
  obtain ⟨hx, hZ, hown, hby, hml, hret, hnm, hlk, hR, hsH⟩ := G
  obtain ⟨L, X, e, N⟩ := X
  subst hz
  exact Go.of (fun t k => XS.i2s X.here hx rfl (hb hby hd) rfl k) K
theorem k_i2c {x : Int32} {z : Int32} (G : Ctx Γ Z own bytes maxl ret nm rm hs0) (X : W Γ n0 T h C S) (hd : decode bytes pc = .ok (.i2c, 1)) (hp : pc + 1 = pc') (hz : x.toUInt32.toUInt16.toUInt32.toInt32 = z) (K : Go Γ n0 Q T (mkF Γ.m pc' Ls (.int z :: st))) : Go Γ n0 Q T (mkF Γ.m pc Ls (.int x :: st)) := by
  subst hp
  obtain ⟨hx, hZ, hown, hby, hml, hret, hnm, hlk, hR, hsH⟩ := G
  obtain ⟨L, X, e, N⟩ := X
  subst hz
  exact Go.of (fun t k => XS.i2c X.here hx rfl (hb hby hd) rfl k) K
theorem k_pop {x : Value} (G : Ctx Γ Z own bytes maxl ret nm rm hs0) (X : W Γ n0 T h C S) (hd : decode bytes pc = .ok (.pop, 1)) (hp : pc + 1 = pc') (hc : x.category = 1) (K : Go Γ n0 Q T (mkF Γ.m pc' Ls (st))) : Go Γ n0 Q T (mkF Γ.m pc Ls (x :: st)) := by
  subst hp
  obtain ⟨hx, hZ, hown, hby, hml, hret, hnm, hlk, hR, hsH⟩ := G
  obtain ⟨L, X, e, N⟩ := X
  exact Go.of (fun t k => XS.pop X.here hx rfl (hb hby hd) rfl hc k) K
theorem k_dup {x : Value} (G : Ctx Γ Z own bytes maxl ret nm rm hs0) (X : W Γ n0 T h C S) (hd : decode bytes pc = .ok (.dup, 1)) (hp : pc + 1 = pc') (hc : x.category = 1) (K : Go Γ n0 Q T (mkF Γ.m pc' Ls (x :: x :: st))) : Go Γ n0 Q T (mkF Γ.m pc Ls (x :: st)) := by
  subst hp
  obtain ⟨hx, hZ, hown, hby, hml, hret, hnm, hlk, hR, hsH⟩ := G
  obtain ⟨L, X, e, N⟩ := X
  exact Go.of (fun t k => XS.dup X.here hx rfl (hb hby hd) rfl hc k) K
theorem k_dupx1 {x y : Value} (G : Ctx Γ Z own bytes maxl ret nm rm hs0) (X : W Γ n0 T h C S) (hd : decode bytes pc = .ok (.dup_x1, 1)) (hp : pc + 1 = pc') (hc : x.category = 1) (hc' : y.category = 1) (K : Go Γ n0 Q T (mkF Γ.m pc' Ls (x :: y :: x :: st))) : Go Γ n0 Q T (mkF Γ.m pc Ls (x :: y :: st)) := by
  subst hp
  obtain ⟨hx, hZ, hown, hby, hml, hret, hnm, hlk, hR, hsH⟩ := G
  obtain ⟨L, X, e, N⟩ := X
  exact Go.of (fun t k => XS.dupX1 X.here hx rfl (hb hby hd) rfl hc hc' k) K
theorem k_dup2 {x y : Value} (G : Ctx Γ Z own bytes maxl ret nm rm hs0) (X : W Γ n0 T h C S) (hd : decode bytes pc = .ok (.dup2, 1)) (hp : pc + 1 = pc') (hc : x.category = 1) (hc' : y.category = 1) (K : Go Γ n0 Q T (mkF Γ.m pc' Ls (x :: y :: x :: y :: st))) : Go Γ n0 Q T (mkF Γ.m pc Ls (x :: y :: st)) := by
  subst hp
  obtain ⟨hx, hZ, hown, hby, hml, hret, hnm, hlk, hR, hsH⟩ := G
  obtain ⟨L, X, e, N⟩ := X
  exact Go.of (fun t k => XT.dup2 X.here hx rfl (hb hby hd) rfl hc hc' k) K
theorem k_dup2l {x : Int64} (G : Ctx Γ Z own bytes maxl ret nm rm hs0) (X : W Γ n0 T h C S) (hd : decode bytes pc = .ok (.dup2, 1)) (hp : pc + 1 = pc')  (K : Go Γ n0 Q T (mkF Γ.m pc' Ls (.long x :: .long x :: st))) : Go Γ n0 Q T (mkF Γ.m pc Ls (.long x :: st)) := by
  subst hp
  obtain ⟨hx, hZ, hown, hby, hml, hret, hnm, hlk, hR, hsH⟩ := G
  obtain ⟨L, X, e, N⟩ := X
  exact Go.of (fun t k => XT.dup2L X.here hx rfl (hb hby hd) rfl k) K
theorem k_iinc {k : Nat} {cst : Int} {x z : Int32} {l' : Array Slot} (G : Ctx Γ Z own bytes maxl ret nm rm hs0) (X : W Γ n0 T h C S) (hd : decode bytes pc = .ok (.iinc k cst, 3)) (hp : pc + 3 = pc') (hl : Ls[k]? = some (.val (.int x))) (hz : x + Int32.ofInt cst = z) (hl' : storeLocals Ls k (.int z) = some l') (K : Go Γ n0 Q T (mkF Γ.m pc' l' (st))) : Go Γ n0 Q T (mkF Γ.m pc Ls (st)) := by
  subst hp
  obtain ⟨hx, hZ, hown, hby, hml, hret, hnm, hlk, hR, hsH⟩ := G
  obtain ⟨L, X, e, N⟩ := X
  subst hz
  exact Go.of (fun t k => XS.iinc X.here hx rfl (hb hby hd) hl hl' k) K
theorem k_istoreS {k : Nat} {v : Int32} {o : Slot} {l' : Array Slot} (G : Ctx Γ Z own bytes maxl ret nm rm hs0) (X : W Γ n0 T h C S) (hd : decode bytes pc = .ok (.istore k, 2)) (hp : pc + 2 = pc') (hold : Ls[k]? = some o) (ho : o = .unset ∨ ∃ w, o = .val w ∧ w.category = 1) (hl : Ls.setIfInBounds k (.val (.int v)) = l') (K : Go Γ n0 Q T (mkF Γ.m pc' l' (st))) : Go Γ n0 Q T (mkF Γ.m pc Ls (.int v :: st)) := by
  subst hp
  obtain ⟨hx, hZ, hown, hby, hml, hret, hnm, hlk, hR, hsH⟩ := G
  obtain ⟨L, X, e, N⟩ := X
  subst hl
  exact Go.of (fun t k => XS.istoreS X.here hx rfl (hb hby hd) rfl hold ho k) K
theorem k_istoreNS {k : Fin 4} {v : Int32} {o : Slot} {l' : Array Slot} (G : Ctx Γ Z own bytes maxl ret nm rm hs0) (X : W Γ n0 T h C S) (hd : decode bytes pc = .ok (.istore_n k, 1)) (hp : pc + 1 = pc') (hold : Ls[k.val]? = some o) (ho : o = .unset ∨ ∃ w, o = .val w ∧ w.category = 1) (hl : Ls.setIfInBounds k.val (.val (.int v)) = l') (K : Go Γ n0 Q T (mkF Γ.m pc' l' (st))) : Go Γ n0 Q T (mkF Γ.m pc Ls (.int v :: st)) := by
  subst hp
  obtain ⟨hx, hZ, hown, hby, hml, hret, hnm, hlk, hR, hsH⟩ := G
  obtain ⟨L, X, e, N⟩ := X
  subst hl
  exact Go.of (fun t k => XS.istoreNS X.here hx rfl (hb hby hd) rfl hold ho k) K
theorem k_astoreS {k : Nat} {v : Value} {o : Slot} {l' : Array Slot} (G : Ctx Γ Z own bytes maxl ret nm rm hs0) (X : W Γ n0 T h C S) (hd : decode bytes pc = .ok (.astore k, 2)) (hp : pc + 2 = pc') (hv : v.isRef = true) (hold : Ls[k]? = some o) (ho : o = .unset ∨ ∃ w, o = .val w ∧ w.category = 1) (hl : Ls.setIfInBounds k (.val v) = l') (K : Go Γ n0 Q T (mkF Γ.m pc' l' (st))) : Go Γ n0 Q T (mkF Γ.m pc Ls (v :: st)) := by
  subst hp
  obtain ⟨hx, hZ, hown, hby, hml, hret, hnm, hlk, hR, hsH⟩ := G
  obtain ⟨L, X, e, N⟩ := X
  subst hl
  exact Go.of (fun t k => XS.astoreS X.here hx rfl (hb hby hd) rfl hv (by cases v <;> first | rfl | (simp [Value.isRef] at hv)) hold ho k) K
theorem k_astoreNS {k : Fin 4} {v : Value} {o : Slot} {l' : Array Slot} (G : Ctx Γ Z own bytes maxl ret nm rm hs0) (X : W Γ n0 T h C S) (hd : decode bytes pc = .ok (.astore_n k, 1)) (hp : pc + 1 = pc') (hv : v.isRef = true) (hold : Ls[k.val]? = some o) (ho : o = .unset ∨ ∃ w, o = .val w ∧ w.category = 1) (hl : Ls.setIfInBounds k.val (.val v) = l') (K : Go Γ n0 Q T (mkF Γ.m pc' l' (st))) : Go Γ n0 Q T (mkF Γ.m pc Ls (v :: st)) := by
  subst hp
  obtain ⟨hx, hZ, hown, hby, hml, hret, hnm, hlk, hR, hsH⟩ := G
  obtain ⟨L, X, e, N⟩ := X
  subst hl
  exact Go.of (fun t k => XS.astoreN X.here hx rfl (hb hby hd) rfl hv (XS.store1 hold ho (by cases v <;> first | rfl | (simp [Value.isRef] at hv))) k) K
theorem k_goto {o : Int} (G : Ctx Γ Z own bytes maxl ret nm rm hs0) (X : W Γ n0 T h C S) (hd : decode bytes pc = .ok (.goto o, 3)) (ho : 0 ≤ (pc : Int) + o) (hp : ((pc : Int) + o).toNat = pc') (K : Go Γ n0 Q T (mkF Γ.m pc' Ls st)) : Go Γ n0 Q T (mkF Γ.m pc Ls st) := by
  obtain ⟨hx, hZ, hown, hby, hml, hret, hnm, hlk, hR, hsH⟩ := G
  obtain ⟨L, X, e, N⟩ := X
  exact Go.of (fun t k => XS.goto X.here hx rfl (pc0 := pc) rfl (hb hby hd) ho hp k) K
theorem z32 : (0 : Int32).toInt = 0 := rfl
theorem hold_eq (x y : Int32) : (if_icmp.holds .eq x y = true → x = y) ∧ (if_icmp.holds .eq x y = false → x ≠ y) := by
  constructor <;> intro q <;> simp only [if_icmp.holds] at q <;> simp [Int32.lt_iff_toInt_lt, Int32.le_iff_toInt_le] at q ⊢ <;> first | exact q | omega
theorem hold0_eq (x : Int32) : (ifCond.holds .eq x = true → x = 0) ∧ (ifCond.holds .eq x = false → x ≠ 0) := by
  have z := z32
  constructor <;> intro q <;> simp only [ifCond.holds] at q <;> simp [Int32.lt_iff_toInt_lt, Int32.le_iff_toInt_le] at q ⊢ <;> first | exact q | omega
theorem k_icmp_eq {o : Int} {x y : Int32} {pc'' : Nat} (G : Ctx Γ Z own bytes maxl ret nm rm hs0) (X : W Γ n0 T h C S) (hd : decode bytes pc = .ok (.if_icmp .eq o, 3)) (hp : ((pc : Int) + o).toNat = pc') (ho : 0 ≤ (pc : Int) + o) (hp' : pc + 3 = pc'') (K : x = y → Go Γ n0 Q T (mkF Γ.m pc' Ls st)) (K' : x ≠ y → Go Γ n0 Q T (mkF Γ.m pc'' Ls st)) : Go Γ n0 Q T (mkF Γ.m pc Ls (.int y :: .int x :: st)) := by
  subst hp'
  obtain ⟨hx, hZ, hown, hby, hml, hret, hnm, hlk, hR, hsH⟩ := G
  obtain ⟨L, X, e, N⟩ := X
  cases q : if_icmp.holds .eq x y
  · exact Go.of (fun t k => XS.icmpNo X.here hx rfl (hb hby hd) rfl q k) (K' ((hold_eq x y).2 q))
  · exact Go.of (fun t k => XS.icmpYes X.here hx rfl (pc0 := pc) rfl (hb hby hd) rfl q ho hp k) (K ((hold_eq x y).1 q))
theorem k_if_eq {o : Int} {x : Int32} {pc'' : Nat} (G : Ctx Γ Z own bytes maxl ret nm rm hs0) (X : W Γ n0 T h C S) (hd : decode bytes pc = .ok (.ifCond .eq o, 3)) (hp : ((pc : Int) + o).toNat = pc') (ho : 0 ≤ (pc : Int) + o) (hp' : pc + 3 = pc'') (K : x = 0 → Go Γ n0 Q T (mkF Γ.m pc' Ls st)) (K' : x ≠ 0 → Go Γ n0 Q T (mkF Γ.m pc'' Ls st)) : Go Γ n0 Q T (mkF Γ.m pc Ls (.int x :: st)) := by
  subst hp'
  obtain ⟨hx, hZ, hown, hby, hml, hret, hnm, hlk, hR, hsH⟩ := G
  obtain ⟨L, X, e, N⟩ := X
  cases q : ifCond.holds .eq x
  · exact Go.of (fun t k => XS.ifNo X.here hx rfl (hb hby hd) rfl q k) (K' ((hold0_eq x).2 q))
  · exact Go.of (fun t k => XS.ifYes X.here hx rfl (pc0 := pc) rfl (hb hby hd) rfl q ho hp k) (K ((hold0_eq x).1 q))
theorem hold_ne (x y : Int32) : (if_icmp.holds .ne x y = true → x ≠ y) ∧ (if_icmp.holds .ne x y = false → x = y) := by
  constructor <;> intro q <;> simp only [if_icmp.holds] at q <;> simp [Int32.lt_iff_toInt_lt, Int32.le_iff_toInt_le] at q ⊢ <;> first | exact q | omega
theorem hold0_ne (x : Int32) : (ifCond.holds .ne x = true → x ≠ 0) ∧ (ifCond.holds .ne x = false → x = 0) := by
  have z := z32
  constructor <;> intro q <;> simp only [ifCond.holds] at q <;> simp [Int32.lt_iff_toInt_lt, Int32.le_iff_toInt_le] at q ⊢ <;> first | exact q | omega
theorem k_icmp_ne {o : Int} {x y : Int32} {pc'' : Nat} (G : Ctx Γ Z own bytes maxl ret nm rm hs0) (X : W Γ n0 T h C S) (hd : decode bytes pc = .ok (.if_icmp .ne o, 3)) (hp : ((pc : Int) + o).toNat = pc') (ho : 0 ≤ (pc : Int) + o) (hp' : pc + 3 = pc'') (K : x ≠ y → Go Γ n0 Q T (mkF Γ.m pc' Ls st)) (K' : x = y → Go Γ n0 Q T (mkF Γ.m pc'' Ls st)) : Go Γ n0 Q T (mkF Γ.m pc Ls (.int y :: .int x :: st)) := by
  subst hp'
  obtain ⟨hx, hZ, hown, hby, hml, hret, hnm, hlk, hR, hsH⟩ := G
  obtain ⟨L, X, e, N⟩ := X
  cases q : if_icmp.holds .ne x y
  · exact Go.of (fun t k => XS.icmpNo X.here hx rfl (hb hby hd) rfl q k) (K' ((hold_ne x y).2 q))
  · exact Go.of (fun t k => XS.icmpYes X.here hx rfl (pc0 := pc) rfl (hb hby hd) rfl q ho hp k) (K ((hold_ne x y).1 q))
theorem k_if_ne {o : Int} {x : Int32} {pc'' : Nat} (G : Ctx Γ Z own bytes maxl ret nm rm hs0) (X : W Γ n0 T h C S) (hd : decode bytes pc = .ok (.ifCond .ne o, 3)) (hp : ((pc : Int) + o).toNat = pc') (ho : 0 ≤ (pc : Int) + o) (hp' : pc + 3 = pc'') (K : x ≠ 0 → Go Γ n0 Q T (mkF Γ.m pc' Ls st)) (K' : x = 0 → Go Γ n0 Q T (mkF Γ.m pc'' Ls st)) : Go Γ n0 Q T (mkF Γ.m pc Ls (.int x :: st)) := by
  subst hp'
  obtain ⟨hx, hZ, hown, hby, hml, hret, hnm, hlk, hR, hsH⟩ := G
  obtain ⟨L, X, e, N⟩ := X
  cases q : ifCond.holds .ne x
  · exact Go.of (fun t k => XS.ifNo X.here hx rfl (hb hby hd) rfl q k) (K' ((hold0_ne x).2 q))
  · exact Go.of (fun t k => XS.ifYes X.here hx rfl (pc0 := pc) rfl (hb hby hd) rfl q ho hp k) (K ((hold0_ne x).1 q))
theorem hold_lt (x y : Int32) : (if_icmp.holds .lt x y = true → x.toInt < y.toInt) ∧ (if_icmp.holds .lt x y = false → y.toInt ≤ x.toInt) := by
  constructor <;> intro q <;> simp only [if_icmp.holds] at q <;> simp [Int32.lt_iff_toInt_lt, Int32.le_iff_toInt_le] at q ⊢ <;> first | exact q | omega
theorem hold0_lt (x : Int32) : (ifCond.holds .lt x = true → x.toInt < 0) ∧ (ifCond.holds .lt x = false → 0 ≤ x.toInt) := by
  have z := z32
  constructor <;> intro q <;> simp only [ifCond.holds] at q <;> simp [Int32.lt_iff_toInt_lt, Int32.le_iff_toInt_le] at q ⊢ <;> first | exact q | omega
theorem k_icmp_lt {o : Int} {x y : Int32} {pc'' : Nat} (G : Ctx Γ Z own bytes maxl ret nm rm hs0) (X : W Γ n0 T h C S) (hd : decode bytes pc = .ok (.if_icmp .lt o, 3)) (hp : ((pc : Int) + o).toNat = pc') (ho : 0 ≤ (pc : Int) + o) (hp' : pc + 3 = pc'') (K : x.toInt < y.toInt → Go Γ n0 Q T (mkF Γ.m pc' Ls st)) (K' : y.toInt ≤ x.toInt → Go Γ n0 Q T (mkF Γ.m pc'' Ls st)) : Go Γ n0 Q T (mkF Γ.m pc Ls (.int y :: .int x :: st)) := by
  subst hp'
  obtain ⟨hx, hZ, hown, hby, hml, hret, hnm, hlk, hR, hsH⟩ := G
  obtain ⟨L, X, e, N⟩ := X
  cases q : if_icmp.holds .lt x y
  · exact Go.of (fun t k => XS.icmpNo X.here hx rfl (hb hby hd) rfl q k) (K' ((hold_lt x y).2 q))
  · exact Go.of (fun t k => XS.icmpYes X.here hx rfl (pc0 := pc) rfl (hb hby hd) rfl q ho hp k) (K ((hold_lt x y).1 q))
theorem k_if_lt {o : Int} {x : Int32} {pc'' : Nat} (G : Ctx Γ Z own bytes maxl ret nm rm hs0) (X : W Γ n0 T h C S) (hd : decode bytes pc = .ok (.ifCond .lt o, 3)) (hp : ((pc : Int) + o).toNat = pc') (ho : 0 ≤ (pc : Int) + o) (hp' : pc + 3 = pc'') (K : x.toInt < 0 → Go Γ n0 Q T (mkF Γ.m pc' Ls st)) (K' : 0 ≤ x.toInt → Go Γ n0 Q T (mkF Γ.m pc'' Ls st)) : Go Γ n0 Q T (mkF Γ.m pc Ls (.int x :: st)) := by
  subst hp'
  obtain ⟨hx, hZ, hown, hby, hml, hret, hnm, hlk, hR, hsH⟩ := G
  obtain ⟨L, X, e, N⟩ := X
  cases q : ifCond.holds .lt x
  · exact Go.of (fun t k => XS.ifNo X.here hx rfl (hb hby hd) rfl q k) (K' ((hold0_lt x).2 q))
  · exact Go.of (fun t k => XS.ifYes X.here hx rfl (pc0 := pc) rfl (hb hby hd) rfl q ho hp k) (K ((hold0_lt x).1 q))
theorem hold_ge (x y : Int32) : (if_icmp.holds .ge x y = true → y.toInt ≤ x.toInt) ∧ (if_icmp.holds .ge x y = false → x.toInt < y.toInt) := by
  constructor <;> intro q <;> simp only [if_icmp.holds] at q <;> simp [Int32.lt_iff_toInt_lt, Int32.le_iff_toInt_le] at q ⊢ <;> first | exact q | omega
theorem hold0_ge (x : Int32) : (ifCond.holds .ge x = true → 0 ≤ x.toInt) ∧ (ifCond.holds .ge x = false → x.toInt < 0) := by
  have z := z32
  constructor <;> intro q <;> simp only [ifCond.holds] at q <;> simp [Int32.lt_iff_toInt_lt, Int32.le_iff_toInt_le] at q ⊢ <;> first | exact q | omega
theorem k_icmp_ge {o : Int} {x y : Int32} {pc'' : Nat} (G : Ctx Γ Z own bytes maxl ret nm rm hs0) (X : W Γ n0 T h C S) (hd : decode bytes pc = .ok (.if_icmp .ge o, 3)) (hp : ((pc : Int) + o).toNat = pc') (ho : 0 ≤ (pc : Int) + o) (hp' : pc + 3 = pc'') (K : y.toInt ≤ x.toInt → Go Γ n0 Q T (mkF Γ.m pc' Ls st)) (K' : x.toInt < y.toInt → Go Γ n0 Q T (mkF Γ.m pc'' Ls st)) : Go Γ n0 Q T (mkF Γ.m pc Ls (.int y :: .int x :: st)) := by
  subst hp'
  obtain ⟨hx, hZ, hown, hby, hml, hret, hnm, hlk, hR, hsH⟩ := G
  obtain ⟨L, X, e, N⟩ := X
  cases q : if_icmp.holds .ge x y
  · exact Go.of (fun t k => XS.icmpNo X.here hx rfl (hb hby hd) rfl q k) (K' ((hold_ge x y).2 q))
  · exact Go.of (fun t k => XS.icmpYes X.here hx rfl (pc0 := pc) rfl (hb hby hd) rfl q ho hp k) (K ((hold_ge x y).1 q))
theorem k_if_ge {o : Int} {x : Int32} {pc'' : Nat} (G : Ctx Γ Z own bytes maxl ret nm rm hs0) (X : W Γ n0 T h C S) (hd : decode bytes pc = .ok (.ifCond .ge o, 3)) (hp : ((pc : Int) + o).toNat = pc') (ho : 0 ≤ (pc : Int) + o) (hp' : pc + 3 = pc'') (K : 0 ≤ x.toInt → Go Γ n0 Q T (mkF Γ.m pc' Ls st)) (K' : x.toInt < 0 → Go Γ n0 Q T (mkF Γ.m pc'' Ls st)) : Go Γ n0 Q T (mkF Γ.m pc Ls (.int x :: st)) := by
  subst hp'
  obtain ⟨hx, hZ, hown, hby, hml, hret, hnm, hlk, hR, hsH⟩ := G
  obtain ⟨L, X, e, N⟩ := X
  cases q : ifCond.holds .ge x
  · exact Go.of (fun t k => XS.ifNo X.here hx rfl (hb hby hd) rfl q k) (K' ((hold0_ge x).2 q))
  · exact Go.of (fun t k => XS.ifYes X.here hx rfl (pc0 := pc) rfl (hb hby hd) rfl q ho hp k) (K ((hold0_ge x).1 q))
theorem hold_gt (x y : Int32) : (if_icmp.holds .gt x y = true → y.toInt < x.toInt) ∧ (if_icmp.holds .gt x y = false → x.toInt ≤ y.toInt) := by
  constructor <;> intro q <;> simp only [if_icmp.holds] at q <;> simp [Int32.lt_iff_toInt_lt, Int32.le_iff_toInt_le] at q ⊢ <;> first | exact q | omega
theorem hold0_gt (x : Int32) : (ifCond.holds .gt x = true → 0 < x.toInt) ∧ (ifCond.holds .gt x = false → x.toInt ≤ 0) := by
  have z := z32
  constructor <;> intro q <;> simp only [ifCond.holds] at q <;> simp [Int32.lt_iff_toInt_lt, Int32.le_iff_toInt_le] at q ⊢ <;> first | exact q | omega
theorem k_icmp_gt {o : Int} {x y : Int32} {pc'' : Nat} (G : Ctx Γ Z own bytes maxl ret nm rm hs0) (X : W Γ n0 T h C S) (hd : decode bytes pc = .ok (.if_icmp .gt o, 3)) (hp : ((pc : Int) + o).toNat = pc') (ho : 0 ≤ (pc : Int) + o) (hp' : pc + 3 = pc'') (K : y.toInt < x.toInt → Go Γ n0 Q T (mkF Γ.m pc' Ls st)) (K' : x.toInt ≤ y.toInt → Go Γ n0 Q T (mkF Γ.m pc'' Ls st)) : Go Γ n0 Q T (mkF Γ.m pc Ls (.int y :: .int x :: st)) := by
  subst hp'
  obtain ⟨hx, hZ, hown, hby, hml, hret, hnm, hlk, hR, hsH⟩ := G
  obtain ⟨L, X, e, N⟩ := X
  cases q : if_icmp.holds .gt x y
  · exact Go.of (fun t k => XS.icmpNo X.here hx rfl (hb hby hd) rfl q k) (K' ((hold_gt x y).2 q))
  · exact Go.of (fun t k => XS.icmpYes X.here hx rfl (pc0 := pc) rfl (hb hby hd) rfl q ho hp k) (K ((hold_gt x y).1 q))
theorem k_if_gt {o : Int} {x : Int32} {pc'' : Nat} (G : Ctx Γ Z own bytes maxl ret nm rm hs0) (X : W Γ n0 T h C S) (hd : decode bytes pc = .ok (.ifCond .gt o, 3)) (hp : ((pc : Int) + o).toNat = pc') (ho : 0 ≤ (pc : Int) + o) (hp' : pc + 3 = pc'') (K : 0 < x.toInt → Go Γ n0 Q T (mkF Γ.m pc' Ls st)) (K' : x.toInt ≤ 0 → Go Γ n0 Q T (mkF Γ.m pc'' Ls st)) : Go Γ n0 Q T (mkF Γ.m pc Ls (.int x :: st)) := by
  subst hp'
  obtain ⟨hx, hZ, hown, hby, hml, hret, hnm, hlk, hR, hsH⟩ := G
  obtain ⟨L, X, e, N⟩ := X
  cases q : ifCond.holds .gt x
  · exact Go.of (fun t k => XS.ifNo X.here hx rfl (hb hby hd) rfl q k) (K' ((hold0_gt x).2 q))
  · exact Go.of (fun t k => XS.ifYes X.here hx rfl (pc0 := pc) rfl (hb hby hd) rfl q ho hp k) (K ((hold0_gt x).1 q))
theorem hold_le (x y : Int32) : (if_icmp.holds .le x y = true → x.toInt ≤ y.toInt) ∧ (if_icmp.holds .le x y = false → y.toInt < x.toInt) := by
  constructor <;> intro q <;> simp only [if_icmp.holds] at q <;> simp [Int32.lt_iff_toInt_lt, Int32.le_iff_toInt_le] at q ⊢ <;> first | exact q | omega
theorem hold0_le (x : Int32) : (ifCond.holds .le x = true → x.toInt ≤ 0) ∧ (ifCond.holds .le x = false → 0 < x.toInt) := by
  have z := z32
  constructor <;> intro q <;> simp only [ifCond.holds] at q <;> simp [Int32.lt_iff_toInt_lt, Int32.le_iff_toInt_le] at q ⊢ <;> first | exact q | omega
theorem k_icmp_le {o : Int} {x y : Int32} {pc'' : Nat} (G : Ctx Γ Z own bytes maxl ret nm rm hs0) (X : W Γ n0 T h C S) (hd : decode bytes pc = .ok (.if_icmp .le o, 3)) (hp : ((pc : Int) + o).toNat = pc') (ho : 0 ≤ (pc : Int) + o) (hp' : pc + 3 = pc'') (K : x.toInt ≤ y.toInt → Go Γ n0 Q T (mkF Γ.m pc' Ls st)) (K' : y.toInt < x.toInt → Go Γ n0 Q T (mkF Γ.m pc'' Ls st)) : Go Γ n0 Q T (mkF Γ.m pc Ls (.int y :: .int x :: st)) := by
  subst hp'
  obtain ⟨hx, hZ, hown, hby, hml, hret, hnm, hlk, hR, hsH⟩ := G
  obtain ⟨L, X, e, N⟩ := X
  cases q : if_icmp.holds .le x y
  · exact Go.of (fun t k => XS.icmpNo X.here hx rfl (hb hby hd) rfl q k) (K' ((hold_le x y).2 q))
  · exact Go.of (fun t k => XS.icmpYes X.here hx rfl (pc0 := pc) rfl (hb hby hd) rfl q ho hp k) (K ((hold_le x y).1 q))
theorem k_if_le {o : Int} {x : Int32} {pc'' : Nat} (G : Ctx Γ Z own bytes maxl ret nm rm hs0) (X : W Γ n0 T h C S) (hd : decode bytes pc = .ok (.ifCond .le o, 3)) (hp : ((pc : Int) + o).toNat = pc') (ho : 0 ≤ (pc : Int) + o) (hp' : pc + 3 = pc'') (K : x.toInt ≤ 0 → Go Γ n0 Q T (mkF Γ.m pc' Ls st)) (K' : 0 < x.toInt → Go Γ n0 Q T (mkF Γ.m pc'' Ls st)) : Go Γ n0 Q T (mkF Γ.m pc Ls (.int x :: st)) := by
  subst hp'
  obtain ⟨hx, hZ, hown, hby, hml, hret, hnm, hlk, hR, hsH⟩ := G
  obtain ⟨L, X, e, N⟩ := X
  cases q : ifCond.holds .le x
  · exact Go.of (fun t k => XS.ifNo X.here hx rfl (hb hby hd) rfl q k) (K' ((hold0_le x).2 q))
  · exact Go.of (fun t k => XS.ifYes X.here hx rfl (pc0 := pc) rfl (hb hby hd) rfl q ho hp k) (K ((hold0_le x).1 q))
theorem k_acmp_eq {o : Int} {x y : Value} {pc'' : Nat} (G : Ctx Γ Z own bytes maxl ret nm rm hs0) (X : W Γ n0 T h C S) (hd : decode bytes pc = .ok (.if_acmp .eq o, 3)) (hp : ((pc : Int) + o).toNat = pc') (ho : 0 ≤ (pc : Int) + o) (hp' : pc + 3 = pc'') (h1 : x.isRef = true) (h2 : y.isRef = true) (K : x = y → Go Γ n0 Q T (mkF Γ.m pc' Ls st)) (K' : x ≠ y → Go Γ n0 Q T (mkF Γ.m pc'' Ls st)) : Go Γ n0 Q T (mkF Γ.m pc Ls (y :: x :: st)) := by
  subst hp hp'
  obtain ⟨hx, hZ, hown, hby, hml, hret, hnm, hlk, hR, hsH⟩ := G
  obtain ⟨L, X, e, N⟩ := X
  by_cases q : x = y
  · exact Go.of (fun t k => acmp (g := mkF Γ.m pc Ls (y :: x :: st)) X hx rfl h1 h2 (pc0 := pc) (same := true) rfl (hb hby hd) rfl (decide_eq_true q) ho rfl k) (K q)
  · exact Go.of (fun t k => acmp (g := mkF Γ.m pc Ls (y :: x :: st)) X hx rfl h1 h2 (pc0 := pc) (same := false) rfl (hb hby hd) rfl (decide_eq_false q) ho rfl k) (K' q)
theorem k_acmp_ne {o : Int} {x y : Value} {pc'' : Nat} (G : Ctx Γ Z own bytes maxl ret nm rm hs0) (X : W Γ n0 T h C S) (hd : decode bytes pc = .ok (.if_acmp .ne o, 3)) (hp : ((pc : Int) + o).toNat = pc') (ho : 0 ≤ (pc : Int) + o) (hp' : pc + 3 = pc'') (h1 : x.isRef = true) (h2 : y.isRef = true) (K : x ≠ y → Go Γ n0 Q T (mkF Γ.m pc' Ls st)) (K' : x = y → Go Γ n0 Q T (mkF Γ.m pc'' Ls st)) : Go Γ n0 Q T (mkF Γ.m pc Ls (y :: x :: st)) := by
  subst hp hp'
  obtain ⟨hx, hZ, hown, hby, hml, hret, hnm, hlk, hR, hsH⟩ := G
  obtain ⟨L, X, e, N⟩ := X
  by_cases q : x = y
  · exact Go.of (fun t k => acmp (g := mkF Γ.m pc Ls (y :: x :: st)) X hx rfl h1 h2 (pc0 := pc) (same := true) rfl (hb hby hd) rfl (decide_eq_true q) ho rfl k) (K' q)
  · exact Go.of (fun t k => acmp (g := mkF Γ.m pc Ls (y :: x :: st)) X hx rfl h1 h2 (pc0 := pc) (same := false) rfl (hb hby hd) rfl (decide_eq_false q) ho rfl k) (K q)
theorem k_ifnull {o : Int} {x : Value} {pc'' : Nat} (G : Ctx Γ Z own bytes maxl ret nm rm hs0) (X : W Γ n0 T h C S) (hd : decode bytes pc = .ok (.ifnull o, 3)) (hp : ((pc : Int) + o).toNat = pc') (ho : 0 ≤ (pc : Int) + o) (hp' : pc + 3 = pc'') (h1 : x.isRef = true) (K : x = .null → Go Γ n0 Q T (mkF Γ.m pc' Ls st)) (K' : ∀ a, x = .ref a → Go Γ n0 Q T (mkF Γ.m pc'' Ls st)) : Go Γ n0 Q T (mkF Γ.m pc Ls (x :: st)) := by
  subst hp'
  obtain ⟨hx, hZ, hown, hby, hml, hret, hnm, hlk, hR, hsH⟩ := G
  obtain ⟨L, X, e, N⟩ := X
  rcases ref_cases h1 with rfl | ⟨a, rfl⟩
  · exact Go.of (fun t k => XS.ifnullYes X.here hx rfl (pc0 := pc) rfl (hb hby hd) rfl ho hp k) (K rfl)
  · exact Go.of (fun t k => XS.ifnullNo X.here hx rfl (hb hby hd) rfl k) (K' a rfl)
theorem k_ifnonnull {o : Int} {x : Value} {pc'' : Nat} (G : Ctx Γ Z own bytes maxl ret nm rm hs0) (X : W Γ n0 T h C S) (hd : decode bytes pc = .ok (.ifnonnull o, 3)) (hp : ((pc : Int) + o).toNat = pc') (ho : 0 ≤ (pc : Int) + o) (hp' : pc + 3 = pc'') (h1 : x.isRef = true) (K : ∀ a, x = .ref a → Go Γ n0 Q T (mkF Γ.m pc' Ls st)) (K' : x = .null → Go Γ n0 Q T (mkF Γ.m pc'' Ls st)) : Go Γ n0 Q T (mkF Γ.m pc Ls (x :: st)) := by
  subst hp'
  obtain ⟨hx, hZ, hown, hby, hml, hret, hnm, hlk, hR, hsH⟩ := G
  obtain ⟨L, X, e, N⟩ := X
  rcases ref_cases h1 with rfl | ⟨a, rfl⟩
  · exact Go.of (fun t k => XS.ifnonnullNo X.here hx rfl (hb hby hd) rfl k) (K' rfl)
  · exact Go.of (fun t k => XS.ifnonnullYes X.here hx rfl (pc0 := pc) rfl (hb hby hd) rfl ho hp k) (K a rfl)
theorem k_lswHit {k : Int32} {dflt : Int} {pairs : Array (Int × Int)} {len : Nat} {a off : Int} (G : Ctx Γ Z own bytes maxl ret nm rm hs0) (X : W Γ n0 T h C S) (hd : decode bytes pc = .ok (.lookupswitch dflt pairs, len)) (hs : (pairs.toList.zip (pairs.toList.drop 1)).all (fun (a, next) => a.1 < next.1) = true) (hf : pairs.find? (·.1 == k.toInt) = some (a, off)) (ho : 0 ≤ (pc : Int) + off) (hp : ((pc : Int) + off).toNat = pc') (K : Go Γ n0 Q T (mkF Γ.m pc' Ls st)) : Go Γ n0 Q T (mkF Γ.m pc Ls (.int k :: st)) := by
  subst hp
  obtain ⟨hx, hZ, hown, hby, hml, hret, hnm, hlk, hR, hsH⟩ := G
  obtain ⟨L, X, e, N⟩ := X
  exact Go.of (fun t k' => X.lookupswitchHit hx (g := mkF Γ.m pc Ls (.int k :: st)) rfl rfl (hb hby hd) hs hf ho t k') K
theorem k_lswMiss {k : Int32} {dflt : Int} {pairs : Array (Int × Int)} {len : Nat} (G : Ctx Γ Z own bytes maxl ret nm rm hs0) (X : W Γ n0 T h C S) (hd : decode bytes pc = .ok (.lookupswitch dflt pairs, len)) (hs : (pairs.toList.zip (pairs.toList.drop 1)).all (fun (a, next) => a.1 < next.1) = true) (hf : pairs.find? (·.1 == k.toInt) = none) (ho : 0 ≤ (pc : Int) + dflt) (hp : ((pc : Int) + dflt).toNat = pc') (K : Go Γ n0 Q T (mkF Γ.m pc' Ls st)) : Go Γ n0 Q T (mkF Γ.m pc Ls (.int k :: st)) := by
  subst hp
  obtain ⟨hx, hZ, hown, hby, hml, hret, hnm, hlk, hR, hsH⟩ := G
  obtain ⟨L, X, e, N⟩ := X
  exact Go.of (fun t k' => X.lookupswitchMiss hx (g := mkF Γ.m pc Ls (.int k :: st)) rfl rfl (hb hby hd) hs hf ho t k') K
theorem k_tswIn {k : Int32} {dflt low high : Int} {offs : Array Int} {len : Nat} {off : Int} (G : Ctx Γ Z own bytes maxl ret nm rm hs0) (X : W Γ n0 T h C S) (hd : decode bytes pc = .ok (.tableswitch dflt low high offs, len)) (hin : low ≤ k.toInt ∧ k.toInt ≤ high) (hf : offs[(k.toInt - low).toNat]? = some off) (ho : 0 ≤ (pc : Int) + off) (hp : ((pc : Int) + off).toNat = pc') (K : Go Γ n0 Q T (mkF Γ.m pc' Ls st)) : Go Γ n0 Q T (mkF Γ.m pc Ls (.int k :: st)) := by
  subst hp
  obtain ⟨hx, hZ, hown, hby, hml, hret, hnm, hlk, hR, hsH⟩ := G
  obtain ⟨L, X, e, N⟩ := X
  exact Go.of (fun t k' => X.tableswitchIn hx (g := mkF Γ.m pc Ls (.int k :: st)) rfl rfl (hb hby hd) (by omega) hf ho t k') K
theorem k_tswOut {k : Int32} {dflt low high : Int} {offs : Array Int} {len : Nat} (G : Ctx Γ Z own bytes maxl ret nm rm hs0) (X : W Γ n0 T h C S) (hd : decode bytes pc = .ok (.tableswitch dflt low high offs, len)) (hout : k.toInt < low ∨ high < k.toInt) (ho : 0 ≤ (pc : Int) + dflt) (hp : ((pc : Int) + dflt).toNat = pc') (K : Go Γ n0 Q T (mkF Γ.m pc' Ls st)) : Go Γ n0 Q T (mkF Γ.m pc Ls (.int k :: st)) := by
  subst hp
  obtain ⟨hx, hZ, hown, hby, hml, hret, hnm, hlk, hR, hsH⟩ := G
  obtain ⟨L, X, e, N⟩ := X
  exact Go.of (fun t k' => X.tableswitchOut hx (g := mkF Γ.m pc Ls (.int k :: st)) rfl rfl (hb hby hd) hout ho t k') K
theorem k_ldcI {a0 : Array Value} {idx : Nat} {v : Int32} (G : Ctx Γ Z own bytes maxl ret nm rm hs0) (X : W Γ n0 T h C S) (w : (Cond.constant own idx v).before a0 Z = true) (hd : decode bytes pc = .ok (.ldc idx, 2)) (hp : pc + 2 = pc') (K : Go Γ n0 Q T (mkF Γ.m pc' Ls (.int v :: st))) : Go Γ n0 Q T (mkF Γ.m pc Ls st) := by
  subst hp
  obtain ⟨hx, hZ, hown, hby, hml, hret, hnm, hlk, hR, hsH⟩ := G
  obtain ⟨L, X, e, N⟩ := X
  exact Go.of (fun t k => X.ldcInt hx hown (mvT hZ w) (g := mkF Γ.m pc Ls st) rfl (hb hby hd) t k) K
theorem k_ldcwI {a0 : Array Value} {idx : Nat} {v : Int32} (G : Ctx Γ Z own bytes maxl ret nm rm hs0) (X : W Γ n0 T h C S) (w : (Cond.constant own idx v).before a0 Z = true) (hd : decode bytes pc = .ok (.ldc_w idx, 3)) (hp : pc + 3 = pc') (K : Go Γ n0 Q T (mkF Γ.m pc' Ls (.int v :: st))) : Go Γ n0 Q T (mkF Γ.m pc Ls st) := by
  subst hp
  obtain ⟨hx, hZ, hown, hby, hml, hret, hnm, hlk, hR, hsH⟩ := G
  obtain ⟨L, X, e, N⟩ := X
  exact Go.of (fun t k => X.ldcwInt hx hown (mvT hZ w) (g := mkF Γ.m pc Ls st) rfl (hb hby hd) t k) K
theorem k_ldcL {a0 : Array Value} {idx : Nat} {v : Int64} (G : Ctx Γ Z own bytes maxl ret nm rm hs0) (X : W Γ n0 T h C S) (w : (Cond.constantLong own idx v).before a0 Z = true) (hd : decode bytes pc = .ok (.ldc2_w idx, 3)) (hp : pc + 3 = pc') (K : Go Γ n0 Q T (mkF Γ.m pc' Ls (.long v :: st))) : Go Γ n0 Q T (mkF Γ.m pc Ls st) := by
  subst hp
  obtain ⟨hx, hZ, hown, hby, hml, hret, hnm, hlk, hR, hsH⟩ := G
  obtain ⟨L, X, e, N⟩ := X
  exact Go.of (fun t k => X.ldc2Long hx hown (mvT hZ w) (g := mkF Γ.m pc Ls st) rfl (hb hby hd) t k) K
theorem k_getS {a0 : Array Value} {idx : Nat} {R0 O n d host : String} {v : Value} (G : Ctx Γ Z own bytes maxl ret nm rm hs0) (X : W Γ n0 T h C S) (w : (Cond.fieldLink own idx R0 n d).before a0 Z = true ∨ (Cond.fieldLinkNest own idx R0 n d host).before a0 Z = true) (via : Via Z R0 O n d) (F : Sta Z h O n d v) (hd : decode bytes pc = .ok (.getstatic idx, 3)) (hp : pc + 3 = pc') (K : ∀ T, W Γ n0 T h C S → Go Γ n0 Q T (mkF Γ.m pc' Ls (v :: st))) : Go Γ n0 Q T (mkF Γ.m pc Ls st) := by
  subst hp
  obtain ⟨hx, hZ, hown, hby, hml, hret, hnm, hlk, hR, hsH⟩ := G
  obtain ⟨L, X, e, N⟩ := X
  obtain ⟨T', X', e', st'⟩ := getS2 X hx hZ hown w via e F (g := mkF Γ.m pc Ls st) rfl (hb hby hd)
  exact Go.of st' (K T' ⟨L, X', e', N⟩)
theorem k_getF {a0 : Array Value} {idx : Nat} {R0 O n d host : String} {v : Value} {a : Addr} (G : Ctx Γ Z own bytes maxl ret nm rm hs0) (X : W Γ n0 T h C S) (w : (Cond.fieldLink own idx R0 n d).before a0 Z = true ∨ (Cond.fieldLinkNest own idx R0 n d host).before a0 Z = true) (via : Via Z R0 O n d) (F : Fld Z h a O n d v) (hd : decode bytes pc = .ok (.getfield idx, 3)) (hp : pc + 3 = pc') (K : ∀ T, W Γ n0 T h C S → Go Γ n0 Q T (mkF Γ.m pc' Ls (v :: st))) : Go Γ n0 Q T (mkF Γ.m pc Ls (.ref a :: st)) := by
  subst hp
  obtain ⟨hx, hZ, hown, hby, hml, hret, hnm, hlk, hR, hsH⟩ := G
  obtain ⟨L, X, e, N⟩ := X
  obtain ⟨T', X', e', st'⟩ := getF X hx hZ hown w via e F (g := mkF Γ.m pc Ls (.ref a :: st)) rfl rfl (hb hby hd)
  exact Go.of st' (K T' ⟨L, X', e', N⟩)
theorem k_putF {a0 : Array Value} {idx kk : Nat} {R0 O n d host CC : String} {v old : Value} {ty : FieldType} {a : Addr} (G : Ctx Γ Z own bytes maxl ret nm rm hs0) (X : W Γ n0 T h C S) (w : (Cond.fieldLink own idx R0 n d).before a0 Z = true ∨ (Cond.fieldLinkNest own idx R0 n d host).before a0 Z = true) (via : Via Z R0 O n d) (F : Fld Z h a O n d old) (E : Exa Z h a CC) (lay : (Cond.lays CC O n d).before a0 Z = true ∨ ((Cond.laysFinal CC O n d).before a0 Z = true ∧ own = O ∧ nm = "<init>")) (wi : (Cond.instantiable CC kk).before a0 Z = true) (ht : parseFieldDescriptor d = some ty) (hn : narrow ty v = v) (hf : fits ty v = true) (ga : n0 ≤ a) (hd : decode bytes pc = .ok (.putfield idx, 3)) (hp : pc + 3 = pc') (K : ∀ T h', Wr h h' a (Jvm.RoadKit.slotOf Z O n d) v → W Γ n0 T h' C S → Go Γ n0 Q T (mkF Γ.m pc' Ls st)) : Go Γ n0 Q T (mkF Γ.m pc Ls (v :: .ref a :: st)) := by
  subst hp
  obtain ⟨hx, hZ, hown, hby, hml, hret, hnm, hlk, hR, hsH⟩ := G
  obtain ⟨L, X, e, N⟩ := X
  obtain ⟨T', h', X', e', W', st'⟩ := putF X hx hZ hown w via e F E (by rw [hnm]; exact lay) wi ht hn hf (g := mkF Γ.m pc Ls (v :: .ref a :: st)) rfl rfl (hb hby hd)
  exact Go.of st' (K T' h' W' ⟨_, X', e', Fr.snoc X' N ga⟩)
theorem k_putFN {a0 : Array Value} {idx kk : Nat} {R0 O n d CC : String} {v v' old : Value} {ty : FieldType} {a : Addr} (G : Ctx Γ Z own bytes maxl ret nm rm hs0) (X : W Γ n0 T h C S) (w : (Cond.fieldLink own idx R0 n d).before a0 Z = true) (via : Via Z R0 O n d) (F : Fld Z h a O n d old) (E : Exa Z h a CC) (lay : (Cond.lays CC O n d).before a0 Z = true ∨ ((Cond.laysFinal CC O n d).before a0 Z = true ∧ own = O ∧ nm = "<init>")) (wi : (Cond.instantiable CC kk).before a0 Z = true) (ht : parseFieldDescriptor d = some ty) (hn : narrow ty v = v') (hf : fits ty v' = true) (ga : n0 ≤ a) (hd : decode bytes pc = .ok (.putfield idx, 3)) (hp : pc + 3 = pc') (K : ∀ T h', Wr h h' a (Jvm.RoadKit.slotOf Z O n d) v' → W Γ n0 T h' C S → Go Γ n0 Q T (mkF Γ.m pc' Ls st)) : Go Γ n0 Q T (mkF Γ.m pc Ls (v :: .ref a :: st)) := by
  subst hp
  obtain ⟨hx, hZ, hown, hby, hml, hret, hnm, hlk, hR, hsH⟩ := G
  obtain ⟨L, X, e, N⟩ := X
  obtain ⟨T', h', X', e', W', st'⟩ := putFN X hx hZ hown w via e F E (by rw [hnm]; exact lay) wi ht hn hf (g := mkF Γ.m pc Ls (v :: .ref a :: st)) rfl rfl (hb hby hd)
  exact Go.of st' (K T' h' W' ⟨_, X', e', Fr.snoc X' N ga⟩)
theorem k_new {a0 : Array Value} {idx k : Nat} {CC : String} (G : Ctx Γ Z own bytes maxl ret nm rm hs0) (X : W Γ n0 T h C S) (w : (Cond.classLink own idx CC).before a0 Z = true) (wi : (Cond.instantiable CC k).before a0 Z = true) (wz : (Cond.initialized CC).before a0 Z = true) (hd : decode bytes pc = .ok (.new idx, 3)) (hp : pc + 3 = pc') (hc : C + 1 ≤ rm.cells) (hs : S + k ≤ rm.slots)
    (K : ∀ T h' a, a = h.size → Ext h h' → Exa Z h' a CC → (∀ {O nm d : String} {ty : FieldType}, Laid Z a0 CC O nm d → parseFieldDescriptor d = some ty → Fld Z h' a O nm d (defaultValue ty)) → W Γ n0 T h' (C + 1) (S + k) → Go Γ n0 Q T (mkF Γ.m pc' Ls (.ref a :: st))) : Go Γ n0 Q T (mkF Γ.m pc Ls st) := by
  subst hp
  obtain ⟨hx, hZ, hown, hby, hml, hret, hnm, hlk, hR, hsH⟩ := G
  obtain ⟨L, X, e, N⟩ := X
  obtain ⟨T', h', X', e', E', A', D', -, st'⟩ := newO X hx hZ hown w wi wz e (g := mkF Γ.m pc Ls st) rfl (hb hby hd) (hR ▸ hc) (hR ▸ hs)
  exact Go.of st' (K T' h' _ rfl E' A' D' ⟨L, X', e', N⟩)
theorem k_initO {a0 : Array Value} {idx : Nat} {a : Addr} {wd : Nat} (G : Ctx Γ Z own bytes maxl ret nm rm hs0) (X : W Γ n0 T h C S) (w1 : (Cond.methodLink own idx Lib.objectInit).before a0 Z = true) (w2 : (Cond.instanceMethod Lib.objectInit).before a0 Z = true) (w3 : (Cond.code Lib.objectInit ⟨#[0xb1]⟩ 1 none).before a0 Z = true) (hd : decode bytes pc = .ok (.invokespecial idx, 3)) (hp : pc + 3 = pc') (hL : Ls.size = maxl) (hf : 1 ≤ rm.frames) (hwd : (st.map fun v => v.category).sum = wd) (hl : wd + 12 ≤ rm.locals) (K : ∀ T, W Γ n0 T h C S → Go Γ n0 Q T (mkF Γ.m pc' Ls st)) : Go Γ n0 Q T (mkF Γ.m pc Ls (.ref a :: st)) := by
  subst hp
  obtain ⟨hx, hZ, hown, hby, hml, hret, hnm, hlk, hR, hsH⟩ := G
  obtain ⟨L, X, e, N⟩ := X
  obtain ⟨T', X', e', st'⟩ := initO X hx hZ hown w1 w2 w3 e (g := mkF Γ.m pc Ls (.ref a :: st)) rfl (by rw [hml]; exact hL) rfl (hb hby hd) (hR ▸ hf) (W := wd) (by show 2 * 0 + _ ≤ _; omega) (hR ▸ hl)
  exact Go.of st' (K T' ⟨L, X', e', N⟩)
theorem k_castY {a0 : Array Value} {idx : Nat} {KK : String} {a : Addr} (G : Ctx Γ Z own bytes maxl ret nm rm hs0) (X : W Γ n0 T h C S) (w : (Cond.classLink own idx KK).before a0 Z = true) (F : Ins Z h a KK true) (hd : decode bytes pc = .ok (.checkcast idx, 3)) (hp : pc + 3 = pc') (K : ∀ T, W Γ n0 T h C S → Go Γ n0 Q T (mkF Γ.m pc' Ls (.ref a :: st))) : Go Γ n0 Q T (mkF Γ.m pc Ls (.ref a :: st)) := by
  subst hp
  obtain ⟨hx, hZ, hown, hby, hml, hret, hnm, hlk, hR, hsH⟩ := G
  obtain ⟨L, X, e, N⟩ := X
  obtain ⟨T', X', e', st'⟩ := castY X hx hZ hown w e F (g := mkF Γ.m pc Ls (.ref a :: st)) rfl rfl (hb hby hd)
  exact Go.of st' (K T' ⟨L, X', e', N⟩)
theorem k_instY {a0 : Array Value} {idx : Nat} {KK : String} {a : Addr} (G : Ctx Γ Z own bytes maxl ret nm rm hs0) (X : W Γ n0 T h C S) (w : (Cond.classLink own idx KK).before a0 Z = true) (F : Ins Z h a KK true) (hd : decode bytes pc = .ok (.instanceof idx, 3)) (hp : pc + 3 = pc') (K : ∀ T, W Γ n0 T h C S → Go Γ n0 Q T (mkF Γ.m pc' Ls (.int 1 :: st))) : Go Γ n0 Q T (mkF Γ.m pc Ls (.ref a :: st)) := by
  subst hp
  obtain ⟨hx, hZ, hown, hby, hml, hret, hnm, hlk, hR, hsH⟩ := G
  obtain ⟨L, X, e, N⟩ := X
  obtain ⟨T', X', e', st'⟩ := instY X hx hZ hown w e F (g := mkF Γ.m pc Ls (.ref a :: st)) rfl rfl (hb hby hd)
  exact Go.of st' (K T' ⟨L, X', e', N⟩)
theorem k_callS {a0 : Array Value} {idx : Nat} {y : MethodName} {by' : ByteArray} {maxL' : Nat} {ret' : Option FieldType} {rm' : Room} {ps : List FieldType} {rt : Option FieldType} {wd : Nat} {QY : Option Value → Heap → Prop} {argsL rest : List Value} (G : Ctx Γ Z own bytes maxl ret nm rm hs0) (X : W Γ n0 T h C S) (hst : st = argsL.reverse ++ rest) (w1 : (Cond.methodLink own idx y).before a0 Z = true) (w2 : (Cond.static y).before a0 Z = true) (wz : (Cond.initialized y.cls).before a0 Z = true) (wc : (Cond.code y by' maxL' ret').before a0 Z = true) (hy : y.cls ≠ "java/lang/invoke/MethodHandle" ∧ y.cls ≠ "java/lang/invoke/VarHandle") (M : Met Z y by' maxL' ret' rm' argsL.toArray h n0 QY) (hd : decode bytes pc = .ok (.invokestatic idx, 3)) (pd : parseMethodDescriptor y.desc = some ⟨ps, rt⟩) (hn : argsL.length = ps.length) (hp : pc + 3 = pc') (hL : Ls.size = maxl) (hwd : (rest.map fun v => v.category).sum = wd) (hf : rm'.frames + 1 ≤ rm.frames) (hlo : wd + (maxL' + 11) + rm'.locals ≤ rm.locals) (hc : C + rm'.cells ≤ rm.cells) (hs : S + rm'.slots ≤ rm.slots) (K : ∀ T h' v, W Γ n0 T h' (C + rm'.cells) (S + rm'.slots) → QY v h' → Go Γ n0 Q T (mkF Γ.m pc' Ls (v.toList ++ rest))) : Go Γ n0 Q T (mkF Γ.m pc Ls st) := by
  subst hp hst
  obtain ⟨hx, hZ, hown, hby, hml, hret, hnm, hlk, hR, hsH⟩ := G
  obtain ⟨L, X, e, N⟩ := X
  obtain ⟨v1, _, ⟨T1, L1, k1, n1⟩, -, X1, ⟨Lc1, q1, l1, y1, z1⟩, s1⟩ := Jvm.LawKit.callS X hx hown (mvT hZ w1) (mvT hZ w2) (mvT hZ wz) (mvT hZ wc) hy (backOf (W := wd) (Q := fun v h L => QY v h ∧ Fr n0 L) (M Γ.l) hZ wc wz (hR ▸ hf) (hR ▸ hlo)) (g := mkF Γ.m pc Ls (argsL.reverse ++ rest)) rfl (by rw [hml]; exact hL) (argsL := argsL) (rest := rest) (lenOf pd hn) rfl (by show 2 * 0 + _ ≤ _; omega) (hb hby hd) (fun _ _ => ⟨rfl, e, hR ▸ hc, hR ▸ hs⟩)
  dsimp only [Pt.U, Pt.locs, Pt.cells, Pt.slots] at X1 l1 y1 z1 s1 q1
  subst l1 y1 z1
  exact Go.of s1 (K T1 _ v1 ⟨_, X1, rfl, Fr.app N q1.2⟩ q1.1)
theorem k_callI {a0 : Array Value} {idx : Nat} {y : MethodName} {by' : ByteArray} {maxL' : Nat} {ret' : Option FieldType} {rm' : Room} {ps : List FieldType} {rt : Option FieldType} {wd : Nat} {QY : Option Value → Heap → Prop} {argsL rest : List Value} {a : Addr} (G : Ctx Γ Z own bytes maxl ret nm rm hs0) (X : W Γ n0 T h C S) (hst : st = argsL.reverse ++ .ref a :: rest) (hy1 : y.name = "<init>") (w1 : (Cond.methodLink own idx y).before a0 Z = true) (w2 : (Cond.instanceMethod y).before a0 Z = true) (wz : (Cond.initialized y.cls).before a0 Z = true) (wc : (Cond.code y by' maxL' none).before a0 Z = true) (hy : y.cls ≠ "java/lang/invoke/MethodHandle" ∧ y.cls ≠ "java/lang/invoke/VarHandle") (M : Met Z y by' maxL' none rm' (.ref a :: argsL).toArray h n0 QY) (hd : decode bytes pc = .ok (.invokespecial idx, 3)) (pd : parseMethodDescriptor y.desc = some ⟨ps, rt⟩) (hn : argsL.length = ps.length) (hp : pc + 3 = pc') (hL : Ls.size = maxl) (hwd : (rest.map fun v => v.category).sum = wd) (hf : rm'.frames + 1 ≤ rm.frames) (hlo : wd + (maxL' + 11) + rm'.locals ≤ rm.locals) (hc : C + rm'.cells ≤ rm.cells) (hs : S + rm'.slots ≤ rm.slots) (K : ∀ T h' v, W Γ n0 T h' (C + rm'.cells) (S + rm'.slots) → QY v h' → Go Γ n0 Q T (mkF Γ.m pc' Ls (v.toList ++ rest))) : Go Γ n0 Q T (mkF Γ.m pc Ls st) := by
  subst hp hst
  obtain ⟨hx, hZ, hown, hby, hml, hret, hnm, hlk, hR, hsH⟩ := G
  obtain ⟨L, X, e, N⟩ := X
  obtain ⟨v1, _, ⟨T1, L1, k1, n1⟩, -, X1, ⟨Lc1, q1, l1, y1, z1⟩, s1⟩ := X.specialBack hx hy1 hown (mvT hZ w1) (mvT hZ w2) (mvT hZ wc) hy (backOf (W := wd) (Q := fun v h L => QY v h ∧ Fr n0 L) (M Γ.l) hZ wc wz (hR ▸ hf) (hR ▸ hlo)) (g := mkF Γ.m pc Ls (argsL.reverse ++ .ref a :: rest)) rfl (by rw [hml]; exact hL) (Steps.refl _) (a := a) (argsL := argsL) (rest := rest) (lenOf pd hn) rfl (by show 2 * 0 + _ ≤ _; omega) (hb hby hd) (fun _ _ => ⟨rfl, e, hR ▸ hc, hR ▸ hs⟩)
  dsimp only [Pt.U, Pt.locs, Pt.cells, Pt.slots] at X1 l1 y1 z1 s1 q1
  subst l1 y1 z1
  exact Go.of (fun t k => s1.trans k) (K T1 _ v1 ⟨_, X1, rfl, Fr.app N q1.2⟩ q1.1)
theorem k_callV {a0 : Array Value} {idx : Nat} {y : MethodName} {by' : ByteArray} {maxL' : Nat} {ret' : Option FieldType} {rm' : Room} {ps : List FieldType} {rt : Option FieldType} {wd : Nat} {QY : Option Value → Heap → Prop} {argsL rest : List Value} {a : Addr} {CC : String} {z : MethodName} (G : Ctx Γ Z own bytes maxl ret nm rm hs0) (X : W Γ n0 T h C S) (hst : st = argsL.reverse ++ .ref a :: rest) (E : Exa Z h a CC) (w1 : (Cond.methodLink own idx y).before a0 Z = true) (w2 : (Cond.declares y).before a0 Z = true) (nf : ∀ s : State, Z.Warmed39 s.vm → NotFace s y) (w3 : (Cond.selects CC y z).before a0 Z = true) (w4 : (Cond.instanceMethod z).before a0 Z = true) (wz : (Cond.initialized z.cls).before a0 Z = true) (wc : (Cond.code z by' maxL' ret').before a0 Z = true) (hy : y.cls ≠ "java/lang/invoke/MethodHandle" ∧ y.cls ≠ "java/lang/invoke/VarHandle") (M : Met Z z by' maxL' ret' rm' (.ref a :: argsL).toArray h n0 QY) (hd : decode bytes pc = .ok (.invokevirtual idx, 3)) (pd : parseMethodDescriptor y.desc = some ⟨ps, rt⟩) (hn : argsL.length = ps.length) (hp : pc + 3 = pc') (hL : Ls.size = maxl) (hwd : (rest.map fun v => v.category).sum = wd) (hf : rm'.frames + 1 ≤ rm.frames) (hlo : wd + (maxL' + 11) + rm'.locals ≤ rm.locals) (hc : C + rm'.cells ≤ rm.cells) (hs : S + rm'.slots ≤ rm.slots) (K : ∀ T h' v, W Γ n0 T h' (C + rm'.cells) (S + rm'.slots) → QY v h' → Go Γ n0 Q T (mkF Γ.m pc' Ls (v.toList ++ rest))) : Go Γ n0 Q T (mkF Γ.m pc Ls st) := by
  subst hp hst
  obtain ⟨hx, hZ, hown, hby, hml, hret, hnm, hlk, hR, hsH⟩ := G
  obtain ⟨L, X, e, N⟩ := X
  obtain ⟨cq, kq, qa, qb, qc⟩ := isOf hZ e E
  obtain ⟨v1, _, ⟨T1, L1, k1, n1⟩, -, X1, ⟨Lc1, q1, l1, y1, z1⟩, s1⟩ := X.virtualBack hx hown (mvT hZ w1) (mvT hZ w2) (nf _ hZ) (mvT hZ w3) (mvT hZ w4) hy (backOf (W := wd) (Q := fun v h L => QY v h ∧ Fr n0 L) (M Γ.l) hZ wc wz (hR ▸ hf) (hR ▸ hlo)) qa qc (g := mkF Γ.m pc Ls (argsL.reverse ++ .ref a :: rest)) rfl (by rw [hml]; exact hL) (Steps.refl _) (argsL := argsL) (rest := rest) (lenOf pd hn) rfl (by show 2 * 0 + _ ≤ _; omega) (hb hby hd) (fun _ _ => ⟨rfl, e, hR ▸ hc, hR ▸ hs⟩)
  dsimp only [Pt.U, Pt.locs, Pt.cells, Pt.slots] at X1 l1 y1 z1 s1 q1
  subst l1 y1 z1
  exact Go.of (fun t k => s1.trans k) (K T1 _ v1 ⟨_, X1, rfl, Fr.app N q1.2⟩ q1.1)
theorem nf_sel {a0 : Array Value} {CC : String} {y : MethodName} (w3 : (Cond.selects CC y y).before a0 Z = true) : ∀ s : State, Z.Warmed39 s.vm → NotFace s y := fun s hZ => notFace_of_selects (args := #[]) (mvT hZ w3)
theorem k_callVU {a0 : Array Value} {idx : Nat} {y : MethodName} {by' : ByteArray} {maxL' : Nat} {ret' : Option FieldType} {rm' : Room} {ps : List FieldType} {rt : Option FieldType} {wd : Nat} {QY : Option Value → Heap → Prop} {argsL rest : List Value} {a : Addr} {CC owner : String} {z : MethodName} (G : Ctx Γ Z own bytes maxl ret nm rm hs0) (X : W Γ n0 T h C S) (hst : st = argsL.reverse ++ .ref a :: rest) (E : Exa Z h a CC) (w1 : (Cond.methodLink own idx y).before a0 Z = true) (ws : (Cond.sameMethod y.cls owner y.name y.desc).before a0 Z = true) (w2 : (Cond.declares ⟨owner, y.name, y.desc⟩).before a0 Z = true) (w3 : (Cond.selects CC y z).before a0 Z = true) (w4 : (Cond.instanceMethod z).before a0 Z = true) (wz : (Cond.initialized z.cls).before a0 Z = true) (wc : (Cond.code z by' maxL' ret').before a0 Z = true) (hy : owner ≠ "java/lang/invoke/MethodHandle" ∧ owner ≠ "java/lang/invoke/VarHandle") (M : Met Z z by' maxL' ret' rm' (.ref a :: argsL).toArray h n0 QY) (hd : decode bytes pc = .ok (.invokevirtual idx, 3)) (pd : parseMethodDescriptor y.desc = some ⟨ps, rt⟩) (hn : argsL.length = ps.length) (hp : pc + 3 = pc') (hL : Ls.size = maxl) (hwd : (rest.map fun v => v.category).sum = wd) (hf : rm'.frames + 1 ≤ rm.frames) (hlo : wd + (maxL' + 11) + rm'.locals ≤ rm.locals) (hc : C + rm'.cells ≤ rm.cells) (hs : S + rm'.slots ≤ rm.slots) (K : ∀ T h' v, W Γ n0 T h' (C + rm'.cells) (S + rm'.slots) → QY v h' → Go Γ n0 Q T (mkF Γ.m pc' Ls (v.toList ++ rest))) : Go Γ n0 Q T (mkF Γ.m pc Ls st) := by
  subst hp hst
  obtain ⟨hx, hZ, hown, hby, hml, hret, hnm, hlk, hR, hsH⟩ := G
  obtain ⟨L, X, e, N⟩ := X
  obtain ⟨cq, kq, qa, qb, qc⟩ := isOf hZ e E
  obtain ⟨v1, _, ⟨T1, L1, k1, n1⟩, -, X1, ⟨Lc1, q1, l1, y1, z1⟩, s1⟩ := X.virtualBackUp hx hown (mvT hZ w1) (mvT hZ ws) (mvT hZ w2) hy (mvT hZ w3) (mvT hZ w4) (backOf (W := wd) (Q := fun v h L => QY v h ∧ Fr n0 L) (M Γ.l) hZ wc wz (hR ▸ hf) (hR ▸ hlo)) qa qc (g := mkF Γ.m pc Ls (argsL.reverse ++ .ref a :: rest)) rfl (by rw [hml]; exact hL) (Steps.refl _) (argsL := argsL) (rest := rest) (lenOf pd hn) rfl (by show 2 * 0 + _ ≤ _; omega) (hb hby hd) (fun _ _ => ⟨rfl, e, hR ▸ hc, hR ▸ hs⟩)
  dsimp only [Pt.U, Pt.locs, Pt.cells, Pt.slots] at X1 l1 y1 z1 s1 q1
  subst l1 y1 z1
  exact Go.of (fun t k => s1.trans k) (K T1 _ v1 ⟨_, X1, rfl, Fr.app N q1.2⟩ q1.1)
theorem k_callF {a0 : Array Value} {idx : Nat} {y : MethodName} {by' : ByteArray} {maxL' : Nat} {ret' : Option FieldType} {rm' : Room} {ps : List FieldType} {rt : Option FieldType} {wd : Nat} {QY : Option Value → Heap → Prop} {argsL rest : List Value} {a : Addr} {CC : String} {z : MethodName} {cnt : Nat} (G : Ctx Γ Z own bytes maxl ret nm rm hs0) (X : W Γ n0 T h C S) (hst : st = argsL.reverse ++ .ref a :: rest) (E : Exa Z h a CC) (w1 : (Cond.methodLink own idx y).before a0 Z = true) (w2 : (Cond.declares y).before a0 Z = true) (wf : (Cond.interfaceMethod y.cls y.cls y.name y.desc).before a0 Z = true) (hwf : ((Cond.interfaceMethod y.cls y.cls y.name y.desc).onTables && (Cond.interfaceMethod y.cls y.cls y.name y.desc).keepsFace) = true) (w3 : (Cond.selects CC y z).before a0 Z = true) (w4 : (Cond.instanceMethod z).before a0 Z = true) (wp : (Cond.publicMethod z).before a0 Z = true) (wu : (Cond.unhidden CC y.name y.desc).before a0 Z = true) (wk : (Cond.castable CC y.cls).before a0 Z = true) (wz : (Cond.initialized z.cls).before a0 Z = true) (wc : (Cond.code z by' maxL' ret').before a0 Z = true) (hy : y.cls ≠ "java/lang/invoke/MethodHandle" ∧ y.cls ≠ "java/lang/invoke/VarHandle") (M : Met Z z by' maxL' ret' rm' (.ref a :: argsL).toArray h n0 QY) (hd : decode bytes pc = .ok (.invokeinterface idx cnt, 5)) (pd : parseMethodDescriptor y.desc = some ⟨ps, rt⟩) (hn : argsL.length = ps.length) (hp : pc + 5 = pc') (hL : Ls.size = maxl) (hwd : (rest.map fun v => v.category).sum = wd) (hf : rm'.frames + 1 ≤ rm.frames) (hlo : wd + (maxL' + 11) + rm'.locals ≤ rm.locals) (hc : C + rm'.cells ≤ rm.cells) (hs : S + rm'.slots ≤ rm.slots) (K : ∀ T h' v, W Γ n0 T h' (C + rm'.cells) (S + rm'.slots) → QY v h' → Go Γ n0 Q T (mkF Γ.m pc' Ls (v.toList ++ rest))) : Go Γ n0 Q T (mkF Γ.m pc Ls st) := by
  subst hp hst
  obtain ⟨hx, hZ, hown, hby, hml, hret, hnm, hlk, hR, hsH⟩ := G
  obtain ⟨L, X, e, N⟩ := X
  obtain ⟨cq, kq, qa, qb, qc⟩ := isOf hZ e E
  obtain ⟨v1, _, ⟨T1, L1, k1, n1⟩, -, X1, ⟨Lc1, q1, l1, y1, z1⟩, s1⟩ := X.interfaceBack hx hown (mvT hZ w1) (mvT hZ w2) (mvT hZ wf hwf) (mvT hZ w3) (mvT hZ w4) (mvT hZ wp) (mvT hZ wu) (mvT hZ wk) hy (backOf (W := wd) (Q := fun v h L => QY v h ∧ Fr n0 L) (M Γ.l) hZ wc wz (hR ▸ hf) (hR ▸ hlo)) qa qb qc (g := mkF Γ.m pc Ls (argsL.reverse ++ .ref a :: rest)) rfl (by rw [hml]; exact hL) (Steps.refl _) (argsL := argsL) (rest := rest) (lenOf pd hn) rfl (by show 2 * 0 + _ ≤ _; omega) (hb hby hd) (fun _ _ => ⟨rfl, e, hR ▸ hc, hR ▸ hs⟩)
  dsimp only [Pt.U, Pt.locs, Pt.cells, Pt.slots] at X1 l1 y1 z1 s1 q1
  subst l1 y1 z1
  exact Go.of (fun t k => s1.trans k) (K T1 _ v1 ⟨_, X1, rfl, Fr.app N q1.2⟩ q1.1)
theorem k_callP {a0 : Array Value} {idx : Nat} {y : MethodName} {by' : ByteArray} {maxL' : Nat} {ret' : Option FieldType} {rm' : Room} {ps : List FieldType} {rt : Option FieldType} {wd : Nat} {QY : Option Value → Heap → Prop} {argsL rest : List Value} {a : Addr} {CC : String} (G : Ctx Γ Z own bytes maxl ret nm rm hs0) (X : W Γ n0 T h C S) (hst : st = argsL.reverse ++ .ref a :: rest) (E : Exa Z h a CC) (w1 : (Cond.methodLink own idx y).before a0 Z = true) (w2 : (Cond.instanceMethod y).before a0 Z = true) (w3 : (Cond.selects y.cls y y).before a0 Z = true) (wp : (Cond.privateMethod y).before a0 Z = true) (wz : (Cond.initialized y.cls).before a0 Z = true) (wc : (Cond.code y by' maxL' ret').before a0 Z = true) (hy : y.cls ≠ "java/lang/invoke/MethodHandle" ∧ y.cls ≠ "java/lang/invoke/VarHandle") (M : Met Z y by' maxL' ret' rm' (.ref a :: argsL).toArray h n0 QY) (hd : decode bytes pc = .ok (.invokevirtual idx, 3)) (pd : parseMethodDescriptor y.desc = some ⟨ps, rt⟩) (hn : argsL.length = ps.length) (hp : pc + 3 = pc') (hL : Ls.size = maxl) (hwd : (rest.map fun v => v.category).sum = wd) (hf : rm'.frames + 1 ≤ rm.frames) (hlo : wd + (maxL' + 11) + rm'.locals ≤ rm.locals) (hc : C + rm'.cells ≤ rm.cells) (hs : S + rm'.slots ≤ rm.slots) (K : ∀ T h' v, W Γ n0 T h' (C + rm'.cells) (S + rm'.slots) → QY v h' → Go Γ n0 Q T (mkF Γ.m pc' Ls (v.toList ++ rest))) : Go Γ n0 Q T (mkF Γ.m pc Ls st) := by
  subst hp hst
  obtain ⟨hx, hZ, hown, hby, hml, hret, hnm, hlk, hR, hsH⟩ := G
  obtain ⟨L, X, e, N⟩ := X
  obtain ⟨cq, qa, qb⟩ := E.cell
  obtain ⟨v1, _, ⟨T1, L1, k1, n1⟩, -, X1, ⟨Lc1, q1, l1, y1, z1⟩, s1⟩ := X.privateBack hx hown (mvT hZ w1) (mvT hZ w2) (mvT hZ w3) (Cond.privateMethod_at (mvP hZ wp (args := #[]))) (mvT hZ wc) hy (backOf (W := wd) (Q := fun v h L => QY v h ∧ Fr n0 L) (M Γ.l) hZ wc wz (hR ▸ hf) (hR ▸ hlo)) (g := mkF Γ.m pc Ls (argsL.reverse ++ .ref a :: rest)) rfl (by rw [hml]; exact hL) (Steps.refl _) (a := a) (by rw [e]; exact qa) qb (argsL := argsL) (rest := rest) (lenOf pd hn) rfl (by show 2 * 0 + _ ≤ _; omega) (hb hby hd) (fun _ _ => ⟨rfl, e, hR ▸ hc, hR ▸ hs⟩)
  dsimp only [Pt.U, Pt.locs, Pt.cells, Pt.slots] at X1 l1 y1 z1 s1 q1
  subst l1 y1 z1
  exact Go.of (fun t k => s1.trans k) (K T1 _ v1 ⟨_, X1, rfl, Fr.app N q1.2⟩ q1.1)
theorem k_callU {a0 : Array Value} {idx : Nat} {y : MethodName} {by' : ByteArray} {maxL' : Nat} {ret' : Option FieldType} {rm' : Room} {ps : List FieldType} {rt : Option FieldType} {wd : Nat} {QY : Option Value → Heap → Prop} {argsL rest : List Value} {a : Addr} {KS : String} (G : Ctx Γ Z own bytes maxl ret nm rm hs0) (X : W Γ n0 T h C S) (hst : st = argsL.reverse ++ .ref a :: rest) (I : Ins Z h a KS true) (w1 : (Cond.methodLink own idx y).before a0 Z = true) (w2 : (Cond.sameMethod y.cls y.cls y.name y.desc).before a0 Z = true) (w3 : (Cond.instanceMethod y).before a0 Z = true) (w4 : (Cond.superclass own y.cls).before a0 Z = true) (hni : y.name ≠ "<init>") (wz : (Cond.initialized y.cls).before a0 Z = true) (wc : (Cond.code y by' maxL' ret').before a0 Z = true) (M : Met Z y by' maxL' ret' rm' (.ref a :: argsL).toArray h n0 QY) (hd : decode bytes pc = .ok (.invokespecial idx, 3)) (pd : parseMethodDescriptor y.desc = some ⟨ps, rt⟩) (hn : argsL.length = ps.length) (hp : pc + 3 = pc') (hL : Ls.size = maxl) (hwd : (rest.map fun v => v.category).sum = wd) (hf : rm'.frames + 1 ≤ rm.frames) (hlo : wd + (maxL' + 11) + rm'.locals ≤ rm.locals) (hc : C + rm'.cells ≤ rm.cells) (hs : S + rm'.slots ≤ rm.slots) (K : ∀ T h' v, W Γ n0 T h' (C + rm'.cells) (S + rm'.slots) → QY v h' → Go Γ n0 Q T (mkF Γ.m pc' Ls (v.toList ++ rest))) : Go Γ n0 Q T (mkF Γ.m pc Ls st) := by
  subst hp hst
  obtain ⟨hx, hZ, hown, hby, hml, hret, hnm, hlk, hR, hsH⟩ := G
  obtain ⟨L, X, e, N⟩ := X
  obtain ⟨v1, _, ⟨T1, L1, k1, n1⟩, -, X1, ⟨Lc1, q1, l1, y1, z1⟩, s1⟩ := superBack X hx hZ hown w1 w2 w3 w4 hni (backOf (W := wd) (Q := fun v h L => QY v h ∧ Fr n0 L) (M Γ.l) hZ wc wz (hR ▸ hf) (hR ▸ hlo)) e I (g := mkF Γ.m pc Ls (argsL.reverse ++ .ref a :: rest)) rfl (by rw [hml]; exact hL) wc (argsL := argsL) (rest := rest) (lenOf pd hn) rfl (by show 2 * 0 + _ ≤ _; omega) (hb hby hd) (fun _ _ => ⟨rfl, e, hR ▸ hc, hR ▸ hs⟩)
  dsimp only [Pt.U, Pt.locs, Pt.cells, Pt.slots] at X1 l1 y1 z1 s1 q1
  subst l1 y1 z1
  exact Go.of (fun t k => s1.trans k) (K T1 _ v1 ⟨_, X1, rfl, Fr.app N q1.2⟩ q1.1)
/-! ### arrays: the components by a function of their place -/
def Arf (Z : State) (h : Heap) (a : Addr) (k : ClassId) (ty : FieldType) (n : Nat) (f : Nat → Value) : Prop := ∃ c : Cell, Arr Z h a c ty ∧ c.cls = k ∧ c.slots.size = n ∧ n < 2147483648 ∧ ∀ i, i < n → c.slots[i]? = some (f i) ∧ fits ty (f i) = true
section A
variable {h' : Heap} {a b : Addr} {k : ClassId} {ty : FieldType} {n : Nat} {f g : Nat → Value} {v : Value} {sl : Nat} {ws : List Addr}
theorem Arf.lt (F : Arf Z h a k ty n f) : a < h.size := by obtain ⟨c, A, -⟩ := F; exact A.lt
theorem Arf.ext (F : Arf Z h a k ty n f) (E : Ext h h') : Arf Z h' a k ty n f := by obtain ⟨c, A, r⟩ := F; exact ⟨c, A.ext E, r⟩
theorem Arf.other (F : Arf Z h b k ty n f) (W : Wr h h' a sl v) (q : b ≠ a) : Arf Z h' b k ty n f := by obtain ⟨c, A, r⟩ := F; exact ⟨c, A.other W q, r⟩
theorem Arf.keep (F : Arf Z h a k ty n f) (K : Keep h h' ws) (q : a ∉ ws) : Arf Z h' a k ty n f := by obtain ⟨c, A, r⟩ := F; exact ⟨c, ⟨K.2.1 a c A.1 q, A.2⟩, r⟩
theorem Arf.congr (F : Arf Z h a k ty n f) (q : ∀ i, i < n → f i = g i) : Arf Z h a k ty n g := by
  obtain ⟨c, A, r1, r2, r3, H⟩ := F
  exact ⟨c, A, r1, r2, r3, fun i hi => by rw [← q i hi]; exact H i hi⟩
theorem Arf.size_lt (F : Arf Z h a k ty n f) : n < 2147483648 := by obtain ⟨c, A, r1, r2, r3, H⟩ := F; exact r3
theorem Arf.fits (F : Arf Z h a k ty n f) {i : Nat} (hi : i < n) : fits ty (f i) = true := by obtain ⟨c, A, r1, r2, r3, H⟩ := F; exact (H i hi).2
theorem idx_of {j : Int32} {i : Nat} (hj : j.toInt = i) : ¬ j < 0 ∧ j.toNatClampNeg = i := by
  rw [Int32.lt_iff_toInt_lt, show (0 : Int32).toInt = 0 from rfl, hj]
  exact ⟨by omega, by simp only [Int32.toNatClampNeg, hj]; omega⟩
theorem Arf.set (F : Arf Z h a k ty n f) {i : Nat} (W : Wr h h' a i v) (hi : i < n) (hv : Jvm.fits ty v = true) : Arf Z h' a k ty n (fun x => if x = i then v else f x) := by
  obtain ⟨c, A, r1, r2, r3, H⟩ := F
  refine ⟨_, A.same W, r1, by rw [sz_set]; exact r2, r3, fun x hx => ?_⟩
  by_cases q : x = i
  · subst q
    refine ⟨?_, by simpa using hv⟩
    simp [Cell.setSlot, r2, hx]
  · refine ⟨?_, by simpa [q] using (H x hx).2⟩
    simp only [Cell.setSlot, if_neg q]
    rw [Array.getElem?_setIfInBounds_ne (fun e => q e.symm)]; exact (H x hx).1
theorem Arf.new {z : Int32} (A : Arr Z h a (newA k ty z) ty) (hz : z.toInt = n) : Arf Z h a k ty n (fun _ => defaultValue ty) := by
  have q := idx_of hz
  refine ⟨_, A, rfl, by rw [sz_new, q.2], by have := Int32.toInt_lt z; omega, fun i hi => ⟨?_, by cases ty <;> rfl⟩⟩
  simp [newA, q.2, hi]
theorem Arf.arv (F : Arf Z h a k ty n f) {z : Int32} (hz : z.toInt = n) (dv : Value) : Arv Z h a k ty z ((List.range n).map f) dv := by
  obtain ⟨c, A, r1, r2, r3, H⟩ := F
  have q := idx_of hz
  refine ⟨c, A, r1, by rw [r2, q.2], q.1, fun i hi => ?_, fun i hi => ?_⟩
  · rw [r2] at hi; rw [(H i hi).1]; simp [List.getD_eq_getElem?_getD, hi]
  · rw [r2] at hi; have := (H i hi).2; simpa [List.getD_eq_getElem?_getD, hi] using this
theorem Arf.of_arv {z : Int32} {vs : List Value} {dv : Value} (F : Arv Z h a k ty z vs dv) (hz : z.toInt = n) (q : ∀ i, i < n → vs.getD i dv = f i) : Arf Z h a k ty n f := by
  obtain ⟨c, A, r1, r2, r3, H, G⟩ := F
  have q' := idx_of hz
  refine ⟨c, A, r1, by rw [r2, q'.2], by have := Int32.toInt_lt z; omega, fun i hi => ?_⟩
  have hi' : i < c.slots.size := by rw [r2, q'.2]; exact hi
  rw [← q i hi]; exact ⟨H i hi', G i hi'⟩
theorem Arf.sto (F : Arf Z h a k ty n f) {CC : String} {y : Addr} (O : Ovr Z k CC) (I : Ins Z h y CC true) : Sto Z h a (.ref y) := by
  obtain ⟨c, A, r1, -⟩ := F; exact Sto.ofV A r1 O I
end A

theorem k_newP {a0 : Array Value} {aty : ArrayType} {z : Int32} {n cap : Nat} (G : Ctx Γ Z own bytes maxl ret nm rm hs0) (X : W Γ n0 T h C S) (w : (Cond.arrayClass (newarray.typeOf aty)).before a0 Z = true) (hd : decode bytes pc = .ok (.newarray aty, 2)) (hp : pc + 2 = pc') (hz : z.toInt = n) (hcap : n ≤ cap) (hbig : cap * 8 ≤ 536870912) (hc : C + 1 ≤ rm.cells) (hs : S + cap ≤ rm.slots) (K : ∀ T h' a k, a = h.size → Ext h h' → Arf Z h' a k (newarray.typeOf aty) n (fun _ => defaultValue (newarray.typeOf aty)) → W Γ n0 T h' (C + 1) (S + cap) → Go Γ n0 Q T (mkF Γ.m pc' Ls (.ref a :: st))) : Go Γ n0 Q T (mkF Γ.m pc Ls (.int z :: st)) := by
  subst hp
  obtain ⟨hx, hZ, hown, hby, hml, hret, hnm, hlk, hR, hsH⟩ := G
  obtain ⟨L, X, e, N⟩ := X
  obtain ⟨T', h', k', X', e', E', A', st'⟩ := newP X hx hZ w e (g := mkF Γ.m pc Ls (.int z :: st)) rfl (hb hby hd) rfl (idx_of hz).1 (cap := cap) (by rw [(idx_of hz).2]; exact hcap) hbig (hR ▸ hc) (hR ▸ hs)
  exact Go.of st' (K T' h' _ k' rfl E' (Arf.new A' hz) ⟨L, X', e', N⟩)
theorem k_newR {a0 : Array Value} {idx : Nat} {CC : String} {z : Int32} {n cap : Nat} (G : Ctx Γ Z own bytes maxl ret nm rm hs0) (X : W Γ n0 T h C S) (w1 : (Cond.classLink own idx CC).before a0 Z = true) (w2 : (Cond.arrayOver (.object CC)).before a0 Z = true) (hd : decode bytes pc = .ok (.anewarray idx, 3)) (hp : pc + 3 = pc') (hz : z.toInt = n) (hcap : n ≤ cap) (hbig : cap * 8 ≤ 536870912) (hc : C + 1 ≤ rm.cells) (hs : S + cap ≤ rm.slots) (K : ∀ T h' a k, a = h.size → Ext h h' → Arf Z h' a k (.object CC) n (fun _ => .null) → Ovr Z k CC → W Γ n0 T h' (C + 1) (S + cap) → Go Γ n0 Q T (mkF Γ.m pc' Ls (.ref a :: st))) : Go Γ n0 Q T (mkF Γ.m pc Ls (.int z :: st)) := by
  subst hp
  obtain ⟨hx, hZ, hown, hby, hml, hret, hnm, hlk, hR, hsH⟩ := G
  obtain ⟨L, X, e, N⟩ := X
  obtain ⟨T', h', k', X', e', E', A', O', st'⟩ := newR X hx hZ hown w1 w2 e (g := mkF Γ.m pc Ls (.int z :: st)) rfl (hb hby hd) rfl (idx_of hz).1 (cap := cap) (by rw [(idx_of hz).2]; exact hcap) hbig (hR ▸ hc) (hR ▸ hs)
  exact Go.of st' (K T' h' _ k' rfl E' (Arf.new A' hz) O' ⟨L, X', e', N⟩)
theorem k_alen {a : Addr} {k : ClassId} {ty : FieldType} {n : Nat} {f : Nat → Value} {z : Int32} (G : Ctx Γ Z own bytes maxl ret nm rm hs0) (X : W Γ n0 T h C S) (F : Arf Z h a k ty n f) (hz : z.toInt = n) (hd : decode bytes pc = .ok (.arraylength, 1)) (hp : pc + 1 = pc') (K : Go Γ n0 Q T (mkF Γ.m pc' Ls (.int z :: st))) : Go Γ n0 Q T (mkF Γ.m pc Ls (.ref a :: st)) := by
  subst hp
  obtain ⟨hx, hZ, hown, hby, hml, hret, hnm, hlk, hR, hsH⟩ := G
  obtain ⟨L, X, e, N⟩ := X
  obtain ⟨cl, A, r1, r2, r3, H⟩ := F
  have q : cl.slots.size.toInt32 = z := by rw [r2]; exact Int32.toInt_inj.mp (by rw [len_toInt r3, hz])
  rw [← q] at K
  exact Go.of (fun t k' => X.arraylength hx (by rw [e]; exact A.1) (State.isArrayOf_alike hZ.alike A.2.1) (g := mkF Γ.m pc Ls (.ref a :: st)) rfl rfl (hb hby hd) t k') K
theorem k_iaload {a : Addr} {k : ClassId} {n i : Nat} {f : Nat → Value} {j : Int32} {v : Value} (G : Ctx Γ Z own bytes maxl ret nm rm hs0) (X : W Γ n0 T h C S) (F : Arf Z h a k .int n f) (hj : j.toInt = i) (hi : i < n) (hv : f i = v) (hd : decode bytes pc = .ok (.iaload, 1)) (hp : pc + 1 = pc') (K : Go Γ n0 Q T (mkF Γ.m pc' Ls (v :: st))) : Go Γ n0 Q T (mkF Γ.m pc Ls (.int j :: .ref a :: st)) := by
  subst hp hv
  obtain ⟨hx, hZ, hown, hby, hml, hret, hnm, hlk, hR, hsH⟩ := G
  obtain ⟨L, X, e, N⟩ := X
  obtain ⟨cl, A, r1, r2, r3, H⟩ := F
  have q := idx_of hj
  exact Go.of (fun t k' => X.iaload hx (by rw [e]; exact A.1) (State.isArrayOf_alike hZ.alike A.2.1) A.2.2 (by rw [r2, q.2]; exact fun u => u.elim q.1 (Nat.not_le.mpr hi)) (by rw [q.2]; exact (H i hi).1) (g := mkF Γ.m pc Ls (.int j :: .ref a :: st)) rfl rfl (hb hby hd) t k') K
theorem k_caload {a : Addr} {k : ClassId} {n i : Nat} {f : Nat → Value} {j : Int32} {v : Value} (G : Ctx Γ Z own bytes maxl ret nm rm hs0) (X : W Γ n0 T h C S) (F : Arf Z h a k .char n f) (hj : j.toInt = i) (hi : i < n) (hv : f i = v) (hd : decode bytes pc = .ok (.caload, 1)) (hp : pc + 1 = pc') (K : Go Γ n0 Q T (mkF Γ.m pc' Ls (v :: st))) : Go Γ n0 Q T (mkF Γ.m pc Ls (.int j :: .ref a :: st)) := by
  subst hp hv
  obtain ⟨hx, hZ, hown, hby, hml, hret, hnm, hlk, hR, hsH⟩ := G
  obtain ⟨L, X, e, N⟩ := X
  obtain ⟨cl, A, r1, r2, r3, H⟩ := F
  have q := idx_of hj
  exact Go.of (fun t k' => X.caload hx (by rw [e]; exact A.1) (State.isArrayOf_alike hZ.alike A.2.1) A.2.2 (by rw [r2, q.2]; exact fun u => u.elim q.1 (Nat.not_le.mpr hi)) (by rw [q.2]; exact (H i hi).1) (g := mkF Γ.m pc Ls (.int j :: .ref a :: st)) rfl rfl (hb hby hd) t k') K
theorem k_saload {a : Addr} {k : ClassId} {n i : Nat} {f : Nat → Value} {j : Int32} {v : Value} (G : Ctx Γ Z own bytes maxl ret nm rm hs0) (X : W Γ n0 T h C S) (F : Arf Z h a k .short n f) (hj : j.toInt = i) (hi : i < n) (hv : f i = v) (hd : decode bytes pc = .ok (.saload, 1)) (hp : pc + 1 = pc') (K : Go Γ n0 Q T (mkF Γ.m pc' Ls (v :: st))) : Go Γ n0 Q T (mkF Γ.m pc Ls (.int j :: .ref a :: st)) := by
  subst hp hv
  obtain ⟨hx, hZ, hown, hby, hml, hret, hnm, hlk, hR, hsH⟩ := G
  obtain ⟨L, X, e, N⟩ := X
  obtain ⟨cl, A, r1, r2, r3, H⟩ := F
  have q := idx_of hj
  exact Go.of (fun t k' => X.saload hx (by rw [e]; exact A.1) (State.isArrayOf_alike hZ.alike A.2.1) A.2.2 (by rw [r2, q.2]; exact fun u => u.elim q.1 (Nat.not_le.mpr hi)) (by rw [q.2]; exact (H i hi).1) (g := mkF Γ.m pc Ls (.int j :: .ref a :: st)) rfl rfl (hb hby hd) t k') K
theorem k_laload {a : Addr} {k : ClassId} {n i : Nat} {f : Nat → Value} {j : Int32} {v : Value} (G : Ctx Γ Z own bytes maxl ret nm rm hs0) (X : W Γ n0 T h C S) (F : Arf Z h a k .long n f) (hj : j.toInt = i) (hi : i < n) (hv : f i = v) (hd : decode bytes pc = .ok (.laload, 1)) (hp : pc + 1 = pc') (K : Go Γ n0 Q T (mkF Γ.m pc' Ls (v :: st))) : Go Γ n0 Q T (mkF Γ.m pc Ls (.int j :: .ref a :: st)) := by
  subst hp hv
  obtain ⟨hx, hZ, hown, hby, hml, hret, hnm, hlk, hR, hsH⟩ := G
  obtain ⟨L, X, e, N⟩ := X
  obtain ⟨cl, A, r1, r2, r3, H⟩ := F
  have q := idx_of hj
  exact Go.of (fun t k' => X.laload hx (by rw [e]; exact A.1) (State.isArrayOf_alike hZ.alike A.2.1) A.2.2 (by rw [r2, q.2]; exact fun u => u.elim q.1 (Nat.not_le.mpr hi)) (by rw [q.2]; exact (H i hi).1) (g := mkF Γ.m pc Ls (.int j :: .ref a :: st)) rfl rfl (hb hby hd) t k') K
theorem k_baload {a : Addr} {k : ClassId} {n i : Nat} {f : Nat → Value} {j : Int32} {v : Value} (G : Ctx Γ Z own bytes maxl ret nm rm hs0) (X : W Γ n0 T h C S) (F : Arf Z h a k .byte n f) (hj : j.toInt = i) (hi : i < n) (hv : f i = v) (hd : decode bytes pc = .ok (.baload, 1)) (hp : pc + 1 = pc') (K : Go Γ n0 Q T (mkF Γ.m pc' Ls (v :: st))) : Go Γ n0 Q T (mkF Γ.m pc Ls (.int j :: .ref a :: st)) := by
  subst hp hv
  obtain ⟨hx, hZ, hown, hby, hml, hret, hnm, hlk, hR, hsH⟩ := G
  obtain ⟨L, X, e, N⟩ := X
  obtain ⟨cl, A, r1, r2, r3, H⟩ := F
  have q := idx_of hj
  exact Go.of (fun t k' => X.baloadBytes hx (by rw [e]; exact A.1) (State.isArrayOf_alike hZ.alike A.2.1) A.2.2 (by rw [r2, q.2]; exact fun u => u.elim q.1 (Nat.not_le.mpr hi)) (by rw [q.2]; exact (H i hi).1) (g := mkF Γ.m pc Ls (.int j :: .ref a :: st)) rfl rfl (hb hby hd) t k') K
theorem k_aaload {a : Addr} {k : ClassId} {ty : FieldType} {n i : Nat} {f : Nat → Value} {j : Int32} {v : Value} (G : Ctx Γ Z own bytes maxl ret nm rm hs0) (X : W Γ n0 T h C S) (F : Arf Z h a k ty n f) (hty : ty.isReference = true) (hj : j.toInt = i) (hi : i < n) (hv : f i = v) (hd : decode bytes pc = .ok (.aaload, 1)) (hp : pc + 1 = pc') (K : Go Γ n0 Q T (mkF Γ.m pc' Ls (v :: st))) : Go Γ n0 Q T (mkF Γ.m pc Ls (.int j :: .ref a :: st)) := by
  subst hp hv
  obtain ⟨hx, hZ, hown, hby, hml, hret, hnm, hlk, hR, hsH⟩ := G
  obtain ⟨L, X, e, N⟩ := X
  obtain ⟨cl, A, r1, r2, r3, H⟩ := F
  have q := idx_of hj
  exact Go.of (fun t k' => X.aaload hx (by rw [e]; exact A.1) (State.isArrayOf_alike hZ.alike A.2.1) hty A.2.2 (by rw [r2, q.2]; exact fun u => u.elim q.1 (Nat.not_le.mpr hi)) (by rw [q.2]; exact (H i hi).1) (g := mkF Γ.m pc Ls (.int j :: .ref a :: st)) rfl rfl (hb hby hd) t k') K
theorem k_iastore {a : Addr} {k : ClassId} {n i : Nat} {f : Nat → Value} {j x z : Int32} (G : Ctx Γ Z own bytes maxl ret nm rm hs0) (X : W Γ n0 T h C S) (F : Arf Z h a k .int n f) (hj : j.toInt = i) (hi : i < n) (hz : x = z) (ga : n0 ≤ a) (hd : decode bytes pc = .ok (.iastore, 1)) (hp : pc + 1 = pc') (K : ∀ T h', Wr h h' a i (.int z) → Arf Z h' a k .int n (fun x => if x = i then (.int z) else f x) → W Γ n0 T h' C S → Go Γ n0 Q T (mkF Γ.m pc' Ls st)) : Go Γ n0 Q T (mkF Γ.m pc Ls (.int x :: .int j :: .ref a :: st)) := by
  subst hp hz
  obtain ⟨hx, hZ, hown, hby, hml, hret, hnm, hlk, hR, hsH⟩ := G
  obtain ⟨L, X, e, N⟩ := X
  have F0 := F
  obtain ⟨cl, A, r1, r2, r3, H⟩ := F
  have q := idx_of hj
  obtain ⟨T', h', X', e', W', st'⟩ := stI X hx hZ e A (j := j) (x := x) (by rw [r2, q.2]; exact fun u => u.elim q.1 (Nat.not_le.mpr hi)) (g := mkF Γ.m pc Ls (.int x :: .int j :: .ref a :: st)) rfl rfl (hb hby hd)
  rw [q.2] at W' X'
  exact Go.of st' (K T' h' W' (F0.set W' hi (rfl)) ⟨_, X', e', Fr.snoc X' N ga⟩)
theorem k_castore {a : Addr} {k : ClassId} {n i : Nat} {f : Nat → Value} {j x z : Int32} (G : Ctx Γ Z own bytes maxl ret nm rm hs0) (X : W Γ n0 T h C S) (F : Arf Z h a k .char n f) (hj : j.toInt = i) (hi : i < n) (hz : nar .char x = z) (ga : n0 ≤ a) (hd : decode bytes pc = .ok (.castore, 1)) (hp : pc + 1 = pc') (K : ∀ T h', Wr h h' a i (.int z) → Arf Z h' a k .char n (fun x => if x = i then (.int z) else f x) → W Γ n0 T h' C S → Go Γ n0 Q T (mkF Γ.m pc' Ls st)) : Go Γ n0 Q T (mkF Γ.m pc Ls (.int x :: .int j :: .ref a :: st)) := by
  subst hp hz
  obtain ⟨hx, hZ, hown, hby, hml, hret, hnm, hlk, hR, hsH⟩ := G
  obtain ⟨L, X, e, N⟩ := X
  have F0 := F
  obtain ⟨cl, A, r1, r2, r3, H⟩ := F
  have q := idx_of hj
  obtain ⟨T', h', X', e', W', st'⟩ := stC X hx hZ e A (j := j) (x := x) (by rw [r2, q.2]; exact fun u => u.elim q.1 (Nat.not_le.mpr hi)) (g := mkF Γ.m pc Ls (.int x :: .int j :: .ref a :: st)) rfl rfl (hb hby hd)
  rw [q.2] at W' X'
  exact Go.of st' (K T' h' W' (F0.set W' hi (fits_nar_char _)) ⟨_, X', e', Fr.snoc X' N ga⟩)
theorem k_sastore {a : Addr} {k : ClassId} {n i : Nat} {f : Nat → Value} {j x z : Int32} (G : Ctx Γ Z own bytes maxl ret nm rm hs0) (X : W Γ n0 T h C S) (F : Arf Z h a k .short n f) (hj : j.toInt = i) (hi : i < n) (hz : nar .short x = z) (ga : n0 ≤ a) (hd : decode bytes pc = .ok (.sastore, 1)) (hp : pc + 1 = pc') (K : ∀ T h', Wr h h' a i (.int z) → Arf Z h' a k .short n (fun x => if x = i then (.int z) else f x) → W Γ n0 T h' C S → Go Γ n0 Q T (mkF Γ.m pc' Ls st)) : Go Γ n0 Q T (mkF Γ.m pc Ls (.int x :: .int j :: .ref a :: st)) := by
  subst hp hz
  obtain ⟨hx, hZ, hown, hby, hml, hret, hnm, hlk, hR, hsH⟩ := G
  obtain ⟨L, X, e, N⟩ := X
  have F0 := F
  obtain ⟨cl, A, r1, r2, r3, H⟩ := F
  have q := idx_of hj
  obtain ⟨T', h', X', e', W', st'⟩ := stS X hx hZ e A (j := j) (x := x) (by rw [r2, q.2]; exact fun u => u.elim q.1 (Nat.not_le.mpr hi)) (g := mkF Γ.m pc Ls (.int x :: .int j :: .ref a :: st)) rfl rfl (hb hby hd)
  rw [q.2] at W' X'
  exact Go.of st' (K T' h' W' (F0.set W' hi (fits_nar_short _)) ⟨_, X', e', Fr.snoc X' N ga⟩)
theorem k_bastore {a : Addr} {k : ClassId} {n i : Nat} {f : Nat → Value} {j x z : Int32} (G : Ctx Γ Z own bytes maxl ret nm rm hs0) (X : W Γ n0 T h C S) (F : Arf Z h a k .byte n f) (hj : j.toInt = i) (hi : i < n) (hz : nar .byte x = z) (ga : n0 ≤ a) (hd : decode bytes pc = .ok (.bastore, 1)) (hp : pc + 1 = pc') (K : ∀ T h', Wr h h' a i (.int z) → Arf Z h' a k .byte n (fun x => if x = i then (.int z) else f x) → W Γ n0 T h' C S → Go Γ n0 Q T (mkF Γ.m pc' Ls st)) : Go Γ n0 Q T (mkF Γ.m pc Ls (.int x :: .int j :: .ref a :: st)) := by
  subst hp hz
  obtain ⟨hx, hZ, hown, hby, hml, hret, hnm, hlk, hR, hsH⟩ := G
  obtain ⟨L, X, e, N⟩ := X
  have F0 := F
  obtain ⟨cl, A, r1, r2, r3, H⟩ := F
  have q := idx_of hj
  obtain ⟨T', h', X', e', W', st'⟩ := stB X hx hZ e A (j := j) (x := x) (by rw [r2, q.2]; exact fun u => u.elim q.1 (Nat.not_le.mpr hi)) (g := mkF Γ.m pc Ls (.int x :: .int j :: .ref a :: st)) rfl rfl (hb hby hd)
  rw [q.2] at W' X'
  exact Go.of st' (K T' h' W' (F0.set W' hi (fits_nar_byte _)) ⟨_, X', e', Fr.snoc X' N ga⟩)
theorem k_lastore {a : Addr} {k : ClassId} {n i : Nat} {f : Nat → Value} {j : Int32} {y : Int64} (G : Ctx Γ Z own bytes maxl ret nm rm hs0) (X : W Γ n0 T h C S) (F : Arf Z h a k .long n f) (hj : j.toInt = i) (hi : i < n) (ga : n0 ≤ a) (hd : decode bytes pc = .ok (.lastore, 1)) (hp : pc + 1 = pc') (K : ∀ T h', Wr h h' a i (.long y) → Arf Z h' a k .long n (fun x => if x = i then (.long y) else f x) → W Γ n0 T h' C S → Go Γ n0 Q T (mkF Γ.m pc' Ls st)) : Go Γ n0 Q T (mkF Γ.m pc Ls (.long y :: .int j :: .ref a :: st)) := by
  subst hp
  obtain ⟨hx, hZ, hown, hby, hml, hret, hnm, hlk, hR, hsH⟩ := G
  obtain ⟨L, X, e, N⟩ := X
  have F0 := F
  obtain ⟨cl, A, r1, r2, r3, H⟩ := F
  have q := idx_of hj
  obtain ⟨T', h', X', e', W', st'⟩ := stJ X hx hZ e A (j := j) (x := y) (by rw [r2, q.2]; exact fun u => u.elim q.1 (Nat.not_le.mpr hi)) (g := mkF Γ.m pc Ls (.long y :: .int j :: .ref a :: st)) rfl rfl (hb hby hd)
  rw [q.2] at W' X'
  exact Go.of st' (K T' h' W' (F0.set W' hi rfl) ⟨_, X', e', Fr.snoc X' N ga⟩)
theorem k_aastore {a : Addr} {k : ClassId} {ty : FieldType} {n i : Nat} {f : Nat → Value} {j : Int32} {v : Value} (G : Ctx Γ Z own bytes maxl ret nm rm hs0) (X : W Γ n0 T h C S) (F : Arf Z h a k ty n f) (hty : ty.isReference = true) (hj : j.toInt = i) (hi : i < n) (O : Sto Z h a v) (hv : fits ty v = true) (ga : n0 ≤ a) (hd : decode bytes pc = .ok (.aastore, 1)) (hp : pc + 1 = pc') (K : ∀ T h', Wr h h' a i v → Arf Z h' a k ty n (fun x => if x = i then v else f x) → W Γ n0 T h' C S → Go Γ n0 Q T (mkF Γ.m pc' Ls st)) : Go Γ n0 Q T (mkF Γ.m pc Ls (v :: .int j :: .ref a :: st)) := by
  subst hp
  obtain ⟨hx, hZ, hown, hby, hml, hret, hnm, hlk, hR, hsH⟩ := G
  obtain ⟨L, X, e, N⟩ := X
  have F0 := F
  obtain ⟨cl, A, r1, r2, r3, H⟩ := F
  have q := idx_of hj
  obtain ⟨T', h', X', e', W', st'⟩ := stR X hx hZ e A (j := j) (v := v) (by rw [r2, q.2]; exact fun u => u.elim q.1 (Nat.not_le.mpr hi)) hty O (g := mkF Γ.m pc Ls (v :: .int j :: .ref a :: st)) rfl rfl (hb hby hd)
  rw [q.2] at W' X'
  exact Go.of st' (K T' h' W' (F0.set W' hi hv) ⟨_, X', e', Fr.snoc X' N ga⟩)
theorem k_copy {a0 : Array Value} {idx : Nat} {a b : Addr} {k k' : ClassId} {ty : FieldType} {n n' sp dp nn wd : Nat} {f g : Nat → Value} {js jd jn : Int32} (G : Ctx Γ Z own bytes maxl ret nm rm hs0) (X : W Γ n0 T h C S) (F : Arf Z h a k ty n f) (F' : Arf Z h b k' ty n' g) (hty : refKind ty = false)
    (w1 : (Cond.methodLink own idx Jvm.Stand.acN).before a0 Z = true) (w2 : (Cond.native Jvm.Stand.acN).before a0 Z = true) (w3 : (Cond.static Jvm.Stand.acN).before a0 Z = true) (w4 : (Cond.initialized "java/lang/System").before a0 Z = true)
    (hjs : js.toInt = sp) (hjd : jd.toInt = dp) (hjn : jn.toInt = nn) (h1 : sp + nn ≤ n) (h2 : dp + nn ≤ n') (gb : n0 ≤ b) (hd : decode bytes pc = .ok (.invokestatic idx, 3)) (hp : pc + 3 = pc') (hL : Ls.size = maxl) (hf : 1 ≤ rm.frames) (hwd : (st.map fun v => v.category).sum = wd) (hlo : wd + (nativeFrameWords "java/lang/System" "arraycopy" 5 + 11) ≤ rm.locals)
    (K : ∀ T h', Keep h h' [b] → Arf Z h' b k' ty n' (fun i => if dp ≤ i ∧ i < dp + nn then f (sp + (i - dp)) else g i) → W Γ n0 T h' C S → Go Γ n0 Q T (mkF Γ.m pc' Ls st)) : Go Γ n0 Q T (mkF Γ.m pc Ls (.int jn :: .int jd :: .ref b :: .int js :: .ref a :: st)) := by
  subst hp
  obtain ⟨hx, hZ, hown, hby, hml, hret, hnm, hlk, hR, hsH⟩ := G
  obtain ⟨L, X, e, N⟩ := X
  obtain ⟨z, hz⟩ : ∃ z : Int32, z.toInt = n := ⟨n.toInt32, len_toInt F.size_lt⟩
  obtain ⟨z', hz'⟩ : ∃ z : Int32, z.toInt = n' := ⟨n'.toInt32, len_toInt F'.size_lt⟩
  have A := F.arv hz .null
  have B := F'.arv hz' .null
  obtain ⟨qs1, qs2⟩ := idx_of hjs
  obtain ⟨qd1, qd2⟩ := idx_of hjd
  obtain ⟨qn1, qn2⟩ := idx_of hjn
  obtain ⟨T', h', L', X', e', N', K', A', st'⟩ := cpA X hx hZ hown w1 w2 w3 w4 e A B (Or.inl ⟨rfl, hty⟩) qs1 qd1 qn1 (by rw [qs2, qn2, (idx_of hz).2]; exact h1) (by rw [qd2, qn2, (idx_of hz').2]; exact h2) rfl (by rw [qd2, qn2]; simpa using h2) N gb (g := mkF Γ.m pc Ls (.int jn :: .int jd :: .ref b :: .int js :: .ref a :: st)) rfl (by rw [hml]; exact hL) rfl (hb hby hd) (hR ▸ hf) (W := wd) (by show 2 * 0 + _ ≤ _; omega) (hR ▸ hlo)
  refine Go.of st' (K T' h' K' (Arf.of_arv A' hz' fun i hi => ?_) ⟨L', X', e', N'⟩)
  rw [qs2, qd2, qn2]
  simp only [List.getD_eq_getElem?_getD]
  have lt : (((List.range n').map g).take dp).length = dp := by simp; omega
  by_cases c1 : i < dp
  · rw [List.append_assoc, List.getElem?_append_left (by rw [lt]; exact c1), List.getElem?_take_of_lt c1, if_neg (by omega)]
    simp [hi]
  · by_cases c2 : i < dp + nn
    · rw [List.getElem?_append_left (by rw [List.length_append, lt]; simp; omega), List.getElem?_append_right (by omega), lt, if_pos (by omega)]
      have q1 : i - dp < nn := by omega
      have q2 : sp + (i - dp) < n := by omega
      simp [q1, q2]
    · rw [List.getElem?_append_right (by rw [List.length_append, lt]; simp; omega), if_neg (by omega), List.getElem?_drop]
      have q3 : dp + nn + (i - (((List.range n').map g).take dp ++ (List.range nn).map fun i => (((List.range n).map f)[sp + i]?).getD .null).length) = i := by rw [List.length_append, lt]; simp; omega
      rw [q3]; simp [hi]
theorem k_instNull {idx : Nat} (G : Ctx Γ Z own bytes maxl ret nm rm hs0) (X : W Γ n0 T h C S) (hd : decode bytes pc = .ok (.instanceof idx, 3)) (hp : pc + 3 = pc') (K : Go Γ n0 Q T (mkF Γ.m pc' Ls (.int 0 :: st))) : Go Γ n0 Q T (mkF Γ.m pc Ls (.null :: st)) := by
  subst hp
  obtain ⟨hx, hZ, hown, hby, hml, hret, hnm, hlk, hR, hsH⟩ := G
  obtain ⟨L, X, e, N⟩ := X
  exact Go.of (fun t k => X.instanceofNull hx (g := mkF Γ.m pc Ls (.null :: st)) rfl rfl (hb hby hd) t k) K
theorem k_castNull {idx : Nat} (G : Ctx Γ Z own bytes maxl ret nm rm hs0) (X : W Γ n0 T h C S) (hd : decode bytes pc = .ok (.checkcast idx, 3)) (hp : pc + 3 = pc') (K : Go Γ n0 Q T (mkF Γ.m pc' Ls (.null :: st))) : Go Γ n0 Q T (mkF Γ.m pc Ls (.null :: st)) := by
  subst hp
  obtain ⟨hx, hZ, hown, hby, hml, hret, hnm, hlk, hR, hsH⟩ := G
  obtain ⟨L, X, e, N⟩ := X
  exact Go.of (fun t k => X.checkcastNull hx (g := mkF Γ.m pc Ls (.null :: st)) rfl rfl (hb hby hd) t k) K
theorem k_instN {a0 : Array Value} {idx : Nat} {KK CC : String} {a : Addr} (G : Ctx Γ Z own bytes maxl ret nm rm hs0) (X : W Γ n0 T h C S) (w : (Cond.classLink own idx KK).before a0 Z = true) (F : Ins Z hs0 a KK false) (E : Exa Z hs0 a CC) (hd : decode bytes pc = .ok (.instanceof idx, 3)) (hp : pc + 3 = pc') (K : ∀ T, W Γ n0 T h C S → Go Γ n0 Q T (mkF Γ.m pc' Ls (.int 0 :: st))) : Go Γ n0 Q T (mkF Γ.m pc Ls (.ref a :: st)) := by
  subst hp
  obtain ⟨hx, hZ, hown, hby, hml, hret, hnm, hlk, hR, hsH⟩ := G
  obtain ⟨L, X, e, N⟩ := X
  obtain ⟨T', X', e', st'⟩ := instN X hx hZ hown w e (show Ins Z Γ.s.heap a KK false by rw [hsH]; exact F) (show Exa Z Γ.s.heap a CC by rw [hsH]; exact E) (g := mkF Γ.m pc Ls (.ref a :: st)) rfl rfl (hb hby hd)
  exact Go.of st' (K T' ⟨L, X', e', N⟩)
/-! ### facts -/
theorem W.eq {h' : Heap} (X : W Γ n0 T h' C S) (e : h' = h) : W Γ n0 T h C S := e ▸ X
theorem Old_le (O : Old Z n0 h) : n0 ≤ h.size := by rw [← O.1]; exact O.2.1
theorem Sta_old {CC n d : String} {v : Value} (O : Old Z n0 h) (F : Sta Z Z.heap CC n d v) : Sta Z h CC n d v := F.ext O.2
theorem Fld_old {CC n d : String} {v : Value} {a : Addr} (O : Old Z n0 h) (F : Fld Z Z.heap a CC n d v) : Fld Z h a CC n d v := F.ext O.2
theorem Exa_old {CC : String} {a : Addr} (O : Old Z n0 h) (F : Exa Z Z.heap a CC) : Exa Z h a CC := F.ext O.2
theorem Sta_keep {h' : Heap} {CC n d : String} {v : Value} (F : Sta Z h CC n d v) (K : Keep h h' []) : Sta Z h' CC n d v := by
  obtain ⟨cf, i, k, f, st, cell, h1, h2, h3, h4, h5, h6, h7⟩ := F
  exact ⟨cf, i, k, f, st, cell, h1, h2, h3, h4, K.2.1 _ _ h5 nin0, h6, h7⟩
end K
section Words
variable {s : State} {args : Array Value}
theorem s_exa {CC K n d : String} (hx : (Cond.exactly (Term.static CC n d) K).value args s none s [] = some true) (hi : (Cond.initialized CC).before args s = true) (hl : (Cond.laysStatic CC n d).before args s = true) : ∃ a, Sta s s.heap CC n d (.ref a) ∧ Exa s s.heap a K ∧ (Term.static CC n d).eval args s none [] s = some (.ref a) := by
  obtain ⟨a, ev⟩ := exa_v hx
  exact ⟨a, Sta.start ev (Or.inr ⟨hi, hl⟩), Exa.start ev hx, ev⟩
theorem s_fldI {t : Term} {a : Addr} {O n d : String} {z : Int32} (ev : t.eval args s none [] s = some (.ref a)) (hx : (Cond.eq (Term.field t O n d) (Term.int z)).value args s none s [] = some true) : Fld s s.heap a O n d (.int z) := by
  refine Fld.start ?_
  rw [← fld_at (args := args) (first := s) (o := none) (idx := []) ev]
  simp only [Cond.value, Term.int_eval] at hx
  cases hf : (Term.field t O n d).eval args s none [] s with
  | none => simp [hf] at hx
  | some v => cases v <;> simp [hf] at hx; rw [hx]
theorem s_fldN {t : Term} {a : Addr} {O n d : String} (ev : t.eval args s none [] s = some (.ref a)) (hx : (Cond.eq (Term.field t O n d) Term.null).value args s none s [] = some true) : Fld s s.heap a O n d .null := by
  refine Fld.start ?_
  rw [← fld_at (args := args) (first := s) (o := none) (idx := []) ev]
  exact null_v hx
theorem s_fldX {t : Term} {a : Addr} {O n d K : String} (ev : t.eval args s none [] s = some (.ref a)) (hx : (Cond.exactly (Term.field t O n d) K).value args s none s [] = some true) : ∃ b, Fld s s.heap a O n d (.ref b) ∧ Exa s s.heap b K := by
  obtain ⟨b, eb⟩ := exa_v hx
  refine ⟨b, Fld.start ?_, Exa.start eb hx⟩
  rw [← fld_at (args := args) (first := s) (o := none) (idx := []) ev]; exact eb
end Words
theorem of_toInt {z w : Int32} (h : z.toInt = w.toInt) : z = w := Int32.toInt_inj.mp h
theorem of_toInt64 {z w : Int64} (h : z.toInt = w.toInt) : z = w := Int64.toInt_inj.mp h
theorem rng (x : Int32) : -2147483648 ≤ x.toInt ∧ x.toInt < 2147483648 := ⟨Int32.le_toInt x, Int32.toInt_lt x⟩
theorem rng64 (x : Int64) : -9223372036854775808 ≤ x.toInt ∧ x.toInt < 9223372036854775808 := ⟨Int64.le_toInt x, Int64.toInt_lt x⟩
theorem and_rng (x : Int32) {m : Int32} (k : Int) (hk : m.toInt = k) (h : 0 ≤ k) : 0 ≤ (x &&& m).toInt ∧ (x &&& m).toInt ≤ k := by subst hk; exact c_and x m h
theorem rem_rng (x : Int32) {y : Int32} (d : Int) (hy : y.toInt = d) (hd : 0 < d) (hx : 0 ≤ x.toInt) : 0 ≤ (x % y).toInt ∧ (x % y).toInt < d := by
  rw [(c_irem x y d hy).1 hx]; exact ⟨Int.emod_nonneg _ (by omega), Int.emod_lt_of_pos _ hd⟩
theorem iadd_toInt {x y : Int32} (h1 : -2147483648 ≤ x.toInt + y.toInt) (h2 : x.toInt + y.toInt < 2147483648) : (x + y).toInt = x.toInt + y.toInt := by
  have := c_iadd x y; have := rng (x + y); omega
theorem isub_toInt {x y : Int32} (h1 : -2147483648 ≤ x.toInt - y.toInt) (h2 : x.toInt - y.toInt < 2147483648) : (x - y).toInt = x.toInt - y.toInt := by
  have := c_isub x y; have := rng (x - y); omega
theorem ladd_toInt {x y : Int64} (h1 : -9223372036854775808 ≤ x.toInt + y.toInt) (h2 : x.toInt + y.toInt < 9223372036854775808) : (x + y).toInt = x.toInt + y.toInt := by
  have := c_ladd x y; have := rng64 (x + y); omega
theorem lcmp_toInt {x y : Int64} {z : Int32} (q : (if x > y then (1 : Int32) else if x = y then 0 else -1) = z) : (x.toInt < y.toInt → z.toInt = -1) ∧ (x.toInt = y.toInt → z.toInt = 0) ∧ (y.toInt < x.toInt → z.toInt = 1) := by
  subst q; exact c_lcmp x y
theorem and3 (x : Int32) : x &&& 3 = 0 ∨ x &&& 3 = 1 ∨ x &&& 3 = 2 ∨ x &&& 3 = 3 := by
  have h : ∀ b : BitVec 32, b &&& 3#32 = 0#32 ∨ b &&& 3#32 = 1#32 ∨ b &&& 3#32 = 2#32 ∨ b &&& 3#32 = 3#32 := fun b => by
    have e : (b &&& 3#32).toNat < 4 := by rw [BitVec.toNat_and]; exact Nat.lt_of_le_of_lt Nat.and_le_right (by decide)
    have : (b &&& 3#32).toNat = 0 ∨ (b &&& 3#32).toNat = 1 ∨ (b &&& 3#32).toNat = 2 ∨ (b &&& 3#32).toNat = 3 := by omega
    rcases this with q | q | q | q
    · exact Or.inl (BitVec.eq_of_toNat_eq q)
    · exact Or.inr (Or.inl (BitVec.eq_of_toNat_eq q))
    · exact Or.inr (Or.inr (Or.inl (BitVec.eq_of_toNat_eq q)))
    · exact Or.inr (Or.inr (Or.inr (BitVec.eq_of_toNat_eq q)))
  rcases h x.toBitVec with q | q | q | q
  · exact Or.inl (Int32.toBitVec_inj.mp q)
  · exact Or.inr (Or.inl (Int32.toBitVec_inj.mp q))
  · exact Or.inr (Or.inr (Or.inl (Int32.toBitVec_inj.mp q)))
  · exact Or.inr (Or.inr (Or.inr (Int32.toBitVec_inj.mp q)))
end Jvm.OwnK
namespace Jvm.Pilot.@@N@@
open Jvm Jvm.ClassFile Sem Op Lib Jvm.Free Jvm.Stand Jvm.LawKit Jvm.RoadKit Jvm.OwnK Bundle Jvm.Pilot.@@N@@.Jvm.D
abbrev HW (a0 : Array Value) (Z : State) : Prop := ∀ d ∈ tables_1, d.before a0 Z = true
section Wds
variable {a0 : Array Value} {Z : State}
theorem w0 (hw : HW a0 Z) : Jvm.Cond.before (Jvm.Cond.constant "com/example/tariffwright/tariffwright/rules/interconnection/UpgradeMeasureMeasuredPinLaw" (25 : Nat) (2147483647 : Int32)) a0 Z = true := hw _ (List.mem_of_getElem? (i := 0) rfl)
theorem w1 (hw : HW a0 Z) : Jvm.Cond.before (Jvm.Cond.methodLink "com/example/tariffwright/tariffwright/rules/interconnection/UpgradeMeasureMeasuredPinLaw" (26 : Nat) ({ cls := "com/example/tariffwright/tariffwright/rules/interconnection/UpgradeMeasureMeasuredPinLaw", name := "pick", desc := "(I)Lcom/example/tariffwright/tariffwright/rules/interconnection/UpgradeMeasure;" } : Jvm.MethodName)) a0 Z = true := hw _ (List.mem_of_getElem? (i := 1) rfl)
theorem w2 (hw : HW a0 Z) : Jvm.Cond.before (Jvm.Cond.static ({ cls := "com/example/tariffwright/tariffwright/rules/interconnection/UpgradeMeasureMeasuredPinLaw", name := "pick", desc := "(I)Lcom/example/tariffwright/tariffwright/rules/interconnection/UpgradeMeasure;" } : Jvm.MethodName)) a0 Z = true := hw _ (List.mem_of_getElem? (i := 2) rfl)
theorem w3 (hw : HW a0 Z) : Jvm.Cond.before (Jvm.Cond.initialized "com/example/tariffwright/tariffwright/rules/interconnection/UpgradeMeasureMeasuredPinLaw") a0 Z = true := hw _ (List.mem_of_getElem? (i := 3) rfl)
theorem w4 (hw : HW a0 Z) : Jvm.Cond.before (Jvm.Cond.code ({ cls := "com/example/tariffwright/tariffwright/rules/interconnection/UpgradeMeasureMeasuredPinLaw", name := "pick", desc := "(I)Lcom/example/tariffwright/tariffwright/rules/interconnection/UpgradeMeasure;" } : Jvm.MethodName) method_2_code (1 : Nat) (Option.some (Jvm.ClassFile.FieldType.object "com/example/tariffwright/tariffwright/rules/interconnection/UpgradeMeasure"))) a0 Z = true := hw _ (List.mem_of_getElem? (i := 4) rfl)
theorem w5 (hw : HW a0 Z) : Jvm.Cond.before (Jvm.Cond.fieldLink "com/example/tariffwright/tariffwright/rules/interconnection/UpgradeMeasureMeasuredPinLaw" (7 : Nat) "com/example/tariffwright/tariffwright/rules/interconnection/UpgradeMeasure" "NONE" "Lcom/example/tariffwright/tariffwright/rules/interconnection/UpgradeMeasure;") a0 Z = true := hw _ (List.mem_of_getElem? (i := 5) rfl)
theorem w6 (hw : HW a0 Z) : Jvm.Cond.before (Jvm.Cond.initialized "com/example/tariffwright/tariffwright/rules/interconnection/UpgradeMeasure") a0 Z = true := hw _ (List.mem_of_getElem? (i := 6) rfl)
theorem w7 (hw : HW a0 Z) : Jvm.Cond.before (Jvm.Cond.laysStatic "com/example/tariffwright/tariffwright/rules/interconnection/UpgradeMeasure" "NONE" "Lcom/example/tariffwright/tariffwright/rules/interconnection/UpgradeMeasure;") a0 Z = true := hw _ (List.mem_of_getElem? (i := 7) rfl)
theorem w8 (hw : HW a0 Z) : Jvm.Cond.before (Jvm.Cond.methodLink "com/example/tariffwright/tariffwright/rules/interconnection/UpgradeMeasureMeasuredPinLaw" (32 : Nat) ({ cls := "com/example/tariffwright/tariffwright/rules/interconnection/UpgradeMeasure", name := "measured", desc := "()Z" } : Jvm.MethodName)) a0 Z = true := hw _ (List.mem_of_getElem? (i := 8) rfl)
theorem w9 (hw : HW a0 Z) : Jvm.Cond.before (Jvm.Cond.declares ({ cls := "com/example/tariffwright/tariffwright/rules/interconnection/UpgradeMeasure", name := "measured", desc := "()Z" } : Jvm.MethodName)) a0 Z = true := hw _ (List.mem_of_getElem? (i := 9) rfl)
theorem w10 (hw : HW a0 Z) : Jvm.Cond.before (Jvm.Cond.instanceMethod ({ cls := "com/example/tariffwright/tariffwright/rules/interconnection/UpgradeMeasure", name := "measured", desc := "()Z" } : Jvm.MethodName)) a0 Z = true := hw _ (List.mem_of_getElem? (i := 10) rfl)
theorem w11 (hw : HW a0 Z) : Jvm.Cond.before (Jvm.Cond.selects "com/example/tariffwright/tariffwright/rules/interconnection/UpgradeMeasure" ({ cls := "com/example/tariffwright/tariffwright/rules/interconnection/UpgradeMeasure", name := "measured", desc := "()Z" } : Jvm.MethodName) ({ cls := "com/example/tariffwright/tariffwright/rules/interconnection/UpgradeMeasure", name := "measured", desc := "()Z" } : Jvm.MethodName)) a0 Z = true := hw _ (List.mem_of_getElem? (i := 11) rfl)
theorem w12 (hw : HW a0 Z) : Jvm.Cond.before (Jvm.Cond.code ({ cls := "com/example/tariffwright/tariffwright/rules/interconnection/UpgradeMeasure", name := "measured", desc := "()Z" } : Jvm.MethodName) prog_82_method_4_code (1 : Nat) (Option.some Jvm.ClassFile.FieldType.boolean)) a0 Z = true := hw _ (List.mem_of_getElem? (i := 12) rfl)
theorem w13 (hw : HW a0 Z) : Jvm.Cond.before (Jvm.Cond.fieldLink "com/example/tariffwright/tariffwright/rules/interconnection/UpgradeMeasure" (47 : Nat) "com/example/tariffwright/tariffwright/rules/interconnection/UpgradeMeasure" "deMinimis" "Ljava/math/BigDecimal;") a0 Z = true := hw _ (List.mem_of_getElem? (i := 13) rfl)
theorem w15 (hw : HW a0 Z) : Jvm.Cond.before (Jvm.Cond.methodLink "com/example/tariffwright/tariffwright/rules/interconnection/UpgradeMeasureMeasuredPinLaw" (36 : Nat) ({ cls := "com/example/tariffwright/tariffwright/rules/interconnection/UpgradeMeasure", name := "deMinimis", desc := "()Ljava/math/BigDecimal;" } : Jvm.MethodName)) a0 Z = true := hw _ (List.mem_of_getElem? (i := 15) rfl)
theorem w16 (hw : HW a0 Z) : Jvm.Cond.before (Jvm.Cond.declares ({ cls := "com/example/tariffwright/tariffwright/rules/interconnection/UpgradeMeasure", name := "deMinimis", desc := "()Ljava/math/BigDecimal;" } : Jvm.MethodName)) a0 Z = true := hw _ (List.mem_of_getElem? (i := 16) rfl)
theorem w17 (hw : HW a0 Z) : Jvm.Cond.before (Jvm.Cond.instanceMethod ({ cls := "com/example/tariffwright/tariffwright/rules/interconnection/UpgradeMeasure", name := "deMinimis", desc := "()Ljava/math/BigDecimal;" } : Jvm.MethodName)) a0 Z = true := hw _ (List.mem_of_getElem? (i := 17) rfl)
theorem w18 (hw : HW a0 Z) : Jvm.Cond.before (Jvm.Cond.selects "com/example/tariffwright/tariffwright/rules/interconnection/UpgradeMeasure" ({ cls := "com/example/tariffwright/tariffwright/rules/interconnection/UpgradeMeasure", name := "deMinimis", desc := "()Ljava/math/BigDecimal;" } : Jvm.MethodName) ({ cls := "com/example/tariffwright/tariffwright/rules/interconnection/UpgradeMeasure", name := "deMinimis", desc := "()Ljava/math/BigDecimal;" } : Jvm.MethodName)) a0 Z = true := hw _ (List.mem_of_getElem? (i := 18) rfl)
theorem w19 (hw : HW a0 Z) : Jvm.Cond.before (Jvm.Cond.code ({ cls := "com/example/tariffwright/tariffwright/rules/interconnection/UpgradeMeasure", name := "deMinimis", desc := "()Ljava/math/BigDecimal;" } : Jvm.MethodName) prog_82_method_5_code (1 : Nat) (Option.some (Jvm.ClassFile.FieldType.object "java/math/BigDecimal"))) a0 Z = true := hw _ (List.mem_of_getElem? (i := 19) rfl)
theorem w20 (hw : HW a0 Z) : Jvm.Cond.before (Jvm.Cond.fieldLink "com/example/tariffwright/tariffwright/rules/interconnection/UpgradeMeasureMeasuredPinLaw" (19 : Nat) "com/example/tariffwright/tariffwright/rules/interconnection/UpgradeMeasure" "VOLTAGE_DROP_PERCENT" "Lcom/example/tariffwright/tariffwright/rules/interconnection/UpgradeMeasure;") a0 Z = true := hw _ (List.mem_of_getElem? (i := 20) rfl)
theorem w21 (hw : HW a0 Z) : Jvm.Cond.before (Jvm.Cond.laysStatic "com/example/tariffwright/tariffwright/rules/interconnection/UpgradeMeasure" "VOLTAGE_DROP_PERCENT" "Lcom/example/tariffwright/tariffwright/rules/interconnection/UpgradeMeasure;") a0 Z = true := hw _ (List.mem_of_getElem? (i := 21) rfl)
theorem w22 (hw : HW a0 Z) : Jvm.Cond.before (Jvm.Cond.fieldLink "com/example/tariffwright/tariffwright/rules/interconnection/UpgradeMeasureMeasuredPinLaw" (13 : Nat) "com/example/tariffwright/tariffwright/rules/interconnection/UpgradeMeasure" "SHORT_CIRCUIT_AMPERES" "Lcom/example/tariffwright/tariffwright/rules/interconnection/UpgradeMeasure;") a0 Z = true := hw _ (List.mem_of_getElem? (i := 22) rfl)
theorem w23 (hw : HW a0 Z) : Jvm.Cond.before (Jvm.Cond.laysStatic "com/example/tariffwright/tariffwright/rules/interconnection/UpgradeMeasure" "SHORT_CIRCUIT_AMPERES" "Lcom/example/tariffwright/tariffwright/rules/interconnection/UpgradeMeasure;") a0 Z = true := hw _ (List.mem_of_getElem? (i := 23) rfl)
theorem w24 (hw : HW a0 Z) : Jvm.Cond.before (Jvm.Cond.fieldLink "com/example/tariffwright/tariffwright/rules/interconnection/UpgradeMeasureMeasuredPinLaw" (22 : Nat) "com/example/tariffwright/tariffwright/rules/interconnection/UpgradeMeasure" "STABILITY_AMPERES" "Lcom/example/tariffwright/tariffwright/rules/interconnection/UpgradeMeasure;") a0 Z = true := hw _ (List.mem_of_getElem? (i := 24) rfl)
theorem w25 (hw : HW a0 Z) : Jvm.Cond.before (Jvm.Cond.laysStatic "com/example/tariffwright/tariffwright/rules/interconnection/UpgradeMeasure" "STABILITY_AMPERES" "Lcom/example/tariffwright/tariffwright/rules/interconnection/UpgradeMeasure;") a0 Z = true := hw _ (List.mem_of_getElem? (i := 25) rfl)
theorem w26 (hw : HW a0 Z) : Jvm.Cond.before (Jvm.Cond.fieldLink "com/example/tariffwright/tariffwright/rules/interconnection/UpgradeMeasureMeasuredPinLaw" (16 : Nat) "com/example/tariffwright/tariffwright/rules/interconnection/UpgradeMeasure" "THERMAL_MW" "Lcom/example/tariffwright/tariffwright/rules/interconnection/UpgradeMeasure;") a0 Z = true := hw _ (List.mem_of_getElem? (i := 26) rfl)
theorem w27 (hw : HW a0 Z) : Jvm.Cond.before (Jvm.Cond.laysStatic "com/example/tariffwright/tariffwright/rules/interconnection/UpgradeMeasure" "THERMAL_MW" "Lcom/example/tariffwright/tariffwright/rules/interconnection/UpgradeMeasure;") a0 Z = true := hw _ (List.mem_of_getElem? (i := 27) rfl)
end Wds
theorem d1_0 : decode method_2_code 0 = .ok (.iload_n 0, 1) := by decide +kernel
theorem d1_1 : decode method_2_code 1 = .ok (.ifCond .ne 7, 3) := by decide +kernel
theorem d1_4 : decode method_2_code 4 = .ok (.getstatic 7, 3) := by decide +kernel
theorem d1_7 : decode method_2_code 7 = .ok (.areturn, 1) := by decide +kernel
theorem d1_8 : decode method_2_code 8 = .ok (.iload_n 0, 1) := by decide +kernel
theorem d1_9 : decode method_2_code 9 = .ok (.iconst 1, 1) := by decide +kernel
theorem d1_10 : decode method_2_code 10 = .ok (.if_icmp .ne 7, 3) := by decide +kernel
theorem d1_13 : decode method_2_code 13 = .ok (.getstatic 13, 3) := by decide +kernel
theorem d1_16 : decode method_2_code 16 = .ok (.areturn, 1) := by decide +kernel
theorem d1_17 : decode method_2_code 17 = .ok (.iload_n 0, 1) := by decide +kernel
theorem d1_18 : decode method_2_code 18 = .ok (.iconst 2, 1) := by decide +kernel
theorem d1_19 : decode method_2_code 19 = .ok (.if_icmp .ne 7, 3) := by decide +kernel
theorem d1_22 : decode method_2_code 22 = .ok (.getstatic 16, 3) := by decide +kernel
theorem d1_25 : decode method_2_code 25 = .ok (.areturn, 1) := by decide +kernel
theorem d1_26 : decode method_2_code 26 = .ok (.iload_n 0, 1) := by decide +kernel
theorem d1_27 : decode method_2_code 27 = .ok (.iconst 3, 1) := by decide +kernel
theorem d1_28 : decode method_2_code 28 = .ok (.if_icmp .ne 7, 3) := by decide +kernel
theorem d1_31 : decode method_2_code 31 = .ok (.getstatic 19, 3) := by decide +kernel
theorem d1_34 : decode method_2_code 34 = .ok (.areturn, 1) := by decide +kernel
theorem d1_35 : decode method_2_code 35 = .ok (.getstatic 22, 3) := by decide +kernel
theorem d1_38 : decode method_2_code 38 = .ok (.areturn, 1) := by decide +kernel
theorem d2_0 : decode prog_82_method_4_code 0 = .ok (.aload_n 0, 1) := by decide +kernel
theorem d2_1 : decode prog_82_method_4_code 1 = .ok (.getfield 47, 3) := by decide +kernel
theorem d2_4 : decode prog_82_method_4_code 4 = .ok (.ifnull 7, 3) := by decide +kernel
theorem d2_7 : decode prog_82_method_4_code 7 = .ok (.iconst 1, 1) := by decide +kernel
theorem d2_8 : decode prog_82_method_4_code 8 = .ok (.goto 4, 3) := by decide +kernel
theorem d2_11 : decode prog_82_method_4_code 11 = .ok (.iconst 0, 1) := by decide +kernel
theorem d2_12 : decode prog_82_method_4_code 12 = .ok (.ireturn, 1) := by decide +kernel
theorem d3_0 : decode prog_82_method_5_code 0 = .ok (.aload_n 0, 1) := by decide +kernel
theorem d3_1 : decode prog_82_method_5_code 1 = .ok (.getfield 47, 3) := by decide +kernel
theorem d3_4 : decode prog_82_method_5_code 4 = .ok (.areturn, 1) := by decide +kernel
theorem pd0 : parseMethodDescriptor "(I)Lcom/example/tariffwright/tariffwright/rules/interconnection/UpgradeMeasure;" = some ⟨[.int], some (.object "com/example/tariffwright/tariffwright/rules/interconnection/UpgradeMeasure")⟩ := by decide +kernel
theorem pd1 : parseMethodDescriptor "()Z" = some ⟨[], some .boolean⟩ := by decide +kernel
theorem pd2 : parseMethodDescriptor "()Ljava/math/BigDecimal;" = some ⟨[], some (.object "java/math/BigDecimal")⟩ := by decide +kernel
theorem pn_1 : plainFor (⟨"com/example/tariffwright/tariffwright/rules/interconnection/UpgradeMeasureMeasuredPinLaw", "pick", "(I)Lcom/example/tariffwright/tariffwright/rules/interconnection/UpgradeMeasure;"⟩ : MethodName) = true := plainFor_of_name (by first | (simp [plainName, overriddenIn]; done) | decide +kernel)
set_option maxRecDepth 65536 in
set_option maxHeartbeats 40000000 in
theorem rm1 {Z : State} {a0 : Array Value} (hw : HW a0 Z) (p : Int32) (aN aS aT aV aX : Addr) (h0 : Heap) (n0 : Nat) (S_aN : Sta Z h0 "com/example/tariffwright/tariffwright/rules/interconnection/UpgradeMeasure" "NONE" "Lcom/example/tariffwright/tariffwright/rules/interconnection/UpgradeMeasure;" (.ref aN)) (S_aS : Sta Z h0 "com/example/tariffwright/tariffwright/rules/interconnection/UpgradeMeasure" "SHORT_CIRCUIT_AMPERES" "Lcom/example/tariffwright/tariffwright/rules/interconnection/UpgradeMeasure;" (.ref aS)) (S_aT : Sta Z h0 "com/example/tariffwright/tariffwright/rules/interconnection/UpgradeMeasure" "THERMAL_MW" "Lcom/example/tariffwright/tariffwright/rules/interconnection/UpgradeMeasure;" (.ref aT)) (S_aV : Sta Z h0 "com/example/tariffwright/tariffwright/rules/interconnection/UpgradeMeasure" "VOLTAGE_DROP_PERCENT" "Lcom/example/tariffwright/tariffwright/rules/interconnection/UpgradeMeasure;" (.ref aV)) (S_aX : Sta Z h0 "com/example/tariffwright/tariffwright/rules/interconnection/UpgradeMeasure" "STABILITY_AMPERES" "Lcom/example/tariffwright/tariffwright/rules/interconnection/UpgradeMeasure;" (.ref aX)) :
    MetW Z (⟨"com/example/tariffwright/tariffwright/rules/interconnection/UpgradeMeasureMeasuredPinLaw", "pick", "(I)Lcom/example/tariffwright/tariffwright/rules/interconnection/UpgradeMeasure;"⟩ : MethodName) method_2_code 1 (some (.object "com/example/tariffwright/tariffwright/rules/interconnection/UpgradeMeasure")) [] ({ frames := 0, cells := 0, slots := 0, locals := 0 } : Room) #[(.int p)] h0 n0 (fun v h => ∃ a, v = some (.ref a) ∧ (p = 0 → aN = a) ∧ (p = 1 → aS = a) ∧ (p = 2 → aT = a) ∧ (p = 3 → aV = a) ∧ (p = 4 → aX = a) ∧ h = h0) := by
  refine k_body (f := (fun m => mkF m 0 #[.val (.int p)] [])) pn_1 (fun m => by first | rfl | (simp [entryFrame, mkF, argsToLocals, Value.category, maxLocals]; done)) ?_
  intro Γ T G X
  show Go Γ n0 _ T (mkF Γ.m 0 #[.val (.int p)] [])
  refine k_iloadN G X d1_0 (pc' := 1) rfl rfl ?_
  refine k_if_ne G X d1_1 (pc' := 8) rfl (by decide) (pc'' := 4) rfl (fun c1 => ?_) (fun c1 => ?_)
  · refine k_iloadN G X d1_8 (pc' := 9) rfl rfl ?_
    refine k_iconst G X d1_9 (pc' := 10) rfl (z := (1 : Int32)) (by decide) ?_
    refine k_icmp_ne G X d1_10 (pc' := 17) rfl (by decide) (pc'' := 13) rfl (fun c10 => ?_) (fun c10 => ?_)
    · refine k_iloadN G X d1_17 (pc' := 18) rfl rfl ?_
      refine k_iconst G X d1_18 (pc' := 19) rfl (z := (2 : Int32)) (by decide) ?_
      refine k_icmp_ne G X d1_19 (pc' := 26) rfl (by decide) (pc'' := 22) rfl (fun c19 => ?_) (fun c19 => ?_)
      · refine k_iloadN G X d1_26 (pc' := 27) rfl rfl ?_
        refine k_iconst G X d1_27 (pc' := 28) rfl (z := (3 : Int32)) (by decide) ?_
        refine k_icmp_ne G X d1_28 (pc' := 35) rfl (by decide) (pc'' := 31) rfl (fun c28 => ?_) (fun c28 => ?_)
        · refine k_getS G X (host := "") (Or.inl (w24 hw)) Via.refl S_aX d1_35 (pc' := 38) rfl (fun T X => ?_)
          refine k_reta G X d1_38 (t := (.object "com/example/tariffwright/tariffwright/rules/interconnection/UpgradeMeasure")) rfl rfl rfl ?_ (by decide) (by decide)
          refine ⟨_, rfl, ?_, ?_, ?_, ?_, ?_, rfl⟩ <;> simp_all
        · refine k_getS G X (host := "") (Or.inl (w20 hw)) Via.refl S_aV d1_31 (pc' := 34) rfl (fun T X => ?_)
          refine k_reta G X d1_34 (t := (.object "com/example/tariffwright/tariffwright/rules/interconnection/UpgradeMeasure")) rfl rfl rfl ?_ (by decide) (by decide)
          refine ⟨_, rfl, ?_, ?_, ?_, ?_, ?_, rfl⟩ <;> simp_all
      · refine k_getS G X (host := "") (Or.inl (w26 hw)) Via.refl S_aT d1_22 (pc' := 25) rfl (fun T X => ?_)
        refine k_reta G X d1_25 (t := (.object "com/example/tariffwright/tariffwright/rules/interconnection/UpgradeMeasure")) rfl rfl rfl ?_ (by decide) (by decide)
        refine ⟨_, rfl, ?_, ?_, ?_, ?_, ?_, rfl⟩ <;> simp_all
    · refine k_getS G X (host := "") (Or.inl (w22 hw)) Via.refl S_aS d1_13 (pc' := 16) rfl (fun T X => ?_)
      refine k_reta G X d1_16 (t := (.object "com/example/tariffwright/tariffwright/rules/interconnection/UpgradeMeasure")) rfl rfl rfl ?_ (by decide) (by decide)
      refine ⟨_, rfl, ?_, ?_, ?_, ?_, ?_, rfl⟩ <;> simp_all
  · refine k_getS G X (host := "") (Or.inl (w5 hw)) Via.refl S_aN d1_4 (pc' := 7) rfl (fun T X => ?_)
    refine k_reta G X d1_7 (t := (.object "com/example/tariffwright/tariffwright/rules/interconnection/UpgradeMeasure")) rfl rfl rfl ?_ (by decide) (by decide)
    refine ⟨_, rfl, ?_, ?_, ?_, ?_, ?_, rfl⟩ <;> simp_all
theorem pn_2 : plainFor (⟨"com/example/tariffwright/tariffwright/rules/interconnection/UpgradeMeasure", "measured", "()Z"⟩ : MethodName) = true := plainFor_of_name (by first | (simp [plainName, overriddenIn]; done) | decide +kernel)
set_option maxRecDepth 65536 in
set_option maxHeartbeats 40000000 in
theorem rm2n {Z : State} {a0 : Array Value} (hw : HW a0 Z) (a : Addr) (h0 : Heap) (n0 : Nat) (F : Fld Z h0 a "com/example/tariffwright/tariffwright/rules/interconnection/UpgradeMeasure" "deMinimis" "Ljava/math/BigDecimal;" .null) :
    MetW Z (⟨"com/example/tariffwright/tariffwright/rules/interconnection/UpgradeMeasure", "measured", "()Z"⟩ : MethodName) prog_82_method_4_code 1 (some .boolean) [] ({ frames := 0, cells := 0, slots := 0, locals := 0 } : Room) #[(.ref a)] h0 n0 (fun v h => v = some (.int 0) ∧ h = h0) := by
  refine k_body (f := (fun m => mkF m 0 #[.val (.ref a)] [])) pn_2 (fun m => by first | rfl | (simp [entryFrame, mkF, argsToLocals, Value.category, maxLocals]; done)) ?_
  intro Γ T G X
  show Go Γ n0 _ T (mkF Γ.m 0 #[.val (.ref a)] [])
  refine k_aloadN G X d2_0 (pc' := 1) rfl rfl rfl ?_
  refine k_getF G X (host := "") (Or.inl (w13 hw)) Via.refl F d2_1 (pc' := 4) rfl (fun T X => ?_)
  refine k_ifnull G X d2_4 (pc' := 11) rfl (by decide) (pc'' := 7) rfl rfl (fun c4 => ?_) (fun _ c4 => (absurd c4 (by simp)))
  refine k_iconst G X d2_11 (pc' := 12) rfl (z := (0 : Int32)) (by decide) ?_
  refine k_retb G X d2_12 (t := .boolean) rfl (by simp) rfl ?_ (by decide) (by decide)
  exact ⟨rfl, rfl⟩
theorem pn_3 : plainFor (⟨"com/example/tariffwright/tariffwright/rules/interconnection/UpgradeMeasure", "deMinimis", "()Ljava/math/BigDecimal;"⟩ : MethodName) = true := plainFor_of_name (by first | (simp [plainName, overriddenIn]; done) | decide +kernel)
set_option maxRecDepth 65536 in
set_option maxHeartbeats 40000000 in
theorem rm3n {Z : State} {a0 : Array Value} (hw : HW a0 Z) (a : Addr) (h0 : Heap) (n0 : Nat) (F : Fld Z h0 a "com/example/tariffwright/tariffwright/rules/interconnection/UpgradeMeasure" "deMinimis" "Ljava/math/BigDecimal;" .null) :
    MetW Z (⟨"com/example/tariffwright/tariffwright/rules/interconnection/UpgradeMeasure", "deMinimis", "()Ljava/math/BigDecimal;"⟩ : MethodName) prog_82_method_5_code 1 (some (.object "java/math/BigDecimal")) [] ({ frames := 0, cells := 0, slots := 0, locals := 0 } : Room) #[(.ref a)] h0 n0 (fun v h => v = some .null ∧ h = h0) := by
  refine k_body (f := (fun m => mkF m 0 #[.val (.ref a)] [])) pn_3 (fun m => by first | rfl | (simp [entryFrame, mkF, argsToLocals, Value.category, maxLocals]; done)) ?_
  intro Γ T G X
  show Go Γ n0 _ T (mkF Γ.m 0 #[.val (.ref a)] [])
  refine k_aloadN G X d3_0 (pc' := 1) rfl rfl rfl ?_
  refine k_getF G X (host := "") (Or.inl (w13 hw)) Via.refl F d3_1 (pc' := 4) rfl (fun T X => ?_)
  refine k_reta G X d3_4 (t := (.object "java/math/BigDecimal")) rfl rfl rfl ?_ (by decide) (by decide)
  exact ⟨rfl, rfl⟩
set_option maxRecDepth 65536 in
set_option maxHeartbeats 40000000 in
theorem rm2r {Z : State} {a0 : Array Value} (hw : HW a0 Z) (a : Addr) (b : Addr) (h0 : Heap) (n0 : Nat) (F : Fld Z h0 a "com/example/tariffwright/tariffwright/rules/interconnection/UpgradeMeasure" "deMinimis" "Ljava/math/BigDecimal;" (.ref b)) :
    MetW Z (⟨"com/example/tariffwright/tariffwright/rules/interconnection/UpgradeMeasure", "measured", "()Z"⟩ : MethodName) prog_82_method_4_code 1 (some .boolean) [] ({ frames := 0, cells := 0, slots := 0, locals := 0 } : Room) #[(.ref a)] h0 n0 (fun v h => v = some (.int 1) ∧ h = h0) := by
  refine k_body (f := (fun m => mkF m 0 #[.val (.ref a)] [])) pn_2 (fun m => by first | rfl | (simp [entryFrame, mkF, argsToLocals, Value.category, maxLocals]; done)) ?_
  intro Γ T G X
  show Go Γ n0 _ T (mkF Γ.m 0 #[.val (.ref a)] [])
  refine k_aloadN G X d2_0 (pc' := 1) rfl rfl rfl ?_
  refine k_getF G X (host := "") (Or.inl (w13 hw)) Via.refl F d2_1 (pc' := 4) rfl (fun T X => ?_)
  refine k_ifnull G X d2_4 (pc' := 11) rfl (by decide) (pc'' := 7) rfl rfl (fun c4 => (absurd c4 (by simp))) (fun _ c4 => ?_)
  refine k_iconst G X d2_7 (pc' := 8) rfl (z := (1 : Int32)) (by decide) ?_
  refine k_goto G X d2_8 (by decide) (pc' := 12) rfl ?_
  refine k_retb G X d2_12 (t := .boolean) rfl (by simp) rfl ?_ (by decide) (by decide)
  exact ⟨rfl, rfl⟩
set_option maxRecDepth 65536 in
set_option maxHeartbeats 40000000 in
theorem rm3r {Z : State} {a0 : Array Value} (hw : HW a0 Z) (a : Addr) (b : Addr) (h0 : Heap) (n0 : Nat) (F : Fld Z h0 a "com/example/tariffwright/tariffwright/rules/interconnection/UpgradeMeasure" "deMinimis" "Ljava/math/BigDecimal;" (.ref b)) :
    MetW Z (⟨"com/example/tariffwright/tariffwright/rules/interconnection/UpgradeMeasure", "deMinimis", "()Ljava/math/BigDecimal;"⟩ : MethodName) prog_82_method_5_code 1 (some (.object "java/math/BigDecimal")) [] ({ frames := 0, cells := 0, slots := 0, locals := 0 } : Room) #[(.ref a)] h0 n0 (fun v h => v = some (.ref b) ∧ h = h0) := by
  refine k_body (f := (fun m => mkF m 0 #[.val (.ref a)] [])) pn_3 (fun m => by first | rfl | (simp [entryFrame, mkF, argsToLocals, Value.category, maxLocals]; done)) ?_
  intro Γ T G X
  show Go Γ n0 _ T (mkF Γ.m 0 #[.val (.ref a)] [])
  refine k_aloadN G X d3_0 (pc' := 1) rfl rfl rfl ?_
  refine k_getF G X (host := "") (Or.inl (w13 hw)) Via.refl F d3_1 (pc' := 4) rfl (fun T X => ?_)
  refine k_reta G X d3_4 (t := (.object "java/math/BigDecimal")) rfl rfl rfl ?_ (by decide) (by decide)
  exact ⟨rfl, rfl⟩
theorem own_mod5 (x : Int32) : (x &&& (2147483647 : Int32)) % (5 : Int32) = 0 ∨ (x &&& (2147483647 : Int32)) % (5 : Int32) = 1 ∨ (x &&& (2147483647 : Int32)) % (5 : Int32) = 2 ∨ (x &&& (2147483647 : Int32)) % (5 : Int32) = 3 ∨ (x &&& (2147483647 : Int32)) % (5 : Int32) = 4 := by
  have h := rem_rng (x &&& (2147483647 : Int32)) (y := 5) 5 rfl (by decide) (and_rng x (m := 2147483647) 2147483647 rfl (by decide)).1
  generalize (x &&& (2147483647 : Int32)) % (5 : Int32) = z at h
  have h' : z.toInt = 0 ∨ z.toInt = 1 ∨ z.toInt = 2 ∨ z.toInt = 3 ∨ z.toInt = 4 := by omega
  rcases h' with q | q | q | q | q
  · exact Or.inl (of_toInt q)
  · exact Or.inr (Or.inl (of_toInt q))
  · exact Or.inr (Or.inr (Or.inl (of_toInt q)))
  · exact Or.inr (Or.inr (Or.inr (Or.inl (of_toInt q))))
  · exact Or.inr (Or.inr (Or.inr (Or.inr (of_toInt q))))
theorem pn_0 : plainFor (⟨"com/example/tariffwright/tariffwright/rules/interconnection/UpgradeMeasureMeasuredPinLaw", "law", "(I)Z"⟩ : MethodName) = true := plainFor_of_name (by first | (simp [plainName, overriddenIn]; done) | decide +kernel)
set_option maxRecDepth 65536 in
set_option maxHeartbeats 40000000 in
theorem rm0 {Z : State} {a0 : Array Value} (hw : HW a0 Z) (p0 : Int32) (aN aS aT aV aX bS bT bV bX : Addr) (h0 : Heap) (n0 : Nat) (S_aN : Sta Z h0 "com/example/tariffwright/tariffwright/rules/interconnection/UpgradeMeasure" "NONE" "Lcom/example/tariffwright/tariffwright/rules/interconnection/UpgradeMeasure;" (.ref aN)) (S_aS : Sta Z h0 "com/example/tariffwright/tariffwright/rules/interconnection/UpgradeMeasure" "SHORT_CIRCUIT_AMPERES" "Lcom/example/tariffwright/tariffwright/rules/interconnection/UpgradeMeasure;" (.ref aS)) (S_aT : Sta Z h0 "com/example/tariffwright/tariffwright/rules/interconnection/UpgradeMeasure" "THERMAL_MW" "Lcom/example/tariffwright/tariffwright/rules/interconnection/UpgradeMeasure;" (.ref aT)) (S_aV : Sta Z h0 "com/example/tariffwright/tariffwright/rules/interconnection/UpgradeMeasure" "VOLTAGE_DROP_PERCENT" "Lcom/example/tariffwright/tariffwright/rules/interconnection/UpgradeMeasure;" (.ref aV)) (S_aX : Sta Z h0 "com/example/tariffwright/tariffwright/rules/interconnection/UpgradeMeasure" "STABILITY_AMPERES" "Lcom/example/tariffwright/tariffwright/rules/interconnection/UpgradeMeasure;" (.ref aX)) (E_aN : Exa Z h0 aN "com/example/tariffwright/tariffwright/rules/interconnection/UpgradeMeasure") (F_aN : Fld Z h0 aN "com/example/tariffwright/tariffwright/rules/interconnection/UpgradeMeasure" "deMinimis" "Ljava/math/BigDecimal;" .null) (E_aS : Exa Z h0 aS "com/example/tariffwright/tariffwright/rules/interconnection/UpgradeMeasure") (F_aS : Fld Z h0 aS "com/example/tariffwright/tariffwright/rules/interconnection/UpgradeMeasure" "deMinimis" "Ljava/math/BigDecimal;" (.ref bS)) (E_aT : Exa Z h0 aT "com/example/tariffwright/tariffwright/rules/interconnection/UpgradeMeasure") (F_aT : Fld Z h0 aT "com/example/tariffwright/tariffwright/rules/interconnection/UpgradeMeasure" "deMinimis" "Ljava/math/BigDecimal;" (.ref bT)) (E_aV : Exa Z h0 aV "com/example/tariffwright/tariffwright/rules/interconnection/UpgradeMeasure") (F_aV : Fld Z h0 aV "com/example/tariffwright/tariffwright/rules/interconnection/UpgradeMeasure" "deMinimis" "Ljava/math/BigDecimal;" (.ref bV)) (E_aX : Exa Z h0 aX "com/example/tariffwright/tariffwright/rules/interconnection/UpgradeMeasure") (F_aX : Fld Z h0 aX "com/example/tariffwright/tariffwright/rules/interconnection/UpgradeMeasure" "deMinimis" "Ljava/math/BigDecimal;" (.ref bX)) :
    MetW Z x code maxLocals ret tables_1 room_1 #[(.int p0)] h0 n0 (fun v h => v = some (.int 1)) := by
  refine k_body (f := (fun m => mkF m 0 #[.val (.int p0), .unset, .unset, .unset, .unset, .unset] [])) pn_0 (fun m => by first | rfl | (simp [entryFrame, mkF, argsToLocals, Value.category, maxLocals]; done)) ?_
  intro Γ T G X
  show Go Γ n0 _ T (mkF Γ.m 0 #[.val (.int p0), .unset, .unset, .unset, .unset, .unset] [])
  refine k_iloadN G X at_0 (pc' := 1) rfl rfl ?_
  refine k_ldcI G X (w0 hw) at_1 (pc' := 3) rfl ?_
  refine k_iand G X at_3 (pc' := 4) rfl rfl ?_
  refine k_iconst G X at_4 (pc' := 5) rfl (z := (5 : Int32)) (by decide) ?_
  refine k_irem G X at_5 (pc' := 6) rfl (by decide) rfl ?_
  rcases own_mod5 p0 with e | e | e | e | e <;> rw [e]
  · refine k_istoreN G X at_6 (pc' := 7) rfl (l' := #[.val (.int p0), .val (.int (0 : Int32)), .unset, .unset, .unset, .unset]) rfl ?_
    refine k_iloadN G X at_7 (pc' := 8) rfl rfl ?_
    refine k_callS G X (argsL := [(.int (0 : Int32))]) (rest := []) rfl (w1 hw) (w2 hw) (w3 hw) (w4 hw) (by decide) (rm1 hw (0 : Int32) aN aS aT aV aX h0 n0 S_aN S_aS S_aT S_aV S_aX) at_8 pd0 rfl (pc' := 11) rfl rfl (wd := 0) rfl (by decide) (by decide) (by decide) (by decide) (fun T h8 v X q => ?_)
    obtain ⟨a, rfl, q0, q1, q2, q3, q4, e5⟩ := q
    obtain rfl := q0 rfl
    replace X := X.eq e5
    show Go Γ n0 _ T (mkF Γ.m 11 #[.val (.int p0), .val (.int (0 : Int32)), .unset, .unset, .unset, .unset] [(.ref aN)])
    refine k_astoreN G X at_11 (pc' := 12) rfl rfl (l' := #[.val (.int p0), .val (.int (0 : Int32)), .val (.ref aN), .unset, .unset, .unset]) rfl ?_
    refine k_iloadN G X at_12 (pc' := 13) rfl rfl ?_
    refine k_if_eq G X at_13 (pc' := 20) rfl (by decide) (pc'' := 16) rfl (fun c13 => ?_) (fun c13 => (absurd c13 (by decide)))
    refine k_iconst G X at_20 (pc' := 21) rfl (z := (0 : Int32)) (by decide) ?_
    refine k_istoreN G X at_21 (pc' := 22) rfl (l' := #[.val (.int p0), .val (.int (0 : Int32)), .val (.ref aN), .val (.int (0 : Int32)), .unset, .unset]) rfl ?_
    refine k_aloadN G X at_22 (pc' := 23) rfl rfl rfl ?_
    refine k_callV G X (argsL := []) (rest := []) rfl E_aN (w8 hw) (w9 hw) (nf_sel (w11 hw)) (w11 hw) (w10 hw) (w6 hw) (w12 hw) (by decide) (rm2n hw aN h0 n0 F_aN) at_23 pd1 rfl (pc' := 26) rfl rfl (wd := 0) rfl (by decide) (by decide) (by decide) (by decide) (fun T h23 v X q => ?_)
    obtain ⟨rfl, e23⟩ := q
    replace X := X.eq e23
    show Go Γ n0 _ T (mkF Γ.m 26 #[.val (.int p0), .val (.int (0 : Int32)), .val (.ref aN), .val (.int (0 : Int32)), .unset, .unset] [(.int (0 : Int32))])
    refine k_istore G X at_26 (pc' := 28) rfl (l' := #[.val (.int p0), .val (.int (0 : Int32)), .val (.ref aN), .val (.int (0 : Int32)), .val (.int (0 : Int32)), .unset]) rfl ?_
    refine k_aloadN G X at_28 (pc' := 29) rfl rfl rfl ?_
    refine k_callV G X (argsL := []) (rest := []) rfl E_aN (w15 hw) (w16 hw) (nf_sel (w18 hw)) (w18 hw) (w17 hw) (w6 hw) (w19 hw) (by decide) (rm3n hw aN h0 n0 F_aN) at_29 pd2 rfl (pc' := 32) rfl rfl (wd := 0) rfl (by decide) (by decide) (by decide) (by decide) (fun T h29 v X q => ?_)
    obtain ⟨rfl, e29⟩ := q
    replace X := X.eq e29
    show Go Γ n0 _ T (mkF Γ.m 32 #[.val (.int p0), .val (.int (0 : Int32)), .val (.ref aN), .val (.int (0 : Int32)), .val (.int (0 : Int32)), .unset] [.null])
    refine k_ifnull G X at_32 (pc' := 39) rfl (by decide) (pc'' := 35) rfl rfl (fun c32 => ?_) (fun _ c32 => (absurd c32 (by simp)))
    refine k_iconst G X at_39 (pc' := 40) rfl (z := (0 : Int32)) (by decide) ?_
    refine k_istore G X at_40 (pc' := 42) rfl (l' := #[.val (.int p0), .val (.int (0 : Int32)), .val (.ref aN), .val (.int (0 : Int32)), .val (.int (0 : Int32)), .val (.int (0 : Int32))]) rfl ?_
    refine k_iload G X at_42 (pc' := 44) rfl rfl ?_
    refine k_iloadN G X at_44 (pc' := 45) rfl rfl ?_
    refine k_icmp_ne G X at_45 (pc' := 59) rfl (by decide) (pc'' := 48) rfl (fun c45 => (absurd c45 (by decide))) (fun c45 => ?_)
    refine k_iload G X at_48 (pc' := 50) rfl rfl ?_
    refine k_iload G X at_50 (pc' := 52) rfl rfl ?_
    refine k_icmp_ne G X at_52 (pc' := 59) rfl (by decide) (pc'' := 55) rfl (fun c52 => (absurd c52 (by decide))) (fun c52 => ?_)
    refine k_iconst G X at_55 (pc' := 56) rfl (z := (1 : Int32)) (by decide) ?_
    refine k_goto G X at_56 (by decide) (pc' := 60) rfl ?_
    refine k_retb G X at_60 (t := .boolean) rfl (by simp) rfl ?_ (by decide) (by decide)
    rfl
  · refine k_istoreN G X at_6 (pc' := 7) rfl (l' := #[.val (.int p0), .val (.int (1 : Int32)), .unset, .unset, .unset, .unset]) rfl ?_
    refine k_iloadN G X at_7 (pc' := 8) rfl rfl ?_
    refine k_callS G X (argsL := [(.int (1 : Int32))]) (rest := []) rfl (w1 hw) (w2 hw) (w3 hw) (w4 hw) (by decide) (rm1 hw (1 : Int32) aN aS aT aV aX h0 n0 S_aN S_aS S_aT S_aV S_aX) at_8 pd0 rfl (pc' := 11) rfl rfl (wd := 0) rfl (by decide) (by decide) (by decide) (by decide) (fun T h8 v X q => ?_)
    obtain ⟨a, rfl, q0, q1, q2, q3, q4, e5⟩ := q
    obtain rfl := q1 rfl
    replace X := X.eq e5
    show Go Γ n0 _ T (mkF Γ.m 11 #[.val (.int p0), .val (.int (1 : Int32)), .unset, .unset, .unset, .unset] [(.ref aS)])
    refine k_astoreN G X at_11 (pc' := 12) rfl rfl (l' := #[.val (.int p0), .val (.int (1 : Int32)), .val (.ref aS), .unset, .unset, .unset]) rfl ?_
    refine k_iloadN G X at_12 (pc' := 13) rfl rfl ?_
    refine k_if_eq G X at_13 (pc' := 20) rfl (by decide) (pc'' := 16) rfl (fun c13 => (absurd c13 (by decide))) (fun c13 => ?_)
    refine k_iconst G X at_16 (pc' := 17) rfl (z := (1 : Int32)) (by decide) ?_
    refine k_goto G X at_17 (by decide) (pc' := 21) rfl ?_
    refine k_istoreN G X at_21 (pc' := 22) rfl (l' := #[.val (.int p0), .val (.int (1 : Int32)), .val (.ref aS), .val (.int (1 : Int32)), .unset, .unset]) rfl ?_
    refine k_aloadN G X at_22 (pc' := 23) rfl rfl rfl ?_
    refine k_callV G X (argsL := []) (rest := []) rfl E_aS (w8 hw) (w9 hw) (nf_sel (w11 hw)) (w11 hw) (w10 hw) (w6 hw) (w12 hw) (by decide) (rm2r hw aS bS h0 n0 F_aS) at_23 pd1 rfl (pc' := 26) rfl rfl (wd := 0) rfl (by decide) (by decide) (by decide) (by decide) (fun T h23 v X q => ?_)
    obtain ⟨rfl, e23⟩ := q
    replace X := X.eq e23
    show Go Γ n0 _ T (mkF Γ.m 26 #[.val (.int p0), .val (.int (1 : Int32)), .val (.ref aS), .val (.int (1 : Int32)), .unset, .unset] [(.int (1 : Int32))])
    refine k_istore G X at_26 (pc' := 28) rfl (l' := #[.val (.int p0), .val (.int (1 : Int32)), .val (.ref aS), .val (.int (1 : Int32)), .val (.int (1 : Int32)), .unset]) rfl ?_
    refine k_aloadN G X at_28 (pc' := 29) rfl rfl rfl ?_
    refine k_callV G X (argsL := []) (rest := []) rfl E_aS (w15 hw) (w16 hw) (nf_sel (w18 hw)) (w18 hw) (w17 hw) (w6 hw) (w19 hw) (by decide) (rm3r hw aS bS h0 n0 F_aS) at_29 pd2 rfl (pc' := 32) rfl rfl (wd := 0) rfl (by decide) (by decide) (by decide) (by decide) (fun T h29 v X q => ?_)
    obtain ⟨rfl, e29⟩ := q
    replace X := X.eq e29
    show Go Γ n0 _ T (mkF Γ.m 32 #[.val (.int p0), .val (.int (1 : Int32)), .val (.ref aS), .val (.int (1 : Int32)), .val (.int (1 : Int32)), .unset] [(.ref bS)])
    refine k_ifnull G X at_32 (pc' := 39) rfl (by decide) (pc'' := 35) rfl rfl (fun c32 => (absurd c32 (by simp))) (fun _ c32 => ?_)
    refine k_iconst G X at_35 (pc' := 36) rfl (z := (1 : Int32)) (by decide) ?_
    refine k_goto G X at_36 (by decide) (pc' := 40) rfl ?_
    refine k_istore G X at_40 (pc' := 42) rfl (l' := #[.val (.int p0), .val (.int (1 : Int32)), .val (.ref aS), .val (.int (1 : Int32)), .val (.int (1 : Int32)), .val (.int (1 : Int32))]) rfl ?_
    refine k_iload G X at_42 (pc' := 44) rfl rfl ?_
    refine k_iloadN G X at_44 (pc' := 45) rfl rfl ?_
    refine k_icmp_ne G X at_45 (pc' := 59) rfl (by decide) (pc'' := 48) rfl (fun c45 => (absurd c45 (by decide))) (fun c45 => ?_)
    refine k_iload G X at_48 (pc' := 50) rfl rfl ?_
    refine k_iload G X at_50 (pc' := 52) rfl rfl ?_
    refine k_icmp_ne G X at_52 (pc' := 59) rfl (by decide) (pc'' := 55) rfl (fun c52 => (absurd c52 (by decide))) (fun c52 => ?_)
    refine k_iconst G X at_55 (pc' := 56) rfl (z := (1 : Int32)) (by decide) ?_
    refine k_goto G X at_56 (by decide) (pc' := 60) rfl ?_
    refine k_retb G X at_60 (t := .boolean) rfl (by simp) rfl ?_ (by decide) (by decide)
    rfl
  · refine k_istoreN G X at_6 (pc' := 7) rfl (l' := #[.val (.int p0), .val (.int (2 : Int32)), .unset, .unset, .unset, .unset]) rfl ?_
    refine k_iloadN G X at_7 (pc' := 8) rfl rfl ?_
    refine k_callS G X (argsL := [(.int (2 : Int32))]) (rest := []) rfl (w1 hw) (w2 hw) (w3 hw) (w4 hw) (by decide) (rm1 hw (2 : Int32) aN aS aT aV aX h0 n0 S_aN S_aS S_aT S_aV S_aX) at_8 pd0 rfl (pc' := 11) rfl rfl (wd := 0) rfl (by decide) (by decide) (by decide) (by decide) (fun T h8 v X q => ?_)
    obtain ⟨a, rfl, q0, q1, q2, q3, q4, e5⟩ := q
    obtain rfl := q2 rfl
    replace X := X.eq e5
    show Go Γ n0 _ T (mkF Γ.m 11 #[.val (.int p0), .val (.int (2 : Int32)), .unset, .unset, .unset, .unset] [(.ref aT)])
    refine k_astoreN G X at_11 (pc' := 12) rfl rfl (l' := #[.val (.int p0), .val (.int (2 : Int32)), .val (.ref aT), .unset, .unset, .unset]) rfl ?_
    refine k_iloadN G X at_12 (pc' := 13) rfl rfl ?_
    refine k_if_eq G X at_13 (pc' := 20) rfl (by decide) (pc'' := 16) rfl (fun c13 => (absurd c13 (by decide))) (fun c13 => ?_)
    refine k_iconst G X at_16 (pc' := 17) rfl (z := (1 : Int32)) (by decide) ?_
    refine k_goto G X at_17 (by decide) (pc' := 21) rfl ?_
    refine k_istoreN G X at_21 (pc' := 22) rfl (l' := #[.val (.int p0), .val (.int (2 : Int32)), .val (.ref aT), .val (.int (1 : Int32)), .unset, .unset]) rfl ?_
    refine k_aloadN G X at_22 (pc' := 23) rfl rfl rfl ?_
    refine k_callV G X (argsL := []) (rest := []) rfl E_aT (w8 hw) (w9 hw) (nf_sel (w11 hw)) (w11 hw) (w10 hw) (w6 hw) (w12 hw) (by decide) (rm2r hw aT bT h0 n0 F_aT) at_23 pd1 rfl (pc' := 26) rfl rfl (wd := 0) rfl (by decide) (by decide) (by decide) (by decide) (fun T h23 v X q => ?_)
    obtain ⟨rfl, e23⟩ := q
    replace X := X.eq e23
    show Go Γ n0 _ T (mkF Γ.m 26 #[.val (.int p0), .val (.int (2 : Int32)), .val (.ref aT), .val (.int (1 : Int32)), .unset, .unset] [(.int (1 : Int32))])
    refine k_istore G X at_26 (pc' := 28) rfl (l' := #[.val (.int p0), .val (.int (2 : Int32)), .val (.ref aT), .val (.int (1 : Int32)), .val (.int (1 : Int32)), .unset]) rfl ?_
    refine k_aloadN G X at_28 (pc' := 29) rfl rfl rfl ?_
    refine k_callV G X (argsL := []) (rest := []) rfl E_aT (w15 hw) (w16 hw) (nf_sel (w18 hw)) (w18 hw) (w17 hw) (w6 hw) (w19 hw) (by decide) (rm3r hw aT bT h0 n0 F_aT) at_29 pd2 rfl (pc' := 32) rfl rfl (wd := 0) rfl (by decide) (by decide) (by decide) (by decide) (fun T h29 v X q => ?_)
    obtain ⟨rfl, e29⟩ := q
    replace X := X.eq e29
    show Go Γ n0 _ T (mkF Γ.m 32 #[.val (.int p0), .val (.int (2 : Int32)), .val (.ref aT), .val (.int (1 : Int32)), .val (.int (1 : Int32)), .unset] [(.ref bT)])
    refine k_ifnull G X at_32 (pc' := 39) rfl (by decide) (pc'' := 35) rfl rfl (fun c32 => (absurd c32 (by simp))) (fun _ c32 => ?_)
    refine k_iconst G X at_35 (pc' := 36) rfl (z := (1 : Int32)) (by decide) ?_
    refine k_goto G X at_36 (by decide) (pc' := 40) rfl ?_
    refine k_istore G X at_40 (pc' := 42) rfl (l' := #[.val (.int p0), .val (.int (2 : Int32)), .val (.ref aT), .val (.int (1 : Int32)), .val (.int (1 : Int32)), .val (.int (1 : Int32))]) rfl ?_
    refine k_iload G X at_42 (pc' := 44) rfl rfl ?_
    refine k_iloadN G X at_44 (pc' := 45) rfl rfl ?_
    refine k_icmp_ne G X at_45 (pc' := 59) rfl (by decide) (pc'' := 48) rfl (fun c45 => (absurd c45 (by decide))) (fun c45 => ?_)
    refine k_iload G X at_48 (pc' := 50) rfl rfl ?_
    refine k_iload G X at_50 (pc' := 52) rfl rfl ?_
    refine k_icmp_ne G X at_52 (pc' := 59) rfl (by decide) (pc'' := 55) rfl (fun c52 => (absurd c52 (by decide))) (fun c52 => ?_)
    refine k_iconst G X at_55 (pc' := 56) rfl (z := (1 : Int32)) (by decide) ?_
    refine k_goto G X at_56 (by decide) (pc' := 60) rfl ?_
    refine k_retb G X at_60 (t := .boolean) rfl (by simp) rfl ?_ (by decide) (by decide)
    rfl
  · refine k_istoreN G X at_6 (pc' := 7) rfl (l' := #[.val (.int p0), .val (.int (3 : Int32)), .unset, .unset, .unset, .unset]) rfl ?_
    refine k_iloadN G X at_7 (pc' := 8) rfl rfl ?_
    refine k_callS G X (argsL := [(.int (3 : Int32))]) (rest := []) rfl (w1 hw) (w2 hw) (w3 hw) (w4 hw) (by decide) (rm1 hw (3 : Int32) aN aS aT aV aX h0 n0 S_aN S_aS S_aT S_aV S_aX) at_8 pd0 rfl (pc' := 11) rfl rfl (wd := 0) rfl (by decide) (by decide) (by decide) (by decide) (fun T h8 v X q => ?_)
    obtain ⟨a, rfl, q0, q1, q2, q3, q4, e5⟩ := q
    obtain rfl := q3 rfl
    replace X := X.eq e5
    show Go Γ n0 _ T (mkF Γ.m 11 #[.val (.int p0), .val (.int (3 : Int32)), .unset, .unset, .unset, .unset] [(.ref aV)])
    refine k_astoreN G X at_11 (pc' := 12) rfl rfl (l' := #[.val (.int p0), .val (.int (3 : Int32)), .val (.ref aV), .unset, .unset, .unset]) rfl ?_
    refine k_iloadN G X at_12 (pc' := 13) rfl rfl ?_
    refine k_if_eq G X at_13 (pc' := 20) rfl (by decide) (pc'' := 16) rfl (fun c13 => (absurd c13 (by decide))) (fun c13 => ?_)
    refine k_iconst G X at_16 (pc' := 17) rfl (z := (1 : Int32)) (by decide) ?_
    refine k_goto G X at_17 (by decide) (pc' := 21) rfl ?_
    refine k_istoreN G X at_21 (pc' := 22) rfl (l' := #[.val (.int p0), .val (.int (3 : Int32)), .val (.ref aV), .val (.int (1 : Int32)), .unset, .unset]) rfl ?_
    refine k_aloadN G X at_22 (pc' := 23) rfl rfl rfl ?_
    refine k_callV G X (argsL := []) (rest := []) rfl E_aV (w8 hw) (w9 hw) (nf_sel (w11 hw)) (w11 hw) (w10 hw) (w6 hw) (w12 hw) (by decide) (rm2r hw aV bV h0 n0 F_aV) at_23 pd1 rfl (pc' := 26) rfl rfl (wd := 0) rfl (by decide) (by decide) (by decide) (by decide) (fun T h23 v X q => ?_)
    obtain ⟨rfl, e23⟩ := q
    replace X := X.eq e23
    show Go Γ n0 _ T (mkF Γ.m 26 #[.val (.int p0), .val (.int (3 : Int32)), .val (.ref aV), .val (.int (1 : Int32)), .unset, .unset] [(.int (1 : Int32))])
    refine k_istore G X at_26 (pc' := 28) rfl (l' := #[.val (.int p0), .val (.int (3 : Int32)), .val (.ref aV), .val (.int (1 : Int32)), .val (.int (1 : Int32)), .unset]) rfl ?_
    refine k_aloadN G X at_28 (pc' := 29) rfl rfl rfl ?_
    refine k_callV G X (argsL := []) (rest := []) rfl E_aV (w15 hw) (w16 hw) (nf_sel (w18 hw)) (w18 hw) (w17 hw) (w6 hw) (w19 hw) (by decide) (rm3r hw aV bV h0 n0 F_aV) at_29 pd2 rfl (pc' := 32) rfl rfl (wd := 0) rfl (by decide) (by decide) (by decide) (by decide) (fun T h29 v X q => ?_)
    obtain ⟨rfl, e29⟩ := q
    replace X := X.eq e29
    show Go Γ n0 _ T (mkF Γ.m 32 #[.val (.int p0), .val (.int (3 : Int32)), .val (.ref aV), .val (.int (1 : Int32)), .val (.int (1 : Int32)), .unset] [(.ref bV)])
    refine k_ifnull G X at_32 (pc' := 39) rfl (by decide) (pc'' := 35) rfl rfl (fun c32 => (absurd c32 (by simp))) (fun _ c32 => ?_)
    refine k_iconst G X at_35 (pc' := 36) rfl (z := (1 : Int32)) (by decide) ?_
    refine k_goto G X at_36 (by decide) (pc' := 40) rfl ?_
    refine k_istore G X at_40 (pc' := 42) rfl (l' := #[.val (.int p0), .val (.int (3 : Int32)), .val (.ref aV), .val (.int (1 : Int32)), .val (.int (1 : Int32)), .val (.int (1 : Int32))]) rfl ?_
    refine k_iload G X at_42 (pc' := 44) rfl rfl ?_
    refine k_iloadN G X at_44 (pc' := 45) rfl rfl ?_
    refine k_icmp_ne G X at_45 (pc' := 59) rfl (by decide) (pc'' := 48) rfl (fun c45 => (absurd c45 (by decide))) (fun c45 => ?_)
    refine k_iload G X at_48 (pc' := 50) rfl rfl ?_
    refine k_iload G X at_50 (pc' := 52) rfl rfl ?_
    refine k_icmp_ne G X at_52 (pc' := 59) rfl (by decide) (pc'' := 55) rfl (fun c52 => (absurd c52 (by decide))) (fun c52 => ?_)
    refine k_iconst G X at_55 (pc' := 56) rfl (z := (1 : Int32)) (by decide) ?_
    refine k_goto G X at_56 (by decide) (pc' := 60) rfl ?_
    refine k_retb G X at_60 (t := .boolean) rfl (by simp) rfl ?_ (by decide) (by decide)
    rfl
  · refine k_istoreN G X at_6 (pc' := 7) rfl (l' := #[.val (.int p0), .val (.int (4 : Int32)), .unset, .unset, .unset, .unset]) rfl ?_
    refine k_iloadN G X at_7 (pc' := 8) rfl rfl ?_
    refine k_callS G X (argsL := [(.int (4 : Int32))]) (rest := []) rfl (w1 hw) (w2 hw) (w3 hw) (w4 hw) (by decide) (rm1 hw (4 : Int32) aN aS aT aV aX h0 n0 S_aN S_aS S_aT S_aV S_aX) at_8 pd0 rfl (pc' := 11) rfl rfl (wd := 0) rfl (by decide) (by decide) (by decide) (by decide) (fun T h8 v X q => ?_)
    obtain ⟨a, rfl, q0, q1, q2, q3, q4, e5⟩ := q
    obtain rfl := q4 rfl
    replace X := X.eq e5
    show Go Γ n0 _ T (mkF Γ.m 11 #[.val (.int p0), .val (.int (4 : Int32)), .unset, .unset, .unset, .unset] [(.ref aX)])
    refine k_astoreN G X at_11 (pc' := 12) rfl rfl (l' := #[.val (.int p0), .val (.int (4 : Int32)), .val (.ref aX), .unset, .unset, .unset]) rfl ?_
    refine k_iloadN G X at_12 (pc' := 13) rfl rfl ?_
    refine k_if_eq G X at_13 (pc' := 20) rfl (by decide) (pc'' := 16) rfl (fun c13 => (absurd c13 (by decide))) (fun c13 => ?_)
    refine k_iconst G X at_16 (pc' := 17) rfl (z := (1 : Int32)) (by decide) ?_
    refine k_goto G X at_17 (by decide) (pc' := 21) rfl ?_
    refine k_istoreN G X at_21 (pc' := 22) rfl (l' := #[.val (.int p0), .val (.int (4 : Int32)), .val (.ref aX), .val (.int (1 : Int32)), .unset, .unset]) rfl ?_
    refine k_aloadN G X at_22 (pc' := 23) rfl rfl rfl ?_
    refine k_callV G X (argsL := []) (rest := []) rfl E_aX (w8 hw) (w9 hw) (nf_sel (w11 hw)) (w11 hw) (w10 hw) (w6 hw) (w12 hw) (by decide) (rm2r hw aX bX h0 n0 F_aX) at_23 pd1 rfl (pc' := 26) rfl rfl (wd := 0) rfl (by decide) (by decide) (by decide) (by decide) (fun T h23 v X q => ?_)
    obtain ⟨rfl, e23⟩ := q
    replace X := X.eq e23
    show Go Γ n0 _ T (mkF Γ.m 26 #[.val (.int p0), .val (.int (4 : Int32)), .val (.ref aX), .val (.int (1 : Int32)), .unset, .unset] [(.int (1 : Int32))])
    refine k_istore G X at_26 (pc' := 28) rfl (l' := #[.val (.int p0), .val (.int (4 : Int32)), .val (.ref aX), .val (.int (1 : Int32)), .val (.int (1 : Int32)), .unset]) rfl ?_
    refine k_aloadN G X at_28 (pc' := 29) rfl rfl rfl ?_
    refine k_callV G X (argsL := []) (rest := []) rfl E_aX (w15 hw) (w16 hw) (nf_sel (w18 hw)) (w18 hw) (w17 hw) (w6 hw) (w19 hw) (by decide) (rm3r hw aX bX h0 n0 F_aX) at_29 pd2 rfl (pc' := 32) rfl rfl (wd := 0) rfl (by decide) (by decide) (by decide) (by decide) (fun T h29 v X q => ?_)
    obtain ⟨rfl, e29⟩ := q
    replace X := X.eq e29
    show Go Γ n0 _ T (mkF Γ.m 32 #[.val (.int p0), .val (.int (4 : Int32)), .val (.ref aX), .val (.int (1 : Int32)), .val (.int (1 : Int32)), .unset] [(.ref bX)])
    refine k_ifnull G X at_32 (pc' := 39) rfl (by decide) (pc'' := 35) rfl rfl (fun c32 => (absurd c32 (by simp))) (fun _ c32 => ?_)
    refine k_iconst G X at_35 (pc' := 36) rfl (z := (1 : Int32)) (by decide) ?_
    refine k_goto G X at_36 (by decide) (pc' := 40) rfl ?_
    refine k_istore G X at_40 (pc' := 42) rfl (l' := #[.val (.int p0), .val (.int (4 : Int32)), .val (.ref aX), .val (.int (1 : Int32)), .val (.int (1 : Int32)), .val (.int (1 : Int32))]) rfl ?_
    refine k_iload G X at_42 (pc' := 44) rfl rfl ?_
    refine k_iloadN G X at_44 (pc' := 45) rfl rfl ?_
    refine k_icmp_ne G X at_45 (pc' := 59) rfl (by decide) (pc'' := 48) rfl (fun c45 => (absurd c45 (by decide))) (fun c45 => ?_)
    refine k_iload G X at_48 (pc' := 50) rfl rfl ?_
    refine k_iload G X at_50 (pc' := 52) rfl rfl ?_
    refine k_icmp_ne G X at_52 (pc' := 59) rfl (by decide) (pc'' := 55) rfl (fun c52 => (absurd c52 (by decide))) (fun c52 => ?_)
    refine k_iconst G X at_55 (pc' := 56) rfl (z := (1 : Int32)) (by decide) ?_
    refine k_goto G X at_56 (by decide) (pc' := 60) rfl ?_
    refine k_retb G X at_60 (t := .boolean) rfl (by simp) rfl ?_ (by decide) (by decide)
    rfl
set_option maxRecDepth 65536 in
set_option maxHeartbeats 40000000 in
theorem comes_1 {Post : Tables → Env → Array Value → State → Outcome → State → Prop} (hpost : ∀ tb e args s v u, (limb_1_1.after args s (.returned v) u = true ∧ limb_1_2.after args s (.returned v) u = true ∧ True) → FrameEnd s (.returned v) u (Jvm.fieldLocs frame_1_writes args s ++ Jvm.arrayLocs frame_1_arrays args s ++ Jvm.staticLocs frame_1_statics s) 0 0 → Post tb e args s (.returned v) u) :
    ArmFor flags0 classFile x code maxLocals ret World_1 tables_1 room_1 Calls_1 rest_1 Pre_1 Post := by
  intro l hfl _ _ p e ha hc hk s m args below hf hA hF happ hP
  obtain ⟨hcalls, hrest, hpre⟩ := hP
  obtain ⟨-, -, -, hnamed, -, -, -, hat⟩ := (Spec.applies_iff hf).mp happ
  obtain ⟨hg, hn⟩ := and_e (Cond.before_iff.mp (show (Jvm.Cond.and given_1 narrow_1).before args s = true from hpre))
  obtain ⟨hg0, hgr0⟩ := and_e hg
  obtain ⟨w0', rfl⟩ : ∃ w0' : Value, args = #[w0'] := by
    have hs : args.size = 1 := by simpa [Cond.value, given_1] using hg0
    obtain ⟨L⟩ := args
    match L, hs with
    | [w0'], _ => exact ⟨w0', rfl⟩
  have hw : HW _ s := fun d (hd : d ∈ tables_1) => atoms_spec (ws := Jvm.Cond.code x code maxLocals ret :: tables_1) hat d (List.mem_cons_of_mem _ hd)
  have hfit : Fit s := fun {y c} hc i hi => by
    obtain ⟨ha, rfl⟩ := Array.getElem?_eq_some_iff.mp hc
    have q := List.all_eq_true.mp ((Array.all_eq_true_iff_forall_mem.mp hF) _ (Array.getElem_mem ha)) i (List.mem_range.mpr hi)
    simpa [Array.getElem?_eq_getElem hi] using q
  obtain ⟨i0, ei0⟩ := is_v hgr0
  obtain rfl : w0' = (.int i0) := Option.some.inj ei0
  obtain ⟨hx0, hn0⟩ := and_e hn
  obtain ⟨hf0, hm0⟩ := and_e hn0
  obtain ⟨aN, S_aN, E_aN, ev_aN⟩ := s_exa hx0 (w6 hw) (w7 hw)
  have F_aN := s_fldN ev_aN hf0
  obtain ⟨hx1, hn1⟩ := and_e hm0
  obtain ⟨hf1, hm1⟩ := and_e hn1
  obtain ⟨aV, S_aV, E_aV, ev_aV⟩ := s_exa hx1 (w6 hw) (w21 hw)
  obtain ⟨bV, F_aV, -⟩ := s_fldX ev_aV hf1
  obtain ⟨hx2, hn2⟩ := and_e hm1
  obtain ⟨hf2, hm2⟩ := and_e hn2
  obtain ⟨aS, S_aS, E_aS, ev_aS⟩ := s_exa hx2 (w6 hw) (w23 hw)
  obtain ⟨bS, F_aS, -⟩ := s_fldX ev_aS hf2
  obtain ⟨hx3, hn3⟩ := and_e hm2
  obtain ⟨hf3, hm3⟩ := and_e hn3
  obtain ⟨aX, S_aX, E_aX, ev_aX⟩ := s_exa hx3 (w6 hw) (w25 hw)
  obtain ⟨bX, F_aX, -⟩ := s_fldX ev_aX hf3
  obtain ⟨hx4, hf4⟩ := and_e hm3
  obtain ⟨aT, S_aT, E_aT, ev_aT⟩ := s_exa hx4 (w6 hw) (w27 hw)
  obtain ⟨bT, F_aT, -⟩ := s_fldX ev_aT hf4
  obtain ⟨n, o, h1, h2, h3, _, L, rfl, ⟨rfl, N⟩, hq⟩ := rm0 hw i0 aN aS aT aV aX bS bT bV bX s.heap s.heap.size S_aN S_aS S_aT S_aV S_aX E_aN F_aN E_aS F_aS E_aT F_aT E_aV F_aV E_aX F_aX l p e ha hc hk s m _ below hf ((Spec.applies_iff_loose hf).mp happ).1 ⟨rfl, State.Warmed39.refl s, rfl⟩ trivial
  exact ⟨n, _, h1, h2, h3, hpost _ _ _ _ _ _ ⟨Cond.after_iff.mpr rfl, Cond.after_iff.mpr (eq_i res_at (Term.int_eval (1)) rfl), trivial⟩ ⟨hq.1, hq.2.1, (hq.2.2.sift fun y hy => Or.inr (N y hy)).mono (by decide) (by decide)⟩⟩
theorem main_1_1 : Claimed_1_1 := comes_1 fun _ _ _ _ _ _ h hF => ⟨h.1, hF⟩
theorem main_1_2 : Claimed_1_2 := comes_1 fun _ _ _ _ _ _ h hF => ⟨h.2.1, hF⟩
end Jvm.Pilot.@@N@@
namespace Jvm.Pilot.@@N@@
open Jvm Jvm.ClassFile Sem Op Lib Jvm.Free Jvm.Stand Jvm.Pilot.@@N@@.Jvm.D
/-! MADE BY PROGRAM (witnessworld.py) out of the Statement's table words and the real class files: 14 classes; the members and pool entries that the words name. The judged class is class 1, her method 2. -/
namespace start1
open Jvm.ClassFile
def u (s : String) : CpInfo := .utf8 (stringToUtf16 s)
/-- a pool by its gaps: so many unusable entries, then the entry; so many at the end -/
def gap : Nat → List CpInfo → List CpInfo
  | 0, r => r
  | n + 1, r => .unusable :: gap n r
def poolList (es : List (Nat × CpInfo)) (last : Nat) : List CpInfo := es.foldr (fun e r => gap e.1 (e.2 :: r)) (gap last [])
def pool (es : List (Nat × CpInfo)) (last : Nat) : Array CpInfo := ⟨poolList es last⟩
def fileOf (pool : Array CpInfo) (this : Nat) (attrs : Array Attribute := #[]) (ms : Array MethodInfo := #[]) (fl : Nat := 33) (sup : Nat := 0) (ifs : Array Nat := #[]) (fds : Array FieldInfo := #[]) : ClassFile where
  minorVersion := 0
  majorVersion := 65
  constantPool := pool
  accessFlags := fl
  thisClass := this
  superClass := sup
  interfaces := ifs
  fields := fds
  methods := ms
  attributes := attrs
def plain (name : String) (sup : Option ClassId) : Class where
  name := name
  kind := .ordinary
  loader := none
  accessFlags := 33
  super := sup
  interfaces := #[]
  cf := none
  fields := #[]
  methods := #[]
  instanceTypes := #[]
  staticTypes := #[]
  resolved := #[]
  callSites := []
  init := .initialized
  statics := none
  mirror := none

def pool0 : Array CpInfo := pool [(5, u "<init>"), (0, u "()V"), (1, .class_ 10), (1, u "java/lang/Object")] 113

def k0m0 : Method := { name := "<init>", desc := "()V", sig := { parameters := [], returnType := none }, accessFlags := 1, code := none }
/-- java/lang/Object -/
def k0 : Class := { plain "java/lang/Object" none with
  accessFlags := 33
  interfaces := #[]
  cf := some (fileOf pool0 8 #[] #[{ accessFlags := 1, nameIndex := 5, descriptorIndex := 6, attributes := #[] }] 33 0 #[] #[])
  fields := #[]
  methods := #[k0m0]
  instanceTypes := #[]
  staticTypes := #[]
  resolved := Array.replicate 124 none
  statics := none }

def pool1 : Array CpInfo := pool [(2, .class_ 4), (1, u "java/lang/Object"), (0, u "<init>"), (0, u "()V"), (0, .fieldref 8 9), (0, .class_ 10), (0, .nameAndType 11 12), (0, u "com/example/tariffwright/tariffwright/rules/interconnection/UpgradeMeasure"), (0, u "NONE"), (0, u "Lcom/example/tariffwright/tariffwright/rules/interconnection/UpgradeMeasure;"), (0, .fieldref 8 14), (0, .nameAndType 15 12), (0, u "SHORT_CIRCUIT_AMPERES"), (0, .fieldref 8 17), (0, .nameAndType 18 12), (0, u "THERMAL_MW"), (0, .fieldref 8 20), (0, .nameAndType 21 12), (0, u "VOLTAGE_DROP_PERCENT"), (0, .fieldref 8 23), (0, .nameAndType 24 12), (0, u "STABILITY_AMPERES"), (0, .integer 2147483647), (0, .methodref 27 28), (0, .class_ 29), (0, .nameAndType 30 31), (0, u "com/example/tariffwright/tariffwright/rules/interconnection/UpgradeMeasureMeasuredPinLaw"), (0, u "pick"), (0, u "(I)Lcom/example/tariffwright/tariffwright/rules/interconnection/UpgradeMeasure;"), (0, .methodref 8 33), (0, .nameAndType 34 35), (0, u "measured"), (0, u "()Z"), (0, .methodref 8 37), (0, .nameAndType 38 39), (0, u "deMinimis"), (0, u "()Ljava/math/BigDecimal;"), (3, u "law"), (0, u "(I)Z")] 2

def k1m0 : Method := { name := "<init>", desc := "()V", sig := { parameters := [], returnType := none }, accessFlags := 1, code := none }
def k1c1 : Code := { maxStack := 2, maxLocals := 1, code := method_2_code, exceptionTable := #[], attributes := #[] }
def k1m1 : Method := { name := "pick", desc := "(I)Lcom/example/tariffwright/tariffwright/rules/interconnection/UpgradeMeasure;", sig := { parameters := [.int], returnType := some (.object "com/example/tariffwright/tariffwright/rules/interconnection/UpgradeMeasure") }, accessFlags := 10, code := some k1c1 }
def k1c2 : Code := { maxStack := 2, maxLocals := 6, code := code, exceptionTable := #[], attributes := #[] }
def k1m2 : Method := { name := "law", desc := "(I)Z", sig := { parameters := [.int], returnType := some .boolean }, accessFlags := 9, code := some k1c2 }
/-- com/example/tariffwright/tariffwright/rules/interconnection/UpgradeMeasureMeasuredPinLaw -/
def k1 : Class := { plain "com/example/tariffwright/tariffwright/rules/interconnection/UpgradeMeasureMeasuredPinLaw" (some 0) with
  accessFlags := 49
  interfaces := #[]
  cf := some (fileOf pool1 27 #[] #[{ accessFlags := 1, nameIndex := 5, descriptorIndex := 6, attributes := #[] }, { accessFlags := 10, nameIndex := 30, descriptorIndex := 31, attributes := #[] }, { accessFlags := 9, nameIndex := 43, descriptorIndex := 44, attributes := #[] }] 49 2 #[] #[])
  fields := #[]
  methods := #[k1m0, k1m1, k1m2]
  instanceTypes := #[]
  staticTypes := #[]
  resolved := Array.replicate 47 none
  statics := none }

def pool2 : Array CpInfo := pool [(1, .class_ 2), (0, u "java/lang/constant/Constable"), (0, .class_ 4), (0, u "java/lang/Object")] 6

/-- java/lang/constant/Constable -/
def k2 : Class := { plain "java/lang/constant/Constable" (some 0) with
  accessFlags := 1537
  interfaces := #[]
  cf := some (fileOf pool2 1 #[] #[] 1537 3 #[] #[])
  fields := #[]
  methods := #[]
  instanceTypes := #[]
  staticTypes := #[]
  resolved := Array.replicate 11 none
  statics := none }

def pool3 : Array CpInfo := pool [(1, .class_ 2), (0, u "java/lang/Comparable"), (0, .class_ 4), (0, u "java/lang/Object")] 7

/-- java/lang/Comparable -/
def k3 : Class := { plain "java/lang/Comparable" (some 0) with
  accessFlags := 1537
  interfaces := #[]
  cf := some (fileOf pool3 1 #[] #[] 1537 3 #[] #[])
  fields := #[]
  methods := #[]
  instanceTypes := #[]
  staticTypes := #[]
  resolved := Array.replicate 12 none
  statics := none }

def pool4 : Array CpInfo := pool [(1, .class_ 2), (0, u "java/io/Serializable"), (0, .class_ 4), (0, u "java/lang/Object")] 2

/-- java/io/Serializable -/
def k4 : Class := { plain "java/io/Serializable" (some 0) with
  accessFlags := 1537
  interfaces := #[]
  cf := some (fileOf pool4 1 #[] #[] 1537 3 #[] #[])
  fields := #[]
  methods := #[]
  instanceTypes := #[]
  staticTypes := #[]
  resolved := Array.replicate 7 none
  statics := none }

def pool5 : Array CpInfo := pool [(2, .class_ 4), (1, u "java/lang/Enum"), (0, u "name"), (0, u "Ljava/lang/String;"), (2, u "ordinal"), (0, u "I"), (1, .class_ 14), (1, u "java/lang/Object"), (4, u "hash"), (86, .class_ 108), (1, u "java/lang/Enum$EnumDesc"), (2, .class_ 112), (0, u "java/lang/constant/Constable"), (0, .class_ 114), (0, u "java/lang/Comparable"), (0, .class_ 116), (0, u "java/io/Serializable")] 87

/-- java/lang/Enum -/
def k5 : Class := { plain "java/lang/Enum" (some 0) with
  accessFlags := 1057
  interfaces := #[2, 3, 4]
  cf := some (fileOf pool5 2 #[.nestMembers #[106]] #[] 1057 12 #[111, 113, 115] #[{ accessFlags := 18, nameIndex := 5, descriptorIndex := 6, attributes := #[] }, { accessFlags := 18, nameIndex := 9, descriptorIndex := 10, attributes := #[] }, { accessFlags := 2, nameIndex := 19, descriptorIndex := 10, attributes := #[] }])
  fields := #[{ name := "name", type := (.object "java/lang/String"), accessFlags := 18, slot := 0, constantValue := 0 }, { name := "ordinal", type := .int, accessFlags := 18, slot := 1, constantValue := 0 }, { name := "hash", type := .int, accessFlags := 2, slot := 2, constantValue := 0 }]
  methods := #[]
  instanceTypes := #[(.object "java/lang/String"), .int, .int]
  staticTypes := #[]
  resolved := Array.replicate 204 none
  statics := none }

def pool6 : Array CpInfo := pool [(1, .class_ 2), (0, u "com/example/tariffwright/tariffwright/rules/interconnection/UpgradeMeasure"), (2, u "NONE"), (0, u "Lcom/example/tariffwright/tariffwright/rules/interconnection/UpgradeMeasure;"), (2, u "SHORT_CIRCUIT_AMPERES"), (2, u "THERMAL_MW"), (2, u "VOLTAGE_DROP_PERCENT"), (2, u "STABILITY_AMPERES"), (2, u "$VALUES"), (0, u "[Lcom/example/tariffwright/tariffwright/rules/interconnection/UpgradeMeasure;"), (6, .class_ 31), (1, u "java/lang/Enum"), (8, u "name"), (0, u "Ljava/lang/String;"), (5, .fieldref 1 48), (0, .nameAndType 49 50), (0, u "deMinimis"), (0, u "Ljava/math/BigDecimal;"), (38, u "measured"), (0, u "()Z"), (0, u "()Ljava/math/BigDecimal;")] 7

def k6c0 : Code := { maxStack := 1, maxLocals := 1, code := prog_82_method_4_code, exceptionTable := #[], attributes := #[] }
def k6m0 : Method := { name := "measured", desc := "()Z", sig := { parameters := [], returnType := some .boolean }, accessFlags := 1, code := some k6c0 }
def k6c1 : Code := { maxStack := 1, maxLocals := 1, code := prog_82_method_5_code, exceptionTable := #[], attributes := #[] }
def k6m1 : Method := { name := "deMinimis", desc := "()Ljava/math/BigDecimal;", sig := { parameters := [], returnType := some (.object "java/math/BigDecimal") }, accessFlags := 1, code := some k6c1 }
/-- com/example/tariffwright/tariffwright/rules/interconnection/UpgradeMeasure -/
def k6 : Class := { plain "com/example/tariffwright/tariffwright/rules/interconnection/UpgradeMeasure" (some 5) with
  accessFlags := 16433
  interfaces := #[]
  cf := some (fileOf pool6 1 #[] #[{ accessFlags := 1, nameIndex := 89, descriptorIndex := 90, attributes := #[] }, { accessFlags := 1, nameIndex := 49, descriptorIndex := 91, attributes := #[] }] 16433 29 #[] #[{ accessFlags := 16409, nameIndex := 5, descriptorIndex := 6, attributes := #[] }, { accessFlags := 16409, nameIndex := 9, descriptorIndex := 6, attributes := #[] }, { accessFlags := 16409, nameIndex := 12, descriptorIndex := 6, attributes := #[] }, { accessFlags := 16409, nameIndex := 15, descriptorIndex := 6, attributes := #[] }, { accessFlags := 16409, nameIndex := 18, descriptorIndex := 6, attributes := #[] }, { accessFlags := 18, nameIndex := 40, descriptorIndex := 41, attributes := #[] }, { accessFlags := 18, nameIndex := 49, descriptorIndex := 50, attributes := #[] }, { accessFlags := 4122, nameIndex := 21, descriptorIndex := 22, attributes := #[] }])
  fields := #[{ name := "NONE", type := (.object "com/example/tariffwright/tariffwright/rules/interconnection/UpgradeMeasure"), accessFlags := 16409, slot := 0, constantValue := 0 }, { name := "SHORT_CIRCUIT_AMPERES", type := (.object "com/example/tariffwright/tariffwright/rules/interconnection/UpgradeMeasure"), accessFlags := 16409, slot := 1, constantValue := 0 }, { name := "THERMAL_MW", type := (.object "com/example/tariffwright/tariffwright/rules/interconnection/UpgradeMeasure"), accessFlags := 16409, slot := 2, constantValue := 0 }, { name := "VOLTAGE_DROP_PERCENT", type := (.object "com/example/tariffwright/tariffwright/rules/interconnection/UpgradeMeasure"), accessFlags := 16409, slot := 3, constantValue := 0 }, { name := "STABILITY_AMPERES", type := (.object "com/example/tariffwright/tariffwright/rules/interconnection/UpgradeMeasure"), accessFlags := 16409, slot := 4, constantValue := 0 }, { name := "name", type := (.object "java/lang/String"), accessFlags := 18, slot := 3, constantValue := 0 }, { name := "deMinimis", type := (.object "java/math/BigDecimal"), accessFlags := 18, slot := 4, constantValue := 0 }, { name := "$VALUES", type := (.array (.object "com/example/tariffwright/tariffwright/rules/interconnection/UpgradeMeasure")), accessFlags := 4122, slot := 5, constantValue := 0 }]
  methods := #[k6m0, k6m1]
  instanceTypes := #[(.object "java/lang/String"), .int, .int, (.object "java/lang/String"), (.object "java/math/BigDecimal")]
  staticTypes := #[(.object "com/example/tariffwright/tariffwright/rules/interconnection/UpgradeMeasure"), (.object "com/example/tariffwright/tariffwright/rules/interconnection/UpgradeMeasure"), (.object "com/example/tariffwright/tariffwright/rules/interconnection/UpgradeMeasure"), (.object "com/example/tariffwright/tariffwright/rules/interconnection/UpgradeMeasure"), (.object "com/example/tariffwright/tariffwright/rules/interconnection/UpgradeMeasure"), (.array (.object "com/example/tariffwright/tariffwright/rules/interconnection/UpgradeMeasure"))]
  resolved := Array.replicate 99 none
  statics := some 0 }

def pool7 : Array CpInfo := pool [(2, .class_ 4), (1, u "java/lang/Object"), (0, u "<init>"), (0, u "()V"), (1, .class_ 10), (1, u "java/lang/Number"), (2, .class_ 14), (0, u "java/io/Serializable"), (0, u "serialVersionUID"), (0, u "J")] 20

def k7m0 : Method := { name := "<init>", desc := "()V", sig := { parameters := [], returnType := none }, accessFlags := 1, code := none }
/-- java/lang/Number -/
def k7 : Class := { plain "java/lang/Number" (some 0) with
  accessFlags := 1057
  interfaces := #[4]
  cf := some (fileOf pool7 8 #[] #[{ accessFlags := 1, nameIndex := 5, descriptorIndex := 6, attributes := #[] }] 1057 2 #[13] #[{ accessFlags := 26, nameIndex := 15, descriptorIndex := 16, attributes := #[] }])
  fields := #[{ name := "serialVersionUID", type := .long, accessFlags := 26, slot := 0, constantValue := 0 }]
  methods := #[k7m0]
  instanceTypes := #[]
  staticTypes := #[.long]
  resolved := Array.replicate 37 none
  statics := none }

def pool8 : Array CpInfo := pool [(3, .class_ 4), (0, u "java/math/BigDecimal"), (7, .class_ 14), (1, u "java/lang/Number"), (4, u "scale"), (0, u "I"), (2, u "precision"), (2, u "intCompact"), (0, u "J"), (2, u "intVal"), (0, u "Ljava/math/BigInteger;"), (65, u "LONG_TEN_POWERS_TABLE"), (0, u "[J"), (88, u "ZERO"), (2, u "INFLATED_BIGINT"), (15, u "TWO"), (41, u "ZERO_THROUGH_TEN"), (0, u "[Ljava/math/BigDecimal;"), (2, u "ZERO_SCALED_BY"), (60, u "$assertionsDisabled"), (0, u "Z"), (163, u "ONE_TENTH"), (0, u "Ljava/math/BigDecimal;"), (5, u "TEN"), (14, .class_ 502), (1, u "java/math/BigDecimal$1"), (15, u "ONE_HALF"), (16, u "ONE"), (107, u "stringCache"), (0, u "Ljava/lang/String;"), (52, .class_ 699), (1, u "java/math/BigDecimal$LongOverflow"), (8, u "FLOAT_10_POW"), (0, u "[F"), (39, u "DOUBLE_10_POW"), (0, u "[D"), (19, .class_ 772), (1, u "java/math/BigDecimal$StringBuilderHelper"), (35, u "BIG_TEN_POWERS_TABLE_MAX"), (2, u "BIG_TEN_POWERS_TABLE"), (0, u "[Ljava/math/BigInteger;"), (14, u "THRESHOLDS_TABLE"), (23, .class_ 853), (1, u "java/math/BigDecimal$UnsafeHolder"), (214, u "LONGLONG_TEN_POWERS_TABLE"), (0, u "[[J"), (112, u "BIG_TEN_POWERS_TABLE_INITLEN"), (113, .class_ 1297), (0, u "java/lang/Comparable"), (0, u "L"), (0, u "D"), (1, u "P_F"), (1, u "Q_MIN_F"), (1, u "Q_MAX_F"), (1, u "P_D"), (1, u "Q_MIN_D"), (1, u "Q_MAX_D"), (1, u "INFLATED"), (0, u "MAX_COMPACT_DIGITS"), (1, u "serialVersionUID"), (2, u "HALF_LONG_MAX_VALUE"), (0, u "HALF_LONG_MIN_VALUE"), (0, u "ROUND_UP"), (6, u "ROUND_DOWN"), (1, u "ROUND_CEILING"), (1, u "ROUND_FLOOR"), (1, u "ROUND_HALF_UP"), (1, u "ROUND_HALF_DOWN"), (1, u "ROUND_HALF_EVEN"), (1, u "ROUND_UNNECESSARY"), (1, u "DIV_NUM_BASE")] 294

/-- java/math/BigDecimal -/
def k8 : Class := { plain "java/math/BigDecimal" (some 7) with
  accessFlags := 33
  interfaces := #[3]
  cf := some (fileOf pool8 3 #[.nestMembers #[500, 851, 770, 697]] #[] 33 12 #[1296] #[{ accessFlags := 26, nameIndex := 1298, descriptorIndex := 1299, attributes := #[] }, { accessFlags := 26, nameIndex := 1301, descriptorIndex := 20, attributes := #[] }, { accessFlags := 26, nameIndex := 1303, descriptorIndex := 20, attributes := #[] }, { accessFlags := 26, nameIndex := 1305, descriptorIndex := 20, attributes := #[] }, { accessFlags := 26, nameIndex := 1307, descriptorIndex := 20, attributes := #[] }, { accessFlags := 26, nameIndex := 1309, descriptorIndex := 20, attributes := #[] }, { accessFlags := 26, nameIndex := 1311, descriptorIndex := 20, attributes := #[] }, { accessFlags := 18, nameIndex := 30, descriptorIndex := 31, attributes := #[] }, { accessFlags := 18, nameIndex := 19, descriptorIndex := 20, attributes := #[] }, { accessFlags := 130, nameIndex := 23, descriptorIndex := 20, attributes := #[] }, { accessFlags := 130, nameIndex := 643, descriptorIndex := 644, attributes := #[] }, { accessFlags := 24, nameIndex := 1313, descriptorIndex := 27, attributes := #[] }, { accessFlags := 26, nameIndex := 190, descriptorIndex := 31, attributes := #[] }, { accessFlags := 146, nameIndex := 26, descriptorIndex := 27, attributes := #[] }, { accessFlags := 26, nameIndex := 1314, descriptorIndex := 20, attributes := #[] }, { accessFlags := 26, nameIndex := 1316, descriptorIndex := 27, attributes := #[] }, { accessFlags := 26, nameIndex := 248, descriptorIndex := 249, attributes := #[] }, { accessFlags := 26, nameIndex := 252, descriptorIndex := 249, attributes := #[] }, { accessFlags := 26, nameIndex := 1319, descriptorIndex := 27, attributes := #[] }, { accessFlags := 26, nameIndex := 1320, descriptorIndex := 27, attributes := #[] }, { accessFlags := 25, nameIndex := 187, descriptorIndex := 479, attributes := #[] }, { accessFlags := 25, nameIndex := 535, descriptorIndex := 479, attributes := #[] }, { accessFlags := 25, nameIndex := 206, descriptorIndex := 479, attributes := #[] }, { accessFlags := 25, nameIndex := 485, descriptorIndex := 479, attributes := #[] }, { accessFlags := 26, nameIndex := 478, descriptorIndex := 479, attributes := #[] }, { accessFlags := 26, nameIndex := 518, descriptorIndex := 479, attributes := #[] }, { accessFlags := 25, nameIndex := 1321, descriptorIndex := 20, attributes := #[] }, { accessFlags := 25, nameIndex := 1328, descriptorIndex := 20, attributes := #[] }, { accessFlags := 25, nameIndex := 1330, descriptorIndex := 20, attributes := #[] }, { accessFlags := 25, nameIndex := 1332, descriptorIndex := 20, attributes := #[] }, { accessFlags := 25, nameIndex := 1334, descriptorIndex := 20, attributes := #[] }, { accessFlags := 25, nameIndex := 1336, descriptorIndex := 20, attributes := #[] }, { accessFlags := 25, nameIndex := 1338, descriptorIndex := 20, attributes := #[] }, { accessFlags := 25, nameIndex := 1340, descriptorIndex := 20, attributes := #[] }, { accessFlags := 26, nameIndex := 749, descriptorIndex := 750, attributes := #[] }, { accessFlags := 26, nameIndex := 708, descriptorIndex := 709, attributes := #[] }, { accessFlags := 26, nameIndex := 97, descriptorIndex := 98, attributes := #[] }, { accessFlags := 74, nameIndex := 811, descriptorIndex := 812, attributes := #[] }, { accessFlags := 26, nameIndex := 1182, descriptorIndex := 20, attributes := #[] }, { accessFlags := 26, nameIndex := 808, descriptorIndex := 20, attributes := #[] }, { accessFlags := 26, nameIndex := 827, descriptorIndex := 98, attributes := #[] }, { accessFlags := 26, nameIndex := 1342, descriptorIndex := 27, attributes := #[] }, { accessFlags := 26, nameIndex := 1068, descriptorIndex := 1069, attributes := #[] }, { accessFlags := 4120, nameIndex := 313, descriptorIndex := 314, attributes := #[] }])
  fields := #[{ name := "L", type := .double, accessFlags := 26, slot := 0, constantValue := 0 }, { name := "P_F", type := .int, accessFlags := 26, slot := 1, constantValue := 0 }, { name := "Q_MIN_F", type := .int, accessFlags := 26, slot := 2, constantValue := 0 }, { name := "Q_MAX_F", type := .int, accessFlags := 26, slot := 3, constantValue := 0 }, { name := "P_D", type := .int, accessFlags := 26, slot := 4, constantValue := 0 }, { name := "Q_MIN_D", type := .int, accessFlags := 26, slot := 5, constantValue := 0 }, { name := "Q_MAX_D", type := .int, accessFlags := 26, slot := 6, constantValue := 0 }, { name := "intVal", type := (.object "java/math/BigInteger"), accessFlags := 18, slot := 0, constantValue := 0 }, { name := "scale", type := .int, accessFlags := 18, slot := 1, constantValue := 0 }, { name := "precision", type := .int, accessFlags := 130, slot := 2, constantValue := 0 }, { name := "stringCache", type := (.object "java/lang/String"), accessFlags := 130, slot := 3, constantValue := 0 }, { name := "INFLATED", type := .long, accessFlags := 24, slot := 7, constantValue := 0 }, { name := "INFLATED_BIGINT", type := (.object "java/math/BigInteger"), accessFlags := 26, slot := 8, constantValue := 0 }, { name := "intCompact", type := .long, accessFlags := 146, slot := 4, constantValue := 0 }, { name := "MAX_COMPACT_DIGITS", type := .int, accessFlags := 26, slot := 9, constantValue := 0 }, { name := "serialVersionUID", type := .long, accessFlags := 26, slot := 10, constantValue := 0 }, { name := "ZERO_THROUGH_TEN", type := (.array (.object "java/math/BigDecimal")), accessFlags := 26, slot := 11, constantValue := 0 }, { name := "ZERO_SCALED_BY", type := (.array (.object "java/math/BigDecimal")), accessFlags := 26, slot := 12, constantValue := 0 }, { name := "HALF_LONG_MAX_VALUE", type := .long, accessFlags := 26, slot := 13, constantValue := 0 }, { name := "HALF_LONG_MIN_VALUE", type := .long, accessFlags := 26, slot := 14, constantValue := 0 }, { name := "ZERO", type := (.object "java/math/BigDecimal"), accessFlags := 25, slot := 15, constantValue := 0 }, { name := "ONE", type := (.object "java/math/BigDecimal"), accessFlags := 25, slot := 16, constantValue := 0 }, { name := "TWO", type := (.object "java/math/BigDecimal"), accessFlags := 25, slot := 17, constantValue := 0 }, { name := "TEN", type := (.object "java/math/BigDecimal"), accessFlags := 25, slot := 18, constantValue := 0 }, { name := "ONE_TENTH", type := (.object "java/math/BigDecimal"), accessFlags := 26, slot := 19, constantValue := 0 }, { name := "ONE_HALF", type := (.object "java/math/BigDecimal"), accessFlags := 26, slot := 20, constantValue := 0 }, { name := "ROUND_UP", type := .int, accessFlags := 25, slot := 21, constantValue := 0 }, { name := "ROUND_DOWN", type := .int, accessFlags := 25, slot := 22, constantValue := 0 }, { name := "ROUND_CEILING", type := .int, accessFlags := 25, slot := 23, constantValue := 0 }, { name := "ROUND_FLOOR", type := .int, accessFlags := 25, slot := 24, constantValue := 0 }, { name := "ROUND_HALF_UP", type := .int, accessFlags := 25, slot := 25, constantValue := 0 }, { name := "ROUND_HALF_DOWN", type := .int, accessFlags := 25, slot := 26, constantValue := 0 }, { name := "ROUND_HALF_EVEN", type := .int, accessFlags := 25, slot := 27, constantValue := 0 }, { name := "ROUND_UNNECESSARY", type := .int, accessFlags := 25, slot := 28, constantValue := 0 }, { name := "DOUBLE_10_POW", type := (.array .double), accessFlags := 26, slot := 29, constantValue := 0 }, { name := "FLOAT_10_POW", type := (.array .float), accessFlags := 26, slot := 30, constantValue := 0 }, { name := "LONG_TEN_POWERS_TABLE", type := (.array .long), accessFlags := 26, slot := 31, constantValue := 0 }, { name := "BIG_TEN_POWERS_TABLE", type := (.array (.object "java/math/BigInteger")), accessFlags := 74, slot := 32, constantValue := 0 }, { name := "BIG_TEN_POWERS_TABLE_INITLEN", type := .int, accessFlags := 26, slot := 33, constantValue := 0 }, { name := "BIG_TEN_POWERS_TABLE_MAX", type := .int, accessFlags := 26, slot := 34, constantValue := 0 }, { name := "THRESHOLDS_TABLE", type := (.array .long), accessFlags := 26, slot := 35, constantValue := 0 }, { name := "DIV_NUM_BASE", type := .long, accessFlags := 26, slot := 36, constantValue := 0 }, { name := "LONGLONG_TEN_POWERS_TABLE", type := (.array (.array .long)), accessFlags := 26, slot := 37, constantValue := 0 }, { name := "$assertionsDisabled", type := .boolean, accessFlags := 4120, slot := 38, constantValue := 0 }]
  methods := #[]
  instanceTypes := #[(.object "java/math/BigInteger"), .int, .int, (.object "java/lang/String"), .long]
  staticTypes := #[.double, .int, .int, .int, .int, .int, .int, .long, (.object "java/math/BigInteger"), .int, .long, (.array (.object "java/math/BigDecimal")), (.array (.object "java/math/BigDecimal")), .long, .long, (.object "java/math/BigDecimal"), (.object "java/math/BigDecimal"), (.object "java/math/BigDecimal"), (.object "java/math/BigDecimal"), (.object "java/math/BigDecimal"), (.object "java/math/BigDecimal"), .int, .int, .int, .int, .int, .int, .int, .int, (.array .double), (.array .float), (.array .long), (.array (.object "java/math/BigInteger")), .int, .int, (.array .long), .long, (.array (.array .long)), .boolean]
  resolved := Array.replicate 1637 none
  statics := none }

def pool9 : Array CpInfo := pool [(1, u "java/lang/Cloneable"), (0, .class_ 1), (0, u "java/lang/Object"), (0, .class_ 3)] 3

/-- java/lang/Cloneable -/
def k9 : Class := { plain "java/lang/Cloneable" (some 0) with
  accessFlags := 1537
  interfaces := #[]
  cf := some (fileOf pool9 2 #[] #[] 1537 4 #[] #[])
  fields := #[]
  methods := #[]
  instanceTypes := #[]
  staticTypes := #[]
  resolved := Array.replicate 8 none
  statics := none }

/-- the primitive byte -/
def k10 : Class := { plain "byte" none with kind := .primitive 'B', accessFlags := 0x411 }
/-- [B -/
def k11 : Class := { plain "[B" (some 0) with kind := .array 10 .byte, interfaces := #[9, 4], accessFlags := 1041 }

/-- the primitive int -/
def k12 : Class := { plain "int" none with kind := .primitive 'I', accessFlags := 0x411 }
/-- [I -/
def k13 : Class := { plain "[I" (some 0) with kind := .array 12 .int, interfaces := #[9, 4], accessFlags := 1041 }

def heap : Heap := #[{ cls := 6, slots := #[.ref 1, .ref 2, .ref 3, .ref 4, .ref 5, .null], vm := .statics 6 },
  { cls := 6, slots := #[.null, .int 0, .int 0, .null, .null], vm := .none },
  { cls := 6, slots := #[.null, .int 1, .int 0, .null, .ref 6], vm := .none },
  { cls := 6, slots := #[.null, .int 2, .int 0, .null, .ref 6], vm := .none },
  { cls := 6, slots := #[.null, .int 3, .int 0, .null, .ref 6], vm := .none },
  { cls := 6, slots := #[.null, .int 4, .int 0, .null, .ref 6], vm := .none },
  { cls := 8, slots := #[.null, .int 0, .int 0, .null, .long 0], vm := .none }]
def classes : Array Class := #[k0, k1, k2, k3, k4, k5, k6, k7, k8, k9, k10, k11, k12, k13]
def interned : List (Array UInt16 × Addr) := []
def slotsUsed : Nat := 36
def theMethod : MethodId := ⟨1, 2⟩
def args0 : Array Value := #[.int 5]
def aboutOver (below : List Frame) : State where
  vm := { classes := classes, interned := interned.toArray }
  heap := heap
  slotsUsed := slotsUsed
  threads := #[{ frames := .invoking theMethod args0 :: below }]
def below0 : List Frame := [.native { method := ⟨0, 0⟩, args := #[] }]
def about1 : State := aboutOver below0
def p0 : Program := .bare "" "" ""
def e0 : Env := launch0.env 0 0 0
theorem w_frames : about1.frames = Frame.invoking theMethod args0 :: below0 := rfl
set_option maxRecDepth 65536 in
theorem w_args : argsFit about1.vm theMethod args0 = true := by decide +kernel
set_option maxRecDepth 65536 in
theorem w_heap : heapFits about1 = true := by decide +kernel
set_option maxRecDepth 65536 in
theorem w_runnable : about1.curStatus? = some .runnable := by decide +kernel
set_option maxRecDepth 65536 in
theorem w_alone : about1.alone = true := by decide +kernel
set_option maxRecDepth 65536 in
theorem w_named : about1.methodNamed? x = some theMethod := by decide +kernel
set_option maxRecDepth 65536 in
theorem w_hears : about1.hears theMethod below0 = true := by decide +kernel
set_option maxRecDepth 65536 in
theorem w_ripe : about1.ripe theMethod args0 below0 = true := by decide +kernel
theorem w_running : about1.status = .running := rfl
set_option maxRecDepth 65536 in
theorem w_room : about1.hasRoom e0.platform room_1 = true :=
  launch0.hasRoom_least _ room_1 (by decide +kernel) (by decide +kernel) (by decide +kernel) (by decide +kernel) (by decide +kernel) (by decide +kernel)
theorem allAtoms_all (ts : List Jvm.Cond) (a : Array Jvm.Value) (st : Jvm.State) : (allAtoms ts).before a st = ts.all (fun c => c.before a st) := by
  induction ts with
  | nil => rfl
  | cons c t ih =>
    show (Jvm.Cond.and c (allAtoms t)).before a st = _
    rw [Jvm.Cond.before_and, ih, List.all_cons]
def words1 : List Jvm.Cond := Jvm.Cond.code x code maxLocals ret :: tables_1
/-- a 'code' word, met by the world's own term for the bytes: nothing is compared byte by byte -/
theorem code_word {y : MethodName} {bytes : ByteArray} {mx : Nat} {rt : Option FieldType} {a : Array Value} {s : State} {m : MethodId} {meth : Method} {c : Code} (h1 : s.methodNamed? y = some m) (h2 : s.vm.method? m = some meth) (h3 : meth.code = some c) (h4 : c.code = bytes)
    (h5 : (c.maxLocals == mx && c.exceptionTable.isEmpty && decide (c.maxStack ≤ mostOperands) && decide (meth.sig.returnType = rt) && !meth.locks && decide (parseMethodDescriptor y.desc = some meth.sig)) = true) : (Jvm.Cond.code y bytes mx rt).before a s = true := by
  simp only [Bool.and_eq_true, beq_iff_eq, Bool.not_eq_true', decide_eq_true_eq] at h5
  obtain ⟨⟨⟨⟨⟨g1, g2⟩, g3⟩, g4⟩, g5⟩, g6⟩ := h5
  simp [Cond.before, Cond.holds, Cond.value, h1, h2, h3, h4, g1, g2, g3, g4, g5, g6]
def isCode : Jvm.Cond → Bool
  | .code _ _ _ _ => true
  | _ => false
theorem all_split {L : List Jvm.Cond} {P : Jvm.Cond → Bool} (h1 : L.all (fun c => isCode c || P c) = true) (h2 : ∀ c ∈ L.filter isCode, P c = true) : L.all P = true := by
  refine List.all_eq_true.mpr fun c hc => ?_
  have h := List.all_eq_true.mp h1 c hc
  rcases Bool.eq_false_or_eq_true (isCode c) with hi | hi
  · exact h2 c (List.mem_filter.mpr ⟨hc, hi⟩)
  · simpa [hi] using h
set_option maxRecDepth 65536 in
theorem w_c0 : (Jvm.Cond.code x code maxLocals ret).before args0 about1 = true := code_word (m := ⟨1, 2⟩) (meth := k1m2) (c := k1c2) (by decide +kernel) rfl rfl rfl (by decide +kernel)
set_option maxRecDepth 65536 in
theorem w_c1 : (Jvm.Cond.code ({ cls := "com/example/tariffwright/tariffwright/rules/interconnection/UpgradeMeasureMeasuredPinLaw", name := "pick", desc := "(I)Lcom/example/tariffwright/tariffwright/rules/interconnection/UpgradeMeasure;" } : Jvm.MethodName) method_2_code (1 : Nat) (Option.some (Jvm.ClassFile.FieldType.object "com/example/tariffwright/tariffwright/rules/interconnection/UpgradeMeasure"))).before args0 about1 = true := code_word (m := ⟨1, 1⟩) (meth := k1m1) (c := k1c1) (by decide +kernel) rfl rfl rfl (by decide +kernel)
set_option maxRecDepth 65536 in
theorem w_c2 : (Jvm.Cond.code ({ cls := "com/example/tariffwright/tariffwright/rules/interconnection/UpgradeMeasure", name := "measured", desc := "()Z" } : Jvm.MethodName) prog_82_method_4_code (1 : Nat) (Option.some Jvm.ClassFile.FieldType.boolean)).before args0 about1 = true := code_word (m := ⟨6, 0⟩) (meth := k6m0) (c := k6c0) (by decide +kernel) rfl rfl rfl (by decide +kernel)
set_option maxRecDepth 65536 in
theorem w_c3 : (Jvm.Cond.code ({ cls := "com/example/tariffwright/tariffwright/rules/interconnection/UpgradeMeasure", name := "deMinimis", desc := "()Ljava/math/BigDecimal;" } : Jvm.MethodName) prog_82_method_5_code (1 : Nat) (Option.some (Jvm.ClassFile.FieldType.object "java/math/BigDecimal"))).before args0 about1 = true := code_word (m := ⟨6, 1⟩) (meth := k6m1) (c := k6c1) (by decide +kernel) rfl rfl rfl (by decide +kernel)
def codes1 : List Jvm.Cond := [Jvm.Cond.code x code maxLocals ret, Jvm.Cond.code ({ cls := "com/example/tariffwright/tariffwright/rules/interconnection/UpgradeMeasureMeasuredPinLaw", name := "pick", desc := "(I)Lcom/example/tariffwright/tariffwright/rules/interconnection/UpgradeMeasure;" } : Jvm.MethodName) method_2_code (1 : Nat) (Option.some (Jvm.ClassFile.FieldType.object "com/example/tariffwright/tariffwright/rules/interconnection/UpgradeMeasure")), Jvm.Cond.code ({ cls := "com/example/tariffwright/tariffwright/rules/interconnection/UpgradeMeasure", name := "measured", desc := "()Z" } : Jvm.MethodName) prog_82_method_4_code (1 : Nat) (Option.some Jvm.ClassFile.FieldType.boolean), Jvm.Cond.code ({ cls := "com/example/tariffwright/tariffwright/rules/interconnection/UpgradeMeasure", name := "deMinimis", desc := "()Ljava/math/BigDecimal;" } : Jvm.MethodName) prog_82_method_5_code (1 : Nat) (Option.some (Jvm.ClassFile.FieldType.object "java/math/BigDecimal"))]
set_option maxRecDepth 65536 in
theorem codes_eq : words1.filter isCode = codes1 := rfl
theorem w_codes : ∀ c ∈ words1.filter isCode, c.before args0 about1 = true := by
  rw [codes_eq]
  intro c hc
  simp only [codes1, List.mem_cons, List.not_mem_nil, or_false] at hc
  rcases hc with rfl | rfl | rfl | rfl
  · exact w_c0
  · exact w_c1
  · exact w_c2
  · exact w_c3
set_option maxRecDepth 65536 in
theorem w_t1 : (words1.take 24).all (fun c => isCode c || c.before args0 about1) = true := by decide +kernel
set_option maxRecDepth 65536 in
theorem w_t2 : (words1.drop 24).all (fun c => isCode c || c.before args0 about1) = true := by decide +kernel
theorem w_tables : (allAtoms (Jvm.Cond.code x code maxLocals ret :: tables_1)).before args0 about1 = true := by
  rw [allAtoms_all]
  show words1.all (fun c => c.before args0 about1) = true
  refine all_split ?_ w_codes
  rw [← List.take_append_drop 24 words1, List.all_append, w_t1, w_t2]
  rfl
set_option maxRecDepth 65536 in
theorem w_case : (Jvm.Cond.and given_1 narrow_1).before args0 about1 = true := by decide +kernel
theorem w_applies : (headSpec (Jvm.Cond.code x code maxLocals ret :: tables_1) room_1).applies x e0.platform about1 = true :=
  (Spec.applies_iff w_frames).mpr ⟨w_running, w_runnable, w_alone, w_named, w_hears, w_ripe, w_room, w_tables⟩
theorem atStart : AtStart classFile x code maxLocals ret World_1 tables_1 room_1 Calls_1 rest_1 Pre_1 launch0 p0 e0 about1 theMethod args0 below0 :=
  ⟨lists_1, trivial, launch0.admits_env _ _ _, launch0.least_env, fairChoices_fair.cas, fairChoices_fair.clock, w_frames, w_args, w_heap, w_applies, trivial, trivial, w_case⟩
end start1
theorem witness_1 : WitnessClaimed_1 := ⟨start1.p0, start1.e0, start1.about1, start1.theMethod, start1.args0, start1.below0, start1.atStart⟩
end Jvm.Pilot.@@N@@
