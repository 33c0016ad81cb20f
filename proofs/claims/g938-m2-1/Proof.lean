import JvmDerived
import JvmDerived.Pilot.@@N@@Statement
import JvmDerived.Pilot.@@N@@Code
set_option linter.unusedVariables false
set_option linter.unusedSimpArgs false
namespace Jvm.OwnK
open Sem ClassFile Op Lib Jvm.Stand Jvm.Free Jvm.LawKit Jvm.RoadKit
/-! a walk's surroundings: program, launch, environment, room, state at the call, method, arguments, frames below, the method's record and code -/
abbrev Cx : Type := Program × Launch × Env × Room × State × MethodId × Array Value × List Frame × Method × Code × State × List (String × Nat)
abbrev Cx.p (Γ : Cx) : Program := Γ.1
abbrev Cx.l (Γ : Cx) : Launch := Γ.2.1
abbrev Cx.e (Γ : Cx) : Env := Γ.2.2.1
abbrev Cx.R (Γ : Cx) : Room := Γ.2.2.2.1
abbrev Cx.s (Γ : Cx) : State := Γ.2.2.2.2.1
abbrev Cx.m (Γ : Cx) : MethodId := Γ.2.2.2.2.2.1
abbrev Cx.args (Γ : Cx) : Array Value := Γ.2.2.2.2.2.2.1
abbrev Cx.below (Γ : Cx) : List Frame := Γ.2.2.2.2.2.2.2.1
abbrev Cx.meth (Γ : Cx) : Method := Γ.2.2.2.2.2.2.2.2.1
abbrev Cx.c (Γ : Cx) : Code := Γ.2.2.2.2.2.2.2.2.2.1
abbrev Cx.Z (Γ : Cx) : State := Γ.2.2.2.2.2.2.2.2.2.2.1
abbrev Cx.EL (Γ : Cx) : List (String × Nat) := Γ.2.2.2.2.2.2.2.2.2.2.2
/-- the booked constants stand since the start, and the addresses of sf are none of theirs -/
def Hd (Γ : Cx) (vm : Vm) (h : Heap) (sf : List Addr) : Prop := CHr Γ.Z Γ.EL Γ.s.vm Γ.s.heap vm h ∧ ∀ x ∈ sf, x < h.size ∧ Safe Γ.Z Γ.EL vm h x
section HdS
variable {Γ : Cx} {vm : Vm} {h h' : Heap} {sf : List Addr}
theorem Hd.more (H : Hd Γ vm h sf) (E : Ext h h') : Hd Γ vm h' sf := ⟨H.1.trans (CHr.ext E H.1.1), fun x hx => ⟨Nat.lt_of_lt_of_le (H.2 x hx).1 E.1, (H.2 x hx).2.ext E H.1.1⟩⟩
theorem Hd.new (H : Hd Γ vm h sf) (E : Ext h h') (lt : h.size < h'.size) : Hd Γ vm h' (h.size :: sf) := ⟨(H.more E).1, fun x hx => by
  rcases List.mem_cons.mp hx with rfl | hx
  · exact ⟨lt, (Safe.new (Nat.le_refl _)).ext E H.1.1⟩
  · exact (H.more E).2 x hx⟩
theorem Hd.wr {a : Addr} {sl : Nat} {v : Value} (H : Hd Γ vm h sf) (W : Wr h h' a sl v) (ms : a ∈ sf) : Hd Γ vm h' sf := ⟨H.1.trans (CHr.wr W (H.2 a ms).2 H.1.1), fun x hx => ⟨by rw [W.size]; exact (H.2 x hx).1, Safe.wr W (H.2 a ms).2 H.1.1 (H.2 x hx).2⟩⟩
theorem Hd.keep {a : Addr} (H : Hd Γ vm h sf) (K : Keep h h' [a]) (ms : a ∈ sf) : Hd Γ vm h' sf := ⟨H.1.trans (CHr.keep K (fun x hx => by rw [List.mem_singleton.mp hx]; exact (H.2 a ms).2) H.1.1), fun x hx => ⟨Nat.lt_of_lt_of_le (H.2 x hx).1 K.1, (H.2 x hx).2.keep K (fun x hx => by rw [List.mem_singleton.mp hx]; exact (H.2 a ms).2) H.1.1⟩⟩
end HdS
/-- what stays the same all along a walk -/
def Ctx (Γ : Cx) (Z : State) (EL : List (String × Nat)) (own : String) (bytes : ByteArray) (maxl : Nat) (ret : Option FieldType) (nm : String) (rm : Room) (hs : Heap) : Prop :=
  Γ.p.tables.exec = Jvm.exec ∧ Z.Warmed39 Γ.s.vm ∧ Γ.s.vm.findClass own = some Γ.m.cls ∧ Γ.c.code = bytes ∧ Γ.c.maxLocals = maxl ∧ Γ.meth.sig.returnType = ret ∧ Γ.meth.name = nm ∧ Γ.meth.locks = false ∧ Γ.R = rm ∧ Γ.s.heap = hs ∧ Γ.Z = Z ∧ Γ.EL = EL ∧ ∃ a0, EW Z a0 EL
/-- where the walk stands: the state T with the heap h; at most C cells and S slots made; what was written lies in cells made since the law began -/
def W (Γ : Cx) (n0 : Nat) (T : State) (h : Heap) (C S : Nat) (sf : List Addr) : Prop := ∃ locs vm0 k0, Stand Γ.p Γ.l Γ.e Γ.R (Γ.s.setVm vm0) Γ.m Γ.args Γ.below Γ.meth Γ.c T locs C S ∧ T.heap = h ∧ Fr n0 locs ∧ Γ.s.Since vm0 k0 ∧ k0 ≤ h.size ∧ Hd Γ vm0 h sf
/-- from here the run comes to the method's end with what Q says -/
def Go (Γ : Cx) (n0 : Nat) (Q : Option Value → Heap → List Addr → Prop) (T : State) (f : JFrame) : Prop :=
  ∃ s₂ o, Steps Γ.p.tables Γ.e Γ.below (T.setTop f) s₂ ∧ s₂.status = .running ∧ Ended s₂ Γ.below o ∧ ∃ v L, o = .returned v ∧ ((∃ sf', Q v s₂.heap sf' ∧ ∀ x ∈ sf', x < s₂.heap.size ∧ Safe Γ.Z Γ.EL s₂.vm s₂.heap x) ∧ Fr n0 L) ∧ CHr Γ.Z Γ.EL Γ.s.vm Γ.s.heap s₂.vm s₂.heap ∧ ReturnedEndW Γ.s o s₂ L Γ.R.cells Γ.R.slots
/-- a body's contract: called with these arguments at this heap it returns with what Q says -/
def MetW (Z : State) (EL : List (String × Nat)) (sf : List Addr) (y : MethodName) (bytes : ByteArray) (maxl : Nat) (ret : Option FieldType) (ws : List Cond) (rm : Room) (as' : Array Value) (h0 : Heap) (n0 : Nat) (Q : Option Value → Heap → List Addr → Prop) : Prop :=
  ∀ l : Launch, MetFree l y (head1 (Cond.code y bytes maxl ret :: ws) rm) (fun a U => a = as' ∧ Z.Warmed39 U.vm ∧ U.heap = h0 ∧ CHv Z EL U.vm h0 ∧ ∀ x ∈ sf, x < h0.size ∧ Safe Z EL U.vm h0 x) (fun _ _ _ _ _ => True) (fun _ U o U' => ∃ v L, o = .returned v ∧ ((∃ sf', Q v U'.heap sf' ∧ ∀ x ∈ sf', x < U'.heap.size ∧ Safe Z EL U'.vm U'.heap x) ∧ Fr n0 L) ∧ CHr Z EL U.vm U.heap U'.vm U'.heap ∧ ReturnedEndW U o U' L rm.cells rm.slots)
abbrev Met (Z : State) (EL : List (String × Nat)) (sf : List Addr) (y : MethodName) (bytes : ByteArray) (maxl : Nat) (ret : Option FieldType) (rm : Room) (as' : Array Value) (h0 : Heap) (n0 : Nat) (Q : Option Value → Heap → List Addr → Prop) : Prop := MetW Z EL sf y bytes maxl ret [] rm as' h0 n0 Q
section K
variable {Γ : Cx} {Z : State} {EL : List (String × Nat)} {sf : List Addr} {own nm : String} {bytes : ByteArray} {maxl : Nat} {ret : Option FieldType} {rm : Room} {n0 : Nat} {T : State} {h hs0 : Heap} {C S : Nat} {Q : Option Value → Heap → List Addr → Prop} {Ls : Array Slot} {st : List Value} {pc pc' : Nat}
theorem k_body {y : MethodName} {ws : List Cond} {as' : Array Value} {f : MethodId → JFrame} (hew : ∃ a0, EW Z a0 EL) (hx : plainFor y = true) (hf : ∀ m, entryFrame m as' maxl = f m)
    (body : ∀ (Γ : Cx) (T : State), Ctx Γ Z EL y.cls bytes maxl ret y.name rm h → W Γ n0 T h 0 0 sf → Go Γ n0 Q T (f Γ.m)) : MetW Z EL sf y bytes maxl ret ws rm as' h n0 Q := by
  intro l
  refine MetFree.of_bodySF (ret := ret) hx hisR ?_
  intro p e s m args below meth c s₁ Bd hml0 hP hK
  obtain ⟨rfl, hZ, hh, hC, hsf⟩ := hP
  subst hh
  have X0 : Stand p l e rm s m args below meth c s₁ [] 0 0 := Stand.of_body Bd
  have e0 : s₁.heap = s.heap := by rw [Bd.state]; rfl
  have g := body (p, l, e, rm, s, m, args, below, meth, c, Z, EL) s₁ ⟨Bd.exec, hZ, findClass_of_methodNamed Bd.named, Bd.bytes, hml0, Bd.returns, (name_of_methodNamed Bd.named Bd.method).1, Bd.notSynchronized, rfl, rfl, rfl, rfl, hew⟩ ⟨[], s.vm, 0, X0, e0, Fr.nil n0, (State.WarmedH.refl s).since 0, Nat.zero_le _, CHr.refl hC, hsf⟩
  rw [← hf] at g
  exact g
theorem Go.of {T' : State} {f f' : JFrame} (k : ∀ target, Steps Γ.p.tables Γ.e Γ.below (T'.setTop f') target → Steps Γ.p.tables Γ.e Γ.below (T.setTop f) target) (K : Go Γ n0 Q T' f') : Go Γ n0 Q T f := by
  obtain ⟨s₂, o, h1, r⟩ := K
  exact ⟨s₂, o, k _ h1, r⟩
theorem Go.mono {Q' : Option Value → Heap → List Addr → Prop} {f : JFrame} (K : Go Γ n0 Q T f) (q : ∀ v h sf, Q v h sf → Q' v h sf) : Go Γ n0 Q' T f := by
  obtain ⟨s₂, o, h1, h2, h3, v, L, h4, ⟨⟨sf', h5, h5'⟩, h6⟩, h7⟩ := K
  exact ⟨s₂, o, h1, h2, h3, v, L, h4, ⟨⟨sf', q _ _ _ h5, h5'⟩, h6⟩, h7⟩
theorem W.more {C' S' : Nat} (X : W Γ n0 T h C S sf) (hc : C ≤ C') (hs : S ≤ S') : W Γ n0 T h C' S' sf := by
  obtain ⟨L, v, k, X, r⟩ := X; exact ⟨L, v, k, X.more hc hs, r⟩
theorem MetW.mono {y : MethodName} {ws : List Cond} {as' : Array Value} {Q' : Option Value → Heap → List Addr → Prop} (M : MetW Z EL sf y bytes maxl ret ws rm as' h n0 Q) (q : ∀ v h sf, Q v h sf → Q' v h sf) : MetW Z EL sf y bytes maxl ret ws rm as' h n0 Q' := by
  intro l p e h1 h2 h3 s m args below hf happ hP hK
  obtain ⟨n, o, a1, a2, a3, v, L, b1, ⟨⟨sf', b2, b2'⟩, b3⟩, b4⟩ := M l p e h1 h2 h3 s m args below hf happ hP hK
  exact ⟨n, o, a1, a2, a3, v, L, b1, ⟨⟨sf', q _ _ _ b2, b2'⟩, b3⟩, b4⟩
/-! ### returns -/
theorem k_retv (G : Ctx Γ Z EL own bytes maxl ret nm rm hs0) (X : W Γ n0 T h C S sf) (hd : decode bytes pc = .ok (.return_, 1)) (hr : ret = none) (q : Q none h sf) (hC : C ≤ rm.cells) (hS : S ≤ rm.slots) : Go Γ n0 Q T (mkF Γ.m pc Ls []) := by
  obtain ⟨hx, hZ, hown, hby, hml, hret, hnm, hlk, hR, hsH, hzz, hel, hew⟩ := G
  subst hzz hel
  obtain ⟨aw, hew⟩ := hew
  obtain ⟨L, vm0, k0, X, e, N, hSi, hk, HD⟩ := X
  subst e
  have e : T.heap = T.heap := rfl
  have AT := CHv.at X (State.Warmed39.trans hZ hSi.1) hew HD.1.1
  obtain ⟨fs, hr', hrun, hended, hE⟩ := X.leaveW hSi (by rw [e]; exact hk) (v := none) (fun _ => rfl) hlk
  subst hr
  refine ⟨_, _, ?_, hrun, hended, none, L, rfl, ⟨⟨sf, ?_, fun x hx' => ⟨(HD.2 x hx').1, AT.safe (HD.2 x hx').1 (HD.2 x hx').2⟩⟩, N⟩, HD.1.trans AT, hE.1, hE.2.1, hE.2.2.1, hE.2.2.2.mono (hR ▸ hC) (hR ▸ hS)⟩
  · exact X.returnOut hx hret (hb hby hd) hr'
  · exact q
theorem k_ret {w : Value} {t : FieldType} {i : Instr} {rest : List Value} (G : Ctx Γ Z EL own bytes maxl ret nm rm hs0) (X : W Γ n0 T h C S sf) (hd : decode bytes pc = .ok (i, 1)) (hr : ret = some t) (hn : narrow t w = w)
    (hi : (i = .ireturn ∧ (t = .int ∨ t = .boolean ∨ t = .byte ∨ t = .char ∨ t = .short) ∧ ∃ z, w = .int z) ∨ (i = .lreturn ∧ t = .long ∧ ∃ z, w = .long z) ∨ (i = .dreturn ∧ t = .double ∧ ∃ z, w = .double z) ∨ (i = .freturn ∧ t = .float ∧ ∃ z, w = .float z) ∨ (i = .areturn ∧ t.isReference = true ∧ w.isRef = true))
    (q : Q (some w) h sf) (hC : C ≤ rm.cells) (hS : S ≤ rm.slots) : Go Γ n0 Q T (mkF Γ.m pc Ls (w :: rest)) := by
  obtain ⟨hx, hZ, hown, hby, hml, hret, hnm, hlk, hR, hsH, hzz, hel, hew⟩ := G
  subst hzz hel
  obtain ⟨aw, hew⟩ := hew
  obtain ⟨L, vm0, k0, X, e, N, hSi, hk, HD⟩ := X
  subst e
  have e : T.heap = T.heap := rfl
  have AT := CHv.at X (State.Warmed39.trans hZ hSi.1) hew HD.1.1
  subst hr
  obtain ⟨fs, hr', hrun, hended, hE⟩ := X.leaveW hSi (by rw [e]; exact hk) (v := some w) (fun h => by rw [hret] at h; cases h) hlk
  refine ⟨_, _, ?_, hrun, hended, some w, L, rfl, ⟨⟨sf, ?_, fun x hx' => ⟨(HD.2 x hx').1, AT.safe (HD.2 x hx').1 (HD.2 x hx').2⟩⟩, N⟩, HD.1.trans AT, hE.1, hE.2.1, hE.2.2.1, hE.2.2.2.mono (hR ▸ hC) (hR ▸ hS)⟩
  · exact retOut X hx hret hn hi (hb hby hd) hr'
  · exact q
theorem k_reti {z : Int32} {rest : List Value} (G : Ctx Γ Z EL own bytes maxl ret nm rm hs0) (X : W Γ n0 T h C S sf) (hd : decode bytes pc = .ok (.ireturn, 1)) (hr : ret = some .int) (q : Q (some (.int z)) h sf) (hC : C ≤ rm.cells) (hS : S ≤ rm.slots) : Go Γ n0 Q T (mkF Γ.m pc Ls (.int z :: rest)) :=
  k_ret G X hd hr rfl (Or.inl ⟨rfl, Or.inl rfl, _, rfl⟩) q hC hS
theorem k_retb {z : Int32} {rest : List Value} {t : FieldType} (G : Ctx Γ Z EL own bytes maxl ret nm rm hs0) (X : W Γ n0 T h C S sf) (hd : decode bytes pc = .ok (.ireturn, 1)) (hr : ret = some t) (ht : t = .int ∨ t = .boolean ∨ t = .byte ∨ t = .char ∨ t = .short) (hn : narrow t (.int z) = .int z) (q : Q (some (.int z)) h sf) (hC : C ≤ rm.cells) (hS : S ≤ rm.slots) : Go Γ n0 Q T (mkF Γ.m pc Ls (.int z :: rest)) :=
  k_ret G X hd hr hn (Or.inl ⟨rfl, ht, _, rfl⟩) q hC hS
theorem k_retl {z : Int64} {rest : List Value} (G : Ctx Γ Z EL own bytes maxl ret nm rm hs0) (X : W Γ n0 T h C S sf) (hd : decode bytes pc = .ok (.lreturn, 1)) (hr : ret = some .long) (q : Q (some (.long z)) h sf) (hC : C ≤ rm.cells) (hS : S ≤ rm.slots) : Go Γ n0 Q T (mkF Γ.m pc Ls (.long z :: rest)) :=
  k_ret G X hd hr rfl (Or.inr (Or.inl ⟨rfl, rfl, _, rfl⟩)) q hC hS
theorem narrow_ref {t : FieldType} {w : Value} (ht : t.isReference = true) : narrow t w = w := by cases t <;> first | (cases ht; done) | (cases w <;> rfl)
theorem k_reta {w : Value} {rest : List Value} {t : FieldType} (G : Ctx Γ Z EL own bytes maxl ret nm rm hs0) (X : W Γ n0 T h C S sf) (hd : decode bytes pc = .ok (.areturn, 1)) (hr : ret = some t) (ht : t.isReference = true) (hv : w.isRef = true) (q : Q (some w) h sf) (hC : C ≤ rm.cells) (hS : S ≤ rm.slots) : Go Γ n0 Q T (mkF Γ.m pc Ls (w :: rest)) :=
  k_ret G X hd hr (narrow_ref ht) (Or.inr (Or.inr (Or.inr (Or.inr ⟨rfl, ht, hv⟩)))) q hC hS
theorem k_iloadN {k : Fin 4} {v : Int32} (G : Ctx Γ Z EL own bytes maxl ret nm rm hs0) (X : W Γ n0 T h C S sf) (hd : decode bytes pc = .ok (.iload_n k, 1)) (hp : pc + 1 = pc') (hl : Ls[k.val]? = some (.val (.int v))) (K : Go Γ n0 Q T (mkF Γ.m pc' Ls (.int v :: st))) : Go Γ n0 Q T (mkF Γ.m pc Ls (st)) := by
  subst hp
  obtain ⟨hx, hZ0, hown0, hby, hml, hret, hnm, hlk, hR, hsH, hzz, hel, hew⟩ := G
  subst hzz hel
  obtain ⟨aw, hew⟩ := hew
  obtain ⟨L, vm0, k0, X, e, N, hS, hk, HD⟩ := X
  have hZ : Γ.Z.Warmed39 (Γ.s.setVm vm0).vm := State.Warmed39.trans hZ0 hS.1
  have hown : (Γ.s.setVm vm0).vm.findClass own = some Γ.m.cls := by rw [show (Γ.s.setVm vm0).vm = vm0 from rfl, hS.1.alike.findClass]; exact hown0
  exact Go.of (fun t k => XS.iloadN X.here hx rfl (hb hby hd) hl k) K
theorem k_iload {k : Nat} {v : Int32} (G : Ctx Γ Z EL own bytes maxl ret nm rm hs0) (X : W Γ n0 T h C S sf) (hd : decode bytes pc = .ok (.iload k, 2)) (hp : pc + 2 = pc') (hl : Ls[k]? = some (.val (.int v))) (K : Go Γ n0 Q T (mkF Γ.m pc' Ls (.int v :: st))) : Go Γ n0 Q T (mkF Γ.m pc Ls (st)) := by
  subst hp
  obtain ⟨hx, hZ0, hown0, hby, hml, hret, hnm, hlk, hR, hsH, hzz, hel, hew⟩ := G
  subst hzz hel
  obtain ⟨aw, hew⟩ := hew
  obtain ⟨L, vm0, k0, X, e, N, hS, hk, HD⟩ := X
  have hZ : Γ.Z.Warmed39 (Γ.s.setVm vm0).vm := State.Warmed39.trans hZ0 hS.1
  have hown : (Γ.s.setVm vm0).vm.findClass own = some Γ.m.cls := by rw [show (Γ.s.setVm vm0).vm = vm0 from rfl, hS.1.alike.findClass]; exact hown0
  exact Go.of (fun t k => XS.iload X.here hx rfl (hb hby hd) hl k) K
theorem k_lloadN {k : Fin 4} {v : Int64} (G : Ctx Γ Z EL own bytes maxl ret nm rm hs0) (X : W Γ n0 T h C S sf) (hd : decode bytes pc = .ok (.lload_n k, 1)) (hp : pc + 1 = pc') (hl : Ls[k.val]? = some (.val (.long v))) (K : Go Γ n0 Q T (mkF Γ.m pc' Ls (.long v :: st))) : Go Γ n0 Q T (mkF Γ.m pc Ls (st)) := by
  subst hp
  obtain ⟨hx, hZ0, hown0, hby, hml, hret, hnm, hlk, hR, hsH, hzz, hel, hew⟩ := G
  subst hzz hel
  obtain ⟨aw, hew⟩ := hew
  obtain ⟨L, vm0, k0, X, e, N, hS, hk, HD⟩ := X
  have hZ : Γ.Z.Warmed39 (Γ.s.setVm vm0).vm := State.Warmed39.trans hZ0 hS.1
  have hown : (Γ.s.setVm vm0).vm.findClass own = some Γ.m.cls := by rw [show (Γ.s.setVm vm0).vm = vm0 from rfl, hS.1.alike.findClass]; exact hown0
  exact Go.of (fun t k => XS.lloadN X.here hx rfl (hb hby hd) hl k) K
theorem k_lload {k : Nat} {v : Int64} (G : Ctx Γ Z EL own bytes maxl ret nm rm hs0) (X : W Γ n0 T h C S sf) (hd : decode bytes pc = .ok (.lload k, 2)) (hp : pc + 2 = pc') (hl : Ls[k]? = some (.val (.long v))) (K : Go Γ n0 Q T (mkF Γ.m pc' Ls (.long v :: st))) : Go Γ n0 Q T (mkF Γ.m pc Ls (st)) := by
  subst hp
  obtain ⟨hx, hZ0, hown0, hby, hml, hret, hnm, hlk, hR, hsH, hzz, hel, hew⟩ := G
  subst hzz hel
  obtain ⟨aw, hew⟩ := hew
  obtain ⟨L, vm0, k0, X, e, N, hS, hk, HD⟩ := X
  have hZ : Γ.Z.Warmed39 (Γ.s.setVm vm0).vm := State.Warmed39.trans hZ0 hS.1
  have hown : (Γ.s.setVm vm0).vm.findClass own = some Γ.m.cls := by rw [show (Γ.s.setVm vm0).vm = vm0 from rfl, hS.1.alike.findClass]; exact hown0
  exact Go.of (fun t k => XS.lload X.here hx rfl (hb hby hd) hl k) K
theorem k_aloadN {k : Fin 4} {v : Value} (G : Ctx Γ Z EL own bytes maxl ret nm rm hs0) (X : W Γ n0 T h C S sf) (hd : decode bytes pc = .ok (.aload_n k, 1)) (hp : pc + 1 = pc') (hl : Ls[k.val]? = some (.val v)) (hv : v.isRef = true) (K : Go Γ n0 Q T (mkF Γ.m pc' Ls (v :: st))) : Go Γ n0 Q T (mkF Γ.m pc Ls (st)) := by
  subst hp
  obtain ⟨hx, hZ0, hown0, hby, hml, hret, hnm, hlk, hR, hsH, hzz, hel, hew⟩ := G
  subst hzz hel
  obtain ⟨aw, hew⟩ := hew
  obtain ⟨L, vm0, k0, X, e, N, hS, hk, HD⟩ := X
  have hZ : Γ.Z.Warmed39 (Γ.s.setVm vm0).vm := State.Warmed39.trans hZ0 hS.1
  have hown : (Γ.s.setVm vm0).vm.findClass own = some Γ.m.cls := by rw [show (Γ.s.setVm vm0).vm = vm0 from rfl, hS.1.alike.findClass]; exact hown0
  exact Go.of (fun t k => XS.aloadN X.here hx rfl (hb hby hd) hl hv k) K
theorem k_aload {k : Nat} {v : Value} (G : Ctx Γ Z EL own bytes maxl ret nm rm hs0) (X : W Γ n0 T h C S sf) (hd : decode bytes pc = .ok (.aload k, 2)) (hp : pc + 2 = pc') (hl : Ls[k]? = some (.val v)) (hv : v.isRef = true) (K : Go Γ n0 Q T (mkF Γ.m pc' Ls (v :: st))) : Go Γ n0 Q T (mkF Γ.m pc Ls (st)) := by
  subst hp
  obtain ⟨hx, hZ0, hown0, hby, hml, hret, hnm, hlk, hR, hsH, hzz, hel, hew⟩ := G
  subst hzz hel
  obtain ⟨aw, hew⟩ := hew
  obtain ⟨L, vm0, k0, X, e, N, hS, hk, HD⟩ := X
  have hZ : Γ.Z.Warmed39 (Γ.s.setVm vm0).vm := State.Warmed39.trans hZ0 hS.1
  have hown : (Γ.s.setVm vm0).vm.findClass own = some Γ.m.cls := by rw [show (Γ.s.setVm vm0).vm = vm0 from rfl, hS.1.alike.findClass]; exact hown0
  exact Go.of (fun t k => XS.aload X.here hx rfl (hb hby hd) hl hv k) K
theorem k_istoreN {k : Fin 4} {v : Int32} {l' : Array Slot} (G : Ctx Γ Z EL own bytes maxl ret nm rm hs0) (X : W Γ n0 T h C S sf) (hd : decode bytes pc = .ok (.istore_n k, 1)) (hp : pc + 1 = pc') (hl : storeLocals Ls k.val (.int v) = some l') (K : Go Γ n0 Q T (mkF Γ.m pc' l' (st))) : Go Γ n0 Q T (mkF Γ.m pc Ls (.int v :: st)) := by
  subst hp
  obtain ⟨hx, hZ0, hown0, hby, hml, hret, hnm, hlk, hR, hsH, hzz, hel, hew⟩ := G
  subst hzz hel
  obtain ⟨aw, hew⟩ := hew
  obtain ⟨L, vm0, k0, X, e, N, hS, hk, HD⟩ := X
  have hZ : Γ.Z.Warmed39 (Γ.s.setVm vm0).vm := State.Warmed39.trans hZ0 hS.1
  have hown : (Γ.s.setVm vm0).vm.findClass own = some Γ.m.cls := by rw [show (Γ.s.setVm vm0).vm = vm0 from rfl, hS.1.alike.findClass]; exact hown0
  exact Go.of (fun t k => XS.istoreN X.here hx rfl (hb hby hd) rfl hl k) K
theorem k_istore {k : Nat} {v : Int32} {l' : Array Slot} (G : Ctx Γ Z EL own bytes maxl ret nm rm hs0) (X : W Γ n0 T h C S sf) (hd : decode bytes pc = .ok (.istore k, 2)) (hp : pc + 2 = pc') (hl : storeLocals Ls k (.int v) = some l') (K : Go Γ n0 Q T (mkF Γ.m pc' l' (st))) : Go Γ n0 Q T (mkF Γ.m pc Ls (.int v :: st)) := by
  subst hp
  obtain ⟨hx, hZ0, hown0, hby, hml, hret, hnm, hlk, hR, hsH, hzz, hel, hew⟩ := G
  subst hzz hel
  obtain ⟨aw, hew⟩ := hew
  obtain ⟨L, vm0, k0, X, e, N, hS, hk, HD⟩ := X
  have hZ : Γ.Z.Warmed39 (Γ.s.setVm vm0).vm := State.Warmed39.trans hZ0 hS.1
  have hown : (Γ.s.setVm vm0).vm.findClass own = some Γ.m.cls := by rw [show (Γ.s.setVm vm0).vm = vm0 from rfl, hS.1.alike.findClass]; exact hown0
  exact Go.of (fun t k => XS.istore X.here hx rfl (hb hby hd) rfl hl k) K
theorem k_lstoreN {k : Fin 4} {v : Int64} {l' : Array Slot} (G : Ctx Γ Z EL own bytes maxl ret nm rm hs0) (X : W Γ n0 T h C S sf) (hd : decode bytes pc = .ok (.lstore_n k, 1)) (hp : pc + 1 = pc') (hl : storeLocals Ls k.val (.long v) = some l') (K : Go Γ n0 Q T (mkF Γ.m pc' l' (st))) : Go Γ n0 Q T (mkF Γ.m pc Ls (.long v :: st)) := by
  subst hp
  obtain ⟨hx, hZ0, hown0, hby, hml, hret, hnm, hlk, hR, hsH, hzz, hel, hew⟩ := G
  subst hzz hel
  obtain ⟨aw, hew⟩ := hew
  obtain ⟨L, vm0, k0, X, e, N, hS, hk, HD⟩ := X
  have hZ : Γ.Z.Warmed39 (Γ.s.setVm vm0).vm := State.Warmed39.trans hZ0 hS.1
  have hown : (Γ.s.setVm vm0).vm.findClass own = some Γ.m.cls := by rw [show (Γ.s.setVm vm0).vm = vm0 from rfl, hS.1.alike.findClass]; exact hown0
  exact Go.of (fun t k => XS.lstoreN X.here hx rfl (hb hby hd) rfl hl k) K
theorem k_lstore {k : Nat} {v : Int64} {l' : Array Slot} (G : Ctx Γ Z EL own bytes maxl ret nm rm hs0) (X : W Γ n0 T h C S sf) (hd : decode bytes pc = .ok (.lstore k, 2)) (hp : pc + 2 = pc') (hl : storeLocals Ls k (.long v) = some l') (K : Go Γ n0 Q T (mkF Γ.m pc' l' (st))) : Go Γ n0 Q T (mkF Γ.m pc Ls (.long v :: st)) := by
  subst hp
  obtain ⟨hx, hZ0, hown0, hby, hml, hret, hnm, hlk, hR, hsH, hzz, hel, hew⟩ := G
  subst hzz hel
  obtain ⟨aw, hew⟩ := hew
  obtain ⟨L, vm0, k0, X, e, N, hS, hk, HD⟩ := X
  have hZ : Γ.Z.Warmed39 (Γ.s.setVm vm0).vm := State.Warmed39.trans hZ0 hS.1
  have hown : (Γ.s.setVm vm0).vm.findClass own = some Γ.m.cls := by rw [show (Γ.s.setVm vm0).vm = vm0 from rfl, hS.1.alike.findClass]; exact hown0
  exact Go.of (fun t k => XS.lstore X.here hx rfl (hb hby hd) rfl hl k) K
theorem k_astoreN {k : Fin 4} {v : Value} {l' : Array Slot} (G : Ctx Γ Z EL own bytes maxl ret nm rm hs0) (X : W Γ n0 T h C S sf) (hd : decode bytes pc = .ok (.astore_n k, 1)) (hp : pc + 1 = pc') (hv : v.isRef = true) (hl : storeLocals Ls k.val v = some l') (K : Go Γ n0 Q T (mkF Γ.m pc' l' (st))) : Go Γ n0 Q T (mkF Γ.m pc Ls (v :: st)) := by
  subst hp
  obtain ⟨hx, hZ0, hown0, hby, hml, hret, hnm, hlk, hR, hsH, hzz, hel, hew⟩ := G
  subst hzz hel
  obtain ⟨aw, hew⟩ := hew
  obtain ⟨L, vm0, k0, X, e, N, hS, hk, HD⟩ := X
  have hZ : Γ.Z.Warmed39 (Γ.s.setVm vm0).vm := State.Warmed39.trans hZ0 hS.1
  have hown : (Γ.s.setVm vm0).vm.findClass own = some Γ.m.cls := by rw [show (Γ.s.setVm vm0).vm = vm0 from rfl, hS.1.alike.findClass]; exact hown0
  exact Go.of (fun t k => XS.astoreN X.here hx rfl (hb hby hd) rfl hv hl k) K
theorem k_astore {k : Nat} {v : Value} {l' : Array Slot} (G : Ctx Γ Z EL own bytes maxl ret nm rm hs0) (X : W Γ n0 T h C S sf) (hd : decode bytes pc = .ok (.astore k, 2)) (hp : pc + 2 = pc') (hv : v.isRef = true) (hl : storeLocals Ls k v = some l') (K : Go Γ n0 Q T (mkF Γ.m pc' l' (st))) : Go Γ n0 Q T (mkF Γ.m pc Ls (v :: st)) := by
  subst hp
  obtain ⟨hx, hZ0, hown0, hby, hml, hret, hnm, hlk, hR, hsH, hzz, hel, hew⟩ := G
  subst hzz hel
  obtain ⟨aw, hew⟩ := hew
  obtain ⟨L, vm0, k0, X, e, N, hS, hk, HD⟩ := X
  have hZ : Γ.Z.Warmed39 (Γ.s.setVm vm0).vm := State.Warmed39.trans hZ0 hS.1
  have hown : (Γ.s.setVm vm0).vm.findClass own = some Γ.m.cls := by rw [show (Γ.s.setVm vm0).vm = vm0 from rfl, hS.1.alike.findClass]; exact hown0
  exact Go.of (fun t k => XS.astore X.here hx rfl (hb hby hd) rfl hv hl k) K
theorem k_iconst {i : Int} {z : Int32} (G : Ctx Γ Z EL own bytes maxl ret nm rm hs0) (X : W Γ n0 T h C S sf) (hd : decode bytes pc = .ok (.iconst i, 1)) (hp : pc + 1 = pc') (hz : Int32.ofInt i = z) (K : Go Γ n0 Q T (mkF Γ.m pc' Ls (.int z :: st))) : Go Γ n0 Q T (mkF Γ.m pc Ls (st)) := by
  subst hp
  obtain ⟨hx, hZ0, hown0, hby, hml, hret, hnm, hlk, hR, hsH, hzz, hel, hew⟩ := G
  subst hzz hel
  obtain ⟨aw, hew⟩ := hew
  obtain ⟨L, vm0, k0, X, e, N, hS, hk, HD⟩ := X
  have hZ : Γ.Z.Warmed39 (Γ.s.setVm vm0).vm := State.Warmed39.trans hZ0 hS.1
  have hown : (Γ.s.setVm vm0).vm.findClass own = some Γ.m.cls := by rw [show (Γ.s.setVm vm0).vm = vm0 from rfl, hS.1.alike.findClass]; exact hown0
  subst hz
  exact Go.of (fun t k => XS.iconst X.here hx rfl (hb hby hd) k) K
theorem k_bipush {i : Int} {z : Int32} (G : Ctx Γ Z EL own bytes maxl ret nm rm hs0) (X : W Γ n0 T h C S sf) (hd : decode bytes pc = .ok (.bipush i, 2)) (hp : pc + 2 = pc') (hz : (Int8.ofInt i).toInt32 = z) (K : Go Γ n0 Q T (mkF Γ.m pc' Ls (.int z :: st))) : Go Γ n0 Q T (mkF Γ.m pc Ls (st)) := by
  subst hp
  obtain ⟨hx, hZ0, hown0, hby, hml, hret, hnm, hlk, hR, hsH, hzz, hel, hew⟩ := G
  subst hzz hel
  obtain ⟨aw, hew⟩ := hew
  obtain ⟨L, vm0, k0, X, e, N, hS, hk, HD⟩ := X
  have hZ : Γ.Z.Warmed39 (Γ.s.setVm vm0).vm := State.Warmed39.trans hZ0 hS.1
  have hown : (Γ.s.setVm vm0).vm.findClass own = some Γ.m.cls := by rw [show (Γ.s.setVm vm0).vm = vm0 from rfl, hS.1.alike.findClass]; exact hown0
  subst hz
  exact Go.of (fun t k => XS.bipush X.here hx rfl (hb hby hd) k) K
theorem k_sipush {i : Int} {z : Int32} (G : Ctx Γ Z EL own bytes maxl ret nm rm hs0) (X : W Γ n0 T h C S sf) (hd : decode bytes pc = .ok (.sipush i, 3)) (hp : pc + 3 = pc') (hz : (Int16.ofInt i).toInt32 = z) (K : Go Γ n0 Q T (mkF Γ.m pc' Ls (.int z :: st))) : Go Γ n0 Q T (mkF Γ.m pc Ls (st)) := by
  subst hp
  obtain ⟨hx, hZ0, hown0, hby, hml, hret, hnm, hlk, hR, hsH, hzz, hel, hew⟩ := G
  subst hzz hel
  obtain ⟨aw, hew⟩ := hew
  obtain ⟨L, vm0, k0, X, e, N, hS, hk, HD⟩ := X
  have hZ : Γ.Z.Warmed39 (Γ.s.setVm vm0).vm := State.Warmed39.trans hZ0 hS.1
  have hown : (Γ.s.setVm vm0).vm.findClass own = some Γ.m.cls := by rw [show (Γ.s.setVm vm0).vm = vm0 from rfl, hS.1.alike.findClass]; exact hown0
  subst hz
  exact Go.of (fun t k => XS.sipush X.here hx rfl (hb hby hd) k) K
theorem k_lconst {i : Fin 2} {z : Int64} (G : Ctx Γ Z EL own bytes maxl ret nm rm hs0) (X : W Γ n0 T h C S sf) (hd : decode bytes pc = .ok (.lconst i, 1)) (hp : pc + 1 = pc') (hz : Int64.ofNat i = z) (K : Go Γ n0 Q T (mkF Γ.m pc' Ls (.long z :: st))) : Go Γ n0 Q T (mkF Γ.m pc Ls (st)) := by
  subst hp
  obtain ⟨hx, hZ0, hown0, hby, hml, hret, hnm, hlk, hR, hsH, hzz, hel, hew⟩ := G
  subst hzz hel
  obtain ⟨aw, hew⟩ := hew
  obtain ⟨L, vm0, k0, X, e, N, hS, hk, HD⟩ := X
  have hZ : Γ.Z.Warmed39 (Γ.s.setVm vm0).vm := State.Warmed39.trans hZ0 hS.1
  have hown : (Γ.s.setVm vm0).vm.findClass own = some Γ.m.cls := by rw [show (Γ.s.setVm vm0).vm = vm0 from rfl, hS.1.alike.findClass]; exact hown0
  subst hz
  exact Go.of (fun t k => XS.lconst X.here hx rfl (hb hby hd) k) K
theorem k_anull  (G : Ctx Γ Z EL own bytes maxl ret nm rm hs0) (X : W Γ n0 T h C S sf) (hd : decode bytes pc = .ok (.aconst_null, 1)) (hp : pc + 1 = pc')  (K : Go Γ n0 Q T (mkF Γ.m pc' Ls (.null :: st))) : Go Γ n0 Q T (mkF Γ.m pc Ls (st)) := by
  subst hp
  obtain ⟨hx, hZ0, hown0, hby, hml, hret, hnm, hlk, hR, hsH, hzz, hel, hew⟩ := G
  subst hzz hel
  obtain ⟨aw, hew⟩ := hew
  obtain ⟨L, vm0, k0, X, e, N, hS, hk, HD⟩ := X
  have hZ : Γ.Z.Warmed39 (Γ.s.setVm vm0).vm := State.Warmed39.trans hZ0 hS.1
  have hown : (Γ.s.setVm vm0).vm.findClass own = some Γ.m.cls := by rw [show (Γ.s.setVm vm0).vm = vm0 from rfl, hS.1.alike.findClass]; exact hown0
  exact Go.of (fun t k => XS.aconstNull X.here hx rfl (hb hby hd) k) K
theorem k_iadd {x y z : Int32} (G : Ctx Γ Z EL own bytes maxl ret nm rm hs0) (X : W Γ n0 T h C S sf) (hd : decode bytes pc = .ok (.iadd, 1)) (hp : pc + 1 = pc') (hz : x + y = z) (K : Go Γ n0 Q T (mkF Γ.m pc' Ls (.int z :: st))) : Go Γ n0 Q T (mkF Γ.m pc Ls (.int y :: .int x :: st)) := by
  subst hp
  obtain ⟨hx, hZ0, hown0, hby, hml, hret, hnm, hlk, hR, hsH, hzz, hel, hew⟩ := G
  subst hzz hel
  obtain ⟨aw, hew⟩ := hew
  obtain ⟨L, vm0, k0, X, e, N, hS, hk, HD⟩ := X
  have hZ : Γ.Z.Warmed39 (Γ.s.setVm vm0).vm := State.Warmed39.trans hZ0 hS.1
  have hown : (Γ.s.setVm vm0).vm.findClass own = some Γ.m.cls := by rw [show (Γ.s.setVm vm0).vm = vm0 from rfl, hS.1.alike.findClass]; exact hown0
  subst hz
  exact Go.of (fun t k => XS.iadd X.here hx rfl (hb hby hd) rfl k) K
theorem k_isub {x y z : Int32} (G : Ctx Γ Z EL own bytes maxl ret nm rm hs0) (X : W Γ n0 T h C S sf) (hd : decode bytes pc = .ok (.isub, 1)) (hp : pc + 1 = pc') (hz : x - y = z) (K : Go Γ n0 Q T (mkF Γ.m pc' Ls (.int z :: st))) : Go Γ n0 Q T (mkF Γ.m pc Ls (.int y :: .int x :: st)) := by
  subst hp
  obtain ⟨hx, hZ0, hown0, hby, hml, hret, hnm, hlk, hR, hsH, hzz, hel, hew⟩ := G
  subst hzz hel
  obtain ⟨aw, hew⟩ := hew
  obtain ⟨L, vm0, k0, X, e, N, hS, hk, HD⟩ := X
  have hZ : Γ.Z.Warmed39 (Γ.s.setVm vm0).vm := State.Warmed39.trans hZ0 hS.1
  have hown : (Γ.s.setVm vm0).vm.findClass own = some Γ.m.cls := by rw [show (Γ.s.setVm vm0).vm = vm0 from rfl, hS.1.alike.findClass]; exact hown0
  subst hz
  exact Go.of (fun t k => XS.isub X.here hx rfl (hb hby hd) rfl k) K
theorem k_imul {x y z : Int32} (G : Ctx Γ Z EL own bytes maxl ret nm rm hs0) (X : W Γ n0 T h C S sf) (hd : decode bytes pc = .ok (.imul, 1)) (hp : pc + 1 = pc') (hz : x * y = z) (K : Go Γ n0 Q T (mkF Γ.m pc' Ls (.int z :: st))) : Go Γ n0 Q T (mkF Γ.m pc Ls (.int y :: .int x :: st)) := by
  subst hp
  obtain ⟨hx, hZ0, hown0, hby, hml, hret, hnm, hlk, hR, hsH, hzz, hel, hew⟩ := G
  subst hzz hel
  obtain ⟨aw, hew⟩ := hew
  obtain ⟨L, vm0, k0, X, e, N, hS, hk, HD⟩ := X
  have hZ : Γ.Z.Warmed39 (Γ.s.setVm vm0).vm := State.Warmed39.trans hZ0 hS.1
  have hown : (Γ.s.setVm vm0).vm.findClass own = some Γ.m.cls := by rw [show (Γ.s.setVm vm0).vm = vm0 from rfl, hS.1.alike.findClass]; exact hown0
  subst hz
  exact Go.of (fun t k => XS.imul X.here hx rfl (hb hby hd) rfl k) K
theorem k_iand {x y z : Int32} (G : Ctx Γ Z EL own bytes maxl ret nm rm hs0) (X : W Γ n0 T h C S sf) (hd : decode bytes pc = .ok (.iand, 1)) (hp : pc + 1 = pc') (hz : x &&& y = z) (K : Go Γ n0 Q T (mkF Γ.m pc' Ls (.int z :: st))) : Go Γ n0 Q T (mkF Γ.m pc Ls (.int y :: .int x :: st)) := by
  subst hp
  obtain ⟨hx, hZ0, hown0, hby, hml, hret, hnm, hlk, hR, hsH, hzz, hel, hew⟩ := G
  subst hzz hel
  obtain ⟨aw, hew⟩ := hew
  obtain ⟨L, vm0, k0, X, e, N, hS, hk, HD⟩ := X
  have hZ : Γ.Z.Warmed39 (Γ.s.setVm vm0).vm := State.Warmed39.trans hZ0 hS.1
  have hown : (Γ.s.setVm vm0).vm.findClass own = some Γ.m.cls := by rw [show (Γ.s.setVm vm0).vm = vm0 from rfl, hS.1.alike.findClass]; exact hown0
  subst hz
  exact Go.of (fun t k => XS.iand X.here hx rfl (hb hby hd) rfl k) K
theorem k_ior {x y z : Int32} (G : Ctx Γ Z EL own bytes maxl ret nm rm hs0) (X : W Γ n0 T h C S sf) (hd : decode bytes pc = .ok (.ior, 1)) (hp : pc + 1 = pc') (hz : x ||| y = z) (K : Go Γ n0 Q T (mkF Γ.m pc' Ls (.int z :: st))) : Go Γ n0 Q T (mkF Γ.m pc Ls (.int y :: .int x :: st)) := by
  subst hp
  obtain ⟨hx, hZ0, hown0, hby, hml, hret, hnm, hlk, hR, hsH, hzz, hel, hew⟩ := G
  subst hzz hel
  obtain ⟨aw, hew⟩ := hew
  obtain ⟨L, vm0, k0, X, e, N, hS, hk, HD⟩ := X
  have hZ : Γ.Z.Warmed39 (Γ.s.setVm vm0).vm := State.Warmed39.trans hZ0 hS.1
  have hown : (Γ.s.setVm vm0).vm.findClass own = some Γ.m.cls := by rw [show (Γ.s.setVm vm0).vm = vm0 from rfl, hS.1.alike.findClass]; exact hown0
  subst hz
  exact Go.of (fun t k => XS.ior X.here hx rfl (hb hby hd) rfl k) K
theorem k_ixor {x y z : Int32} (G : Ctx Γ Z EL own bytes maxl ret nm rm hs0) (X : W Γ n0 T h C S sf) (hd : decode bytes pc = .ok (.ixor, 1)) (hp : pc + 1 = pc') (hz : x ^^^ y = z) (K : Go Γ n0 Q T (mkF Γ.m pc' Ls (.int z :: st))) : Go Γ n0 Q T (mkF Γ.m pc Ls (.int y :: .int x :: st)) := by
  subst hp
  obtain ⟨hx, hZ0, hown0, hby, hml, hret, hnm, hlk, hR, hsH, hzz, hel, hew⟩ := G
  subst hzz hel
  obtain ⟨aw, hew⟩ := hew
  obtain ⟨L, vm0, k0, X, e, N, hS, hk, HD⟩ := X
  have hZ : Γ.Z.Warmed39 (Γ.s.setVm vm0).vm := State.Warmed39.trans hZ0 hS.1
  have hown : (Γ.s.setVm vm0).vm.findClass own = some Γ.m.cls := by rw [show (Γ.s.setVm vm0).vm = vm0 from rfl, hS.1.alike.findClass]; exact hown0
  subst hz
  exact Go.of (fun t k => XS.ixor X.here hx rfl (hb hby hd) rfl k) K
theorem k_ishl {x y z : Int32} (G : Ctx Γ Z EL own bytes maxl ret nm rm hs0) (X : W Γ n0 T h C S sf) (hd : decode bytes pc = .ok (.ishl, 1)) (hp : pc + 1 = pc') (hz : x <<< (y &&& 31) = z) (K : Go Γ n0 Q T (mkF Γ.m pc' Ls (.int z :: st))) : Go Γ n0 Q T (mkF Γ.m pc Ls (.int y :: .int x :: st)) := by
  subst hp
  obtain ⟨hx, hZ0, hown0, hby, hml, hret, hnm, hlk, hR, hsH, hzz, hel, hew⟩ := G
  subst hzz hel
  obtain ⟨aw, hew⟩ := hew
  obtain ⟨L, vm0, k0, X, e, N, hS, hk, HD⟩ := X
  have hZ : Γ.Z.Warmed39 (Γ.s.setVm vm0).vm := State.Warmed39.trans hZ0 hS.1
  have hown : (Γ.s.setVm vm0).vm.findClass own = some Γ.m.cls := by rw [show (Γ.s.setVm vm0).vm = vm0 from rfl, hS.1.alike.findClass]; exact hown0
  subst hz
  exact Go.of (fun t k => XS.ishl X.here hx rfl (hb hby hd) rfl k) K
theorem k_ishr {x y z : Int32} (G : Ctx Γ Z EL own bytes maxl ret nm rm hs0) (X : W Γ n0 T h C S sf) (hd : decode bytes pc = .ok (.ishr, 1)) (hp : pc + 1 = pc') (hz : x >>> (y &&& 31) = z) (K : Go Γ n0 Q T (mkF Γ.m pc' Ls (.int z :: st))) : Go Γ n0 Q T (mkF Γ.m pc Ls (.int y :: .int x :: st)) := by
  subst hp
  obtain ⟨hx, hZ0, hown0, hby, hml, hret, hnm, hlk, hR, hsH, hzz, hel, hew⟩ := G
  subst hzz hel
  obtain ⟨aw, hew⟩ := hew
  obtain ⟨L, vm0, k0, X, e, N, hS, hk, HD⟩ := X
  have hZ : Γ.Z.Warmed39 (Γ.s.setVm vm0).vm := State.Warmed39.trans hZ0 hS.1
  have hown : (Γ.s.setVm vm0).vm.findClass own = some Γ.m.cls := by rw [show (Γ.s.setVm vm0).vm = vm0 from rfl, hS.1.alike.findClass]; exact hown0
  subst hz
  exact Go.of (fun t k => XS.ishr X.here hx rfl (hb hby hd) rfl k) K
theorem k_iushr {x y z : Int32} (G : Ctx Γ Z EL own bytes maxl ret nm rm hs0) (X : W Γ n0 T h C S sf) (hd : decode bytes pc = .ok (.iushr, 1)) (hp : pc + 1 = pc') (hz : (x.toUInt32 >>> (y &&& 31).toUInt32).toInt32 = z) (K : Go Γ n0 Q T (mkF Γ.m pc' Ls (.int z :: st))) : Go Γ n0 Q T (mkF Γ.m pc Ls (.int y :: .int x :: st)) := by
  subst hp
  obtain ⟨hx, hZ0, hown0, hby, hml, hret, hnm, hlk, hR, hsH, hzz, hel, hew⟩ := G
  subst hzz hel
  obtain ⟨aw, hew⟩ := hew
  obtain ⟨L, vm0, k0, X, e, N, hS, hk, HD⟩ := X
  have hZ : Γ.Z.Warmed39 (Γ.s.setVm vm0).vm := State.Warmed39.trans hZ0 hS.1
  have hown : (Γ.s.setVm vm0).vm.findClass own = some Γ.m.cls := by rw [show (Γ.s.setVm vm0).vm = vm0 from rfl, hS.1.alike.findClass]; exact hown0
  subst hz
  exact Go.of (fun t k => XS.iushr X.here hx rfl (hb hby hd) rfl k) K
theorem k_ladd {x y z : Int64} (G : Ctx Γ Z EL own bytes maxl ret nm rm hs0) (X : W Γ n0 T h C S sf) (hd : decode bytes pc = .ok (.ladd, 1)) (hp : pc + 1 = pc') (hz : x + y = z) (K : Go Γ n0 Q T (mkF Γ.m pc' Ls (.long z :: st))) : Go Γ n0 Q T (mkF Γ.m pc Ls (.long y :: .long x :: st)) := by
  subst hp
  obtain ⟨hx, hZ0, hown0, hby, hml, hret, hnm, hlk, hR, hsH, hzz, hel, hew⟩ := G
  subst hzz hel
  obtain ⟨aw, hew⟩ := hew
  obtain ⟨L, vm0, k0, X, e, N, hS, hk, HD⟩ := X
  have hZ : Γ.Z.Warmed39 (Γ.s.setVm vm0).vm := State.Warmed39.trans hZ0 hS.1
  have hown : (Γ.s.setVm vm0).vm.findClass own = some Γ.m.cls := by rw [show (Γ.s.setVm vm0).vm = vm0 from rfl, hS.1.alike.findClass]; exact hown0
  subst hz
  exact Go.of (fun t k => XS.ladd X.here hx rfl (hb hby hd) rfl k) K
theorem k_lsub {x y z : Int64} (G : Ctx Γ Z EL own bytes maxl ret nm rm hs0) (X : W Γ n0 T h C S sf) (hd : decode bytes pc = .ok (.lsub, 1)) (hp : pc + 1 = pc') (hz : x - y = z) (K : Go Γ n0 Q T (mkF Γ.m pc' Ls (.long z :: st))) : Go Γ n0 Q T (mkF Γ.m pc Ls (.long y :: .long x :: st)) := by
  subst hp
  obtain ⟨hx, hZ0, hown0, hby, hml, hret, hnm, hlk, hR, hsH, hzz, hel, hew⟩ := G
  subst hzz hel
  obtain ⟨aw, hew⟩ := hew
  obtain ⟨L, vm0, k0, X, e, N, hS, hk, HD⟩ := X
  have hZ : Γ.Z.Warmed39 (Γ.s.setVm vm0).vm := State.Warmed39.trans hZ0 hS.1
  have hown : (Γ.s.setVm vm0).vm.findClass own = some Γ.m.cls := by rw [show (Γ.s.setVm vm0).vm = vm0 from rfl, hS.1.alike.findClass]; exact hown0
  subst hz
  exact Go.of (fun t k => XS.lsub X.here hx rfl (hb hby hd) rfl k) K
theorem k_lmul {x y z : Int64} (G : Ctx Γ Z EL own bytes maxl ret nm rm hs0) (X : W Γ n0 T h C S sf) (hd : decode bytes pc = .ok (.lmul, 1)) (hp : pc + 1 = pc') (hz : x * y = z) (K : Go Γ n0 Q T (mkF Γ.m pc' Ls (.long z :: st))) : Go Γ n0 Q T (mkF Γ.m pc Ls (.long y :: .long x :: st)) := by
  subst hp
  obtain ⟨hx, hZ0, hown0, hby, hml, hret, hnm, hlk, hR, hsH, hzz, hel, hew⟩ := G
  subst hzz hel
  obtain ⟨aw, hew⟩ := hew
  obtain ⟨L, vm0, k0, X, e, N, hS, hk, HD⟩ := X
  have hZ : Γ.Z.Warmed39 (Γ.s.setVm vm0).vm := State.Warmed39.trans hZ0 hS.1
  have hown : (Γ.s.setVm vm0).vm.findClass own = some Γ.m.cls := by rw [show (Γ.s.setVm vm0).vm = vm0 from rfl, hS.1.alike.findClass]; exact hown0
  subst hz
  exact Go.of (fun t k => XS.lmul X.here hx rfl (hb hby hd) rfl k) K
theorem k_land {x y z : Int64} (G : Ctx Γ Z EL own bytes maxl ret nm rm hs0) (X : W Γ n0 T h C S sf) (hd : decode bytes pc = .ok (.land, 1)) (hp : pc + 1 = pc') (hz : x &&& y = z) (K : Go Γ n0 Q T (mkF Γ.m pc' Ls (.long z :: st))) : Go Γ n0 Q T (mkF Γ.m pc Ls (.long y :: .long x :: st)) := by
  subst hp
  obtain ⟨hx, hZ0, hown0, hby, hml, hret, hnm, hlk, hR, hsH, hzz, hel, hew⟩ := G
  subst hzz hel
  obtain ⟨aw, hew⟩ := hew
  obtain ⟨L, vm0, k0, X, e, N, hS, hk, HD⟩ := X
  have hZ : Γ.Z.Warmed39 (Γ.s.setVm vm0).vm := State.Warmed39.trans hZ0 hS.1
  have hown : (Γ.s.setVm vm0).vm.findClass own = some Γ.m.cls := by rw [show (Γ.s.setVm vm0).vm = vm0 from rfl, hS.1.alike.findClass]; exact hown0
  subst hz
  exact Go.of (fun t k => XS.land X.here hx rfl (hb hby hd) rfl k) K
theorem k_lor {x y z : Int64} (G : Ctx Γ Z EL own bytes maxl ret nm rm hs0) (X : W Γ n0 T h C S sf) (hd : decode bytes pc = .ok (.lor, 1)) (hp : pc + 1 = pc') (hz : x ||| y = z) (K : Go Γ n0 Q T (mkF Γ.m pc' Ls (.long z :: st))) : Go Γ n0 Q T (mkF Γ.m pc Ls (.long y :: .long x :: st)) := by
  subst hp
  obtain ⟨hx, hZ0, hown0, hby, hml, hret, hnm, hlk, hR, hsH, hzz, hel, hew⟩ := G
  subst hzz hel
  obtain ⟨aw, hew⟩ := hew
  obtain ⟨L, vm0, k0, X, e, N, hS, hk, HD⟩ := X
  have hZ : Γ.Z.Warmed39 (Γ.s.setVm vm0).vm := State.Warmed39.trans hZ0 hS.1
  have hown : (Γ.s.setVm vm0).vm.findClass own = some Γ.m.cls := by rw [show (Γ.s.setVm vm0).vm = vm0 from rfl, hS.1.alike.findClass]; exact hown0
  subst hz
  exact Go.of (fun t k => XS.lor X.here hx rfl (hb hby hd) rfl k) K
theorem k_lxor {x y z : Int64} (G : Ctx Γ Z EL own bytes maxl ret nm rm hs0) (X : W Γ n0 T h C S sf) (hd : decode bytes pc = .ok (.lxor, 1)) (hp : pc + 1 = pc') (hz : x ^^^ y = z) (K : Go Γ n0 Q T (mkF Γ.m pc' Ls (.long z :: st))) : Go Γ n0 Q T (mkF Γ.m pc Ls (.long y :: .long x :: st)) := by
  subst hp
  obtain ⟨hx, hZ0, hown0, hby, hml, hret, hnm, hlk, hR, hsH, hzz, hel, hew⟩ := G
  subst hzz hel
  obtain ⟨aw, hew⟩ := hew
  obtain ⟨L, vm0, k0, X, e, N, hS, hk, HD⟩ := X
  have hZ : Γ.Z.Warmed39 (Γ.s.setVm vm0).vm := State.Warmed39.trans hZ0 hS.1
  have hown : (Γ.s.setVm vm0).vm.findClass own = some Γ.m.cls := by rw [show (Γ.s.setVm vm0).vm = vm0 from rfl, hS.1.alike.findClass]; exact hown0
  subst hz
  exact Go.of (fun t k => XS.lxor X.here hx rfl (hb hby hd) rfl k) K
theorem k_lshl {x z : Int64} {y : Int32} (G : Ctx Γ Z EL own bytes maxl ret nm rm hs0) (X : W Γ n0 T h C S sf) (hd : decode bytes pc = .ok (.lshl, 1)) (hp : pc + 1 = pc') (hz : x <<< (y &&& 0x3f).toInt64 = z) (K : Go Γ n0 Q T (mkF Γ.m pc' Ls (.long z :: st))) : Go Γ n0 Q T (mkF Γ.m pc Ls (.int y :: .long x :: st)) := by
  subst hp
  obtain ⟨hx, hZ0, hown0, hby, hml, hret, hnm, hlk, hR, hsH, hzz, hel, hew⟩ := G
  subst hzz hel
  obtain ⟨aw, hew⟩ := hew
  obtain ⟨L, vm0, k0, X, e, N, hS, hk, HD⟩ := X
  have hZ : Γ.Z.Warmed39 (Γ.s.setVm vm0).vm := State.Warmed39.trans hZ0 hS.1
  have hown : (Γ.s.setVm vm0).vm.findClass own = some Γ.m.cls := by rw [show (Γ.s.setVm vm0).vm = vm0 from rfl, hS.1.alike.findClass]; exact hown0
  subst hz
  exact Go.of (fun t k => XS.lshl X.here hx rfl (hb hby hd) rfl k) K
theorem k_lshr {x z : Int64} {y : Int32} (G : Ctx Γ Z EL own bytes maxl ret nm rm hs0) (X : W Γ n0 T h C S sf) (hd : decode bytes pc = .ok (.lshr, 1)) (hp : pc + 1 = pc') (hz : x >>> (y &&& 0x3f).toInt64 = z) (K : Go Γ n0 Q T (mkF Γ.m pc' Ls (.long z :: st))) : Go Γ n0 Q T (mkF Γ.m pc Ls (.int y :: .long x :: st)) := by
  subst hp
  obtain ⟨hx, hZ0, hown0, hby, hml, hret, hnm, hlk, hR, hsH, hzz, hel, hew⟩ := G
  subst hzz hel
  obtain ⟨aw, hew⟩ := hew
  obtain ⟨L, vm0, k0, X, e, N, hS, hk, HD⟩ := X
  have hZ : Γ.Z.Warmed39 (Γ.s.setVm vm0).vm := State.Warmed39.trans hZ0 hS.1
  have hown : (Γ.s.setVm vm0).vm.findClass own = some Γ.m.cls := by rw [show (Γ.s.setVm vm0).vm = vm0 from rfl, hS.1.alike.findClass]; exact hown0
  subst hz
  exact Go.of (fun t k => XS.lshr X.here hx rfl (hb hby hd) rfl k) K
theorem k_lushr {x z : Int64} {y : Int32} (G : Ctx Γ Z EL own bytes maxl ret nm rm hs0) (X : W Γ n0 T h C S sf) (hd : decode bytes pc = .ok (.lushr, 1)) (hp : pc + 1 = pc') (hz : (x.toUInt64 >>> (y &&& 0x3f).toInt64.toUInt64).toInt64 = z) (K : Go Γ n0 Q T (mkF Γ.m pc' Ls (.long z :: st))) : Go Γ n0 Q T (mkF Γ.m pc Ls (.int y :: .long x :: st)) := by
  subst hp
  obtain ⟨hx, hZ0, hown0, hby, hml, hret, hnm, hlk, hR, hsH, hzz, hel, hew⟩ := G
  subst hzz hel
  obtain ⟨aw, hew⟩ := hew
  obtain ⟨L, vm0, k0, X, e, N, hS, hk, HD⟩ := X
  have hZ : Γ.Z.Warmed39 (Γ.s.setVm vm0).vm := State.Warmed39.trans hZ0 hS.1
  have hown : (Γ.s.setVm vm0).vm.findClass own = some Γ.m.cls := by rw [show (Γ.s.setVm vm0).vm = vm0 from rfl, hS.1.alike.findClass]; exact hown0
  subst hz
  exact Go.of (fun t k => XS.lushr X.here hx rfl (hb hby hd) rfl k) K
theorem k_idiv {x y z : Int32} (G : Ctx Γ Z EL own bytes maxl ret nm rm hs0) (X : W Γ n0 T h C S sf) (hd : decode bytes pc = .ok (.idiv, 1)) (hp : pc + 1 = pc') (hy : y ≠ 0) (hz : x / y = z) (K : Go Γ n0 Q T (mkF Γ.m pc' Ls (.int z :: st))) : Go Γ n0 Q T (mkF Γ.m pc Ls (.int y :: .int x :: st)) := by
  subst hp
  obtain ⟨hx, hZ0, hown0, hby, hml, hret, hnm, hlk, hR, hsH, hzz, hel, hew⟩ := G
  subst hzz hel
  obtain ⟨aw, hew⟩ := hew
  obtain ⟨L, vm0, k0, X, e, N, hS, hk, HD⟩ := X
  have hZ : Γ.Z.Warmed39 (Γ.s.setVm vm0).vm := State.Warmed39.trans hZ0 hS.1
  have hown : (Γ.s.setVm vm0).vm.findClass own = some Γ.m.cls := by rw [show (Γ.s.setVm vm0).vm = vm0 from rfl, hS.1.alike.findClass]; exact hown0
  subst hz
  exact Go.of (fun t k => XS.idiv X.here hx rfl (hb hby hd) rfl hy k) K
theorem k_irem {x y z : Int32} (G : Ctx Γ Z EL own bytes maxl ret nm rm hs0) (X : W Γ n0 T h C S sf) (hd : decode bytes pc = .ok (.irem, 1)) (hp : pc + 1 = pc') (hy : y ≠ 0) (hz : x % y = z) (K : Go Γ n0 Q T (mkF Γ.m pc' Ls (.int z :: st))) : Go Γ n0 Q T (mkF Γ.m pc Ls (.int y :: .int x :: st)) := by
  subst hp
  obtain ⟨hx, hZ0, hown0, hby, hml, hret, hnm, hlk, hR, hsH, hzz, hel, hew⟩ := G
  subst hzz hel
  obtain ⟨aw, hew⟩ := hew
  obtain ⟨L, vm0, k0, X, e, N, hS, hk, HD⟩ := X
  have hZ : Γ.Z.Warmed39 (Γ.s.setVm vm0).vm := State.Warmed39.trans hZ0 hS.1
  have hown : (Γ.s.setVm vm0).vm.findClass own = some Γ.m.cls := by rw [show (Γ.s.setVm vm0).vm = vm0 from rfl, hS.1.alike.findClass]; exact hown0
  subst hz
  exact Go.of (fun t k => iremM X hx rfl (hb hby hd) rfl hy k) K
theorem k_ldiv {x y z : Int64} (G : Ctx Γ Z EL own bytes maxl ret nm rm hs0) (X : W Γ n0 T h C S sf) (hd : decode bytes pc = .ok (.ldiv, 1)) (hp : pc + 1 = pc') (hy : y ≠ 0) (hz : x / y = z) (K : Go Γ n0 Q T (mkF Γ.m pc' Ls (.long z :: st))) : Go Γ n0 Q T (mkF Γ.m pc Ls (.long y :: .long x :: st)) := by
  subst hp
  obtain ⟨hx, hZ0, hown0, hby, hml, hret, hnm, hlk, hR, hsH, hzz, hel, hew⟩ := G
  subst hzz hel
  obtain ⟨aw, hew⟩ := hew
  obtain ⟨L, vm0, k0, X, e, N, hS, hk, HD⟩ := X
  have hZ : Γ.Z.Warmed39 (Γ.s.setVm vm0).vm := State.Warmed39.trans hZ0 hS.1
  have hown : (Γ.s.setVm vm0).vm.findClass own = some Γ.m.cls := by rw [show (Γ.s.setVm vm0).vm = vm0 from rfl, hS.1.alike.findClass]; exact hown0
  subst hz
  exact Go.of (fun t k => XS.ldiv X.here hx rfl (hb hby hd) rfl hy k) K
theorem k_lrem {x y z : Int64} (G : Ctx Γ Z EL own bytes maxl ret nm rm hs0) (X : W Γ n0 T h C S sf) (hd : decode bytes pc = .ok (.lrem, 1)) (hp : pc + 1 = pc') (hy : y ≠ 0) (hz : x % y = z) (K : Go Γ n0 Q T (mkF Γ.m pc' Ls (.long z :: st))) : Go Γ n0 Q T (mkF Γ.m pc Ls (.long y :: .long x :: st)) := by
  subst hp
  obtain ⟨hx, hZ0, hown0, hby, hml, hret, hnm, hlk, hR, hsH, hzz, hel, hew⟩ := G
  subst hzz hel
  obtain ⟨aw, hew⟩ := hew
  obtain ⟨L, vm0, k0, X, e, N, hS, hk, HD⟩ := X
  have hZ : Γ.Z.Warmed39 (Γ.s.setVm vm0).vm := State.Warmed39.trans hZ0 hS.1
  have hown : (Γ.s.setVm vm0).vm.findClass own = some Γ.m.cls := by rw [show (Γ.s.setVm vm0).vm = vm0 from rfl, hS.1.alike.findClass]; exact hown0
  subst hz
  rw [← lrem_mod] at K
  exact Go.of (fun t k => XS.lrem X.here hx rfl (hb hby hd) rfl hy k) K
theorem k_lcmp {x y : Int64} {z : Int32} (G : Ctx Γ Z EL own bytes maxl ret nm rm hs0) (X : W Γ n0 T h C S sf) (hd : decode bytes pc = .ok (.lcmp, 1)) (hp : pc + 1 = pc') (hz : (if x > y then (1 : Int32) else if x = y then 0 else -1) = z) (K : Go Γ n0 Q T (mkF Γ.m pc' Ls (.int z :: st))) : Go Γ n0 Q T (mkF Γ.m pc Ls (.long y :: .long x :: st)) := by
  subst hp
  obtain ⟨hx, hZ0, hown0, hby, hml, hret, hnm, hlk, hR, hsH, hzz, hel, hew⟩ := G
  subst hzz hel
  obtain ⟨aw, hew⟩ := hew
  obtain ⟨L, vm0, k0, X, e, N, hS, hk, HD⟩ := X
  have hZ : Γ.Z.Warmed39 (Γ.s.setVm vm0).vm := State.Warmed39.trans hZ0 hS.1
  have hown : (Γ.s.setVm vm0).vm.findClass own = some Γ.m.cls := by rw [show (Γ.s.setVm vm0).vm = vm0 from rfl, hS.1.alike.findClass]; exact hown0
  subst hz
  exact Go.of (fun t k => XS.lcmp X.here hx rfl (hb hby hd) rfl k) K
theorem k_ineg {x : Int32} {z : Int32} (G : Ctx Γ Z EL own bytes maxl ret nm rm hs0) (X : W Γ n0 T h C S sf) (hd : decode bytes pc = .ok (.ineg, 1)) (hp : pc + 1 = pc') (hz : -x = z) (K : Go Γ n0 Q T (mkF Γ.m pc' Ls (.int z :: st))) : Go Γ n0 Q T (mkF Γ.m pc Ls (.int x :: st)) := by
  subst hp
  obtain ⟨hx, hZ0, hown0, hby, hml, hret, hnm, hlk, hR, hsH, hzz, hel, hew⟩ := G
  subst hzz hel
  obtain ⟨aw, hew⟩ := hew
  obtain ⟨L, vm0, k0, X, e, N, hS, hk, HD⟩ := X
  have hZ : Γ.Z.Warmed39 (Γ.s.setVm vm0).vm := State.Warmed39.trans hZ0 hS.1
  have hown : (Γ.s.setVm vm0).vm.findClass own = some Γ.m.cls := by rw [show (Γ.s.setVm vm0).vm = vm0 from rfl, hS.1.alike.findClass]; exact hown0
  subst hz
  exact Go.of (fun t k => XS.ineg X.here hx rfl (hb hby hd) rfl k) K
theorem k_lneg {x : Int64} {z : Int64} (G : Ctx Γ Z EL own bytes maxl ret nm rm hs0) (X : W Γ n0 T h C S sf) (hd : decode bytes pc = .ok (.lneg, 1)) (hp : pc + 1 = pc') (hz : -x = z) (K : Go Γ n0 Q T (mkF Γ.m pc' Ls (.long z :: st))) : Go Γ n0 Q T (mkF Γ.m pc Ls (.long x :: st)) := by
  subst hp
  obtain ⟨hx, hZ0, hown0, hby, hml, hret, hnm, hlk, hR, hsH, hzz, hel, hew⟩ := G
  subst hzz hel
  obtain ⟨aw, hew⟩ := hew
  obtain ⟨L, vm0, k0, X, e, N, hS, hk, HD⟩ := X
  have hZ : Γ.Z.Warmed39 (Γ.s.setVm vm0).vm := State.Warmed39.trans hZ0 hS.1
  have hown : (Γ.s.setVm vm0).vm.findClass own = some Γ.m.cls := by rw [show (Γ.s.setVm vm0).vm = vm0 from rfl, hS.1.alike.findClass]; exact hown0
  subst hz
  exact Go.of (fun t k => XS.lneg X.here hx rfl (hb hby hd) rfl k) K
theorem k_i2l {x : Int32} {z : Int64} (G : Ctx Γ Z EL own bytes maxl ret nm rm hs0) (X : W Γ n0 T h C S sf) (hd : decode bytes pc = .ok (.i2l, 1)) (hp : pc + 1 = pc') (hz : x.toInt64 = z) (K : Go Γ n0 Q T (mkF Γ.m pc' Ls (.long z :: st))) : Go Γ n0 Q T (mkF Γ.m pc Ls (.int x :: st)) := by
  subst hp
  obtain ⟨hx, hZ0, hown0, hby, hml, hret, hnm, hlk, hR, hsH, hzz, hel, hew⟩ := G
  subst hzz hel
  obtain ⟨aw, hew⟩ := hew
  obtain ⟨L, vm0, k0, X, e, N, hS, hk, HD⟩ := X
  have hZ : Γ.Z.Warmed39 (Γ.s.setVm vm0).vm := State.Warmed39.trans hZ0 hS.1
  have hown : (Γ.s.setVm vm0).vm.findClass own = some Γ.m.cls := by rw [show (Γ.s.setVm vm0).vm = vm0 from rfl, hS.1.alike.findClass]; exact hown0
  subst hz
  exact Go.of (fun t k => XS.i2l X.here hx rfl (hb hby hd) rfl k) K
theorem k_l2i {x : Int64} {z : Int32} (G : Ctx Γ Z EL own bytes maxl ret nm rm hs0) (X : W Γ n0 T h C S sf) (hd : decode bytes pc = .ok (.l2i, 1)) (hp : pc + 1 = pc') (hz : x.toInt32 = z) (K : Go Γ n0 Q T (mkF Γ.m pc' Ls (.int z :: st))) : Go Γ n0 Q T (mkF Γ.m pc Ls (.long x :: st)) := by
  subst hp
  obtain ⟨hx, hZ0, hown0, hby, hml, hret, hnm, hlk, hR, hsH, hzz, hel, hew⟩ := G
  subst hzz hel
  obtain ⟨aw, hew⟩ := hew
  obtain ⟨L, vm0, k0, X, e, N, hS, hk, HD⟩ := X
  have hZ : Γ.Z.Warmed39 (Γ.s.setVm vm0).vm := State.Warmed39.trans hZ0 hS.1
  have hown : (Γ.s.setVm vm0).vm.findClass own = some Γ.m.cls := by rw [show (Γ.s.setVm vm0).vm = vm0 from rfl, hS.1.alike.findClass]; exact hown0
  subst hz
  exact Go.of (fun t k => XS.l2i X.here hx rfl (hb hby hd) rfl k) K
theorem k_i2b {x : Int32} {z : Int32} (G : Ctx Γ Z EL own bytes maxl ret nm rm hs0) (X : W Γ n0 T h C S sf) (hd : decode bytes pc = .ok (.i2b, 1)) (hp : pc + 1 = pc') (hz : x.toInt8.toInt32 = z) (K : Go Γ n0 Q T (mkF Γ.m pc' Ls (.int z :: st))) : Go Γ n0 Q T (mkF Γ.m pc Ls (.int x :: st)) := by
  subst hp
  obtain ⟨hx, hZ0, hown0, hby, hml, hret, hnm, hlk, hR, hsH, hzz, hel, hew⟩ := G
  subst hzz hel
  obtain ⟨aw, hew⟩ := hew
  obtain ⟨L, vm0, k0, X, e, N, hS, hk, HD⟩ := X
  have hZ : Γ.Z.Warmed39 (Γ.s.setVm vm0).vm := State.Warmed39.trans hZ0 hS.1
  have hown : (Γ.s.setVm vm0).vm.findClass own = some Γ.m.cls := by rw [show (Γ.s.setVm vm0).vm = vm0 from rfl, hS.1.alike.findClass]; exact hown0
  subst hz
  exact Go.of (fun t k => XS.i2b X.here hx rfl (hb hby hd) rfl k) K
theorem k_i2s {x : Int32} {z : Int32} (G : Ctx Γ Z EL own bytes maxl ret nm rm hs0) (X : W Γ n0 T h C S sf) (hd : decode bytes pc = .ok (.i2s, 1)) (hp : pc + 1 = pc') (hz : x.toInt16.toInt32 = z) (K : Go Γ n0 Q T (mkF Γ.m pc' Ls (.int z :: st))) : Go Γ n0 Q T (mkF Γ.m pc Ls (.int x :: st)) := by
  subst hp
  obtain ⟨hx, hZ0, hown0, hby, hml, hret, hnm, hlk, hR, hsH, hzz, hel, hew⟩ := G
  subst hzz hel
  obtain ⟨aw, hew⟩ := hew
  obtain ⟨L, vm0, k0, X, e, N, hS, hk, HD⟩ := X
  have hZ : Γ.Z.Warmed39 (Γ.s.setVm vm0).vm := State.Warmed39.trans hZ0 hS.1
  have hown : (Γ.s.setVm vm0).vm.findClass own = some Γ.m.cls := by rw [show (Γ.s.setVm vm0).vm = vm0 from rfl, hS.1.alike.findClass]; exact hown0
  subst hz
  exact Go.of (fun t k => XS.i2s X.here hx rfl (hb hby hd) rfl k) K
theorem k_i2c {x : Int32} {z : Int32} (G : Ctx Γ Z EL own bytes maxl ret nm rm hs0) (X : W Γ n0 T h C S sf) (hd : decode bytes pc = .ok (.i2c, 1)) (hp : pc + 1 = pc') (hz : x.toUInt32.toUInt16.toUInt32.toInt32 = z) (K : Go Γ n0 Q T (mkF Γ.m pc' Ls (.int z :: st))) : Go Γ n0 Q T (mkF Γ.m pc Ls (.int x :: st)) := by
  subst hp
  obtain ⟨hx, hZ0, hown0, hby, hml, hret, hnm, hlk, hR, hsH, hzz, hel, hew⟩ := G
  subst hzz hel
  obtain ⟨aw, hew⟩ := hew
  obtain ⟨L, vm0, k0, X, e, N, hS, hk, HD⟩ := X
  have hZ : Γ.Z.Warmed39 (Γ.s.setVm vm0).vm := State.Warmed39.trans hZ0 hS.1
  have hown : (Γ.s.setVm vm0).vm.findClass own = some Γ.m.cls := by rw [show (Γ.s.setVm vm0).vm = vm0 from rfl, hS.1.alike.findClass]; exact hown0
  subst hz
  exact Go.of (fun t k => XS.i2c X.here hx rfl (hb hby hd) rfl k) K
theorem k_pop {x : Value} (G : Ctx Γ Z EL own bytes maxl ret nm rm hs0) (X : W Γ n0 T h C S sf) (hd : decode bytes pc = .ok (.pop, 1)) (hp : pc + 1 = pc') (hc : x.category = 1) (K : Go Γ n0 Q T (mkF Γ.m pc' Ls (st))) : Go Γ n0 Q T (mkF Γ.m pc Ls (x :: st)) := by
  subst hp
  obtain ⟨hx, hZ0, hown0, hby, hml, hret, hnm, hlk, hR, hsH, hzz, hel, hew⟩ := G
  subst hzz hel
  obtain ⟨aw, hew⟩ := hew
  obtain ⟨L, vm0, k0, X, e, N, hS, hk, HD⟩ := X
  have hZ : Γ.Z.Warmed39 (Γ.s.setVm vm0).vm := State.Warmed39.trans hZ0 hS.1
  have hown : (Γ.s.setVm vm0).vm.findClass own = some Γ.m.cls := by rw [show (Γ.s.setVm vm0).vm = vm0 from rfl, hS.1.alike.findClass]; exact hown0
  exact Go.of (fun t k => XS.pop X.here hx rfl (hb hby hd) rfl hc k) K
theorem k_dup {x : Value} (G : Ctx Γ Z EL own bytes maxl ret nm rm hs0) (X : W Γ n0 T h C S sf) (hd : decode bytes pc = .ok (.dup, 1)) (hp : pc + 1 = pc') (hc : x.category = 1) (K : Go Γ n0 Q T (mkF Γ.m pc' Ls (x :: x :: st))) : Go Γ n0 Q T (mkF Γ.m pc Ls (x :: st)) := by
  subst hp
  obtain ⟨hx, hZ0, hown0, hby, hml, hret, hnm, hlk, hR, hsH, hzz, hel, hew⟩ := G
  subst hzz hel
  obtain ⟨aw, hew⟩ := hew
  obtain ⟨L, vm0, k0, X, e, N, hS, hk, HD⟩ := X
  have hZ : Γ.Z.Warmed39 (Γ.s.setVm vm0).vm := State.Warmed39.trans hZ0 hS.1
  have hown : (Γ.s.setVm vm0).vm.findClass own = some Γ.m.cls := by rw [show (Γ.s.setVm vm0).vm = vm0 from rfl, hS.1.alike.findClass]; exact hown0
  exact Go.of (fun t k => XS.dup X.here hx rfl (hb hby hd) rfl hc k) K
theorem k_dupx1 {x y : Value} (G : Ctx Γ Z EL own bytes maxl ret nm rm hs0) (X : W Γ n0 T h C S sf) (hd : decode bytes pc = .ok (.dup_x1, 1)) (hp : pc + 1 = pc') (hc : x.category = 1) (hc' : y.category = 1) (K : Go Γ n0 Q T (mkF Γ.m pc' Ls (x :: y :: x :: st))) : Go Γ n0 Q T (mkF Γ.m pc Ls (x :: y :: st)) := by
  subst hp
  obtain ⟨hx, hZ0, hown0, hby, hml, hret, hnm, hlk, hR, hsH, hzz, hel, hew⟩ := G
  subst hzz hel
  obtain ⟨aw, hew⟩ := hew
  obtain ⟨L, vm0, k0, X, e, N, hS, hk, HD⟩ := X
  have hZ : Γ.Z.Warmed39 (Γ.s.setVm vm0).vm := State.Warmed39.trans hZ0 hS.1
  have hown : (Γ.s.setVm vm0).vm.findClass own = some Γ.m.cls := by rw [show (Γ.s.setVm vm0).vm = vm0 from rfl, hS.1.alike.findClass]; exact hown0
  exact Go.of (fun t k => XS.dupX1 X.here hx rfl (hb hby hd) rfl hc hc' k) K
theorem k_dup2 {x y : Value} (G : Ctx Γ Z EL own bytes maxl ret nm rm hs0) (X : W Γ n0 T h C S sf) (hd : decode bytes pc = .ok (.dup2, 1)) (hp : pc + 1 = pc') (hc : x.category = 1) (hc' : y.category = 1) (K : Go Γ n0 Q T (mkF Γ.m pc' Ls (x :: y :: x :: y :: st))) : Go Γ n0 Q T (mkF Γ.m pc Ls (x :: y :: st)) := by
  subst hp
  obtain ⟨hx, hZ0, hown0, hby, hml, hret, hnm, hlk, hR, hsH, hzz, hel, hew⟩ := G
  subst hzz hel
  obtain ⟨aw, hew⟩ := hew
  obtain ⟨L, vm0, k0, X, e, N, hS, hk, HD⟩ := X
  have hZ : Γ.Z.Warmed39 (Γ.s.setVm vm0).vm := State.Warmed39.trans hZ0 hS.1
  have hown : (Γ.s.setVm vm0).vm.findClass own = some Γ.m.cls := by rw [show (Γ.s.setVm vm0).vm = vm0 from rfl, hS.1.alike.findClass]; exact hown0
  exact Go.of (fun t k => XT.dup2 X.here hx rfl (hb hby hd) rfl hc hc' k) K
theorem k_dup2l {x : Int64} (G : Ctx Γ Z EL own bytes maxl ret nm rm hs0) (X : W Γ n0 T h C S sf) (hd : decode bytes pc = .ok (.dup2, 1)) (hp : pc + 1 = pc')  (K : Go Γ n0 Q T (mkF Γ.m pc' Ls (.long x :: .long x :: st))) : Go Γ n0 Q T (mkF Γ.m pc Ls (.long x :: st)) := by
  subst hp
  obtain ⟨hx, hZ0, hown0, hby, hml, hret, hnm, hlk, hR, hsH, hzz, hel, hew⟩ := G
  subst hzz hel
  obtain ⟨aw, hew⟩ := hew
  obtain ⟨L, vm0, k0, X, e, N, hS, hk, HD⟩ := X
  have hZ : Γ.Z.Warmed39 (Γ.s.setVm vm0).vm := State.Warmed39.trans hZ0 hS.1
  have hown : (Γ.s.setVm vm0).vm.findClass own = some Γ.m.cls := by rw [show (Γ.s.setVm vm0).vm = vm0 from rfl, hS.1.alike.findClass]; exact hown0
  exact Go.of (fun t k => XT.dup2L X.here hx rfl (hb hby hd) rfl k) K
theorem k_iinc {k : Nat} {cst : Int} {x z : Int32} {l' : Array Slot} (G : Ctx Γ Z EL own bytes maxl ret nm rm hs0) (X : W Γ n0 T h C S sf) (hd : decode bytes pc = .ok (.iinc k cst, 3)) (hp : pc + 3 = pc') (hl : Ls[k]? = some (.val (.int x))) (hz : x + Int32.ofInt cst = z) (hl' : storeLocals Ls k (.int z) = some l') (K : Go Γ n0 Q T (mkF Γ.m pc' l' (st))) : Go Γ n0 Q T (mkF Γ.m pc Ls (st)) := by
  subst hp
  obtain ⟨hx, hZ0, hown0, hby, hml, hret, hnm, hlk, hR, hsH, hzz, hel, hew⟩ := G
  subst hzz hel
  obtain ⟨aw, hew⟩ := hew
  obtain ⟨L, vm0, k0, X, e, N, hS, hk, HD⟩ := X
  have hZ : Γ.Z.Warmed39 (Γ.s.setVm vm0).vm := State.Warmed39.trans hZ0 hS.1
  have hown : (Γ.s.setVm vm0).vm.findClass own = some Γ.m.cls := by rw [show (Γ.s.setVm vm0).vm = vm0 from rfl, hS.1.alike.findClass]; exact hown0
  subst hz
  exact Go.of (fun t k => XS.iinc X.here hx rfl (hb hby hd) hl hl' k) K
theorem k_istoreS {k : Nat} {v : Int32} {o : Slot} {l' : Array Slot} (G : Ctx Γ Z EL own bytes maxl ret nm rm hs0) (X : W Γ n0 T h C S sf) (hd : decode bytes pc = .ok (.istore k, 2)) (hp : pc + 2 = pc') (hold : Ls[k]? = some o) (ho : o = .unset ∨ ∃ w, o = .val w ∧ w.category = 1) (hl : Ls.setIfInBounds k (.val (.int v)) = l') (K : Go Γ n0 Q T (mkF Γ.m pc' l' (st))) : Go Γ n0 Q T (mkF Γ.m pc Ls (.int v :: st)) := by
  subst hp
  obtain ⟨hx, hZ0, hown0, hby, hml, hret, hnm, hlk, hR, hsH, hzz, hel, hew⟩ := G
  subst hzz hel
  obtain ⟨aw, hew⟩ := hew
  obtain ⟨L, vm0, k0, X, e, N, hS, hk, HD⟩ := X
  have hZ : Γ.Z.Warmed39 (Γ.s.setVm vm0).vm := State.Warmed39.trans hZ0 hS.1
  have hown : (Γ.s.setVm vm0).vm.findClass own = some Γ.m.cls := by rw [show (Γ.s.setVm vm0).vm = vm0 from rfl, hS.1.alike.findClass]; exact hown0
  subst hl
  exact Go.of (fun t k => XS.istoreS X.here hx rfl (hb hby hd) rfl hold ho k) K
theorem k_istoreNS {k : Fin 4} {v : Int32} {o : Slot} {l' : Array Slot} (G : Ctx Γ Z EL own bytes maxl ret nm rm hs0) (X : W Γ n0 T h C S sf) (hd : decode bytes pc = .ok (.istore_n k, 1)) (hp : pc + 1 = pc') (hold : Ls[k.val]? = some o) (ho : o = .unset ∨ ∃ w, o = .val w ∧ w.category = 1) (hl : Ls.setIfInBounds k.val (.val (.int v)) = l') (K : Go Γ n0 Q T (mkF Γ.m pc' l' (st))) : Go Γ n0 Q T (mkF Γ.m pc Ls (.int v :: st)) := by
  subst hp
  obtain ⟨hx, hZ0, hown0, hby, hml, hret, hnm, hlk, hR, hsH, hzz, hel, hew⟩ := G
  subst hzz hel
  obtain ⟨aw, hew⟩ := hew
  obtain ⟨L, vm0, k0, X, e, N, hS, hk, HD⟩ := X
  have hZ : Γ.Z.Warmed39 (Γ.s.setVm vm0).vm := State.Warmed39.trans hZ0 hS.1
  have hown : (Γ.s.setVm vm0).vm.findClass own = some Γ.m.cls := by rw [show (Γ.s.setVm vm0).vm = vm0 from rfl, hS.1.alike.findClass]; exact hown0
  subst hl
  exact Go.of (fun t k => XS.istoreNS X.here hx rfl (hb hby hd) rfl hold ho k) K
theorem k_astoreS {k : Nat} {v : Value} {o : Slot} {l' : Array Slot} (G : Ctx Γ Z EL own bytes maxl ret nm rm hs0) (X : W Γ n0 T h C S sf) (hd : decode bytes pc = .ok (.astore k, 2)) (hp : pc + 2 = pc') (hv : v.isRef = true) (hold : Ls[k]? = some o) (ho : o = .unset ∨ ∃ w, o = .val w ∧ w.category = 1) (hl : Ls.setIfInBounds k (.val v) = l') (K : Go Γ n0 Q T (mkF Γ.m pc' l' (st))) : Go Γ n0 Q T (mkF Γ.m pc Ls (v :: st)) := by
  subst hp
  obtain ⟨hx, hZ0, hown0, hby, hml, hret, hnm, hlk, hR, hsH, hzz, hel, hew⟩ := G
  subst hzz hel
  obtain ⟨aw, hew⟩ := hew
  obtain ⟨L, vm0, k0, X, e, N, hS, hk, HD⟩ := X
  have hZ : Γ.Z.Warmed39 (Γ.s.setVm vm0).vm := State.Warmed39.trans hZ0 hS.1
  have hown : (Γ.s.setVm vm0).vm.findClass own = some Γ.m.cls := by rw [show (Γ.s.setVm vm0).vm = vm0 from rfl, hS.1.alike.findClass]; exact hown0
  subst hl
  exact Go.of (fun t k => XS.astoreS X.here hx rfl (hb hby hd) rfl hv (by cases v <;> first | rfl | (simp [Value.isRef] at hv)) hold ho k) K
theorem k_astoreNS {k : Fin 4} {v : Value} {o : Slot} {l' : Array Slot} (G : Ctx Γ Z EL own bytes maxl ret nm rm hs0) (X : W Γ n0 T h C S sf) (hd : decode bytes pc = .ok (.astore_n k, 1)) (hp : pc + 1 = pc') (hv : v.isRef = true) (hold : Ls[k.val]? = some o) (ho : o = .unset ∨ ∃ w, o = .val w ∧ w.category = 1) (hl : Ls.setIfInBounds k.val (.val v) = l') (K : Go Γ n0 Q T (mkF Γ.m pc' l' (st))) : Go Γ n0 Q T (mkF Γ.m pc Ls (v :: st)) := by
  subst hp
  obtain ⟨hx, hZ0, hown0, hby, hml, hret, hnm, hlk, hR, hsH, hzz, hel, hew⟩ := G
  subst hzz hel
  obtain ⟨aw, hew⟩ := hew
  obtain ⟨L, vm0, k0, X, e, N, hS, hk, HD⟩ := X
  have hZ : Γ.Z.Warmed39 (Γ.s.setVm vm0).vm := State.Warmed39.trans hZ0 hS.1
  have hown : (Γ.s.setVm vm0).vm.findClass own = some Γ.m.cls := by rw [show (Γ.s.setVm vm0).vm = vm0 from rfl, hS.1.alike.findClass]; exact hown0
  subst hl
  exact Go.of (fun t k => XS.astoreN X.here hx rfl (hb hby hd) rfl hv (XS.store1 hold ho (by cases v <;> first | rfl | (simp [Value.isRef] at hv))) k) K
theorem k_goto {o : Int} (G : Ctx Γ Z EL own bytes maxl ret nm rm hs0) (X : W Γ n0 T h C S sf) (hd : decode bytes pc = .ok (.goto o, 3)) (ho : 0 ≤ (pc : Int) + o) (hp : ((pc : Int) + o).toNat = pc') (K : Go Γ n0 Q T (mkF Γ.m pc' Ls st)) : Go Γ n0 Q T (mkF Γ.m pc Ls st) := by
  obtain ⟨hx, hZ0, hown0, hby, hml, hret, hnm, hlk, hR, hsH, hzz, hel, hew⟩ := G
  subst hzz hel
  obtain ⟨aw, hew⟩ := hew
  obtain ⟨L, vm0, k0, X, e, N, hS, hk, HD⟩ := X
  have hZ : Γ.Z.Warmed39 (Γ.s.setVm vm0).vm := State.Warmed39.trans hZ0 hS.1
  have hown : (Γ.s.setVm vm0).vm.findClass own = some Γ.m.cls := by rw [show (Γ.s.setVm vm0).vm = vm0 from rfl, hS.1.alike.findClass]; exact hown0
  exact Go.of (fun t k => XS.goto X.here hx rfl (pc0 := pc) rfl (hb hby hd) ho hp k) K
theorem z32 : (0 : Int32).toInt = 0 := rfl
theorem hold_eq (x y : Int32) : (if_icmp.holds .eq x y = true → x = y) ∧ (if_icmp.holds .eq x y = false → x ≠ y) := by
  constructor <;> intro q <;> simp only [if_icmp.holds] at q <;> simp [Int32.lt_iff_toInt_lt, Int32.le_iff_toInt_le] at q ⊢ <;> first | exact q | omega
theorem hold0_eq (x : Int32) : (ifCond.holds .eq x = true → x = 0) ∧ (ifCond.holds .eq x = false → x ≠ 0) := by
  have z := z32
  constructor <;> intro q <;> simp only [ifCond.holds] at q <;> simp [Int32.lt_iff_toInt_lt, Int32.le_iff_toInt_le] at q ⊢ <;> first | exact q | omega
theorem k_icmp_eq {o : Int} {x y : Int32} {pc'' : Nat} (G : Ctx Γ Z EL own bytes maxl ret nm rm hs0) (X : W Γ n0 T h C S sf) (hd : decode bytes pc = .ok (.if_icmp .eq o, 3)) (hp : ((pc : Int) + o).toNat = pc') (ho : 0 ≤ (pc : Int) + o) (hp' : pc + 3 = pc'') (K : x = y → Go Γ n0 Q T (mkF Γ.m pc' Ls st)) (K' : x ≠ y → Go Γ n0 Q T (mkF Γ.m pc'' Ls st)) : Go Γ n0 Q T (mkF Γ.m pc Ls (.int y :: .int x :: st)) := by
  subst hp'
  obtain ⟨hx, hZ0, hown0, hby, hml, hret, hnm, hlk, hR, hsH, hzz, hel, hew⟩ := G
  subst hzz hel
  obtain ⟨aw, hew⟩ := hew
  obtain ⟨L, vm0, k0, X, e, N, hS, hk, HD⟩ := X
  have hZ : Γ.Z.Warmed39 (Γ.s.setVm vm0).vm := State.Warmed39.trans hZ0 hS.1
  have hown : (Γ.s.setVm vm0).vm.findClass own = some Γ.m.cls := by rw [show (Γ.s.setVm vm0).vm = vm0 from rfl, hS.1.alike.findClass]; exact hown0
  cases q : if_icmp.holds .eq x y
  · exact Go.of (fun t k => XS.icmpNo X.here hx rfl (hb hby hd) rfl q k) (K' ((hold_eq x y).2 q))
  · exact Go.of (fun t k => XS.icmpYes X.here hx rfl (pc0 := pc) rfl (hb hby hd) rfl q ho hp k) (K ((hold_eq x y).1 q))
theorem k_if_eq {o : Int} {x : Int32} {pc'' : Nat} (G : Ctx Γ Z EL own bytes maxl ret nm rm hs0) (X : W Γ n0 T h C S sf) (hd : decode bytes pc = .ok (.ifCond .eq o, 3)) (hp : ((pc : Int) + o).toNat = pc') (ho : 0 ≤ (pc : Int) + o) (hp' : pc + 3 = pc'') (K : x = 0 → Go Γ n0 Q T (mkF Γ.m pc' Ls st)) (K' : x ≠ 0 → Go Γ n0 Q T (mkF Γ.m pc'' Ls st)) : Go Γ n0 Q T (mkF Γ.m pc Ls (.int x :: st)) := by
  subst hp'
  obtain ⟨hx, hZ0, hown0, hby, hml, hret, hnm, hlk, hR, hsH, hzz, hel, hew⟩ := G
  subst hzz hel
  obtain ⟨aw, hew⟩ := hew
  obtain ⟨L, vm0, k0, X, e, N, hS, hk, HD⟩ := X
  have hZ : Γ.Z.Warmed39 (Γ.s.setVm vm0).vm := State.Warmed39.trans hZ0 hS.1
  have hown : (Γ.s.setVm vm0).vm.findClass own = some Γ.m.cls := by rw [show (Γ.s.setVm vm0).vm = vm0 from rfl, hS.1.alike.findClass]; exact hown0
  cases q : ifCond.holds .eq x
  · exact Go.of (fun t k => XS.ifNo X.here hx rfl (hb hby hd) rfl q k) (K' ((hold0_eq x).2 q))
  · exact Go.of (fun t k => XS.ifYes X.here hx rfl (pc0 := pc) rfl (hb hby hd) rfl q ho hp k) (K ((hold0_eq x).1 q))
theorem hold_ne (x y : Int32) : (if_icmp.holds .ne x y = true → x ≠ y) ∧ (if_icmp.holds .ne x y = false → x = y) := by
  constructor <;> intro q <;> simp only [if_icmp.holds] at q <;> simp [Int32.lt_iff_toInt_lt, Int32.le_iff_toInt_le] at q ⊢ <;> first | exact q | omega
theorem hold0_ne (x : Int32) : (ifCond.holds .ne x = true → x ≠ 0) ∧ (ifCond.holds .ne x = false → x = 0) := by
  have z := z32
  constructor <;> intro q <;> simp only [ifCond.holds] at q <;> simp [Int32.lt_iff_toInt_lt, Int32.le_iff_toInt_le] at q ⊢ <;> first | exact q | omega
theorem k_icmp_ne {o : Int} {x y : Int32} {pc'' : Nat} (G : Ctx Γ Z EL own bytes maxl ret nm rm hs0) (X : W Γ n0 T h C S sf) (hd : decode bytes pc = .ok (.if_icmp .ne o, 3)) (hp : ((pc : Int) + o).toNat = pc') (ho : 0 ≤ (pc : Int) + o) (hp' : pc + 3 = pc'') (K : x ≠ y → Go Γ n0 Q T (mkF Γ.m pc' Ls st)) (K' : x = y → Go Γ n0 Q T (mkF Γ.m pc'' Ls st)) : Go Γ n0 Q T (mkF Γ.m pc Ls (.int y :: .int x :: st)) := by
  subst hp'
  obtain ⟨hx, hZ0, hown0, hby, hml, hret, hnm, hlk, hR, hsH, hzz, hel, hew⟩ := G
  subst hzz hel
  obtain ⟨aw, hew⟩ := hew
  obtain ⟨L, vm0, k0, X, e, N, hS, hk, HD⟩ := X
  have hZ : Γ.Z.Warmed39 (Γ.s.setVm vm0).vm := State.Warmed39.trans hZ0 hS.1
  have hown : (Γ.s.setVm vm0).vm.findClass own = some Γ.m.cls := by rw [show (Γ.s.setVm vm0).vm = vm0 from rfl, hS.1.alike.findClass]; exact hown0
  cases q : if_icmp.holds .ne x y
  · exact Go.of (fun t k => XS.icmpNo X.here hx rfl (hb hby hd) rfl q k) (K' ((hold_ne x y).2 q))
  · exact Go.of (fun t k => XS.icmpYes X.here hx rfl (pc0 := pc) rfl (hb hby hd) rfl q ho hp k) (K ((hold_ne x y).1 q))
theorem k_if_ne {o : Int} {x : Int32} {pc'' : Nat} (G : Ctx Γ Z EL own bytes maxl ret nm rm hs0) (X : W Γ n0 T h C S sf) (hd : decode bytes pc = .ok (.ifCond .ne o, 3)) (hp : ((pc : Int) + o).toNat = pc') (ho : 0 ≤ (pc : Int) + o) (hp' : pc + 3 = pc'') (K : x ≠ 0 → Go Γ n0 Q T (mkF Γ.m pc' Ls st)) (K' : x = 0 → Go Γ n0 Q T (mkF Γ.m pc'' Ls st)) : Go Γ n0 Q T (mkF Γ.m pc Ls (.int x :: st)) := by
  subst hp'
  obtain ⟨hx, hZ0, hown0, hby, hml, hret, hnm, hlk, hR, hsH, hzz, hel, hew⟩ := G
  subst hzz hel
  obtain ⟨aw, hew⟩ := hew
  obtain ⟨L, vm0, k0, X, e, N, hS, hk, HD⟩ := X
  have hZ : Γ.Z.Warmed39 (Γ.s.setVm vm0).vm := State.Warmed39.trans hZ0 hS.1
  have hown : (Γ.s.setVm vm0).vm.findClass own = some Γ.m.cls := by rw [show (Γ.s.setVm vm0).vm = vm0 from rfl, hS.1.alike.findClass]; exact hown0
  cases q : ifCond.holds .ne x
  · exact Go.of (fun t k => XS.ifNo X.here hx rfl (hb hby hd) rfl q k) (K' ((hold0_ne x).2 q))
  · exact Go.of (fun t k => XS.ifYes X.here hx rfl (pc0 := pc) rfl (hb hby hd) rfl q ho hp k) (K ((hold0_ne x).1 q))
theorem hold_lt (x y : Int32) : (if_icmp.holds .lt x y = true → x.toInt < y.toInt) ∧ (if_icmp.holds .lt x y = false → y.toInt ≤ x.toInt) := by
  constructor <;> intro q <;> simp only [if_icmp.holds] at q <;> simp [Int32.lt_iff_toInt_lt, Int32.le_iff_toInt_le] at q ⊢ <;> first | exact q | omega
theorem hold0_lt (x : Int32) : (ifCond.holds .lt x = true → x.toInt < 0) ∧ (ifCond.holds .lt x = false → 0 ≤ x.toInt) := by
  have z := z32
  constructor <;> intro q <;> simp only [ifCond.holds] at q <;> simp [Int32.lt_iff_toInt_lt, Int32.le_iff_toInt_le] at q ⊢ <;> first | exact q | omega
theorem k_icmp_lt {o : Int} {x y : Int32} {pc'' : Nat} (G : Ctx Γ Z EL own bytes maxl ret nm rm hs0) (X : W Γ n0 T h C S sf) (hd : decode bytes pc = .ok (.if_icmp .lt o, 3)) (hp : ((pc : Int) + o).toNat = pc') (ho : 0 ≤ (pc : Int) + o) (hp' : pc + 3 = pc'') (K : x.toInt < y.toInt → Go Γ n0 Q T (mkF Γ.m pc' Ls st)) (K' : y.toInt ≤ x.toInt → Go Γ n0 Q T (mkF Γ.m pc'' Ls st)) : Go Γ n0 Q T (mkF Γ.m pc Ls (.int y :: .int x :: st)) := by
  subst hp'
  obtain ⟨hx, hZ0, hown0, hby, hml, hret, hnm, hlk, hR, hsH, hzz, hel, hew⟩ := G
  subst hzz hel
  obtain ⟨aw, hew⟩ := hew
  obtain ⟨L, vm0, k0, X, e, N, hS, hk, HD⟩ := X
  have hZ : Γ.Z.Warmed39 (Γ.s.setVm vm0).vm := State.Warmed39.trans hZ0 hS.1
  have hown : (Γ.s.setVm vm0).vm.findClass own = some Γ.m.cls := by rw [show (Γ.s.setVm vm0).vm = vm0 from rfl, hS.1.alike.findClass]; exact hown0
  cases q : if_icmp.holds .lt x y
  · exact Go.of (fun t k => XS.icmpNo X.here hx rfl (hb hby hd) rfl q k) (K' ((hold_lt x y).2 q))
  · exact Go.of (fun t k => XS.icmpYes X.here hx rfl (pc0 := pc) rfl (hb hby hd) rfl q ho hp k) (K ((hold_lt x y).1 q))
theorem k_if_lt {o : Int} {x : Int32} {pc'' : Nat} (G : Ctx Γ Z EL own bytes maxl ret nm rm hs0) (X : W Γ n0 T h C S sf) (hd : decode bytes pc = .ok (.ifCond .lt o, 3)) (hp : ((pc : Int) + o).toNat = pc') (ho : 0 ≤ (pc : Int) + o) (hp' : pc + 3 = pc'') (K : x.toInt < 0 → Go Γ n0 Q T (mkF Γ.m pc' Ls st)) (K' : 0 ≤ x.toInt → Go Γ n0 Q T (mkF Γ.m pc'' Ls st)) : Go Γ n0 Q T (mkF Γ.m pc Ls (.int x :: st)) := by
  subst hp'
  obtain ⟨hx, hZ0, hown0, hby, hml, hret, hnm, hlk, hR, hsH, hzz, hel, hew⟩ := G
  subst hzz hel
  obtain ⟨aw, hew⟩ := hew
  obtain ⟨L, vm0, k0, X, e, N, hS, hk, HD⟩ := X
  have hZ : Γ.Z.Warmed39 (Γ.s.setVm vm0).vm := State.Warmed39.trans hZ0 hS.1
  have hown : (Γ.s.setVm vm0).vm.findClass own = some Γ.m.cls := by rw [show (Γ.s.setVm vm0).vm = vm0 from rfl, hS.1.alike.findClass]; exact hown0
  cases q : ifCond.holds .lt x
  · exact Go.of (fun t k => XS.ifNo X.here hx rfl (hb hby hd) rfl q k) (K' ((hold0_lt x).2 q))
  · exact Go.of (fun t k => XS.ifYes X.here hx rfl (pc0 := pc) rfl (hb hby hd) rfl q ho hp k) (K ((hold0_lt x).1 q))
theorem hold_ge (x y : Int32) : (if_icmp.holds .ge x y = true → y.toInt ≤ x.toInt) ∧ (if_icmp.holds .ge x y = false → x.toInt < y.toInt) := by
  constructor <;> intro q <;> simp only [if_icmp.holds] at q <;> simp [Int32.lt_iff_toInt_lt, Int32.le_iff_toInt_le] at q ⊢ <;> first | exact q | omega
theorem hold0_ge (x : Int32) : (ifCond.holds .ge x = true → 0 ≤ x.toInt) ∧ (ifCond.holds .ge x = false → x.toInt < 0) := by
  have z := z32
  constructor <;> intro q <;> simp only [ifCond.holds] at q <;> simp [Int32.lt_iff_toInt_lt, Int32.le_iff_toInt_le] at q ⊢ <;> first | exact q | omega
theorem k_icmp_ge {o : Int} {x y : Int32} {pc'' : Nat} (G : Ctx Γ Z EL own bytes maxl ret nm rm hs0) (X : W Γ n0 T h C S sf) (hd : decode bytes pc = .ok (.if_icmp .ge o, 3)) (hp : ((pc : Int) + o).toNat = pc') (ho : 0 ≤ (pc : Int) + o) (hp' : pc + 3 = pc'') (K : y.toInt ≤ x.toInt → Go Γ n0 Q T (mkF Γ.m pc' Ls st)) (K' : x.toInt < y.toInt → Go Γ n0 Q T (mkF Γ.m pc'' Ls st)) : Go Γ n0 Q T (mkF Γ.m pc Ls (.int y :: .int x :: st)) := by
  subst hp'
  obtain ⟨hx, hZ0, hown0, hby, hml, hret, hnm, hlk, hR, hsH, hzz, hel, hew⟩ := G
  subst hzz hel
  obtain ⟨aw, hew⟩ := hew
  obtain ⟨L, vm0, k0, X, e, N, hS, hk, HD⟩ := X
  have hZ : Γ.Z.Warmed39 (Γ.s.setVm vm0).vm := State.Warmed39.trans hZ0 hS.1
  have hown : (Γ.s.setVm vm0).vm.findClass own = some Γ.m.cls := by rw [show (Γ.s.setVm vm0).vm = vm0 from rfl, hS.1.alike.findClass]; exact hown0
  cases q : if_icmp.holds .ge x y
  · exact Go.of (fun t k => XS.icmpNo X.here hx rfl (hb hby hd) rfl q k) (K' ((hold_ge x y).2 q))
  · exact Go.of (fun t k => XS.icmpYes X.here hx rfl (pc0 := pc) rfl (hb hby hd) rfl q ho hp k) (K ((hold_ge x y).1 q))
theorem k_if_ge {o : Int} {x : Int32} {pc'' : Nat} (G : Ctx Γ Z EL own bytes maxl ret nm rm hs0) (X : W Γ n0 T h C S sf) (hd : decode bytes pc = .ok (.ifCond .ge o, 3)) (hp : ((pc : Int) + o).toNat = pc') (ho : 0 ≤ (pc : Int) + o) (hp' : pc + 3 = pc'') (K : 0 ≤ x.toInt → Go Γ n0 Q T (mkF Γ.m pc' Ls st)) (K' : x.toInt < 0 → Go Γ n0 Q T (mkF Γ.m pc'' Ls st)) : Go Γ n0 Q T (mkF Γ.m pc Ls (.int x :: st)) := by
  subst hp'
  obtain ⟨hx, hZ0, hown0, hby, hml, hret, hnm, hlk, hR, hsH, hzz, hel, hew⟩ := G
  subst hzz hel
  obtain ⟨aw, hew⟩ := hew
  obtain ⟨L, vm0, k0, X, e, N, hS, hk, HD⟩ := X
  have hZ : Γ.Z.Warmed39 (Γ.s.setVm vm0).vm := State.Warmed39.trans hZ0 hS.1
  have hown : (Γ.s.setVm vm0).vm.findClass own = some Γ.m.cls := by rw [show (Γ.s.setVm vm0).vm = vm0 from rfl, hS.1.alike.findClass]; exact hown0
  cases q : ifCond.holds .ge x
  · exact Go.of (fun t k => XS.ifNo X.here hx rfl (hb hby hd) rfl q k) (K' ((hold0_ge x).2 q))
  · exact Go.of (fun t k => XS.ifYes X.here hx rfl (pc0 := pc) rfl (hb hby hd) rfl q ho hp k) (K ((hold0_ge x).1 q))
theorem hold_gt (x y : Int32) : (if_icmp.holds .gt x y = true → y.toInt < x.toInt) ∧ (if_icmp.holds .gt x y = false → x.toInt ≤ y.toInt) := by
  constructor <;> intro q <;> simp only [if_icmp.holds] at q <;> simp [Int32.lt_iff_toInt_lt, Int32.le_iff_toInt_le] at q ⊢ <;> first | exact q | omega
theorem hold0_gt (x : Int32) : (ifCond.holds .gt x = true → 0 < x.toInt) ∧ (ifCond.holds .gt x = false → x.toInt ≤ 0) := by
  have z := z32
  constructor <;> intro q <;> simp only [ifCond.holds] at q <;> simp [Int32.lt_iff_toInt_lt, Int32.le_iff_toInt_le] at q ⊢ <;> first | exact q | omega
theorem k_icmp_gt {o : Int} {x y : Int32} {pc'' : Nat} (G : Ctx Γ Z EL own bytes maxl ret nm rm hs0) (X : W Γ n0 T h C S sf) (hd : decode bytes pc = .ok (.if_icmp .gt o, 3)) (hp : ((pc : Int) + o).toNat = pc') (ho : 0 ≤ (pc : Int) + o) (hp' : pc + 3 = pc'') (K : y.toInt < x.toInt → Go Γ n0 Q T (mkF Γ.m pc' Ls st)) (K' : x.toInt ≤ y.toInt → Go Γ n0 Q T (mkF Γ.m pc'' Ls st)) : Go Γ n0 Q T (mkF Γ.m pc Ls (.int y :: .int x :: st)) := by
  subst hp'
  obtain ⟨hx, hZ0, hown0, hby, hml, hret, hnm, hlk, hR, hsH, hzz, hel, hew⟩ := G
  subst hzz hel
  obtain ⟨aw, hew⟩ := hew
  obtain ⟨L, vm0, k0, X, e, N, hS, hk, HD⟩ := X
  have hZ : Γ.Z.Warmed39 (Γ.s.setVm vm0).vm := State.Warmed39.trans hZ0 hS.1
  have hown : (Γ.s.setVm vm0).vm.findClass own = some Γ.m.cls := by rw [show (Γ.s.setVm vm0).vm = vm0 from rfl, hS.1.alike.findClass]; exact hown0
  cases q : if_icmp.holds .gt x y
  · exact Go.of (fun t k => XS.icmpNo X.here hx rfl (hb hby hd) rfl q k) (K' ((hold_gt x y).2 q))
  · exact Go.of (fun t k => XS.icmpYes X.here hx rfl (pc0 := pc) rfl (hb hby hd) rfl q ho hp k) (K ((hold_gt x y).1 q))
theorem k_if_gt {o : Int} {x : Int32} {pc'' : Nat} (G : Ctx Γ Z EL own bytes maxl ret nm rm hs0) (X : W Γ n0 T h C S sf) (hd : decode bytes pc = .ok (.ifCond .gt o, 3)) (hp : ((pc : Int) + o).toNat = pc') (ho : 0 ≤ (pc : Int) + o) (hp' : pc + 3 = pc'') (K : 0 < x.toInt → Go Γ n0 Q T (mkF Γ.m pc' Ls st)) (K' : x.toInt ≤ 0 → Go Γ n0 Q T (mkF Γ.m pc'' Ls st)) : Go Γ n0 Q T (mkF Γ.m pc Ls (.int x :: st)) := by
  subst hp'
  obtain ⟨hx, hZ0, hown0, hby, hml, hret, hnm, hlk, hR, hsH, hzz, hel, hew⟩ := G
  subst hzz hel
  obtain ⟨aw, hew⟩ := hew
  obtain ⟨L, vm0, k0, X, e, N, hS, hk, HD⟩ := X
  have hZ : Γ.Z.Warmed39 (Γ.s.setVm vm0).vm := State.Warmed39.trans hZ0 hS.1
  have hown : (Γ.s.setVm vm0).vm.findClass own = some Γ.m.cls := by rw [show (Γ.s.setVm vm0).vm = vm0 from rfl, hS.1.alike.findClass]; exact hown0
  cases q : ifCond.holds .gt x
  · exact Go.of (fun t k => XS.ifNo X.here hx rfl (hb hby hd) rfl q k) (K' ((hold0_gt x).2 q))
  · exact Go.of (fun t k => XS.ifYes X.here hx rfl (pc0 := pc) rfl (hb hby hd) rfl q ho hp k) (K ((hold0_gt x).1 q))
theorem hold_le (x y : Int32) : (if_icmp.holds .le x y = true → x.toInt ≤ y.toInt) ∧ (if_icmp.holds .le x y = false → y.toInt < x.toInt) := by
  constructor <;> intro q <;> simp only [if_icmp.holds] at q <;> simp [Int32.lt_iff_toInt_lt, Int32.le_iff_toInt_le] at q ⊢ <;> first | exact q | omega
theorem hold0_le (x : Int32) : (ifCond.holds .le x = true → x.toInt ≤ 0) ∧ (ifCond.holds .le x = false → 0 < x.toInt) := by
  have z := z32
  constructor <;> intro q <;> simp only [ifCond.holds] at q <;> simp [Int32.lt_iff_toInt_lt, Int32.le_iff_toInt_le] at q ⊢ <;> first | exact q | omega
theorem k_icmp_le {o : Int} {x y : Int32} {pc'' : Nat} (G : Ctx Γ Z EL own bytes maxl ret nm rm hs0) (X : W Γ n0 T h C S sf) (hd : decode bytes pc = .ok (.if_icmp .le o, 3)) (hp : ((pc : Int) + o).toNat = pc') (ho : 0 ≤ (pc : Int) + o) (hp' : pc + 3 = pc'') (K : x.toInt ≤ y.toInt → Go Γ n0 Q T (mkF Γ.m pc' Ls st)) (K' : y.toInt < x.toInt → Go Γ n0 Q T (mkF Γ.m pc'' Ls st)) : Go Γ n0 Q T (mkF Γ.m pc Ls (.int y :: .int x :: st)) := by
  subst hp'
  obtain ⟨hx, hZ0, hown0, hby, hml, hret, hnm, hlk, hR, hsH, hzz, hel, hew⟩ := G
  subst hzz hel
  obtain ⟨aw, hew⟩ := hew
  obtain ⟨L, vm0, k0, X, e, N, hS, hk, HD⟩ := X
  have hZ : Γ.Z.Warmed39 (Γ.s.setVm vm0).vm := State.Warmed39.trans hZ0 hS.1
  have hown : (Γ.s.setVm vm0).vm.findClass own = some Γ.m.cls := by rw [show (Γ.s.setVm vm0).vm = vm0 from rfl, hS.1.alike.findClass]; exact hown0
  cases q : if_icmp.holds .le x y
  · exact Go.of (fun t k => XS.icmpNo X.here hx rfl (hb hby hd) rfl q k) (K' ((hold_le x y).2 q))
  · exact Go.of (fun t k => XS.icmpYes X.here hx rfl (pc0 := pc) rfl (hb hby hd) rfl q ho hp k) (K ((hold_le x y).1 q))
theorem k_if_le {o : Int} {x : Int32} {pc'' : Nat} (G : Ctx Γ Z EL own bytes maxl ret nm rm hs0) (X : W Γ n0 T h C S sf) (hd : decode bytes pc = .ok (.ifCond .le o, 3)) (hp : ((pc : Int) + o).toNat = pc') (ho : 0 ≤ (pc : Int) + o) (hp' : pc + 3 = pc'') (K : x.toInt ≤ 0 → Go Γ n0 Q T (mkF Γ.m pc' Ls st)) (K' : 0 < x.toInt → Go Γ n0 Q T (mkF Γ.m pc'' Ls st)) : Go Γ n0 Q T (mkF Γ.m pc Ls (.int x :: st)) := by
  subst hp'
  obtain ⟨hx, hZ0, hown0, hby, hml, hret, hnm, hlk, hR, hsH, hzz, hel, hew⟩ := G
  subst hzz hel
  obtain ⟨aw, hew⟩ := hew
  obtain ⟨L, vm0, k0, X, e, N, hS, hk, HD⟩ := X
  have hZ : Γ.Z.Warmed39 (Γ.s.setVm vm0).vm := State.Warmed39.trans hZ0 hS.1
  have hown : (Γ.s.setVm vm0).vm.findClass own = some Γ.m.cls := by rw [show (Γ.s.setVm vm0).vm = vm0 from rfl, hS.1.alike.findClass]; exact hown0
  cases q : ifCond.holds .le x
  · exact Go.of (fun t k => XS.ifNo X.here hx rfl (hb hby hd) rfl q k) (K' ((hold0_le x).2 q))
  · exact Go.of (fun t k => XS.ifYes X.here hx rfl (pc0 := pc) rfl (hb hby hd) rfl q ho hp k) (K ((hold0_le x).1 q))
theorem k_acmp_eq {o : Int} {x y : Value} {pc'' : Nat} (G : Ctx Γ Z EL own bytes maxl ret nm rm hs0) (X : W Γ n0 T h C S sf) (hd : decode bytes pc = .ok (.if_acmp .eq o, 3)) (hp : ((pc : Int) + o).toNat = pc') (ho : 0 ≤ (pc : Int) + o) (hp' : pc + 3 = pc'') (h1 : x.isRef = true) (h2 : y.isRef = true) (K : x = y → Go Γ n0 Q T (mkF Γ.m pc' Ls st)) (K' : x ≠ y → Go Γ n0 Q T (mkF Γ.m pc'' Ls st)) : Go Γ n0 Q T (mkF Γ.m pc Ls (y :: x :: st)) := by
  subst hp hp'
  obtain ⟨hx, hZ0, hown0, hby, hml, hret, hnm, hlk, hR, hsH, hzz, hel, hew⟩ := G
  subst hzz hel
  obtain ⟨aw, hew⟩ := hew
  obtain ⟨L, vm0, k0, X, e, N, hS, hk, HD⟩ := X
  have hZ : Γ.Z.Warmed39 (Γ.s.setVm vm0).vm := State.Warmed39.trans hZ0 hS.1
  have hown : (Γ.s.setVm vm0).vm.findClass own = some Γ.m.cls := by rw [show (Γ.s.setVm vm0).vm = vm0 from rfl, hS.1.alike.findClass]; exact hown0
  by_cases q : x = y
  · exact Go.of (fun t k => acmp (g := mkF Γ.m pc Ls (y :: x :: st)) X hx rfl h1 h2 (pc0 := pc) (same := true) rfl (hb hby hd) rfl (decide_eq_true q) ho rfl k) (K q)
  · exact Go.of (fun t k => acmp (g := mkF Γ.m pc Ls (y :: x :: st)) X hx rfl h1 h2 (pc0 := pc) (same := false) rfl (hb hby hd) rfl (decide_eq_false q) ho rfl k) (K' q)
theorem k_acmp_ne {o : Int} {x y : Value} {pc'' : Nat} (G : Ctx Γ Z EL own bytes maxl ret nm rm hs0) (X : W Γ n0 T h C S sf) (hd : decode bytes pc = .ok (.if_acmp .ne o, 3)) (hp : ((pc : Int) + o).toNat = pc') (ho : 0 ≤ (pc : Int) + o) (hp' : pc + 3 = pc'') (h1 : x.isRef = true) (h2 : y.isRef = true) (K : x ≠ y → Go Γ n0 Q T (mkF Γ.m pc' Ls st)) (K' : x = y → Go Γ n0 Q T (mkF Γ.m pc'' Ls st)) : Go Γ n0 Q T (mkF Γ.m pc Ls (y :: x :: st)) := by
  subst hp hp'
  obtain ⟨hx, hZ0, hown0, hby, hml, hret, hnm, hlk, hR, hsH, hzz, hel, hew⟩ := G
  subst hzz hel
  obtain ⟨aw, hew⟩ := hew
  obtain ⟨L, vm0, k0, X, e, N, hS, hk, HD⟩ := X
  have hZ : Γ.Z.Warmed39 (Γ.s.setVm vm0).vm := State.Warmed39.trans hZ0 hS.1
  have hown : (Γ.s.setVm vm0).vm.findClass own = some Γ.m.cls := by rw [show (Γ.s.setVm vm0).vm = vm0 from rfl, hS.1.alike.findClass]; exact hown0
  by_cases q : x = y
  · exact Go.of (fun t k => acmp (g := mkF Γ.m pc Ls (y :: x :: st)) X hx rfl h1 h2 (pc0 := pc) (same := true) rfl (hb hby hd) rfl (decide_eq_true q) ho rfl k) (K' q)
  · exact Go.of (fun t k => acmp (g := mkF Γ.m pc Ls (y :: x :: st)) X hx rfl h1 h2 (pc0 := pc) (same := false) rfl (hb hby hd) rfl (decide_eq_false q) ho rfl k) (K q)
theorem k_ifnull {o : Int} {x : Value} {pc'' : Nat} (G : Ctx Γ Z EL own bytes maxl ret nm rm hs0) (X : W Γ n0 T h C S sf) (hd : decode bytes pc = .ok (.ifnull o, 3)) (hp : ((pc : Int) + o).toNat = pc') (ho : 0 ≤ (pc : Int) + o) (hp' : pc + 3 = pc'') (h1 : x.isRef = true) (K : x = .null → Go Γ n0 Q T (mkF Γ.m pc' Ls st)) (K' : ∀ a, x = .ref a → Go Γ n0 Q T (mkF Γ.m pc'' Ls st)) : Go Γ n0 Q T (mkF Γ.m pc Ls (x :: st)) := by
  subst hp'
  obtain ⟨hx, hZ0, hown0, hby, hml, hret, hnm, hlk, hR, hsH, hzz, hel, hew⟩ := G
  subst hzz hel
  obtain ⟨aw, hew⟩ := hew
  obtain ⟨L, vm0, k0, X, e, N, hS, hk, HD⟩ := X
  have hZ : Γ.Z.Warmed39 (Γ.s.setVm vm0).vm := State.Warmed39.trans hZ0 hS.1
  have hown : (Γ.s.setVm vm0).vm.findClass own = some Γ.m.cls := by rw [show (Γ.s.setVm vm0).vm = vm0 from rfl, hS.1.alike.findClass]; exact hown0
  rcases ref_cases h1 with rfl | ⟨a, rfl⟩
  · exact Go.of (fun t k => XS.ifnullYes X.here hx rfl (pc0 := pc) rfl (hb hby hd) rfl ho hp k) (K rfl)
  · exact Go.of (fun t k => XS.ifnullNo X.here hx rfl (hb hby hd) rfl k) (K' a rfl)
theorem k_ifnonnull {o : Int} {x : Value} {pc'' : Nat} (G : Ctx Γ Z EL own bytes maxl ret nm rm hs0) (X : W Γ n0 T h C S sf) (hd : decode bytes pc = .ok (.ifnonnull o, 3)) (hp : ((pc : Int) + o).toNat = pc') (ho : 0 ≤ (pc : Int) + o) (hp' : pc + 3 = pc'') (h1 : x.isRef = true) (K : ∀ a, x = .ref a → Go Γ n0 Q T (mkF Γ.m pc' Ls st)) (K' : x = .null → Go Γ n0 Q T (mkF Γ.m pc'' Ls st)) : Go Γ n0 Q T (mkF Γ.m pc Ls (x :: st)) := by
  subst hp'
  obtain ⟨hx, hZ0, hown0, hby, hml, hret, hnm, hlk, hR, hsH, hzz, hel, hew⟩ := G
  subst hzz hel
  obtain ⟨aw, hew⟩ := hew
  obtain ⟨L, vm0, k0, X, e, N, hS, hk, HD⟩ := X
  have hZ : Γ.Z.Warmed39 (Γ.s.setVm vm0).vm := State.Warmed39.trans hZ0 hS.1
  have hown : (Γ.s.setVm vm0).vm.findClass own = some Γ.m.cls := by rw [show (Γ.s.setVm vm0).vm = vm0 from rfl, hS.1.alike.findClass]; exact hown0
  rcases ref_cases h1 with rfl | ⟨a, rfl⟩
  · exact Go.of (fun t k => XS.ifnonnullNo X.here hx rfl (hb hby hd) rfl k) (K' rfl)
  · exact Go.of (fun t k => XS.ifnonnullYes X.here hx rfl (pc0 := pc) rfl (hb hby hd) rfl ho hp k) (K a rfl)
theorem k_lswHit {k : Int32} {dflt : Int} {pairs : Array (Int × Int)} {len : Nat} {a off : Int} (G : Ctx Γ Z EL own bytes maxl ret nm rm hs0) (X : W Γ n0 T h C S sf) (hd : decode bytes pc = .ok (.lookupswitch dflt pairs, len)) (hs : (pairs.toList.zip (pairs.toList.drop 1)).all (fun (a, next) => a.1 < next.1) = true) (hf : pairs.find? (·.1 == k.toInt) = some (a, off)) (ho : 0 ≤ (pc : Int) + off) (hp : ((pc : Int) + off).toNat = pc') (K : Go Γ n0 Q T (mkF Γ.m pc' Ls st)) : Go Γ n0 Q T (mkF Γ.m pc Ls (.int k :: st)) := by
  subst hp
  obtain ⟨hx, hZ0, hown0, hby, hml, hret, hnm, hlk, hR, hsH, hzz, hel, hew⟩ := G
  subst hzz hel
  obtain ⟨aw, hew⟩ := hew
  obtain ⟨L, vm0, k0, X, e, N, hS, hk, HD⟩ := X
  have hZ : Γ.Z.Warmed39 (Γ.s.setVm vm0).vm := State.Warmed39.trans hZ0 hS.1
  have hown : (Γ.s.setVm vm0).vm.findClass own = some Γ.m.cls := by rw [show (Γ.s.setVm vm0).vm = vm0 from rfl, hS.1.alike.findClass]; exact hown0
  exact Go.of (fun t k' => X.lookupswitchHit hx (g := mkF Γ.m pc Ls (.int k :: st)) rfl rfl (hb hby hd) hs hf ho t k') K
theorem k_lswMiss {k : Int32} {dflt : Int} {pairs : Array (Int × Int)} {len : Nat} (G : Ctx Γ Z EL own bytes maxl ret nm rm hs0) (X : W Γ n0 T h C S sf) (hd : decode bytes pc = .ok (.lookupswitch dflt pairs, len)) (hs : (pairs.toList.zip (pairs.toList.drop 1)).all (fun (a, next) => a.1 < next.1) = true) (hf : pairs.find? (·.1 == k.toInt) = none) (ho : 0 ≤ (pc : Int) + dflt) (hp : ((pc : Int) + dflt).toNat = pc') (K : Go Γ n0 Q T (mkF Γ.m pc' Ls st)) : Go Γ n0 Q T (mkF Γ.m pc Ls (.int k :: st)) := by
  subst hp
  obtain ⟨hx, hZ0, hown0, hby, hml, hret, hnm, hlk, hR, hsH, hzz, hel, hew⟩ := G
  subst hzz hel
  obtain ⟨aw, hew⟩ := hew
  obtain ⟨L, vm0, k0, X, e, N, hS, hk, HD⟩ := X
  have hZ : Γ.Z.Warmed39 (Γ.s.setVm vm0).vm := State.Warmed39.trans hZ0 hS.1
  have hown : (Γ.s.setVm vm0).vm.findClass own = some Γ.m.cls := by rw [show (Γ.s.setVm vm0).vm = vm0 from rfl, hS.1.alike.findClass]; exact hown0
  exact Go.of (fun t k' => X.lookupswitchMiss hx (g := mkF Γ.m pc Ls (.int k :: st)) rfl rfl (hb hby hd) hs hf ho t k') K
theorem k_tswIn {k : Int32} {dflt low high : Int} {offs : Array Int} {len : Nat} {off : Int} (G : Ctx Γ Z EL own bytes maxl ret nm rm hs0) (X : W Γ n0 T h C S sf) (hd : decode bytes pc = .ok (.tableswitch dflt low high offs, len)) (hin : low ≤ k.toInt ∧ k.toInt ≤ high) (hf : offs[(k.toInt - low).toNat]? = some off) (ho : 0 ≤ (pc : Int) + off) (hp : ((pc : Int) + off).toNat = pc') (K : Go Γ n0 Q T (mkF Γ.m pc' Ls st)) : Go Γ n0 Q T (mkF Γ.m pc Ls (.int k :: st)) := by
  subst hp
  obtain ⟨hx, hZ0, hown0, hby, hml, hret, hnm, hlk, hR, hsH, hzz, hel, hew⟩ := G
  subst hzz hel
  obtain ⟨aw, hew⟩ := hew
  obtain ⟨L, vm0, k0, X, e, N, hS, hk, HD⟩ := X
  have hZ : Γ.Z.Warmed39 (Γ.s.setVm vm0).vm := State.Warmed39.trans hZ0 hS.1
  have hown : (Γ.s.setVm vm0).vm.findClass own = some Γ.m.cls := by rw [show (Γ.s.setVm vm0).vm = vm0 from rfl, hS.1.alike.findClass]; exact hown0
  exact Go.of (fun t k' => X.tableswitchIn hx (g := mkF Γ.m pc Ls (.int k :: st)) rfl rfl (hb hby hd) (by omega) hf ho t k') K
theorem k_tswOut {k : Int32} {dflt low high : Int} {offs : Array Int} {len : Nat} (G : Ctx Γ Z EL own bytes maxl ret nm rm hs0) (X : W Γ n0 T h C S sf) (hd : decode bytes pc = .ok (.tableswitch dflt low high offs, len)) (hout : k.toInt < low ∨ high < k.toInt) (ho : 0 ≤ (pc : Int) + dflt) (hp : ((pc : Int) + dflt).toNat = pc') (K : Go Γ n0 Q T (mkF Γ.m pc' Ls st)) : Go Γ n0 Q T (mkF Γ.m pc Ls (.int k :: st)) := by
  subst hp
  obtain ⟨hx, hZ0, hown0, hby, hml, hret, hnm, hlk, hR, hsH, hzz, hel, hew⟩ := G
  subst hzz hel
  obtain ⟨aw, hew⟩ := hew
  obtain ⟨L, vm0, k0, X, e, N, hS, hk, HD⟩ := X
  have hZ : Γ.Z.Warmed39 (Γ.s.setVm vm0).vm := State.Warmed39.trans hZ0 hS.1
  have hown : (Γ.s.setVm vm0).vm.findClass own = some Γ.m.cls := by rw [show (Γ.s.setVm vm0).vm = vm0 from rfl, hS.1.alike.findClass]; exact hown0
  exact Go.of (fun t k' => X.tableswitchOut hx (g := mkF Γ.m pc Ls (.int k :: st)) rfl rfl (hb hby hd) hout ho t k') K
theorem k_ldcI {a0 : Array Value} {idx : Nat} {v : Int32} (G : Ctx Γ Z EL own bytes maxl ret nm rm hs0) (X : W Γ n0 T h C S sf) (w : (Cond.constant own idx v).before a0 Z = true) (hd : decode bytes pc = .ok (.ldc idx, 2)) (hp : pc + 2 = pc') (K : Go Γ n0 Q T (mkF Γ.m pc' Ls (.int v :: st))) : Go Γ n0 Q T (mkF Γ.m pc Ls st) := by
  subst hp
  obtain ⟨hx, hZ0, hown0, hby, hml, hret, hnm, hlk, hR, hsH, hzz, hel, hew⟩ := G
  subst hzz hel
  obtain ⟨aw, hew⟩ := hew
  obtain ⟨L, vm0, k0, X, e, N, hS, hk, HD⟩ := X
  have hZ : Γ.Z.Warmed39 (Γ.s.setVm vm0).vm := State.Warmed39.trans hZ0 hS.1
  have hown : (Γ.s.setVm vm0).vm.findClass own = some Γ.m.cls := by rw [show (Γ.s.setVm vm0).vm = vm0 from rfl, hS.1.alike.findClass]; exact hown0
  exact Go.of (fun t k => X.ldcInt hx hown (mvT hZ w) (g := mkF Γ.m pc Ls st) rfl (hb hby hd) t k) K
theorem k_ldcwI {a0 : Array Value} {idx : Nat} {v : Int32} (G : Ctx Γ Z EL own bytes maxl ret nm rm hs0) (X : W Γ n0 T h C S sf) (w : (Cond.constant own idx v).before a0 Z = true) (hd : decode bytes pc = .ok (.ldc_w idx, 3)) (hp : pc + 3 = pc') (K : Go Γ n0 Q T (mkF Γ.m pc' Ls (.int v :: st))) : Go Γ n0 Q T (mkF Γ.m pc Ls st) := by
  subst hp
  obtain ⟨hx, hZ0, hown0, hby, hml, hret, hnm, hlk, hR, hsH, hzz, hel, hew⟩ := G
  subst hzz hel
  obtain ⟨aw, hew⟩ := hew
  obtain ⟨L, vm0, k0, X, e, N, hS, hk, HD⟩ := X
  have hZ : Γ.Z.Warmed39 (Γ.s.setVm vm0).vm := State.Warmed39.trans hZ0 hS.1
  have hown : (Γ.s.setVm vm0).vm.findClass own = some Γ.m.cls := by rw [show (Γ.s.setVm vm0).vm = vm0 from rfl, hS.1.alike.findClass]; exact hown0
  exact Go.of (fun t k => X.ldcwInt hx hown (mvT hZ w) (g := mkF Γ.m pc Ls st) rfl (hb hby hd) t k) K
theorem k_ldcL {a0 : Array Value} {idx : Nat} {v : Int64} (G : Ctx Γ Z EL own bytes maxl ret nm rm hs0) (X : W Γ n0 T h C S sf) (w : (Cond.constantLong own idx v).before a0 Z = true) (hd : decode bytes pc = .ok (.ldc2_w idx, 3)) (hp : pc + 3 = pc') (K : Go Γ n0 Q T (mkF Γ.m pc' Ls (.long v :: st))) : Go Γ n0 Q T (mkF Γ.m pc Ls st) := by
  subst hp
  obtain ⟨hx, hZ0, hown0, hby, hml, hret, hnm, hlk, hR, hsH, hzz, hel, hew⟩ := G
  subst hzz hel
  obtain ⟨aw, hew⟩ := hew
  obtain ⟨L, vm0, k0, X, e, N, hS, hk, HD⟩ := X
  have hZ : Γ.Z.Warmed39 (Γ.s.setVm vm0).vm := State.Warmed39.trans hZ0 hS.1
  have hown : (Γ.s.setVm vm0).vm.findClass own = some Γ.m.cls := by rw [show (Γ.s.setVm vm0).vm = vm0 from rfl, hS.1.alike.findClass]; exact hown0
  exact Go.of (fun t k => X.ldc2Long hx hown (mvT hZ w) (g := mkF Γ.m pc Ls st) rfl (hb hby hd) t k) K
theorem k_getS {a0 : Array Value} {idx : Nat} {R0 O n d host : String} {v : Value} (G : Ctx Γ Z EL own bytes maxl ret nm rm hs0) (X : W Γ n0 T h C S sf) (w : (Cond.fieldLink own idx R0 n d).before a0 Z = true ∨ (Cond.fieldLinkNest own idx R0 n d host).before a0 Z = true) (via : Via Z R0 O n d) (F : Sta Z h O n d v) (hd : decode bytes pc = .ok (.getstatic idx, 3)) (hp : pc + 3 = pc') (K : ∀ T, W Γ n0 T h C S sf → Go Γ n0 Q T (mkF Γ.m pc' Ls (v :: st))) : Go Γ n0 Q T (mkF Γ.m pc Ls st) := by
  subst hp
  obtain ⟨hx, hZ0, hown0, hby, hml, hret, hnm, hlk, hR, hsH, hzz, hel, hew⟩ := G
  subst hzz hel
  obtain ⟨aw, hew⟩ := hew
  obtain ⟨L, vm0, k0, X, e, N, hS, hk, HD⟩ := X
  have hZ : Γ.Z.Warmed39 (Γ.s.setVm vm0).vm := State.Warmed39.trans hZ0 hS.1
  have hown : (Γ.s.setVm vm0).vm.findClass own = some Γ.m.cls := by rw [show (Γ.s.setVm vm0).vm = vm0 from rfl, hS.1.alike.findClass]; exact hown0
  obtain ⟨T', X', e', st'⟩ := getS2 X hx hZ hown w via e F (g := mkF Γ.m pc Ls st) rfl (hb hby hd)
  exact Go.of st' (K T' ⟨L, vm0, k0, X', e', N, hS, hk, HD⟩)
theorem k_getF {a0 : Array Value} {idx : Nat} {R0 O n d host : String} {v : Value} {a : Addr} (G : Ctx Γ Z EL own bytes maxl ret nm rm hs0) (X : W Γ n0 T h C S sf) (w : (Cond.fieldLink own idx R0 n d).before a0 Z = true ∨ (Cond.fieldLinkNest own idx R0 n d host).before a0 Z = true) (via : Via Z R0 O n d) (F : Fld Z h a O n d v) (hd : decode bytes pc = .ok (.getfield idx, 3)) (hp : pc + 3 = pc') (K : ∀ T, W Γ n0 T h C S sf → Go Γ n0 Q T (mkF Γ.m pc' Ls (v :: st))) : Go Γ n0 Q T (mkF Γ.m pc Ls (.ref a :: st)) := by
  subst hp
  obtain ⟨hx, hZ0, hown0, hby, hml, hret, hnm, hlk, hR, hsH, hzz, hel, hew⟩ := G
  subst hzz hel
  obtain ⟨aw, hew⟩ := hew
  obtain ⟨L, vm0, k0, X, e, N, hS, hk, HD⟩ := X
  have hZ : Γ.Z.Warmed39 (Γ.s.setVm vm0).vm := State.Warmed39.trans hZ0 hS.1
  have hown : (Γ.s.setVm vm0).vm.findClass own = some Γ.m.cls := by rw [show (Γ.s.setVm vm0).vm = vm0 from rfl, hS.1.alike.findClass]; exact hown0
  obtain ⟨T', X', e', st'⟩ := getF X hx hZ hown w via e F (g := mkF Γ.m pc Ls (.ref a :: st)) rfl rfl (hb hby hd)
  exact Go.of st' (K T' ⟨L, vm0, k0, X', e', N, hS, hk, HD⟩)
theorem k_putF {a0 : Array Value} {idx kk : Nat} {R0 O n d host CC : String} {v old : Value} {ty : FieldType} {a : Addr} (G : Ctx Γ Z EL own bytes maxl ret nm rm hs0) (X : W Γ n0 T h C S sf) (w : (Cond.fieldLink own idx R0 n d).before a0 Z = true ∨ (Cond.fieldLinkNest own idx R0 n d host).before a0 Z = true) (via : Via Z R0 O n d) (F : Fld Z h a O n d old) (E : Exa Z h a CC) (lay : (Cond.lays CC O n d).before a0 Z = true ∨ ((Cond.laysFinal CC O n d).before a0 Z = true ∧ own = O ∧ nm = "<init>")) (wi : (Cond.instantiable CC kk).before a0 Z = true) (ht : parseFieldDescriptor d = some ty) (hn : narrow ty v = v) (hf : fits ty v = true) (ga : n0 ≤ a) (ms : a ∈ sf) (hd : decode bytes pc = .ok (.putfield idx, 3)) (hp : pc + 3 = pc') (K : ∀ T h', Wr h h' a (Jvm.RoadKit.slotOf Z O n d) v → W Γ n0 T h' C S sf → Go Γ n0 Q T (mkF Γ.m pc' Ls st)) : Go Γ n0 Q T (mkF Γ.m pc Ls (v :: .ref a :: st)) := by
  subst hp
  obtain ⟨hx, hZ0, hown0, hby, hml, hret, hnm, hlk, hR, hsH, hzz, hel, hew⟩ := G
  subst hzz hel
  obtain ⟨aw, hew⟩ := hew
  obtain ⟨L, vm0, k0, X, e, N, hS, hk, HD⟩ := X
  have hZ : Γ.Z.Warmed39 (Γ.s.setVm vm0).vm := State.Warmed39.trans hZ0 hS.1
  have hown : (Γ.s.setVm vm0).vm.findClass own = some Γ.m.cls := by rw [show (Γ.s.setVm vm0).vm = vm0 from rfl, hS.1.alike.findClass]; exact hown0
  obtain ⟨T', h', X', e', W', st'⟩ := putF X hx hZ hown w via e F E (by rw [hnm]; exact lay) wi ht hn hf (g := mkF Γ.m pc Ls (v :: .ref a :: st)) rfl rfl (hb hby hd)
  exact Go.of st' (K T' h' W' ⟨_, vm0, k0, X', e', Fr.snoc X' N ga, hS, (by rw [W'.size]; exact hk), HD.wr W' ms⟩)
theorem k_putFN {a0 : Array Value} {idx kk : Nat} {R0 O n d CC : String} {v v' old : Value} {ty : FieldType} {a : Addr} (G : Ctx Γ Z EL own bytes maxl ret nm rm hs0) (X : W Γ n0 T h C S sf) (w : (Cond.fieldLink own idx R0 n d).before a0 Z = true) (via : Via Z R0 O n d) (F : Fld Z h a O n d old) (E : Exa Z h a CC) (lay : (Cond.lays CC O n d).before a0 Z = true ∨ ((Cond.laysFinal CC O n d).before a0 Z = true ∧ own = O ∧ nm = "<init>")) (wi : (Cond.instantiable CC kk).before a0 Z = true) (ht : parseFieldDescriptor d = some ty) (hn : narrow ty v = v') (hf : fits ty v' = true) (ga : n0 ≤ a) (ms : a ∈ sf) (hd : decode bytes pc = .ok (.putfield idx, 3)) (hp : pc + 3 = pc') (K : ∀ T h', Wr h h' a (Jvm.RoadKit.slotOf Z O n d) v' → W Γ n0 T h' C S sf → Go Γ n0 Q T (mkF Γ.m pc' Ls st)) : Go Γ n0 Q T (mkF Γ.m pc Ls (v :: .ref a :: st)) := by
  subst hp
  obtain ⟨hx, hZ0, hown0, hby, hml, hret, hnm, hlk, hR, hsH, hzz, hel, hew⟩ := G
  subst hzz hel
  obtain ⟨aw, hew⟩ := hew
  obtain ⟨L, vm0, k0, X, e, N, hS, hk, HD⟩ := X
  have hZ : Γ.Z.Warmed39 (Γ.s.setVm vm0).vm := State.Warmed39.trans hZ0 hS.1
  have hown : (Γ.s.setVm vm0).vm.findClass own = some Γ.m.cls := by rw [show (Γ.s.setVm vm0).vm = vm0 from rfl, hS.1.alike.findClass]; exact hown0
  obtain ⟨T', h', X', e', W', st'⟩ := putFN X hx hZ hown w via e F E (by rw [hnm]; exact lay) wi ht hn hf (g := mkF Γ.m pc Ls (v :: .ref a :: st)) rfl rfl (hb hby hd)
  exact Go.of st' (K T' h' W' ⟨_, vm0, k0, X', e', Fr.snoc X' N ga, hS, (by rw [W'.size]; exact hk), HD.wr W' ms⟩)
theorem k_new {a0 : Array Value} {idx k : Nat} {CC : String} (G : Ctx Γ Z EL own bytes maxl ret nm rm hs0) (X : W Γ n0 T h C S sf) (w : (Cond.classLink own idx CC).before a0 Z = true) (wi : (Cond.instantiable CC k).before a0 Z = true) (wz : (Cond.initialized CC).before a0 Z = true) (hd : decode bytes pc = .ok (.new idx, 3)) (hp : pc + 3 = pc') (hc : C + 1 ≤ rm.cells) (hs : S + k ≤ rm.slots)
    (K : ∀ T h' a, h.size = a → Ext h h' → Exa Z h' a CC → (∀ {O nm d : String} {ty : FieldType}, Laid Z a0 CC O nm d → parseFieldDescriptor d = some ty → Fld Z h' a O nm d (defaultValue ty)) → W Γ n0 T h' (C + 1) (S + k) (a :: sf) → Go Γ n0 Q T (mkF Γ.m pc' Ls (.ref a :: st))) : Go Γ n0 Q T (mkF Γ.m pc Ls st) := by
  subst hp
  obtain ⟨hx, hZ0, hown0, hby, hml, hret, hnm, hlk, hR, hsH, hzz, hel, hew⟩ := G
  subst hzz hel
  obtain ⟨aw, hew⟩ := hew
  obtain ⟨L, vm0, k0, X, e, N, hS, hk, HD⟩ := X
  have hZ : Γ.Z.Warmed39 (Γ.s.setVm vm0).vm := State.Warmed39.trans hZ0 hS.1
  have hown : (Γ.s.setVm vm0).vm.findClass own = some Γ.m.cls := by rw [show (Γ.s.setVm vm0).vm = vm0 from rfl, hS.1.alike.findClass]; exact hown0
  obtain ⟨T', h', X', e', E', A', D', -, st'⟩ := newO X hx hZ hown w wi wz e (g := mkF Γ.m pc Ls st) rfl (hb hby hd) (hR ▸ hc) (hR ▸ hs)
  exact Go.of st' (K T' h' _ rfl E' A' D' ⟨L, vm0, k0, X', e', N, hS, (Nat.le_trans hk E'.1), HD.new E' A'.lt⟩)
theorem k_initO {a0 : Array Value} {idx : Nat} {a : Addr} {wd : Nat} (G : Ctx Γ Z EL own bytes maxl ret nm rm hs0) (X : W Γ n0 T h C S sf) (w1 : (Cond.methodLink own idx Lib.objectInit).before a0 Z = true) (w2 : (Cond.instanceMethod Lib.objectInit).before a0 Z = true) (w3 : (Cond.code Lib.objectInit ⟨#[0xb1]⟩ 1 none).before a0 Z = true) (hd : decode bytes pc = .ok (.invokespecial idx, 3)) (hp : pc + 3 = pc') (hL : Ls.size = maxl) (hf : 1 ≤ rm.frames) (hwd : (st.map fun v => v.category).sum = wd) (hl : wd + 12 ≤ rm.locals) (K : ∀ T, W Γ n0 T h C S sf → Go Γ n0 Q T (mkF Γ.m pc' Ls st)) : Go Γ n0 Q T (mkF Γ.m pc Ls (.ref a :: st)) := by
  subst hp
  obtain ⟨hx, hZ0, hown0, hby, hml, hret, hnm, hlk, hR, hsH, hzz, hel, hew⟩ := G
  subst hzz hel
  obtain ⟨aw, hew⟩ := hew
  obtain ⟨L, vm0, k0, X, e, N, hS, hk, HD⟩ := X
  have hZ : Γ.Z.Warmed39 (Γ.s.setVm vm0).vm := State.Warmed39.trans hZ0 hS.1
  have hown : (Γ.s.setVm vm0).vm.findClass own = some Γ.m.cls := by rw [show (Γ.s.setVm vm0).vm = vm0 from rfl, hS.1.alike.findClass]; exact hown0
  obtain ⟨T', X', e', st'⟩ := initO X hx hZ hown w1 w2 w3 e (g := mkF Γ.m pc Ls (.ref a :: st)) rfl (by rw [hml]; exact hL) rfl (hb hby hd) (hR ▸ hf) (W := wd) (by show 2 * 0 + _ ≤ _; omega) (hR ▸ hl)
  exact Go.of st' (K T' ⟨L, vm0, k0, X', e', N, hS, hk, HD⟩)
theorem k_castY {a0 : Array Value} {idx : Nat} {KK : String} {a : Addr} (G : Ctx Γ Z EL own bytes maxl ret nm rm hs0) (X : W Γ n0 T h C S sf) (w : (Cond.classLink own idx KK).before a0 Z = true) (F : Ins Z h a KK true) (hd : decode bytes pc = .ok (.checkcast idx, 3)) (hp : pc + 3 = pc') (K : ∀ T, W Γ n0 T h C S sf → Go Γ n0 Q T (mkF Γ.m pc' Ls (.ref a :: st))) : Go Γ n0 Q T (mkF Γ.m pc Ls (.ref a :: st)) := by
  subst hp
  obtain ⟨hx, hZ0, hown0, hby, hml, hret, hnm, hlk, hR, hsH, hzz, hel, hew⟩ := G
  subst hzz hel
  obtain ⟨aw, hew⟩ := hew
  obtain ⟨L, vm0, k0, X, e, N, hS, hk, HD⟩ := X
  have hZ : Γ.Z.Warmed39 (Γ.s.setVm vm0).vm := State.Warmed39.trans hZ0 hS.1
  have hown : (Γ.s.setVm vm0).vm.findClass own = some Γ.m.cls := by rw [show (Γ.s.setVm vm0).vm = vm0 from rfl, hS.1.alike.findClass]; exact hown0
  obtain ⟨T', X', e', st'⟩ := castY X hx hZ hown w e F (g := mkF Γ.m pc Ls (.ref a :: st)) rfl rfl (hb hby hd)
  exact Go.of st' (K T' ⟨L, vm0, k0, X', e', N, hS, hk, HD⟩)
theorem k_instY {a0 : Array Value} {idx : Nat} {KK : String} {a : Addr} (G : Ctx Γ Z EL own bytes maxl ret nm rm hs0) (X : W Γ n0 T h C S sf) (w : (Cond.classLink own idx KK).before a0 Z = true) (F : Ins Z h a KK true) (hd : decode bytes pc = .ok (.instanceof idx, 3)) (hp : pc + 3 = pc') (K : ∀ T, W Γ n0 T h C S sf → Go Γ n0 Q T (mkF Γ.m pc' Ls (.int 1 :: st))) : Go Γ n0 Q T (mkF Γ.m pc Ls (.ref a :: st)) := by
  subst hp
  obtain ⟨hx, hZ0, hown0, hby, hml, hret, hnm, hlk, hR, hsH, hzz, hel, hew⟩ := G
  subst hzz hel
  obtain ⟨aw, hew⟩ := hew
  obtain ⟨L, vm0, k0, X, e, N, hS, hk, HD⟩ := X
  have hZ : Γ.Z.Warmed39 (Γ.s.setVm vm0).vm := State.Warmed39.trans hZ0 hS.1
  have hown : (Γ.s.setVm vm0).vm.findClass own = some Γ.m.cls := by rw [show (Γ.s.setVm vm0).vm = vm0 from rfl, hS.1.alike.findClass]; exact hown0
  obtain ⟨T', X', e', st'⟩ := instY X hx hZ hown w e F (g := mkF Γ.m pc Ls (.ref a :: st)) rfl rfl (hb hby hd)
  exact Go.of st' (K T' ⟨L, vm0, k0, X', e', N, hS, hk, HD⟩)
theorem W.drop {sf' : List Addr} (X : W Γ n0 T h C S (sf' ++ sf)) : W Γ n0 T h C S sf := by
  obtain ⟨L, v, k, X, e, N, a, b, H⟩ := X
  exact ⟨L, v, k, X, e, N, a, b, H.1, fun x hx => H.2 x (List.mem_append_right _ hx)⟩
theorem W.sub {sf' : List Addr} (X : W Γ n0 T h C S sf') (q : ∀ x ∈ sf, x ∈ sf') : W Γ n0 T h C S sf := by
  obtain ⟨L, v, k, X, e, N, a, b, H⟩ := X
  exact ⟨L, v, k, X, e, N, a, b, H.1, fun x hx => H.2 x (q x hx)⟩
theorem W.only {sf' : List Addr} {x : Addr} (X : W Γ n0 T h C S (sf' ++ sf)) (q : x ∈ sf') : W Γ n0 T h C S (x :: sf) := X.sub fun y hy => by
  rcases List.mem_cons.mp hy with rfl | hy
  · exact List.mem_append_left _ q
  · exact List.mem_append_right _ hy
theorem W.addE {x : Addr} {CC : String} (G : Ctx Γ Z EL own bytes maxl ret nm rm hs0) (X : W Γ n0 T h C S sf) (E : Exa Z h x CC) (h1 : CC ≠ "java/lang/String") (h2 : CC ≠ "[B") : W Γ n0 T h C S (x :: sf) := by
  obtain ⟨hx, hZ0, hown0, hby, hml, hret, hnm, hlk, hR, hsH, hzz, hel, hew⟩ := G
  subst hzz hel
  obtain ⟨L, v, k, X, e, N, a, b, H⟩ := X
  refine ⟨L, v, k, X, e, N, a, b, H.1, fun y hy => ?_⟩
  rcases List.mem_cons.mp hy with rfl | hy
  · exact ⟨E.lt, Safe.exa (State.Warmed39.trans hZ0 a.1).alike E h1 h2⟩
  · exact H.2 y hy
theorem backHeld {l : Launch} {R : Room} {p : Program} {e : Env} {below : List Frame} {s : State} {args : Array Value} {vm0 : Vm} {a0 a1 : Array Value} {y : MethodName} {maxL len Wd : Nat} {as' : Array Value} (hM : Met Z EL sf y bytes maxL ret rm as' h n0 Q) (hZ : Z.Warmed39 vm0) (wc : (Cond.code y bytes maxL ret).before a0 Z = true) (wz : (Cond.initialized y.cls).before a0 Z = true) (hf : rm.frames + 1 ≤ R.frames) (hl : Wd + (maxL + 11) + rm.locals ≤ R.locals) (hEL : EW Z a1 EL) (H : CHv Z EL vm0 h) (hs : ∀ x ∈ sf, x < h.size ∧ Safe Z EL vm0 h x) :
    BackS l R p e below (s.setVm vm0) args y len Wd (fun A a => a = as' ∧ A.U.heap = h ∧ A.cells + rm.cells ≤ R.cells ∧ A.slots + rm.slots ≤ R.slots)
      (fun A _ v B => ∃ L, ((∃ sf', Q v B.U.heap sf' ∧ ∀ x ∈ sf', x < B.U.heap.size ∧ Safe Z EL B.U.vm B.U.heap x) ∧ Fr n0 L) ∧ B.locs = A.locs ++ L ∧ B.cells = A.cells + rm.cells ∧ B.slots = A.slots + rm.slots ∧ CHr Z EL vm0 h B.U.vm B.U.heap) := by
  refine BackS.of_freeW (bytes := bytes) (maxL := maxL) (ret := ret) (E := fun _ U o U' L k n => k = rm.cells ∧ n = rm.slots ∧ (∃ v, o = .returned v ∧ (∃ sf', Q v U'.heap sf' ∧ ∀ x ∈ sf', x < U'.heap.size ∧ Safe Z EL U'.vm U'.heap x) ∧ Fr n0 L) ∧ CHr Z EL U.vm U.heap U'.vm U'.heap) (hM l) hf hl ?_ ?_ ?_ ?_ ?_
  · intro m meth c A a Y hp
    have hU : Z.Warmed39 A.U.vm := wtrans (s := s.setVm vm0) hZ Y.warmed
    exact ⟨by show (Cond.and _ .tt).before a A.U = true; rw [Cond.before_and, mv hU wc]; rfl, mv hU wc, mv hU wz, hp.2.2.1, hp.2.2.2⟩
  · intro m meth c A a g mk Y hp
    have AT := CHv.at (h := h) Y hZ hEL H
    exact ⟨hp.1, wtrans (s := s.setVm vm0) hZ Y.warmed, hp.2.1, AT.1, fun x hx => ⟨(hs x hx).1, AT.safe (hs x hx).1 (hs x hx).2⟩⟩
  · intros; trivial
  · rintro _ _ _ _ ⟨v, L, h1, h2, h3, h4⟩
    exact ⟨L, _, _, h4, rfl, rfl, ⟨v, h1, h2⟩, h3⟩
  · rintro m meth c A a g mk v t L k n Y hp - - ⟨e1, e2, ⟨v', e3, e4⟩, e5⟩
    cases e3; subst e1 e2
    refine ⟨L, e4, rfl, rfl, rfl, (CHv.at Y hZ hEL H).trans ?_⟩
    rw [← hp.2.1]; exact e5
theorem k_callS {a0 : Array Value} {idx : Nat} {y : MethodName} {by' : ByteArray} {maxL' : Nat} {ret' : Option FieldType} {rm' : Room} {ps : List FieldType} {rt : Option FieldType} {wd : Nat} {QY : Option Value → Heap → List Addr → Prop} {argsL rest : List Value} (G : Ctx Γ Z EL own bytes maxl ret nm rm hs0) (X : W Γ n0 T h C S sf) (hst : st = argsL.reverse ++ rest) (w1 : (Cond.methodLink own idx y).before a0 Z = true) (w2 : (Cond.static y).before a0 Z = true) (wz : (Cond.initialized y.cls).before a0 Z = true) (wc : (Cond.code y by' maxL' ret').before a0 Z = true) (hy : y.cls ≠ "java/lang/invoke/MethodHandle" ∧ y.cls ≠ "java/lang/invoke/VarHandle") (M : Met Z EL sf y by' maxL' ret' rm' argsL.toArray h n0 QY) (hd : decode bytes pc = .ok (.invokestatic idx, 3)) (pd : parseMethodDescriptor y.desc = some ⟨ps, rt⟩) (hn : argsL.length = ps.length) (hp : pc + 3 = pc') (hL : Ls.size = maxl) (hwd : (rest.map fun v => v.category).sum = wd) (hf : rm'.frames + 1 ≤ rm.frames) (hlo : wd + (maxL' + 11) + rm'.locals ≤ rm.locals) (hc : C + rm'.cells ≤ rm.cells) (hs : S + rm'.slots ≤ rm.slots) (K : ∀ T h' v sf', W Γ n0 T h' (C + rm'.cells) (S + rm'.slots) (sf' ++ sf) → QY v h' sf' → Go Γ n0 Q T (mkF Γ.m pc' Ls (v.toList ++ rest))) : Go Γ n0 Q T (mkF Γ.m pc Ls st) := by
  subst hp hst
  obtain ⟨hx, hZ0, hown0, hby, hml, hret, hnm, hlk, hR, hsH, hzz, hel, hew⟩ := G
  subst hzz hel
  obtain ⟨aw, hew⟩ := hew
  obtain ⟨L, vm0, k0, X, e, N, hS, hk, HD⟩ := X
  have hZ : Γ.Z.Warmed39 (Γ.s.setVm vm0).vm := State.Warmed39.trans hZ0 hS.1
  have hown : (Γ.s.setVm vm0).vm.findClass own = some Γ.m.cls := by rw [show (Γ.s.setVm vm0).vm = vm0 from rfl, hS.1.alike.findClass]; exact hown0
  obtain ⟨v1, _, ⟨T1, L1, k1, n1⟩, -, X1, hS1, hg1, ⟨Lc1, q1, l1, y1, z1, c1⟩, s1⟩ := callSS X hx hown (mvT hZ w1) (mvT hZ w2) (mvT hZ wz) (mvT hZ wc) hy (backHeld (Wd := wd) M hZ wc wz (hR ▸ hf) (hR ▸ hlo) hew HD.1.1 HD.2) (g := mkF Γ.m pc Ls (argsL.reverse ++ rest)) rfl (by rw [hml]; exact hL) (argsL := argsL) (rest := rest) (lenOf pd hn) rfl (by show 2 * 0 + _ ≤ _; omega) (hb hby hd) (fun _ _ => ⟨rfl, e, hR ▸ hc, hR ▸ hs⟩)
  dsimp only [Pt.U, Pt.locs, Pt.cells, Pt.slots] at X1 hS1 hg1 l1 y1 z1 s1 q1 c1
  subst l1 y1 z1
  obtain ⟨⟨sf1, q1, f1⟩, N1⟩ := q1
  exact Go.of (fun t k => s1.trans k) (K T1 _ v1 sf1 ⟨_, _, _, X1, rfl, Fr.app N N1, foldS hS (by rw [e]; exact hk) hS1 hg1, Nat.le_refl _, HD.1.trans c1, fun x hx => (List.mem_append.mp hx).elim (f1 x) fun m => ⟨Nat.lt_of_lt_of_le (HD.2 x m).1 c1.2.1, c1.safe (HD.2 x m).1 (HD.2 x m).2⟩⟩ q1)
theorem k_callI {a0 : Array Value} {idx : Nat} {y : MethodName} {by' : ByteArray} {maxL' : Nat} {rm' : Room} {ps : List FieldType} {rt : Option FieldType} {wd : Nat} {QY : Option Value → Heap → List Addr → Prop} {argsL rest : List Value} {a : Addr} (G : Ctx Γ Z EL own bytes maxl ret nm rm hs0) (X : W Γ n0 T h C S sf) (hst : st = argsL.reverse ++ .ref a :: rest) (hy1 : y.name = "<init>") (w1 : (Cond.methodLink own idx y).before a0 Z = true) (w2 : (Cond.instanceMethod y).before a0 Z = true) (wz : (Cond.initialized y.cls).before a0 Z = true) (wc : (Cond.code y by' maxL' none).before a0 Z = true) (hy : y.cls ≠ "java/lang/invoke/MethodHandle" ∧ y.cls ≠ "java/lang/invoke/VarHandle") (M : Met Z EL sf y by' maxL' none rm' (.ref a :: argsL).toArray h n0 QY) (hd : decode bytes pc = .ok (.invokespecial idx, 3)) (pd : parseMethodDescriptor y.desc = some ⟨ps, rt⟩) (hn : argsL.length = ps.length) (hp : pc + 3 = pc') (hL : Ls.size = maxl) (hwd : (rest.map fun v => v.category).sum = wd) (hf : rm'.frames + 1 ≤ rm.frames) (hlo : wd + (maxL' + 11) + rm'.locals ≤ rm.locals) (hc : C + rm'.cells ≤ rm.cells) (hs : S + rm'.slots ≤ rm.slots) (K : ∀ T h' v sf', W Γ n0 T h' (C + rm'.cells) (S + rm'.slots) (sf' ++ sf) → QY v h' sf' → Go Γ n0 Q T (mkF Γ.m pc' Ls (v.toList ++ rest))) : Go Γ n0 Q T (mkF Γ.m pc Ls st) := by
  subst hp hst
  obtain ⟨hx, hZ0, hown0, hby, hml, hret, hnm, hlk, hR, hsH, hzz, hel, hew⟩ := G
  subst hzz hel
  obtain ⟨aw, hew⟩ := hew
  obtain ⟨L, vm0, k0, X, e, N, hS, hk, HD⟩ := X
  have hZ : Γ.Z.Warmed39 (Γ.s.setVm vm0).vm := State.Warmed39.trans hZ0 hS.1
  have hown : (Γ.s.setVm vm0).vm.findClass own = some Γ.m.cls := by rw [show (Γ.s.setVm vm0).vm = vm0 from rfl, hS.1.alike.findClass]; exact hown0
  obtain ⟨v1, _, ⟨T1, L1, k1, n1⟩, -, X1, hS1, hg1, ⟨Lc1, q1, l1, y1, z1, c1⟩, s1⟩ := X.specialBackS hx hy1 hown (mvT hZ w1) (mvT hZ w2) (mvT hZ wc) hy (backHeld (Wd := wd) M hZ wc wz (hR ▸ hf) (hR ▸ hlo) hew HD.1.1 HD.2) (g := mkF Γ.m pc Ls (argsL.reverse ++ .ref a :: rest)) rfl (by rw [hml]; exact hL) (Steps.refl _) (a := a) (argsL := argsL) (rest := rest) (lenOf pd hn) rfl (by show 2 * 0 + _ ≤ _; omega) (hb hby hd) (fun _ _ => ⟨rfl, e, hR ▸ hc, hR ▸ hs⟩)
  dsimp only [Pt.U, Pt.locs, Pt.cells, Pt.slots] at X1 hS1 hg1 l1 y1 z1 s1 q1 c1
  subst l1 y1 z1
  obtain ⟨⟨sf1, q1, f1⟩, N1⟩ := q1
  exact Go.of (fun t k => s1.trans k) (K T1 _ v1 sf1 ⟨_, _, _, X1, rfl, Fr.app N N1, foldS hS (by rw [e]; exact hk) hS1 hg1, Nat.le_refl _, HD.1.trans c1, fun x hx => (List.mem_append.mp hx).elim (f1 x) fun m => ⟨Nat.lt_of_lt_of_le (HD.2 x m).1 c1.2.1, c1.safe (HD.2 x m).1 (HD.2 x m).2⟩⟩ q1)
theorem k_callV {a0 : Array Value} {idx : Nat} {y : MethodName} {by' : ByteArray} {maxL' : Nat} {ret' : Option FieldType} {rm' : Room} {ps : List FieldType} {rt : Option FieldType} {wd : Nat} {QY : Option Value → Heap → List Addr → Prop} {argsL rest : List Value} {a : Addr} {CC : String} {z : MethodName} (G : Ctx Γ Z EL own bytes maxl ret nm rm hs0) (X : W Γ n0 T h C S sf) (hst : st = argsL.reverse ++ .ref a :: rest) (E : Exa Z h a CC) (w1 : (Cond.methodLink own idx y).before a0 Z = true) (w2 : (Cond.declares y).before a0 Z = true) (nf : ∀ s : State, Z.Warmed39 s.vm → NotFace s y) (w3 : (Cond.selects CC y z).before a0 Z = true) (w4 : (Cond.instanceMethod z).before a0 Z = true) (wz : (Cond.initialized z.cls).before a0 Z = true) (wc : (Cond.code z by' maxL' ret').before a0 Z = true) (hy : y.cls ≠ "java/lang/invoke/MethodHandle" ∧ y.cls ≠ "java/lang/invoke/VarHandle") (M : Met Z EL sf z by' maxL' ret' rm' (.ref a :: argsL).toArray h n0 QY) (hd : decode bytes pc = .ok (.invokevirtual idx, 3)) (pd : parseMethodDescriptor y.desc = some ⟨ps, rt⟩) (hn : argsL.length = ps.length) (hp : pc + 3 = pc') (hL : Ls.size = maxl) (hwd : (rest.map fun v => v.category).sum = wd) (hf : rm'.frames + 1 ≤ rm.frames) (hlo : wd + (maxL' + 11) + rm'.locals ≤ rm.locals) (hc : C + rm'.cells ≤ rm.cells) (hs : S + rm'.slots ≤ rm.slots) (K : ∀ T h' v sf', W Γ n0 T h' (C + rm'.cells) (S + rm'.slots) (sf' ++ sf) → QY v h' sf' → Go Γ n0 Q T (mkF Γ.m pc' Ls (v.toList ++ rest))) : Go Γ n0 Q T (mkF Γ.m pc Ls st) := by
  subst hp hst
  obtain ⟨hx, hZ0, hown0, hby, hml, hret, hnm, hlk, hR, hsH, hzz, hel, hew⟩ := G
  subst hzz hel
  obtain ⟨aw, hew⟩ := hew
  obtain ⟨L, vm0, k0, X, e, N, hS, hk, HD⟩ := X
  have hZ : Γ.Z.Warmed39 (Γ.s.setVm vm0).vm := State.Warmed39.trans hZ0 hS.1
  have hown : (Γ.s.setVm vm0).vm.findClass own = some Γ.m.cls := by rw [show (Γ.s.setVm vm0).vm = vm0 from rfl, hS.1.alike.findClass]; exact hown0
  obtain ⟨cq, kq, qa, qb, qc⟩ := isOf hZ e E
  obtain ⟨v1, _, ⟨T1, L1, k1, n1⟩, -, X1, hS1, hg1, ⟨Lc1, q1, l1, y1, z1, c1⟩, s1⟩ := X.virtualBackS hx hown (mvT hZ w1) (mvT hZ w2) (nf _ hZ) (mvT hZ w3) (mvT hZ w4) hy (backHeld (Wd := wd) M hZ wc wz (hR ▸ hf) (hR ▸ hlo) hew HD.1.1 HD.2) qa qc (g := mkF Γ.m pc Ls (argsL.reverse ++ .ref a :: rest)) rfl (by rw [hml]; exact hL) (Steps.refl _) (argsL := argsL) (rest := rest) (lenOf pd hn) rfl (by show 2 * 0 + _ ≤ _; omega) (hb hby hd) (fun _ _ => ⟨rfl, e, hR ▸ hc, hR ▸ hs⟩)
  dsimp only [Pt.U, Pt.locs, Pt.cells, Pt.slots] at X1 hS1 hg1 l1 y1 z1 s1 q1 c1
  subst l1 y1 z1
  obtain ⟨⟨sf1, q1, f1⟩, N1⟩ := q1
  exact Go.of (fun t k => s1.trans k) (K T1 _ v1 sf1 ⟨_, _, _, X1, rfl, Fr.app N N1, foldS hS (by rw [e]; exact hk) hS1 hg1, Nat.le_refl _, HD.1.trans c1, fun x hx => (List.mem_append.mp hx).elim (f1 x) fun m => ⟨Nat.lt_of_lt_of_le (HD.2 x m).1 c1.2.1, c1.safe (HD.2 x m).1 (HD.2 x m).2⟩⟩ q1)
theorem nf_sel {a0 : Array Value} {CC : String} {y : MethodName} (w3 : (Cond.selects CC y y).before a0 Z = true) : ∀ s : State, Z.Warmed39 s.vm → NotFace s y := fun s hZ => notFace_of_selects (args := #[]) (mvT hZ w3)
theorem k_callVU {a0 : Array Value} {idx : Nat} {y : MethodName} {by' : ByteArray} {maxL' : Nat} {ret' : Option FieldType} {rm' : Room} {ps : List FieldType} {rt : Option FieldType} {wd : Nat} {QY : Option Value → Heap → List Addr → Prop} {argsL rest : List Value} {a : Addr} {CC owner : String} {z : MethodName} (G : Ctx Γ Z EL own bytes maxl ret nm rm hs0) (X : W Γ n0 T h C S sf) (hst : st = argsL.reverse ++ .ref a :: rest) (E : Exa Z h a CC) (w1 : (Cond.methodLink own idx y).before a0 Z = true) (ws : (Cond.sameMethod y.cls owner y.name y.desc).before a0 Z = true) (w2 : (Cond.declares ⟨owner, y.name, y.desc⟩).before a0 Z = true) (w3 : (Cond.selects CC y z).before a0 Z = true) (w4 : (Cond.instanceMethod z).before a0 Z = true) (wz : (Cond.initialized z.cls).before a0 Z = true) (wc : (Cond.code z by' maxL' ret').before a0 Z = true) (hy : owner ≠ "java/lang/invoke/MethodHandle" ∧ owner ≠ "java/lang/invoke/VarHandle") (M : Met Z EL sf z by' maxL' ret' rm' (.ref a :: argsL).toArray h n0 QY) (hd : decode bytes pc = .ok (.invokevirtual idx, 3)) (pd : parseMethodDescriptor y.desc = some ⟨ps, rt⟩) (hn : argsL.length = ps.length) (hp : pc + 3 = pc') (hL : Ls.size = maxl) (hwd : (rest.map fun v => v.category).sum = wd) (hf : rm'.frames + 1 ≤ rm.frames) (hlo : wd + (maxL' + 11) + rm'.locals ≤ rm.locals) (hc : C + rm'.cells ≤ rm.cells) (hs : S + rm'.slots ≤ rm.slots) (K : ∀ T h' v sf', W Γ n0 T h' (C + rm'.cells) (S + rm'.slots) (sf' ++ sf) → QY v h' sf' → Go Γ n0 Q T (mkF Γ.m pc' Ls (v.toList ++ rest))) : Go Γ n0 Q T (mkF Γ.m pc Ls st) := by
  subst hp hst
  obtain ⟨hx, hZ0, hown0, hby, hml, hret, hnm, hlk, hR, hsH, hzz, hel, hew⟩ := G
  subst hzz hel
  obtain ⟨aw, hew⟩ := hew
  obtain ⟨L, vm0, k0, X, e, N, hS, hk, HD⟩ := X
  have hZ : Γ.Z.Warmed39 (Γ.s.setVm vm0).vm := State.Warmed39.trans hZ0 hS.1
  have hown : (Γ.s.setVm vm0).vm.findClass own = some Γ.m.cls := by rw [show (Γ.s.setVm vm0).vm = vm0 from rfl, hS.1.alike.findClass]; exact hown0
  obtain ⟨cq, kq, qa, qb, qc⟩ := isOf hZ e E
  obtain ⟨v1, _, ⟨T1, L1, k1, n1⟩, -, X1, hS1, hg1, ⟨Lc1, q1, l1, y1, z1, c1⟩, s1⟩ := X.virtualBackUpS hx hown (mvT hZ w1) (mvT hZ ws) (mvT hZ w2) hy (mvT hZ w3) (mvT hZ w4) (backHeld (Wd := wd) M hZ wc wz (hR ▸ hf) (hR ▸ hlo) hew HD.1.1 HD.2) qa qc (g := mkF Γ.m pc Ls (argsL.reverse ++ .ref a :: rest)) rfl (by rw [hml]; exact hL) (Steps.refl _) (argsL := argsL) (rest := rest) (lenOf pd hn) rfl (by show 2 * 0 + _ ≤ _; omega) (hb hby hd) (fun _ _ => ⟨rfl, e, hR ▸ hc, hR ▸ hs⟩)
  dsimp only [Pt.U, Pt.locs, Pt.cells, Pt.slots] at X1 hS1 hg1 l1 y1 z1 s1 q1 c1
  subst l1 y1 z1
  obtain ⟨⟨sf1, q1, f1⟩, N1⟩ := q1
  exact Go.of (fun t k => s1.trans k) (K T1 _ v1 sf1 ⟨_, _, _, X1, rfl, Fr.app N N1, foldS hS (by rw [e]; exact hk) hS1 hg1, Nat.le_refl _, HD.1.trans c1, fun x hx => (List.mem_append.mp hx).elim (f1 x) fun m => ⟨Nat.lt_of_lt_of_le (HD.2 x m).1 c1.2.1, c1.safe (HD.2 x m).1 (HD.2 x m).2⟩⟩ q1)
theorem k_callF {a0 : Array Value} {idx : Nat} {y : MethodName} {by' : ByteArray} {maxL' : Nat} {ret' : Option FieldType} {rm' : Room} {ps : List FieldType} {rt : Option FieldType} {wd : Nat} {QY : Option Value → Heap → List Addr → Prop} {argsL rest : List Value} {a : Addr} {CC : String} {z : MethodName} {cnt : Nat} (G : Ctx Γ Z EL own bytes maxl ret nm rm hs0) (X : W Γ n0 T h C S sf) (hst : st = argsL.reverse ++ .ref a :: rest) (E : Exa Z h a CC) (w1 : (Cond.methodLink own idx y).before a0 Z = true) (w2 : (Cond.declares y).before a0 Z = true) (wf : (Cond.interfaceMethod y.cls y.cls y.name y.desc).before a0 Z = true) (hwf : ((Cond.interfaceMethod y.cls y.cls y.name y.desc).onTables && (Cond.interfaceMethod y.cls y.cls y.name y.desc).keepsFace) = true) (w3 : (Cond.selects CC y z).before a0 Z = true) (w4 : (Cond.instanceMethod z).before a0 Z = true) (wp : (Cond.publicMethod z).before a0 Z = true) (wu : (Cond.unhidden CC y.name y.desc).before a0 Z = true) (wk : (Cond.castable CC y.cls).before a0 Z = true) (wz : (Cond.initialized z.cls).before a0 Z = true) (wc : (Cond.code z by' maxL' ret').before a0 Z = true) (hy : y.cls ≠ "java/lang/invoke/MethodHandle" ∧ y.cls ≠ "java/lang/invoke/VarHandle") (M : Met Z EL sf z by' maxL' ret' rm' (.ref a :: argsL).toArray h n0 QY) (hd : decode bytes pc = .ok (.invokeinterface idx cnt, 5)) (pd : parseMethodDescriptor y.desc = some ⟨ps, rt⟩) (hn : argsL.length = ps.length) (hp : pc + 5 = pc') (hL : Ls.size = maxl) (hwd : (rest.map fun v => v.category).sum = wd) (hf : rm'.frames + 1 ≤ rm.frames) (hlo : wd + (maxL' + 11) + rm'.locals ≤ rm.locals) (hc : C + rm'.cells ≤ rm.cells) (hs : S + rm'.slots ≤ rm.slots) (K : ∀ T h' v sf', W Γ n0 T h' (C + rm'.cells) (S + rm'.slots) (sf' ++ sf) → QY v h' sf' → Go Γ n0 Q T (mkF Γ.m pc' Ls (v.toList ++ rest))) : Go Γ n0 Q T (mkF Γ.m pc Ls st) := by
  subst hp hst
  obtain ⟨hx, hZ0, hown0, hby, hml, hret, hnm, hlk, hR, hsH, hzz, hel, hew⟩ := G
  subst hzz hel
  obtain ⟨aw, hew⟩ := hew
  obtain ⟨L, vm0, k0, X, e, N, hS, hk, HD⟩ := X
  have hZ : Γ.Z.Warmed39 (Γ.s.setVm vm0).vm := State.Warmed39.trans hZ0 hS.1
  have hown : (Γ.s.setVm vm0).vm.findClass own = some Γ.m.cls := by rw [show (Γ.s.setVm vm0).vm = vm0 from rfl, hS.1.alike.findClass]; exact hown0
  obtain ⟨cq, kq, qa, qb, qc⟩ := isOf hZ e E
  obtain ⟨v1, _, ⟨T1, L1, k1, n1⟩, -, X1, hS1, hg1, ⟨Lc1, q1, l1, y1, z1, c1⟩, s1⟩ := X.interfaceBackS hx hown (mvT hZ w1) (mvT hZ w2) (mvT hZ wf hwf) (mvT hZ w3) (mvT hZ w4) (mvT hZ wp) (mvT hZ wu) (mvT hZ wk) hy (backHeld (Wd := wd) M hZ wc wz (hR ▸ hf) (hR ▸ hlo) hew HD.1.1 HD.2) qa qb qc (g := mkF Γ.m pc Ls (argsL.reverse ++ .ref a :: rest)) rfl (by rw [hml]; exact hL) (Steps.refl _) (argsL := argsL) (rest := rest) (lenOf pd hn) rfl (by show 2 * 0 + _ ≤ _; omega) (hb hby hd) (fun _ _ => ⟨rfl, e, hR ▸ hc, hR ▸ hs⟩)
  dsimp only [Pt.U, Pt.locs, Pt.cells, Pt.slots] at X1 hS1 hg1 l1 y1 z1 s1 q1 c1
  subst l1 y1 z1
  obtain ⟨⟨sf1, q1, f1⟩, N1⟩ := q1
  exact Go.of (fun t k => s1.trans k) (K T1 _ v1 sf1 ⟨_, _, _, X1, rfl, Fr.app N N1, foldS hS (by rw [e]; exact hk) hS1 hg1, Nat.le_refl _, HD.1.trans c1, fun x hx => (List.mem_append.mp hx).elim (f1 x) fun m => ⟨Nat.lt_of_lt_of_le (HD.2 x m).1 c1.2.1, c1.safe (HD.2 x m).1 (HD.2 x m).2⟩⟩ q1)
theorem k_callP {a0 : Array Value} {idx : Nat} {y : MethodName} {by' : ByteArray} {maxL' : Nat} {ret' : Option FieldType} {rm' : Room} {ps : List FieldType} {rt : Option FieldType} {wd : Nat} {QY : Option Value → Heap → List Addr → Prop} {argsL rest : List Value} {a : Addr} {CC : String} (G : Ctx Γ Z EL own bytes maxl ret nm rm hs0) (X : W Γ n0 T h C S sf) (hst : st = argsL.reverse ++ .ref a :: rest) (E : Exa Z h a CC) (w1 : (Cond.methodLink own idx y).before a0 Z = true) (w2 : (Cond.instanceMethod y).before a0 Z = true) (w3 : (Cond.selects y.cls y y).before a0 Z = true) (wp : (Cond.privateMethod y).before a0 Z = true) (wz : (Cond.initialized y.cls).before a0 Z = true) (wc : (Cond.code y by' maxL' ret').before a0 Z = true) (hy : y.cls ≠ "java/lang/invoke/MethodHandle" ∧ y.cls ≠ "java/lang/invoke/VarHandle") (M : Met Z EL sf y by' maxL' ret' rm' (.ref a :: argsL).toArray h n0 QY) (hd : decode bytes pc = .ok (.invokevirtual idx, 3)) (pd : parseMethodDescriptor y.desc = some ⟨ps, rt⟩) (hn : argsL.length = ps.length) (hp : pc + 3 = pc') (hL : Ls.size = maxl) (hwd : (rest.map fun v => v.category).sum = wd) (hf : rm'.frames + 1 ≤ rm.frames) (hlo : wd + (maxL' + 11) + rm'.locals ≤ rm.locals) (hc : C + rm'.cells ≤ rm.cells) (hs : S + rm'.slots ≤ rm.slots) (K : ∀ T h' v sf', W Γ n0 T h' (C + rm'.cells) (S + rm'.slots) (sf' ++ sf) → QY v h' sf' → Go Γ n0 Q T (mkF Γ.m pc' Ls (v.toList ++ rest))) : Go Γ n0 Q T (mkF Γ.m pc Ls st) := by
  subst hp hst
  obtain ⟨hx, hZ0, hown0, hby, hml, hret, hnm, hlk, hR, hsH, hzz, hel, hew⟩ := G
  subst hzz hel
  obtain ⟨aw, hew⟩ := hew
  obtain ⟨L, vm0, k0, X, e, N, hS, hk, HD⟩ := X
  have hZ : Γ.Z.Warmed39 (Γ.s.setVm vm0).vm := State.Warmed39.trans hZ0 hS.1
  have hown : (Γ.s.setVm vm0).vm.findClass own = some Γ.m.cls := by rw [show (Γ.s.setVm vm0).vm = vm0 from rfl, hS.1.alike.findClass]; exact hown0
  obtain ⟨cq, qa, qb⟩ := E.cell
  obtain ⟨v1, _, ⟨T1, L1, k1, n1⟩, -, X1, hS1, hg1, ⟨Lc1, q1, l1, y1, z1, c1⟩, s1⟩ := X.privateBackS hx hown (mvT hZ w1) (mvT hZ w2) (mvT hZ w3) (Cond.privateMethod_at (mvP hZ wp (args := #[]))) (mvT hZ wc) hy (backHeld (Wd := wd) M hZ wc wz (hR ▸ hf) (hR ▸ hlo) hew HD.1.1 HD.2) (g := mkF Γ.m pc Ls (argsL.reverse ++ .ref a :: rest)) rfl (by rw [hml]; exact hL) (Steps.refl _) (a := a) (by rw [e]; exact qa) qb (argsL := argsL) (rest := rest) (lenOf pd hn) rfl (by show 2 * 0 + _ ≤ _; omega) (hb hby hd) (fun _ _ => ⟨rfl, e, hR ▸ hc, hR ▸ hs⟩)
  dsimp only [Pt.U, Pt.locs, Pt.cells, Pt.slots] at X1 hS1 hg1 l1 y1 z1 s1 q1 c1
  subst l1 y1 z1
  obtain ⟨⟨sf1, q1, f1⟩, N1⟩ := q1
  exact Go.of (fun t k => s1.trans k) (K T1 _ v1 sf1 ⟨_, _, _, X1, rfl, Fr.app N N1, foldS hS (by rw [e]; exact hk) hS1 hg1, Nat.le_refl _, HD.1.trans c1, fun x hx => (List.mem_append.mp hx).elim (f1 x) fun m => ⟨Nat.lt_of_lt_of_le (HD.2 x m).1 c1.2.1, c1.safe (HD.2 x m).1 (HD.2 x m).2⟩⟩ q1)
theorem k_callU {a0 : Array Value} {idx : Nat} {y : MethodName} {by' : ByteArray} {maxL' : Nat} {ret' : Option FieldType} {rm' : Room} {ps : List FieldType} {rt : Option FieldType} {wd : Nat} {QY : Option Value → Heap → List Addr → Prop} {argsL rest : List Value} {a : Addr} {KS : String} (G : Ctx Γ Z EL own bytes maxl ret nm rm hs0) (X : W Γ n0 T h C S sf) (hst : st = argsL.reverse ++ .ref a :: rest) (I : Ins Z h a KS true) (w1 : (Cond.methodLink own idx y).before a0 Z = true) (w2 : (Cond.sameMethod y.cls y.cls y.name y.desc).before a0 Z = true) (w3 : (Cond.instanceMethod y).before a0 Z = true) (w4 : (Cond.superclass own y.cls).before a0 Z = true) (hni : y.name ≠ "<init>") (wz : (Cond.initialized y.cls).before a0 Z = true) (wc : (Cond.code y by' maxL' ret').before a0 Z = true) (M : Met Z EL sf y by' maxL' ret' rm' (.ref a :: argsL).toArray h n0 QY) (hd : decode bytes pc = .ok (.invokespecial idx, 3)) (pd : parseMethodDescriptor y.desc = some ⟨ps, rt⟩) (hn : argsL.length = ps.length) (hp : pc + 3 = pc') (hL : Ls.size = maxl) (hwd : (rest.map fun v => v.category).sum = wd) (hf : rm'.frames + 1 ≤ rm.frames) (hlo : wd + (maxL' + 11) + rm'.locals ≤ rm.locals) (hc : C + rm'.cells ≤ rm.cells) (hs : S + rm'.slots ≤ rm.slots) (K : ∀ T h' v sf', W Γ n0 T h' (C + rm'.cells) (S + rm'.slots) (sf' ++ sf) → QY v h' sf' → Go Γ n0 Q T (mkF Γ.m pc' Ls (v.toList ++ rest))) : Go Γ n0 Q T (mkF Γ.m pc Ls st) := by
  subst hp hst
  obtain ⟨hx, hZ0, hown0, hby, hml, hret, hnm, hlk, hR, hsH, hzz, hel, hew⟩ := G
  subst hzz hel
  obtain ⟨aw, hew⟩ := hew
  obtain ⟨L, vm0, k0, X, e, N, hS, hk, HD⟩ := X
  have hZ : Γ.Z.Warmed39 (Γ.s.setVm vm0).vm := State.Warmed39.trans hZ0 hS.1
  have hown : (Γ.s.setVm vm0).vm.findClass own = some Γ.m.cls := by rw [show (Γ.s.setVm vm0).vm = vm0 from rfl, hS.1.alike.findClass]; exact hown0
  obtain ⟨v1, _, ⟨T1, L1, k1, n1⟩, -, X1, hS1, hg1, ⟨Lc1, q1, l1, y1, z1, c1⟩, s1⟩ := superBackS X hx hZ hown w1 w2 w3 w4 hni (backHeld (Wd := wd) M hZ wc wz (hR ▸ hf) (hR ▸ hlo) hew HD.1.1 HD.2) e I (g := mkF Γ.m pc Ls (argsL.reverse ++ .ref a :: rest)) rfl (by rw [hml]; exact hL) wc (argsL := argsL) (rest := rest) (lenOf pd hn) rfl (by show 2 * 0 + _ ≤ _; omega) (hb hby hd) (fun _ _ => ⟨rfl, e, hR ▸ hc, hR ▸ hs⟩)
  dsimp only [Pt.U, Pt.locs, Pt.cells, Pt.slots] at X1 hS1 hg1 l1 y1 z1 s1 q1 c1
  subst l1 y1 z1
  obtain ⟨⟨sf1, q1, f1⟩, N1⟩ := q1
  exact Go.of (fun t k => s1.trans k) (K T1 _ v1 sf1 ⟨_, _, _, X1, rfl, Fr.app N N1, foldS hS (by rw [e]; exact hk) hS1 hg1, Nat.le_refl _, HD.1.trans c1, fun x hx => (List.mem_append.mp hx).elim (f1 x) fun m => ⟨Nat.lt_of_lt_of_le (HD.2 x m).1 c1.2.1, c1.safe (HD.2 x m).1 (HD.2 x m).2⟩⟩ q1)
/-! ### arrays: the components by a function of their place -/
def Arf (Z : State) (h : Heap) (a : Addr) (k : ClassId) (ty : FieldType) (n : Nat) (f : Nat → Value) : Prop := ∃ c : Cell, Arr Z h a c ty ∧ c.cls = k ∧ c.slots.size = n ∧ n < 2147483648 ∧ ∀ i, i < n → c.slots[i]? = some (f i) ∧ fits ty (f i) = true
section A
variable {h' : Heap} {a b : Addr} {k : ClassId} {ty : FieldType} {n : Nat} {f g : Nat → Value} {v : Value} {sl : Nat} {ws : List Addr}
theorem Arf.lt (F : Arf Z h a k ty n f) : a < h.size := by obtain ⟨c, A, -⟩ := F; exact A.lt
theorem Arf.ext (F : Arf Z h a k ty n f) (E : Ext h h') : Arf Z h' a k ty n f := by obtain ⟨c, A, r⟩ := F; exact ⟨c, A.ext E, r⟩
theorem Arf.other (F : Arf Z h b k ty n f) (W : Wr h h' a sl v) (q : b ≠ a) : Arf Z h' b k ty n f := by obtain ⟨c, A, r⟩ := F; exact ⟨c, A.other W q, r⟩
theorem Arf.keep (F : Arf Z h a k ty n f) (K : Keep h h' ws) (q : a ∉ ws) : Arf Z h' a k ty n f := by obtain ⟨c, A, r⟩ := F; exact ⟨c, ⟨K.2.1 a c A.1 q, A.2⟩, r⟩
theorem Arf.congr (F : Arf Z h a k ty n f) (q : ∀ i, i < n → f i = g i) : Arf Z h a k ty n g := by
  obtain ⟨c, A, r1, r2, r3, H⟩ := F
  exact ⟨c, A, r1, r2, r3, fun i hi => by rw [← q i hi]; exact H i hi⟩
theorem Arf.size_lt (F : Arf Z h a k ty n f) : n < 2147483648 := by obtain ⟨c, A, r1, r2, r3, H⟩ := F; exact r3
theorem Arf.fits (F : Arf Z h a k ty n f) {i : Nat} (hi : i < n) : fits ty (f i) = true := by obtain ⟨c, A, r1, r2, r3, H⟩ := F; exact (H i hi).2
theorem idx_of {j : Int32} {i : Nat} (hj : j.toInt = i) : ¬ j < 0 ∧ j.toNatClampNeg = i := by
  rw [Int32.lt_iff_toInt_lt, show (0 : Int32).toInt = 0 from rfl, hj]
  exact ⟨by omega, by simp only [Int32.toNatClampNeg, hj]; omega⟩
theorem Arf.set (F : Arf Z h a k ty n f) {i : Nat} (W : Wr h h' a i v) (hi : i < n) (hv : Jvm.fits ty v = true) : Arf Z h' a k ty n (fun x => if x = i then v else f x) := by
  obtain ⟨c, A, r1, r2, r3, H⟩ := F
  refine ⟨_, A.same W, r1, by rw [sz_set]; exact r2, r3, fun x hx => ?_⟩
  by_cases q : x = i
  · subst q
    refine ⟨?_, by simpa using hv⟩
    simp [Cell.setSlot, r2, hx]
  · refine ⟨?_, by simpa [q] using (H x hx).2⟩
    simp only [Cell.setSlot, if_neg q]
    rw [Array.getElem?_setIfInBounds_ne (fun e => q e.symm)]; exact (H x hx).1
theorem Arf.new {z : Int32} (A : Arr Z h a (newA k ty z) ty) (hz : z.toInt = n) : Arf Z h a k ty n (fun _ => defaultValue ty) := by
  have q := idx_of hz
  refine ⟨_, A, rfl, by rw [sz_new, q.2], by have := Int32.toInt_lt z; omega, fun i hi => ⟨?_, by cases ty <;> rfl⟩⟩
  simp [newA, q.2, hi]
theorem Arf.arv (F : Arf Z h a k ty n f) {z : Int32} (hz : z.toInt = n) (dv : Value) : Arv Z h a k ty z ((List.range n).map f) dv := by
  obtain ⟨c, A, r1, r2, r3, H⟩ := F
  have q := idx_of hz
  refine ⟨c, A, r1, by rw [r2, q.2], q.1, fun i hi => ?_, fun i hi => ?_⟩
  · rw [r2] at hi; rw [(H i hi).1]; simp [List.getD_eq_getElem?_getD, hi]
  · rw [r2] at hi; have := (H i hi).2; simpa [List.getD_eq_getElem?_getD, hi] using this
theorem Arf.of_arv {z : Int32} {vs : List Value} {dv : Value} (F : Arv Z h a k ty z vs dv) (hz : z.toInt = n) (q : ∀ i, i < n → vs.getD i dv = f i) : Arf Z h a k ty n f := by
  obtain ⟨c, A, r1, r2, r3, H, G⟩ := F
  have q' := idx_of hz
  refine ⟨c, A, r1, by rw [r2, q'.2], by have := Int32.toInt_lt z; omega, fun i hi => ?_⟩
  have hi' : i < c.slots.size := by rw [r2, q'.2]; exact hi
  rw [← q i hi]; exact ⟨H i hi', G i hi'⟩
theorem Pln_arf (F : Arf Z h a k ty n f) : ∀ cell : Cell, h[a]? = some cell → cell.vm.isStatics = false := fun cell hc => by obtain ⟨c, A, -⟩ := F; cases A.1.symm.trans hc; exact A.plain
theorem Arf.sto (F : Arf Z h a k ty n f) {CC : String} {y : Addr} (O : Ovr Z k CC) (I : Ins Z h y CC true) : Sto Z h a (.ref y) := by
  obtain ⟨c, A, r1, -⟩ := F; exact Sto.ofV A r1 O I
end A

theorem k_newP {a0 : Array Value} {aty : ArrayType} {z : Int32} {n cap : Nat} (G : Ctx Γ Z EL own bytes maxl ret nm rm hs0) (X : W Γ n0 T h C S sf) (w : (Cond.arrayClass (newarray.typeOf aty)).before a0 Z = true) (hd : decode bytes pc = .ok (.newarray aty, 2)) (hp : pc + 2 = pc') (hz : z.toInt = n) (hcap : n ≤ cap) (hbig : cap * 8 ≤ 536870912) (hc : C + 1 ≤ rm.cells) (hs : S + cap ≤ rm.slots) (K : ∀ T h' a k, h.size = a → Ext h h' → Arf Z h' a k (newarray.typeOf aty) n (fun _ => defaultValue (newarray.typeOf aty)) → W Γ n0 T h' (C + 1) (S + cap) (a :: sf) → Go Γ n0 Q T (mkF Γ.m pc' Ls (.ref a :: st))) : Go Γ n0 Q T (mkF Γ.m pc Ls (.int z :: st)) := by
  subst hp
  obtain ⟨hx, hZ0, hown0, hby, hml, hret, hnm, hlk, hR, hsH, hzz, hel, hew⟩ := G
  subst hzz hel
  obtain ⟨aw, hew⟩ := hew
  obtain ⟨L, vm0, k0, X, e, N, hS, hk, HD⟩ := X
  have hZ : Γ.Z.Warmed39 (Γ.s.setVm vm0).vm := State.Warmed39.trans hZ0 hS.1
  have hown : (Γ.s.setVm vm0).vm.findClass own = some Γ.m.cls := by rw [show (Γ.s.setVm vm0).vm = vm0 from rfl, hS.1.alike.findClass]; exact hown0
  obtain ⟨T', h', k', X', e', E', A', st'⟩ := newP X hx hZ w e (g := mkF Γ.m pc Ls (.int z :: st)) rfl (hb hby hd) rfl (idx_of hz).1 (cap := cap) (by rw [(idx_of hz).2]; exact hcap) hbig (hR ▸ hc) (hR ▸ hs)
  exact Go.of st' (K T' h' _ k' rfl E' (Arf.new A' hz) ⟨L, vm0, k0, X', e', N, hS, (Nat.le_trans hk E'.1), HD.new E' A'.lt⟩)
theorem k_newR {a0 : Array Value} {idx : Nat} {CC : String} {z : Int32} {n cap : Nat} (G : Ctx Γ Z EL own bytes maxl ret nm rm hs0) (X : W Γ n0 T h C S sf) (w1 : (Cond.classLink own idx CC).before a0 Z = true) (w2 : (Cond.arrayOver (.object CC)).before a0 Z = true) (hd : decode bytes pc = .ok (.anewarray idx, 3)) (hp : pc + 3 = pc') (hz : z.toInt = n) (hcap : n ≤ cap) (hbig : cap * 8 ≤ 536870912) (hc : C + 1 ≤ rm.cells) (hs : S + cap ≤ rm.slots) (K : ∀ T h' a k, h.size = a → Ext h h' → Arf Z h' a k (.object CC) n (fun _ => .null) → Ovr Z k CC → W Γ n0 T h' (C + 1) (S + cap) (a :: sf) → Go Γ n0 Q T (mkF Γ.m pc' Ls (.ref a :: st))) : Go Γ n0 Q T (mkF Γ.m pc Ls (.int z :: st)) := by
  subst hp
  obtain ⟨hx, hZ0, hown0, hby, hml, hret, hnm, hlk, hR, hsH, hzz, hel, hew⟩ := G
  subst hzz hel
  obtain ⟨aw, hew⟩ := hew
  obtain ⟨L, vm0, k0, X, e, N, hS, hk, HD⟩ := X
  have hZ : Γ.Z.Warmed39 (Γ.s.setVm vm0).vm := State.Warmed39.trans hZ0 hS.1
  have hown : (Γ.s.setVm vm0).vm.findClass own = some Γ.m.cls := by rw [show (Γ.s.setVm vm0).vm = vm0 from rfl, hS.1.alike.findClass]; exact hown0
  obtain ⟨T', h', k', X', e', E', A', O', st'⟩ := newR X hx hZ hown w1 w2 e (g := mkF Γ.m pc Ls (.int z :: st)) rfl (hb hby hd) rfl (idx_of hz).1 (cap := cap) (by rw [(idx_of hz).2]; exact hcap) hbig (hR ▸ hc) (hR ▸ hs)
  exact Go.of st' (K T' h' _ k' rfl E' (Arf.new A' hz) O' ⟨L, vm0, k0, X', e', N, hS, (Nat.le_trans hk E'.1), HD.new E' A'.lt⟩)
theorem k_alen {a : Addr} {k : ClassId} {ty : FieldType} {n : Nat} {f : Nat → Value} {z : Int32} (G : Ctx Γ Z EL own bytes maxl ret nm rm hs0) (X : W Γ n0 T h C S sf) (F : Arf Z h a k ty n f) (hz : z.toInt = n) (hd : decode bytes pc = .ok (.arraylength, 1)) (hp : pc + 1 = pc') (K : Go Γ n0 Q T (mkF Γ.m pc' Ls (.int z :: st))) : Go Γ n0 Q T (mkF Γ.m pc Ls (.ref a :: st)) := by
  subst hp
  obtain ⟨hx, hZ0, hown0, hby, hml, hret, hnm, hlk, hR, hsH, hzz, hel, hew⟩ := G
  subst hzz hel
  obtain ⟨aw, hew⟩ := hew
  obtain ⟨L, vm0, k0, X, e, N, hS, hk, HD⟩ := X
  have hZ : Γ.Z.Warmed39 (Γ.s.setVm vm0).vm := State.Warmed39.trans hZ0 hS.1
  have hown : (Γ.s.setVm vm0).vm.findClass own = some Γ.m.cls := by rw [show (Γ.s.setVm vm0).vm = vm0 from rfl, hS.1.alike.findClass]; exact hown0
  obtain ⟨cl, A, r1, r2, r3, H⟩ := F
  have q : cl.slots.size.toInt32 = z := by rw [r2]; exact Int32.toInt_inj.mp (by rw [len_toInt r3, hz])
  rw [← q] at K
  exact Go.of (fun t k' => X.arraylength hx (by rw [e]; exact A.1) (State.isArrayOf_alike hZ.alike A.2.1) (g := mkF Γ.m pc Ls (.ref a :: st)) rfl rfl (hb hby hd) t k') K
theorem k_iaload {a : Addr} {k : ClassId} {n i : Nat} {f : Nat → Value} {j : Int32} {v : Value} (G : Ctx Γ Z EL own bytes maxl ret nm rm hs0) (X : W Γ n0 T h C S sf) (F : Arf Z h a k .int n f) (hj : j.toInt = i) (hi : i < n) (hv : f i = v) (hd : decode bytes pc = .ok (.iaload, 1)) (hp : pc + 1 = pc') (K : Go Γ n0 Q T (mkF Γ.m pc' Ls (v :: st))) : Go Γ n0 Q T (mkF Γ.m pc Ls (.int j :: .ref a :: st)) := by
  subst hp hv
  obtain ⟨hx, hZ0, hown0, hby, hml, hret, hnm, hlk, hR, hsH, hzz, hel, hew⟩ := G
  subst hzz hel
  obtain ⟨aw, hew⟩ := hew
  obtain ⟨L, vm0, k0, X, e, N, hS, hk, HD⟩ := X
  have hZ : Γ.Z.Warmed39 (Γ.s.setVm vm0).vm := State.Warmed39.trans hZ0 hS.1
  have hown : (Γ.s.setVm vm0).vm.findClass own = some Γ.m.cls := by rw [show (Γ.s.setVm vm0).vm = vm0 from rfl, hS.1.alike.findClass]; exact hown0
  obtain ⟨cl, A, r1, r2, r3, H⟩ := F
  have q := idx_of hj
  exact Go.of (fun t k' => X.iaload hx (by rw [e]; exact A.1) (State.isArrayOf_alike hZ.alike A.2.1) A.2.2 (by rw [r2, q.2]; exact fun u => u.elim q.1 (Nat.not_le.mpr hi)) (by rw [q.2]; exact (H i hi).1) (g := mkF Γ.m pc Ls (.int j :: .ref a :: st)) rfl rfl (hb hby hd) t k') K
theorem k_caload {a : Addr} {k : ClassId} {n i : Nat} {f : Nat → Value} {j : Int32} {v : Value} (G : Ctx Γ Z EL own bytes maxl ret nm rm hs0) (X : W Γ n0 T h C S sf) (F : Arf Z h a k .char n f) (hj : j.toInt = i) (hi : i < n) (hv : f i = v) (hd : decode bytes pc = .ok (.caload, 1)) (hp : pc + 1 = pc') (K : Go Γ n0 Q T (mkF Γ.m pc' Ls (v :: st))) : Go Γ n0 Q T (mkF Γ.m pc Ls (.int j :: .ref a :: st)) := by
  subst hp hv
  obtain ⟨hx, hZ0, hown0, hby, hml, hret, hnm, hlk, hR, hsH, hzz, hel, hew⟩ := G
  subst hzz hel
  obtain ⟨aw, hew⟩ := hew
  obtain ⟨L, vm0, k0, X, e, N, hS, hk, HD⟩ := X
  have hZ : Γ.Z.Warmed39 (Γ.s.setVm vm0).vm := State.Warmed39.trans hZ0 hS.1
  have hown : (Γ.s.setVm vm0).vm.findClass own = some Γ.m.cls := by rw [show (Γ.s.setVm vm0).vm = vm0 from rfl, hS.1.alike.findClass]; exact hown0
  obtain ⟨cl, A, r1, r2, r3, H⟩ := F
  have q := idx_of hj
  exact Go.of (fun t k' => X.caload hx (by rw [e]; exact A.1) (State.isArrayOf_alike hZ.alike A.2.1) A.2.2 (by rw [r2, q.2]; exact fun u => u.elim q.1 (Nat.not_le.mpr hi)) (by rw [q.2]; exact (H i hi).1) (g := mkF Γ.m pc Ls (.int j :: .ref a :: st)) rfl rfl (hb hby hd) t k') K
theorem k_saload {a : Addr} {k : ClassId} {n i : Nat} {f : Nat → Value} {j : Int32} {v : Value} (G : Ctx Γ Z EL own bytes maxl ret nm rm hs0) (X : W Γ n0 T h C S sf) (F : Arf Z h a k .short n f) (hj : j.toInt = i) (hi : i < n) (hv : f i = v) (hd : decode bytes pc = .ok (.saload, 1)) (hp : pc + 1 = pc') (K : Go Γ n0 Q T (mkF Γ.m pc' Ls (v :: st))) : Go Γ n0 Q T (mkF Γ.m pc Ls (.int j :: .ref a :: st)) := by
  subst hp hv
  obtain ⟨hx, hZ0, hown0, hby, hml, hret, hnm, hlk, hR, hsH, hzz, hel, hew⟩ := G
  subst hzz hel
  obtain ⟨aw, hew⟩ := hew
  obtain ⟨L, vm0, k0, X, e, N, hS, hk, HD⟩ := X
  have hZ : Γ.Z.Warmed39 (Γ.s.setVm vm0).vm := State.Warmed39.trans hZ0 hS.1
  have hown : (Γ.s.setVm vm0).vm.findClass own = some Γ.m.cls := by rw [show (Γ.s.setVm vm0).vm = vm0 from rfl, hS.1.alike.findClass]; exact hown0
  obtain ⟨cl, A, r1, r2, r3, H⟩ := F
  have q := idx_of hj
  exact Go.of (fun t k' => X.saload hx (by rw [e]; exact A.1) (State.isArrayOf_alike hZ.alike A.2.1) A.2.2 (by rw [r2, q.2]; exact fun u => u.elim q.1 (Nat.not_le.mpr hi)) (by rw [q.2]; exact (H i hi).1) (g := mkF Γ.m pc Ls (.int j :: .ref a :: st)) rfl rfl (hb hby hd) t k') K
theorem k_laload {a : Addr} {k : ClassId} {n i : Nat} {f : Nat → Value} {j : Int32} {v : Value} (G : Ctx Γ Z EL own bytes maxl ret nm rm hs0) (X : W Γ n0 T h C S sf) (F : Arf Z h a k .long n f) (hj : j.toInt = i) (hi : i < n) (hv : f i = v) (hd : decode bytes pc = .ok (.laload, 1)) (hp : pc + 1 = pc') (K : Go Γ n0 Q T (mkF Γ.m pc' Ls (v :: st))) : Go Γ n0 Q T (mkF Γ.m pc Ls (.int j :: .ref a :: st)) := by
  subst hp hv
  obtain ⟨hx, hZ0, hown0, hby, hml, hret, hnm, hlk, hR, hsH, hzz, hel, hew⟩ := G
  subst hzz hel
  obtain ⟨aw, hew⟩ := hew
  obtain ⟨L, vm0, k0, X, e, N, hS, hk, HD⟩ := X
  have hZ : Γ.Z.Warmed39 (Γ.s.setVm vm0).vm := State.Warmed39.trans hZ0 hS.1
  have hown : (Γ.s.setVm vm0).vm.findClass own = some Γ.m.cls := by rw [show (Γ.s.setVm vm0).vm = vm0 from rfl, hS.1.alike.findClass]; exact hown0
  obtain ⟨cl, A, r1, r2, r3, H⟩ := F
  have q := idx_of hj
  exact Go.of (fun t k' => X.laload hx (by rw [e]; exact A.1) (State.isArrayOf_alike hZ.alike A.2.1) A.2.2 (by rw [r2, q.2]; exact fun u => u.elim q.1 (Nat.not_le.mpr hi)) (by rw [q.2]; exact (H i hi).1) (g := mkF Γ.m pc Ls (.int j :: .ref a :: st)) rfl rfl (hb hby hd) t k') K
theorem k_baload {a : Addr} {k : ClassId} {n i : Nat} {f : Nat → Value} {j : Int32} {v : Value} (G : Ctx Γ Z EL own bytes maxl ret nm rm hs0) (X : W Γ n0 T h C S sf) (F : Arf Z h a k .byte n f) (hj : j.toInt = i) (hi : i < n) (hv : f i = v) (hd : decode bytes pc = .ok (.baload, 1)) (hp : pc + 1 = pc') (K : Go Γ n0 Q T (mkF Γ.m pc' Ls (v :: st))) : Go Γ n0 Q T (mkF Γ.m pc Ls (.int j :: .ref a :: st)) := by
  subst hp hv
  obtain ⟨hx, hZ0, hown0, hby, hml, hret, hnm, hlk, hR, hsH, hzz, hel, hew⟩ := G
  subst hzz hel
  obtain ⟨aw, hew⟩ := hew
  obtain ⟨L, vm0, k0, X, e, N, hS, hk, HD⟩ := X
  have hZ : Γ.Z.Warmed39 (Γ.s.setVm vm0).vm := State.Warmed39.trans hZ0 hS.1
  have hown : (Γ.s.setVm vm0).vm.findClass own = some Γ.m.cls := by rw [show (Γ.s.setVm vm0).vm = vm0 from rfl, hS.1.alike.findClass]; exact hown0
  obtain ⟨cl, A, r1, r2, r3, H⟩ := F
  have q := idx_of hj
  exact Go.of (fun t k' => X.baloadBytes hx (by rw [e]; exact A.1) (State.isArrayOf_alike hZ.alike A.2.1) A.2.2 (by rw [r2, q.2]; exact fun u => u.elim q.1 (Nat.not_le.mpr hi)) (by rw [q.2]; exact (H i hi).1) (g := mkF Γ.m pc Ls (.int j :: .ref a :: st)) rfl rfl (hb hby hd) t k') K
theorem k_aaload {a : Addr} {k : ClassId} {ty : FieldType} {n i : Nat} {f : Nat → Value} {j : Int32} {v : Value} (G : Ctx Γ Z EL own bytes maxl ret nm rm hs0) (X : W Γ n0 T h C S sf) (F : Arf Z h a k ty n f) (hty : ty.isReference = true) (hj : j.toInt = i) (hi : i < n) (hv : f i = v) (hd : decode bytes pc = .ok (.aaload, 1)) (hp : pc + 1 = pc') (K : Go Γ n0 Q T (mkF Γ.m pc' Ls (v :: st))) : Go Γ n0 Q T (mkF Γ.m pc Ls (.int j :: .ref a :: st)) := by
  subst hp hv
  obtain ⟨hx, hZ0, hown0, hby, hml, hret, hnm, hlk, hR, hsH, hzz, hel, hew⟩ := G
  subst hzz hel
  obtain ⟨aw, hew⟩ := hew
  obtain ⟨L, vm0, k0, X, e, N, hS, hk, HD⟩ := X
  have hZ : Γ.Z.Warmed39 (Γ.s.setVm vm0).vm := State.Warmed39.trans hZ0 hS.1
  have hown : (Γ.s.setVm vm0).vm.findClass own = some Γ.m.cls := by rw [show (Γ.s.setVm vm0).vm = vm0 from rfl, hS.1.alike.findClass]; exact hown0
  obtain ⟨cl, A, r1, r2, r3, H⟩ := F
  have q := idx_of hj
  exact Go.of (fun t k' => X.aaload hx (by rw [e]; exact A.1) (State.isArrayOf_alike hZ.alike A.2.1) hty A.2.2 (by rw [r2, q.2]; exact fun u => u.elim q.1 (Nat.not_le.mpr hi)) (by rw [q.2]; exact (H i hi).1) (g := mkF Γ.m pc Ls (.int j :: .ref a :: st)) rfl rfl (hb hby hd) t k') K
theorem k_iastore {a : Addr} {k : ClassId} {n i : Nat} {f : Nat → Value} {j x z : Int32} (G : Ctx Γ Z EL own bytes maxl ret nm rm hs0) (X : W Γ n0 T h C S sf) (F : Arf Z h a k .int n f) (hj : j.toInt = i) (hi : i < n) (hz : x = z) (ga : n0 ≤ a) (ms : a ∈ sf) (hd : decode bytes pc = .ok (.iastore, 1)) (hp : pc + 1 = pc') (K : ∀ T h', Wr h h' a i (.int z) → Arf Z h' a k .int n (fun x => if x = i then (.int z) else f x) → W Γ n0 T h' C S sf → Go Γ n0 Q T (mkF Γ.m pc' Ls st)) : Go Γ n0 Q T (mkF Γ.m pc Ls (.int x :: .int j :: .ref a :: st)) := by
  subst hp hz
  obtain ⟨hx, hZ0, hown0, hby, hml, hret, hnm, hlk, hR, hsH, hzz, hel, hew⟩ := G
  subst hzz hel
  obtain ⟨aw, hew⟩ := hew
  obtain ⟨L, vm0, k0, X, e, N, hS, hk, HD⟩ := X
  have hZ : Γ.Z.Warmed39 (Γ.s.setVm vm0).vm := State.Warmed39.trans hZ0 hS.1
  have hown : (Γ.s.setVm vm0).vm.findClass own = some Γ.m.cls := by rw [show (Γ.s.setVm vm0).vm = vm0 from rfl, hS.1.alike.findClass]; exact hown0
  have F0 := F
  obtain ⟨cl, A, r1, r2, r3, H⟩ := F
  have q := idx_of hj
  obtain ⟨T', h', X', e', W', st'⟩ := stI X hx hZ e A (j := j) (x := x) (by rw [r2, q.2]; exact fun u => u.elim q.1 (Nat.not_le.mpr hi)) (g := mkF Γ.m pc Ls (.int x :: .int j :: .ref a :: st)) rfl rfl (hb hby hd)
  rw [q.2] at W' X'
  exact Go.of st' (K T' h' W' (F0.set W' hi (rfl)) ⟨_, vm0, k0, X', e', Fr.snoc X' N ga, hS, (by rw [W'.size]; exact hk), HD.wr W' ms⟩)
theorem k_castore {a : Addr} {k : ClassId} {n i : Nat} {f : Nat → Value} {j x z : Int32} (G : Ctx Γ Z EL own bytes maxl ret nm rm hs0) (X : W Γ n0 T h C S sf) (F : Arf Z h a k .char n f) (hj : j.toInt = i) (hi : i < n) (hz : nar .char x = z) (ga : n0 ≤ a) (ms : a ∈ sf) (hd : decode bytes pc = .ok (.castore, 1)) (hp : pc + 1 = pc') (K : ∀ T h', Wr h h' a i (.int z) → Arf Z h' a k .char n (fun x => if x = i then (.int z) else f x) → W Γ n0 T h' C S sf → Go Γ n0 Q T (mkF Γ.m pc' Ls st)) : Go Γ n0 Q T (mkF Γ.m pc Ls (.int x :: .int j :: .ref a :: st)) := by
  subst hp hz
  obtain ⟨hx, hZ0, hown0, hby, hml, hret, hnm, hlk, hR, hsH, hzz, hel, hew⟩ := G
  subst hzz hel
  obtain ⟨aw, hew⟩ := hew
  obtain ⟨L, vm0, k0, X, e, N, hS, hk, HD⟩ := X
  have hZ : Γ.Z.Warmed39 (Γ.s.setVm vm0).vm := State.Warmed39.trans hZ0 hS.1
  have hown : (Γ.s.setVm vm0).vm.findClass own = some Γ.m.cls := by rw [show (Γ.s.setVm vm0).vm = vm0 from rfl, hS.1.alike.findClass]; exact hown0
  have F0 := F
  obtain ⟨cl, A, r1, r2, r3, H⟩ := F
  have q := idx_of hj
  obtain ⟨T', h', X', e', W', st'⟩ := stC X hx hZ e A (j := j) (x := x) (by rw [r2, q.2]; exact fun u => u.elim q.1 (Nat.not_le.mpr hi)) (g := mkF Γ.m pc Ls (.int x :: .int j :: .ref a :: st)) rfl rfl (hb hby hd)
  rw [q.2] at W' X'
  exact Go.of st' (K T' h' W' (F0.set W' hi (fits_nar_char _)) ⟨_, vm0, k0, X', e', Fr.snoc X' N ga, hS, (by rw [W'.size]; exact hk), HD.wr W' ms⟩)
theorem k_sastore {a : Addr} {k : ClassId} {n i : Nat} {f : Nat → Value} {j x z : Int32} (G : Ctx Γ Z EL own bytes maxl ret nm rm hs0) (X : W Γ n0 T h C S sf) (F : Arf Z h a k .short n f) (hj : j.toInt = i) (hi : i < n) (hz : nar .short x = z) (ga : n0 ≤ a) (ms : a ∈ sf) (hd : decode bytes pc = .ok (.sastore, 1)) (hp : pc + 1 = pc') (K : ∀ T h', Wr h h' a i (.int z) → Arf Z h' a k .short n (fun x => if x = i then (.int z) else f x) → W Γ n0 T h' C S sf → Go Γ n0 Q T (mkF Γ.m pc' Ls st)) : Go Γ n0 Q T (mkF Γ.m pc Ls (.int x :: .int j :: .ref a :: st)) := by
  subst hp hz
  obtain ⟨hx, hZ0, hown0, hby, hml, hret, hnm, hlk, hR, hsH, hzz, hel, hew⟩ := G
  subst hzz hel
  obtain ⟨aw, hew⟩ := hew
  obtain ⟨L, vm0, k0, X, e, N, hS, hk, HD⟩ := X
  have hZ : Γ.Z.Warmed39 (Γ.s.setVm vm0).vm := State.Warmed39.trans hZ0 hS.1
  have hown : (Γ.s.setVm vm0).vm.findClass own = some Γ.m.cls := by rw [show (Γ.s.setVm vm0).vm = vm0 from rfl, hS.1.alike.findClass]; exact hown0
  have F0 := F
  obtain ⟨cl, A, r1, r2, r3, H⟩ := F
  have q := idx_of hj
  obtain ⟨T', h', X', e', W', st'⟩ := stS X hx hZ e A (j := j) (x := x) (by rw [r2, q.2]; exact fun u => u.elim q.1 (Nat.not_le.mpr hi)) (g := mkF Γ.m pc Ls (.int x :: .int j :: .ref a :: st)) rfl rfl (hb hby hd)
  rw [q.2] at W' X'
  exact Go.of st' (K T' h' W' (F0.set W' hi (fits_nar_short _)) ⟨_, vm0, k0, X', e', Fr.snoc X' N ga, hS, (by rw [W'.size]; exact hk), HD.wr W' ms⟩)
theorem k_bastore {a : Addr} {k : ClassId} {n i : Nat} {f : Nat → Value} {j x z : Int32} (G : Ctx Γ Z EL own bytes maxl ret nm rm hs0) (X : W Γ n0 T h C S sf) (F : Arf Z h a k .byte n f) (hj : j.toInt = i) (hi : i < n) (hz : nar .byte x = z) (ga : n0 ≤ a) (ms : a ∈ sf) (hd : decode bytes pc = .ok (.bastore, 1)) (hp : pc + 1 = pc') (K : ∀ T h', Wr h h' a i (.int z) → Arf Z h' a k .byte n (fun x => if x = i then (.int z) else f x) → W Γ n0 T h' C S sf → Go Γ n0 Q T (mkF Γ.m pc' Ls st)) : Go Γ n0 Q T (mkF Γ.m pc Ls (.int x :: .int j :: .ref a :: st)) := by
  subst hp hz
  obtain ⟨hx, hZ0, hown0, hby, hml, hret, hnm, hlk, hR, hsH, hzz, hel, hew⟩ := G
  subst hzz hel
  obtain ⟨aw, hew⟩ := hew
  obtain ⟨L, vm0, k0, X, e, N, hS, hk, HD⟩ := X
  have hZ : Γ.Z.Warmed39 (Γ.s.setVm vm0).vm := State.Warmed39.trans hZ0 hS.1
  have hown : (Γ.s.setVm vm0).vm.findClass own = some Γ.m.cls := by rw [show (Γ.s.setVm vm0).vm = vm0 from rfl, hS.1.alike.findClass]; exact hown0
  have F0 := F
  obtain ⟨cl, A, r1, r2, r3, H⟩ := F
  have q := idx_of hj
  obtain ⟨T', h', X', e', W', st'⟩ := stB X hx hZ e A (j := j) (x := x) (by rw [r2, q.2]; exact fun u => u.elim q.1 (Nat.not_le.mpr hi)) (g := mkF Γ.m pc Ls (.int x :: .int j :: .ref a :: st)) rfl rfl (hb hby hd)
  rw [q.2] at W' X'
  exact Go.of st' (K T' h' W' (F0.set W' hi (fits_nar_byte _)) ⟨_, vm0, k0, X', e', Fr.snoc X' N ga, hS, (by rw [W'.size]; exact hk), HD.wr W' ms⟩)
theorem k_lastore {a : Addr} {k : ClassId} {n i : Nat} {f : Nat → Value} {j : Int32} {y : Int64} (G : Ctx Γ Z EL own bytes maxl ret nm rm hs0) (X : W Γ n0 T h C S sf) (F : Arf Z h a k .long n f) (hj : j.toInt = i) (hi : i < n) (ga : n0 ≤ a) (ms : a ∈ sf) (hd : decode bytes pc = .ok (.lastore, 1)) (hp : pc + 1 = pc') (K : ∀ T h', Wr h h' a i (.long y) → Arf Z h' a k .long n (fun x => if x = i then (.long y) else f x) → W Γ n0 T h' C S sf → Go Γ n0 Q T (mkF Γ.m pc' Ls st)) : Go Γ n0 Q T (mkF Γ.m pc Ls (.long y :: .int j :: .ref a :: st)) := by
  subst hp
  obtain ⟨hx, hZ0, hown0, hby, hml, hret, hnm, hlk, hR, hsH, hzz, hel, hew⟩ := G
  subst hzz hel
  obtain ⟨aw, hew⟩ := hew
  obtain ⟨L, vm0, k0, X, e, N, hS, hk, HD⟩ := X
  have hZ : Γ.Z.Warmed39 (Γ.s.setVm vm0).vm := State.Warmed39.trans hZ0 hS.1
  have hown : (Γ.s.setVm vm0).vm.findClass own = some Γ.m.cls := by rw [show (Γ.s.setVm vm0).vm = vm0 from rfl, hS.1.alike.findClass]; exact hown0
  have F0 := F
  obtain ⟨cl, A, r1, r2, r3, H⟩ := F
  have q := idx_of hj
  obtain ⟨T', h', X', e', W', st'⟩ := stJ X hx hZ e A (j := j) (x := y) (by rw [r2, q.2]; exact fun u => u.elim q.1 (Nat.not_le.mpr hi)) (g := mkF Γ.m pc Ls (.long y :: .int j :: .ref a :: st)) rfl rfl (hb hby hd)
  rw [q.2] at W' X'
  exact Go.of st' (K T' h' W' (F0.set W' hi rfl) ⟨_, vm0, k0, X', e', Fr.snoc X' N ga, hS, (by rw [W'.size]; exact hk), HD.wr W' ms⟩)
theorem k_aastore {a : Addr} {k : ClassId} {ty : FieldType} {n i : Nat} {f : Nat → Value} {j : Int32} {v : Value} (G : Ctx Γ Z EL own bytes maxl ret nm rm hs0) (X : W Γ n0 T h C S sf) (F : Arf Z h a k ty n f) (hty : ty.isReference = true) (hj : j.toInt = i) (hi : i < n) (O : Sto Z h a v) (hv : fits ty v = true) (ga : n0 ≤ a) (ms : a ∈ sf) (hd : decode bytes pc = .ok (.aastore, 1)) (hp : pc + 1 = pc') (K : ∀ T h', Wr h h' a i v → Arf Z h' a k ty n (fun x => if x = i then v else f x) → W Γ n0 T h' C S sf → Go Γ n0 Q T (mkF Γ.m pc' Ls st)) : Go Γ n0 Q T (mkF Γ.m pc Ls (v :: .int j :: .ref a :: st)) := by
  subst hp
  obtain ⟨hx, hZ0, hown0, hby, hml, hret, hnm, hlk, hR, hsH, hzz, hel, hew⟩ := G
  subst hzz hel
  obtain ⟨aw, hew⟩ := hew
  obtain ⟨L, vm0, k0, X, e, N, hS, hk, HD⟩ := X
  have hZ : Γ.Z.Warmed39 (Γ.s.setVm vm0).vm := State.Warmed39.trans hZ0 hS.1
  have hown : (Γ.s.setVm vm0).vm.findClass own = some Γ.m.cls := by rw [show (Γ.s.setVm vm0).vm = vm0 from rfl, hS.1.alike.findClass]; exact hown0
  have F0 := F
  obtain ⟨cl, A, r1, r2, r3, H⟩ := F
  have q := idx_of hj
  obtain ⟨T', h', X', e', W', st'⟩ := stR X hx hZ e A (j := j) (v := v) (by rw [r2, q.2]; exact fun u => u.elim q.1 (Nat.not_le.mpr hi)) hty O (g := mkF Γ.m pc Ls (v :: .int j :: .ref a :: st)) rfl rfl (hb hby hd)
  rw [q.2] at W' X'
  exact Go.of st' (K T' h' W' (F0.set W' hi hv) ⟨_, vm0, k0, X', e', Fr.snoc X' N ga, hS, (by rw [W'.size]; exact hk), HD.wr W' ms⟩)
theorem k_copy {a0 : Array Value} {idx : Nat} {a b : Addr} {k k' : ClassId} {ty : FieldType} {n n' sp dp nn wd : Nat} {f g : Nat → Value} {js jd jn : Int32} (G : Ctx Γ Z EL own bytes maxl ret nm rm hs0) (X : W Γ n0 T h C S sf) (F : Arf Z h a k ty n f) (F' : Arf Z h b k' ty n' g) (hty : refKind ty = false)
    (w1 : (Cond.methodLink own idx Jvm.Stand.acN).before a0 Z = true) (w2 : (Cond.native Jvm.Stand.acN).before a0 Z = true) (w3 : (Cond.static Jvm.Stand.acN).before a0 Z = true) (w4 : (Cond.initialized "java/lang/System").before a0 Z = true)
    (hjs : js.toInt = sp) (hjd : jd.toInt = dp) (hjn : jn.toInt = nn) (h1 : sp + nn ≤ n) (h2 : dp + nn ≤ n') (gb : n0 ≤ b) (ms : b ∈ sf) (hd : decode bytes pc = .ok (.invokestatic idx, 3)) (hp : pc + 3 = pc') (hL : Ls.size = maxl) (hf : 1 ≤ rm.frames) (hwd : (st.map fun v => v.category).sum = wd) (hlo : wd + (nativeFrameWords "java/lang/System" "arraycopy" 5 + 11) ≤ rm.locals)
    (K : ∀ T h', Keep h h' [b] → Arf Z h' b k' ty n' (fun i => if dp ≤ i ∧ i < dp + nn then f (sp + (i - dp)) else g i) → W Γ n0 T h' C S sf → Go Γ n0 Q T (mkF Γ.m pc' Ls st)) : Go Γ n0 Q T (mkF Γ.m pc Ls (.int jn :: .int jd :: .ref b :: .int js :: .ref a :: st)) := by
  subst hp
  obtain ⟨hx, hZ0, hown0, hby, hml, hret, hnm, hlk, hR, hsH, hzz, hel, hew⟩ := G
  subst hzz hel
  obtain ⟨aw, hew⟩ := hew
  obtain ⟨L, vm0, k0, X, e, N, hS, hk, HD⟩ := X
  have hZ : Γ.Z.Warmed39 (Γ.s.setVm vm0).vm := State.Warmed39.trans hZ0 hS.1
  have hown : (Γ.s.setVm vm0).vm.findClass own = some Γ.m.cls := by rw [show (Γ.s.setVm vm0).vm = vm0 from rfl, hS.1.alike.findClass]; exact hown0
  obtain ⟨z, hz⟩ : ∃ z : Int32, z.toInt = n := ⟨n.toInt32, len_toInt F.size_lt⟩
  obtain ⟨z', hz'⟩ : ∃ z : Int32, z.toInt = n' := ⟨n'.toInt32, len_toInt F'.size_lt⟩
  have A := F.arv hz .null
  have B := F'.arv hz' .null
  obtain ⟨qs1, qs2⟩ := idx_of hjs
  obtain ⟨qd1, qd2⟩ := idx_of hjd
  obtain ⟨qn1, qn2⟩ := idx_of hjn
  obtain ⟨T', h', L', X', e', N', K', A', st'⟩ := cpA X hx hZ hown w1 w2 w3 w4 e A B (Or.inl ⟨rfl, hty⟩) qs1 qd1 qn1 (by rw [qs2, qn2, (idx_of hz).2]; exact h1) (by rw [qd2, qn2, (idx_of hz').2]; exact h2) rfl (by rw [qd2, qn2]; simpa using h2) N gb (g := mkF Γ.m pc Ls (.int jn :: .int jd :: .ref b :: .int js :: .ref a :: st)) rfl (by rw [hml]; exact hL) rfl (hb hby hd) (hR ▸ hf) (W := wd) (by show 2 * 0 + _ ≤ _; omega) (hR ▸ hlo)
  refine Go.of st' (K T' h' K' (Arf.of_arv A' hz' fun i hi => ?_) ⟨L', vm0, k0, X', e', N', hS, Nat.le_trans hk K'.1, HD.keep K' ms⟩)
  rw [qs2, qd2, qn2]
  simp only [List.getD_eq_getElem?_getD]
  have lt : (((List.range n').map g).take dp).length = dp := by simp; omega
  by_cases c1 : i < dp
  · rw [List.append_assoc, List.getElem?_append_left (by rw [lt]; exact c1), List.getElem?_take_of_lt c1, if_neg (by omega)]
    simp [hi]
  · by_cases c2 : i < dp + nn
    · rw [List.getElem?_append_left (by rw [List.length_append, lt]; simp; omega), List.getElem?_append_right (by omega), lt, if_pos (by omega)]
      have q1 : i - dp < nn := by omega
      have q2 : sp + (i - dp) < n := by omega
      simp [q1, q2]
    · rw [List.getElem?_append_right (by rw [List.length_append, lt]; simp; omega), if_neg (by omega), List.getElem?_drop]
      have q3 : dp + nn + (i - (((List.range n').map g).take dp ++ (List.range nn).map fun i => (((List.range n).map f)[sp + i]?).getD .null).length) = i := by rw [List.length_append, lt]; simp; omega
      rw [q3]; simp [hi]
theorem k_instNull {idx : Nat} (G : Ctx Γ Z EL own bytes maxl ret nm rm hs0) (X : W Γ n0 T h C S sf) (hd : decode bytes pc = .ok (.instanceof idx, 3)) (hp : pc + 3 = pc') (K : Go Γ n0 Q T (mkF Γ.m pc' Ls (.int 0 :: st))) : Go Γ n0 Q T (mkF Γ.m pc Ls (.null :: st)) := by
  subst hp
  obtain ⟨hx, hZ0, hown0, hby, hml, hret, hnm, hlk, hR, hsH, hzz, hel, hew⟩ := G
  subst hzz hel
  obtain ⟨aw, hew⟩ := hew
  obtain ⟨L, vm0, k0, X, e, N, hS, hk, HD⟩ := X
  have hZ : Γ.Z.Warmed39 (Γ.s.setVm vm0).vm := State.Warmed39.trans hZ0 hS.1
  have hown : (Γ.s.setVm vm0).vm.findClass own = some Γ.m.cls := by rw [show (Γ.s.setVm vm0).vm = vm0 from rfl, hS.1.alike.findClass]; exact hown0
  exact Go.of (fun t k => X.instanceofNull hx (g := mkF Γ.m pc Ls (.null :: st)) rfl rfl (hb hby hd) t k) K
theorem k_castNull {idx : Nat} (G : Ctx Γ Z EL own bytes maxl ret nm rm hs0) (X : W Γ n0 T h C S sf) (hd : decode bytes pc = .ok (.checkcast idx, 3)) (hp : pc + 3 = pc') (K : Go Γ n0 Q T (mkF Γ.m pc' Ls (.null :: st))) : Go Γ n0 Q T (mkF Γ.m pc Ls (.null :: st)) := by
  subst hp
  obtain ⟨hx, hZ0, hown0, hby, hml, hret, hnm, hlk, hR, hsH, hzz, hel, hew⟩ := G
  subst hzz hel
  obtain ⟨aw, hew⟩ := hew
  obtain ⟨L, vm0, k0, X, e, N, hS, hk, HD⟩ := X
  have hZ : Γ.Z.Warmed39 (Γ.s.setVm vm0).vm := State.Warmed39.trans hZ0 hS.1
  have hown : (Γ.s.setVm vm0).vm.findClass own = some Γ.m.cls := by rw [show (Γ.s.setVm vm0).vm = vm0 from rfl, hS.1.alike.findClass]; exact hown0
  exact Go.of (fun t k => X.checkcastNull hx (g := mkF Γ.m pc Ls (.null :: st)) rfl rfl (hb hby hd) t k) K
theorem k_instN {a0 : Array Value} {idx : Nat} {KK CC : String} {a : Addr} (G : Ctx Γ Z EL own bytes maxl ret nm rm hs0) (X : W Γ n0 T h C S sf) (w : (Cond.classLink own idx KK).before a0 Z = true) (F : Ins Z hs0 a KK false) (E : Exa Z hs0 a CC) (hd : decode bytes pc = .ok (.instanceof idx, 3)) (hp : pc + 3 = pc') (K : ∀ T, W Γ n0 T h C S sf → Go Γ n0 Q T (mkF Γ.m pc' Ls (.int 0 :: st))) : Go Γ n0 Q T (mkF Γ.m pc Ls (.ref a :: st)) := by
  subst hp
  obtain ⟨hx, hZ0, hown0, hby, hml, hret, hnm, hlk, hR, hsH, hzz, hel, hew⟩ := G
  subst hzz hel
  obtain ⟨aw, hew⟩ := hew
  obtain ⟨L, vm0, k0, X, e, N, hS, hk, HD⟩ := X
  have hZ : Γ.Z.Warmed39 (Γ.s.setVm vm0).vm := State.Warmed39.trans hZ0 hS.1
  have hown : (Γ.s.setVm vm0).vm.findClass own = some Γ.m.cls := by rw [show (Γ.s.setVm vm0).vm = vm0 from rfl, hS.1.alike.findClass]; exact hown0
  obtain ⟨T', X', e', st'⟩ := instN X hx hZ hown w e (show Ins Γ.Z Γ.s.heap a KK false by rw [hsH]; exact F) (show Exa Γ.Z Γ.s.heap a CC by rw [hsH]; exact E) (g := mkF Γ.m pc Ls (.ref a :: st)) rfl rfl (hb hby hd)
  exact Go.of st' (K T' ⟨L, vm0, k0, X', e', N, hS, hk, HD⟩)
theorem k_instNo {a0 : Array Value} {idx : Nat} {KK CC : String} {a : Addr} (G : Ctx Γ Z EL own bytes maxl ret nm rm hs0) (X : W Γ n0 T h C S sf) (w : (Cond.classLink own idx KK).before a0 Z = true) (E : Exa Z h a CC) (F : ∃ c t, Z.vm.findClass CC = some c ∧ Z.vm.findClass KK = some t ∧ Z.vm.assignable c t = false) (hd : decode bytes pc = .ok (.instanceof idx, 3)) (hp : pc + 3 = pc') (K : ∀ T, W Γ n0 T h C S sf → Go Γ n0 Q T (mkF Γ.m pc' Ls (.int 0 :: st))) : Go Γ n0 Q T (mkF Γ.m pc Ls (.ref a :: st)) := by
  subst hp
  obtain ⟨hx, hZ0, hown0, hby, hml, hret, hnm, hlk, hR, hsH, hzz, hel, hew⟩ := G
  subst hzz hel
  obtain ⟨aw, hew⟩ := hew
  obtain ⟨L, vm0, k0, X, e, N, hS, hk, HD⟩ := X
  have hZ : Γ.Z.Warmed39 (Γ.s.setVm vm0).vm := State.Warmed39.trans hZ0 hS.1
  have hown : (Γ.s.setVm vm0).vm.findClass own = some Γ.m.cls := by rw [show (Γ.s.setVm vm0).vm = vm0 from rfl, hS.1.alike.findClass]; exact hown0
  obtain ⟨T', X', e', st'⟩ := instNo X hx hZ hown w e E F (g := mkF Γ.m pc Ls (.ref a :: st)) rfl rfl (hb hby hd)
  exact Go.of st' (K T' ⟨L, vm0, k0, X', e', N, hS, hk, HD⟩)
theorem selP {a0 : Array Value} {y : MethodName} {n : Nat} (wi : (Cond.instantiable y.cls n).before a0 Z = true) (wp : (Cond.privateMethod y).before a0 Z = true) (w2 : (Cond.instanceMethod y).before a0 Z = true) (hy : y.cls ≠ "java/lang/invoke/MethodHandle" ∧ y.cls ≠ "java/lang/invoke/VarHandle") : (Cond.selects y.cls y y).before a0 Z = true := by
  obtain ⟨t, kt, g0, g1, g2, gr⟩ := Cond.instantiable_spec wi
  have gi : kt.isInterface = false := by have := gr.1; simp at this; exact this.1
  exact Jvm.Stand.selects_self_of_private g0 g1 gi (Cond.privateMethod_at wp) w2 hy
theorem noInst {a0 : Array Value} {CC KK : String} {n : Nat} (w : (Cond.superclass CC "java/lang/Object").before a0 Z = true) (wo : (Cond.noSuperclass "java/lang/Object").before a0 Z = true) (wi : (Cond.instantiable KK n).before a0 Z = true) (h1 : CC ≠ KK) (h2 : "java/lang/Object" ≠ KK) : ∃ c t, Z.vm.findClass CC = some c ∧ Z.vm.findClass KK = some t ∧ Z.vm.assignable c t = false := by
  obtain ⟨t, kt, g0, g1, g2, gr⟩ := Cond.instantiable_spec wi
  have gi : kt.isInterface = false := by have := gr.1; simp at this; exact this.1
  obtain ⟨o, ko, o1, o2, o3, -⟩ := Cond.noSuperclass_spec wo
  obtain ⟨c, h0⟩ := found_sup w
  obtain ⟨p, k, kp, q1, q2, q3, q4, q5, -, q7⟩ := Cond.superclass_spec h0 w
  cases o1.symm.trans q1
  have ne1 := ids_ne h0 g0 h1
  have ne2 := ids_ne o1 g0 h2
  have n3 : ∀ fuel, Z.vm.isSubclassAux fuel c t = false := fun fuel => by
    cases fuel with
    | zero => rfl
    | succ f =>
      have n2 : Z.vm.isSubclassAux f o t = false := by
        cases f with
        | zero => rfl
        | succ f => simp [Vm.isSubclassAux, ne2, o2, o3]
      simp [Vm.isSubclassAux, ne1, q2, q4, n2]
  refine ⟨c, t, h0, g0, ?_⟩
  show Z.vm.assignableAux (255 + 1) c t = false
  simp [Vm.assignableAux, ne1, q2, g1, q5, g2, gi, Vm.isSubclass, n3]
theorem Hd.later {Γ : Cx} {vm vm1 : Vm} {h h' : Heap} {sf : List Addr} (H : Hd Γ vm h sf) (c : CHr Γ.Z Γ.EL vm h vm1 h') : Hd Γ vm1 h' sf := ⟨H.1.trans c, fun x m => ⟨Nat.lt_of_lt_of_le (H.2 x m).1 c.2.1, c.safe (H.2 x m).1 (H.2 x m).2⟩⟩
theorem k_ldcS {a0 : Array Value} {idx n : Nat} {text : String} (G : Ctx Γ Z EL own bytes maxl ret nm rm hs0) (X : W Γ n0 T h C S sf) (w : (Cond.stringLink own idx text).before a0 Z = true) (wS : ∀ a ∈ Bundle.stringAtoms, a.before a0 Z = true) (hd : decode bytes pc = .ok (.ldc idx, 2)) (hp : pc + 2 = pc') (hn : 4 * text.toList.length ≤ n) (hbig : n ≤ 536870912) (hc : C + 2 ≤ rm.cells) (hs : S + (n + 4) ≤ rm.slots) (K : ∀ T h' a, Ext h h' → W Γ n0 T h' (C + 2) (S + (n + 4)) sf → Go Γ n0 Q T (mkF Γ.m pc' Ls (.ref a :: st))) : Go Γ n0 Q T (mkF Γ.m pc Ls st) := by
  subst hp
  obtain ⟨hx, hZ0, hown0, hby, hml, hret, hnm, hlk, hR, hsH, hzz, hel, hew⟩ := G
  subst hzz hel
  obtain ⟨aw, hew⟩ := hew
  obtain ⟨L, vm0, k0, X, e, N, hS, hk, HD⟩ := X
  have hZ : Γ.Z.Warmed39 (Γ.s.setVm vm0).vm := State.Warmed39.trans hZ0 hS.1
  have hown : (Γ.s.setVm vm0).vm.findClass own = some Γ.m.cls := by rw [show (Γ.s.setVm vm0).vm = vm0 from rfl, hS.1.alike.findClass]; exact hown0
  obtain ⟨a, T', h', k1, X', e', E', hS', hk', -, -, c1, -, st'⟩ := ldcOH X hx hZ hown w wS e hS hk hew HD.1.1 (g := mkF Γ.m pc Ls st) rfl (hb hby hd) hn hbig (hR ▸ hc) (hR ▸ hs)
  exact Go.of st' (K T' h' a E' ⟨L, T'.vm, k1, X', e', N, hS', hk', HD.later c1⟩)
theorem k_ldcH {a0 : Array Value} {idx n : Nat} {text : String} {vs : List Int32} {z : Int32} (G : Ctx Γ Z EL own bytes maxl ret nm rm hs0) (X : W Γ n0 T h C S sf) (w : (Cond.stringLink own idx text).before a0 Z = true) (wS : ∀ a ∈ Bundle.stringAtoms, a.before a0 Z = true) (hmem : (own, idx) ∈ EL) (ht : (∀ c ∈ text.toList, c.toNat < 256) ∧ text.toList.map (fun c => Value.int (Jvm.Lit.byteI c.toNat.toUInt16)) = vs.map Value.int) (hz : z.toInt = vs.length) (hd : decode bytes pc = .ok (.ldc idx, 2)) (hp : pc + 2 = pc') (hn : 4 * text.toList.length ≤ n) (hbig : n ≤ 536870912) (hc : C + 2 ≤ rm.cells) (hs : S + (n + 4) ≤ rm.slots) (K : ∀ T h' a b k, Ext h h' → Exa Z h' a "java/lang/String" → Fld Z h' a "java/lang/String" "coder" "B" (.int 0) → Fld Z h' a "java/lang/String" "value" "[B" (.ref b) → Arf Z h' b k .byte vs.length (fun i => .int (vs.getD i 0)) → (∀ x ∈ sf, x ≠ a ∧ x ≠ b) → W Γ n0 T h' (C + 2) (S + (n + 4)) sf → Go Γ n0 Q T (mkF Γ.m pc' Ls (.ref a :: st))) : Go Γ n0 Q T (mkF Γ.m pc Ls st) := by
  subst hp
  obtain ⟨hx, hZ0, hown0, hby, hml, hret, hnm, hlk, hR, hsH, hzz, hel, hew⟩ := G
  subst hzz hel
  obtain ⟨aw, hew⟩ := hew
  obtain ⟨L, vm0, k0, X, e, N, hS, hk, HD⟩ := X
  have hZ : Γ.Z.Warmed39 (Γ.s.setVm vm0).vm := State.Warmed39.trans hZ0 hS.1
  have hown : (Γ.s.setVm vm0).vm.findClass own = some Γ.m.cls := by rw [show (Γ.s.setVm vm0).vm = vm0 from rfl, hS.1.alike.findClass]; exact hown0
  obtain ⟨a, T', h', k1, b, k, X', e', E', hS', hk', -, -, F1, F2, F3, F4, -, -, c1, -, hne, st'⟩ := ldcCH X hx hZ hown w wS e hS hk hew hmem HD.1.1 ht (idx_of hz).1 (by rw [(idx_of hz).2, List.length_map]) (g := mkF Γ.m pc Ls st) rfl (hb hby hd) hn hbig (hR ▸ hc) (hR ▸ hs)
  exact Go.of st' (K T' h' a b k E' F1 F2 F3 (Arf.of_arv F4 hz fun i hi => by rw [List.getD_eq_getElem?_getD, List.getD_eq_getElem?_getD, List.getElem?_map]; cases vs[i]? <;> rfl) (fun x m => hne x ((HD.later c1).2 x m).2) ⟨L, T'.vm, k1, X', e', N, hS', hk', HD.later c1⟩)
theorem W.addA {x : Addr} {k : ClassId} {ty : FieldType} {n : Nat} {f : Nat → Value} (G : Ctx Γ Z EL own bytes maxl ret nm rm hs0) (X : W Γ n0 T h C S sf) (F : Arf Z h x k ty n f) (h1 : ty ≠ .byte) : W Γ n0 T h C S (x :: sf) := by
  obtain ⟨hx, hZ0, hown0, hby, hml, hret, hnm, hlk, hR, hsH, hzz, hel, hew⟩ := G
  subst hzz hel
  obtain ⟨L, v, k, X, e, N, a, b, H⟩ := X
  refine ⟨L, v, k, X, e, N, a, b, H.1, fun y hy => ?_⟩
  rcases List.mem_cons.mp hy with rfl | hy
  · obtain ⟨cl, A, -⟩ := id F; exact ⟨F.lt, Safe.arr (State.Warmed39.trans hZ0 a.1).alike A h1⟩
  · exact H.2 y hy
/-! ### facts -/
theorem W.eq {h' : Heap} (X : W Γ n0 T h' C S sf) (e : h' = h) : W Γ n0 T h C S sf := e ▸ X
theorem Old_le (O : Old Z n0 h) : n0 ≤ h.size := by rw [← O.1]; exact O.2.1
theorem Sta_old {CC n d : String} {v : Value} (O : Old Z n0 h) (F : Sta Z Z.heap CC n d v) : Sta Z h CC n d v := F.ext O.2
theorem Fld_old {CC n d : String} {v : Value} {a : Addr} (O : Old Z n0 h) (F : Fld Z Z.heap a CC n d v) : Fld Z h a CC n d v := F.ext O.2
theorem Exa_old {CC : String} {a : Addr} (O : Old Z n0 h) (F : Exa Z Z.heap a CC) : Exa Z h a CC := F.ext O.2
theorem Sta_keep {h' : Heap} {CC n d : String} {v : Value} (F : Sta Z h CC n d v) (K : Keep h h' []) : Sta Z h' CC n d v := by
  obtain ⟨cf, i, k, f, st, cell, h1, h2, h3, h4, h5, h6, h7⟩ := F
  exact ⟨cf, i, k, f, st, cell, h1, h2, h3, h4, K.2.1 _ _ h5 nin0, h6, h7⟩
def Pln (h : Heap) (a : Addr) : Prop := ∀ cell : Cell, h[a]? = some cell → cell.vm.isStatics = false
theorem Pln_exa {a : Addr} {CC : String} (E : Exa Z h a CC) : Pln h a := fun cell hc => by obtain ⟨c1, _, h1, -, -, h4, -⟩ := E; cases h1.symm.trans hc; exact h4
theorem Pln_fld {a : Addr} {CC n d : String} {v : Value} (F : Fld Z h a CC n d v) : Pln h a := old_plain F
theorem Sta_keepL {h' : Heap} {CC n d : String} {v : Value} {ws : List Addr} (F : Sta Z h CC n d v) (K : Keep h h' ws) (q : ∀ w ∈ ws, Pln h w) : Sta Z h' CC n d v := by
  obtain ⟨cf, i, k, f, st, cell, h1, h2, h3, h4, h5, h6, h7⟩ := F
  exact ⟨cf, i, k, f, st, cell, h1, h2, h3, h4, K.2.1 _ _ h5 (fun hm => by have := q _ hm _ h5; rw [h6] at this; cases this), h6, h7⟩
end K
section Words
variable {s : State} {args : Array Value}
theorem s_exa {CC K n d : String} (hx : (Cond.exactly (Term.static CC n d) K).value args s none s [] = some true) (hi : (Cond.initialized CC).before args s = true) (hl : (Cond.laysStatic CC n d).before args s = true) : ∃ a, Sta s s.heap CC n d (.ref a) ∧ Exa s s.heap a K ∧ (Term.static CC n d).eval args s none [] s = some (.ref a) := by
  obtain ⟨a, ev⟩ := exa_v hx
  exact ⟨a, Sta.start ev (Or.inr ⟨hi, hl⟩), Exa.start ev hx, ev⟩
theorem s_fldI {t : Term} {a : Addr} {O n d : String} {z : Int32} (ev : t.eval args s none [] s = some (.ref a)) (hx : (Cond.eq (Term.field t O n d) (Term.int z)).value args s none s [] = some true) : Fld s s.heap a O n d (.int z) := by
  refine Fld.start ?_
  rw [← fld_at (args := args) (first := s) (o := none) (idx := []) ev]
  simp only [Cond.value, Term.int_eval] at hx
  cases hf : (Term.field t O n d).eval args s none [] s with
  | none => simp [hf] at hx
  | some v => cases v <;> simp [hf] at hx; rw [hx]
theorem s_fldN {t : Term} {a : Addr} {O n d : String} (ev : t.eval args s none [] s = some (.ref a)) (hx : (Cond.eq (Term.field t O n d) Term.null).value args s none s [] = some true) : Fld s s.heap a O n d .null := by
  refine Fld.start ?_
  rw [← fld_at (args := args) (first := s) (o := none) (idx := []) ev]
  exact null_v hx
theorem s_fldX {t : Term} {a : Addr} {O n d K : String} (ev : t.eval args s none [] s = some (.ref a)) (hx : (Cond.exactly (Term.field t O n d) K).value args s none s [] = some true) : ∃ b, Fld s s.heap a O n d (.ref b) ∧ Exa s s.heap b K := by
  obtain ⟨b, eb⟩ := exa_v hx
  refine ⟨b, Fld.start ?_, Exa.start eb hx⟩
  rw [← fld_at (args := args) (first := s) (o := none) (idx := []) ev]; exact eb
theorem len_none {t : Term} {x : Addr} {cl : Cell} {first : State} {o : Option Outcome} {idx : List Nat} (ht : t.eval args first o idx s = some (.ref x)) (ha : s.arrayAt? x = some cl) (hl : ¬ cl.slots.size < 2 ^ 31) : (Term.length t).eval args first o idx s = none := by simp [Term.eval, ht, ha, hl]
theorem s_arr2 {CC n d : String} {E : String} (hx : (Cond.exactly (Term.static CC n d) E).before args s = true) (hi : (Cond.initializedFor CC n d).before args s = true ∨ ((Cond.initialized CC).before args s = true ∧ (Cond.laysStatic CC n d).before args s = true)) (ha : (Cond.arrayOf (Term.static CC n d) (.object "java/lang/Object")).before args s = true) (hl : (Cond.eq (Term.length (Term.static CC n d)) (Term.int 0)).before args s = true) : ∃ a k, Sta s s.heap CC n d (.ref a) ∧ Arf s s.heap a k (.object "java/lang/Object") 0 (fun _ => .null) := by
  obtain ⟨a, ev⟩ := exa_v (Cond.before_iff.mp hx)
  obtain ⟨c, A⟩ := Arr.start ev (Cond.before_iff.mp ha)
  refine ⟨a, c.cls, Sta.start ev hi, c, A, rfl, ?_, by decide, fun i hi => absurd hi (Nat.not_lt_zero _)⟩
  have hl' := Cond.before_iff.mp hl
  have A2 := A.fin (Vm.Alike.refl _)
  by_cases hb : c.slots.size < 2 ^ 31
  · have q := gotT (Cond.eq_ints (len_f ev A2 hb) (Term.int_eval 0)) hl'
    have := congrArg Int32.toInt q
    rw [len_toInt hb, z32] at this
    omega
  · exfalso
    have : (Term.length (Term.static CC n d)).eval args s none [] s = none := len_none ev A2 hb
    simp [Cond.value, this] at hl'
theorem s_cs {CC n d : String} (h0 : (Cond.initializedFor CC n d).before args s = true) (h1 : (Cond.isInt (Term.static CC n d)).before args s = true) (h2 : (Cond.not (Cond.eq (Term.static CC n d) (Term.int 0))).before args s = true) : ∃ cs : Int32, Sta s s.heap CC n d (.int cs) ∧ cs ≠ 0 := by
  obtain ⟨x, ev⟩ := is_v (Cond.before_iff.mp h1)
  refine ⟨x, Sta.start ev (Or.inl h0), fun q => ?_⟩
  have := not_v (Cond.before_iff.mp h2)
  subst q
  rw [eq_i ev (Term.int_eval 0) rfl] at this
  cases this
end Words
theorem lcmp_self (x : Int64) : (if x > x then (1 : Int32) else if x = x then 0 else -1) = 0 := by rw [if_neg (Int64.lt_irrefl), if_pos rfl]
theorem of_toInt {z w : Int32} (h : z.toInt = w.toInt) : z = w := Int32.toInt_inj.mp h
theorem of_toInt64 {z w : Int64} (h : z.toInt = w.toInt) : z = w := Int64.toInt_inj.mp h
theorem rgI (x : Int32) : -2147483648 ≤ x.toInt ∧ x.toInt < 2147483648 := ⟨Int32.le_toInt x, Int32.toInt_lt x⟩
theorem rgL (x : Int64) : -9223372036854775808 ≤ x.toInt ∧ x.toInt < 9223372036854775808 := ⟨Int64.le_toInt x, Int64.toInt_lt x⟩
theorem and_rng (x : Int32) {m : Int32} (k : Int) (hk : m.toInt = k) (h : 0 ≤ k) : 0 ≤ (x &&& m).toInt ∧ (x &&& m).toInt ≤ k := by subst hk; exact c_and x m h
theorem rem_rng (x : Int32) {y : Int32} (d : Int) (hy : y.toInt = d) (hd : 0 < d) (hx : 0 ≤ x.toInt) : 0 ≤ (x % y).toInt ∧ (x % y).toInt < d := by
  rw [(c_irem x y d hy).1 hx]; exact ⟨Int.emod_nonneg _ (by omega), Int.emod_lt_of_pos _ hd⟩
theorem iadd_toInt {x y : Int32} (h1 : -2147483648 ≤ x.toInt + y.toInt) (h2 : x.toInt + y.toInt < 2147483648) : (x + y).toInt = x.toInt + y.toInt := by
  have := c_iadd x y; have := rgI (x + y); omega
theorem isub_toInt {x y : Int32} (h1 : -2147483648 ≤ x.toInt - y.toInt) (h2 : x.toInt - y.toInt < 2147483648) : (x - y).toInt = x.toInt - y.toInt := by
  have := c_isub x y; have := rgI (x - y); omega
theorem ladd_toInt {x y : Int64} (h1 : -9223372036854775808 ≤ x.toInt + y.toInt) (h2 : x.toInt + y.toInt < 9223372036854775808) : (x + y).toInt = x.toInt + y.toInt := by
  have := c_ladd x y; have := rgL (x + y); omega
theorem lcmp_toInt {x y : Int64} {z : Int32} (q : (if x > y then (1 : Int32) else if x = y then 0 else -1) = z) : (x.toInt < y.toInt → z.toInt = -1) ∧ (x.toInt = y.toInt → z.toInt = 0) ∧ (y.toInt < x.toInt → z.toInt = 1) := by
  subst q; exact c_lcmp x y
theorem and3 (x : Int32) : x &&& 3 = 0 ∨ x &&& 3 = 1 ∨ x &&& 3 = 2 ∨ x &&& 3 = 3 := by
  have h : ∀ b : BitVec 32, b &&& 3#32 = 0#32 ∨ b &&& 3#32 = 1#32 ∨ b &&& 3#32 = 2#32 ∨ b &&& 3#32 = 3#32 := fun b => by
    have e : (b &&& 3#32).toNat < 4 := by rw [BitVec.toNat_and]; exact Nat.lt_of_le_of_lt Nat.and_le_right (by decide)
    have : (b &&& 3#32).toNat = 0 ∨ (b &&& 3#32).toNat = 1 ∨ (b &&& 3#32).toNat = 2 ∨ (b &&& 3#32).toNat = 3 := by omega
    rcases this with q | q | q | q
    · exact Or.inl (BitVec.eq_of_toNat_eq q)
    · exact Or.inr (Or.inl (BitVec.eq_of_toNat_eq q))
    · exact Or.inr (Or.inr (Or.inl (BitVec.eq_of_toNat_eq q)))
    · exact Or.inr (Or.inr (Or.inr (BitVec.eq_of_toNat_eq q)))
  rcases h x.toBitVec with q | q | q | q
  · exact Or.inl (Int32.toBitVec_inj.mp q)
  · exact Or.inr (Or.inl (Int32.toBitVec_inj.mp q))
  · exact Or.inr (Or.inr (Or.inl (Int32.toBitVec_inj.mp q)))
  · exact Or.inr (Or.inr (Or.inr (Int32.toBitVec_inj.mp q)))
end Jvm.OwnK
namespace Jvm.Pilot.@@N@@
open Jvm Jvm.ClassFile Sem Op Lib Jvm.Free Jvm.Stand Jvm.LawKit Jvm.RoadKit Jvm.OwnK Bundle Jvm.Pilot.@@N@@.Jvm.D
abbrev HW (a0 : Array Value) (Z : State) : Prop := ∀ d ∈ tables_1, d.before a0 Z = true
section Wds
variable {a0 : Array Value} {Z : State}
theorem w0 (hw : HW a0 Z) : Jvm.Cond.before (Jvm.Cond.methodLink "com/example/shadowhex/shadowhex/CornerEqualsPinLaw" (12 : Nat) ({ cls := "com/example/shadowhex/shadowhex/CornerEqualsPinLaw", name := "mk", desc := "(III)Ljava/lang/String;" } : Jvm.MethodName)) a0 Z = true := hw _ (List.mem_of_getElem? (i := 0) rfl)
theorem w1 (hw : HW a0 Z) : Jvm.Cond.before (Jvm.Cond.static ({ cls := "com/example/shadowhex/shadowhex/CornerEqualsPinLaw", name := "mk", desc := "(III)Ljava/lang/String;" } : Jvm.MethodName)) a0 Z = true := hw _ (List.mem_of_getElem? (i := 1) rfl)
theorem w2 (hw : HW a0 Z) : Jvm.Cond.before (Jvm.Cond.initialized "com/example/shadowhex/shadowhex/CornerEqualsPinLaw") a0 Z = true := hw _ (List.mem_of_getElem? (i := 2) rfl)
theorem w3 (hw : HW a0 Z) : Jvm.Cond.before (Jvm.Cond.code ({ cls := "com/example/shadowhex/shadowhex/CornerEqualsPinLaw", name := "mk", desc := "(III)Ljava/lang/String;" } : Jvm.MethodName) method_2_code (4 : Nat) (Option.some (Jvm.ClassFile.FieldType.object "java/lang/String"))) a0 Z = true := hw _ (List.mem_of_getElem? (i := 3) rfl)
theorem w4 (hw : HW a0 Z) : Jvm.Cond.before (Jvm.Cond.classLink "com/example/shadowhex/shadowhex/CornerEqualsPinLaw" (7 : Nat) "java/lang/String") a0 Z = true := hw _ (List.mem_of_getElem? (i := 4) rfl)
theorem w5 (hw : HW a0 Z) : Jvm.Cond.before (Jvm.Cond.instantiable "java/lang/String" (4 : Nat)) a0 Z = true := hw _ (List.mem_of_getElem? (i := 5) rfl)
theorem w6 (hw : HW a0 Z) : Jvm.Cond.before (Jvm.Cond.initialized "java/lang/String") a0 Z = true := hw _ (List.mem_of_getElem? (i := 6) rfl)
theorem w7 (hw : HW a0 Z) : Jvm.Cond.before (Jvm.Cond.arrayClass Jvm.ClassFile.FieldType.char) a0 Z = true := hw _ (List.mem_of_getElem? (i := 7) rfl)
theorem w8 (hw : HW a0 Z) : Jvm.Cond.before (Jvm.Cond.methodLink "com/example/shadowhex/shadowhex/CornerEqualsPinLaw" (9 : Nat) ({ cls := "java/lang/String", name := "<init>", desc := "([C)V" } : Jvm.MethodName)) a0 Z = true := hw _ (List.mem_of_getElem? (i := 8) rfl)
theorem w9 (hw : HW a0 Z) : Jvm.Cond.before (Jvm.Cond.instanceMethod ({ cls := "java/lang/String", name := "<init>", desc := "([C)V" } : Jvm.MethodName)) a0 Z = true := hw _ (List.mem_of_getElem? (i := 9) rfl)
theorem w10 (hw : HW a0 Z) : Jvm.Cond.before (Jvm.Cond.code ({ cls := "java/lang/String", name := "<init>", desc := "([C)V" } : Jvm.MethodName) jdk_42_method_3_code (2 : Nat) (Option.none : Option Jvm.ClassFile.FieldType)) a0 Z = true := hw _ (List.mem_of_getElem? (i := 10) rfl)
theorem w11 (hw : HW a0 Z) : Jvm.Cond.before (Jvm.Cond.methodLink "java/lang/String" (27 : Nat) ({ cls := "java/lang/String", name := "<init>", desc := "([CIILjava/lang/Void;)V" } : Jvm.MethodName)) a0 Z = true := hw _ (List.mem_of_getElem? (i := 11) rfl)
theorem w12 (hw : HW a0 Z) : Jvm.Cond.before (Jvm.Cond.instanceMethod ({ cls := "java/lang/String", name := "<init>", desc := "([CIILjava/lang/Void;)V" } : Jvm.MethodName)) a0 Z = true := hw _ (List.mem_of_getElem? (i := 12) rfl)
theorem w14 (hw : HW a0 Z) : Jvm.Cond.before (Jvm.Cond.code ({ cls := "java/lang/String", name := "<init>", desc := "([CIILjava/lang/Void;)V" } : Jvm.MethodName) jdk_42_method_149_code (6 : Nat) (Option.none : Option Jvm.ClassFile.FieldType)) a0 Z = true := hw _ (List.mem_of_getElem? (i := 14) rfl)
theorem w15 (hw : HW a0 Z) : Jvm.Cond.before (Jvm.Cond.methodLink "java/lang/String" (1 : Nat) ({ cls := "java/lang/Object", name := "<init>", desc := "()V" } : Jvm.MethodName)) a0 Z = true := hw _ (List.mem_of_getElem? (i := 15) rfl)
theorem w16 (hw : HW a0 Z) : Jvm.Cond.before (Jvm.Cond.instanceMethod ({ cls := "java/lang/Object", name := "<init>", desc := "()V" } : Jvm.MethodName)) a0 Z = true := hw _ (List.mem_of_getElem? (i := 16) rfl)
theorem w17 (hw : HW a0 Z) : Jvm.Cond.before (Jvm.Cond.code ({ cls := "java/lang/Object", name := "<init>", desc := "()V" } : Jvm.MethodName) object_method_1_code (1 : Nat) (Option.none : Option Jvm.ClassFile.FieldType)) a0 Z = true := hw _ (List.mem_of_getElem? (i := 17) rfl)
theorem w18 (hw : HW a0 Z) : Jvm.Cond.before (Jvm.Cond.stringLink "java/lang/String" (7 : Nat) "") a0 Z = true := hw _ (List.mem_of_getElem? (i := 18) rfl)
theorem w19 (hw : HW a0 Z) : Jvm.Cond.before (Jvm.Cond.arrayClass Jvm.ClassFile.FieldType.byte) a0 Z = true := hw _ (List.mem_of_getElem? (i := 19) rfl)
theorem w20 (hw : HW a0 Z) : Jvm.Cond.before (Jvm.Cond.laysFinal "java/lang/String" "java/lang/String" "value" "[B") a0 Z = true := hw _ (List.mem_of_getElem? (i := 20) rfl)
theorem w21 (hw : HW a0 Z) : Jvm.Cond.before (Jvm.Cond.laysFinal "java/lang/String" "java/lang/String" "coder" "B") a0 Z = true := hw _ (List.mem_of_getElem? (i := 21) rfl)
theorem w24 (hw : HW a0 Z) : Jvm.Cond.before (Jvm.Cond.fieldLink "java/lang/String" (9 : Nat) "java/lang/String" "value" "[B") a0 Z = true := hw _ (List.mem_of_getElem? (i := 24) rfl)
theorem w25 (hw : HW a0 Z) : Jvm.Cond.before (Jvm.Cond.fieldLink "java/lang/String" (15 : Nat) "java/lang/String" "coder" "B") a0 Z = true := hw _ (List.mem_of_getElem? (i := 25) rfl)
theorem w26 (hw : HW a0 Z) : Jvm.Cond.before (Jvm.Cond.classLink "com/example/shadowhex/shadowhex/CornerEqualsPinLaw" (18 : Nat) "java/util/ArrayList") a0 Z = true := hw _ (List.mem_of_getElem? (i := 26) rfl)
theorem w27 (hw : HW a0 Z) : Jvm.Cond.before (Jvm.Cond.instantiable "java/util/ArrayList" (3 : Nat)) a0 Z = true := hw _ (List.mem_of_getElem? (i := 27) rfl)
theorem w28 (hw : HW a0 Z) : Jvm.Cond.before (Jvm.Cond.initialized "java/util/ArrayList") a0 Z = true := hw _ (List.mem_of_getElem? (i := 28) rfl)
theorem w29 (hw : HW a0 Z) : Jvm.Cond.before (Jvm.Cond.methodLink "com/example/shadowhex/shadowhex/CornerEqualsPinLaw" (20 : Nat) ({ cls := "java/util/ArrayList", name := "<init>", desc := "()V" } : Jvm.MethodName)) a0 Z = true := hw _ (List.mem_of_getElem? (i := 29) rfl)
theorem w30 (hw : HW a0 Z) : Jvm.Cond.before (Jvm.Cond.instanceMethod ({ cls := "java/util/ArrayList", name := "<init>", desc := "()V" } : Jvm.MethodName)) a0 Z = true := hw _ (List.mem_of_getElem? (i := 30) rfl)
theorem w31 (hw : HW a0 Z) : Jvm.Cond.before (Jvm.Cond.code ({ cls := "java/util/ArrayList", name := "<init>", desc := "()V" } : Jvm.MethodName) jdk_38_method_2_code (1 : Nat) (Option.none : Option Jvm.ClassFile.FieldType)) a0 Z = true := hw _ (List.mem_of_getElem? (i := 31) rfl)
theorem w32 (hw : HW a0 Z) : Jvm.Cond.before (Jvm.Cond.methodLink "java/util/ArrayList" (1 : Nat) ({ cls := "java/util/AbstractList", name := "<init>", desc := "()V" } : Jvm.MethodName)) a0 Z = true := hw _ (List.mem_of_getElem? (i := 32) rfl)
theorem w33 (hw : HW a0 Z) : Jvm.Cond.before (Jvm.Cond.instanceMethod ({ cls := "java/util/AbstractList", name := "<init>", desc := "()V" } : Jvm.MethodName)) a0 Z = true := hw _ (List.mem_of_getElem? (i := 33) rfl)
theorem w36 (hw : HW a0 Z) : Jvm.Cond.before (Jvm.Cond.initialized "java/util/AbstractList") a0 Z = true := hw _ (List.mem_of_getElem? (i := 36) rfl)
theorem w37 (hw : HW a0 Z) : Jvm.Cond.before (Jvm.Cond.code ({ cls := "java/util/AbstractList", name := "<init>", desc := "()V" } : Jvm.MethodName) jdk_39_method_1_code (1 : Nat) (Option.none : Option Jvm.ClassFile.FieldType)) a0 Z = true := hw _ (List.mem_of_getElem? (i := 37) rfl)
theorem w38 (hw : HW a0 Z) : Jvm.Cond.before (Jvm.Cond.methodLink "java/util/AbstractList" (1 : Nat) ({ cls := "java/util/AbstractCollection", name := "<init>", desc := "()V" } : Jvm.MethodName)) a0 Z = true := hw _ (List.mem_of_getElem? (i := 38) rfl)
theorem w39 (hw : HW a0 Z) : Jvm.Cond.before (Jvm.Cond.instanceMethod ({ cls := "java/util/AbstractCollection", name := "<init>", desc := "()V" } : Jvm.MethodName)) a0 Z = true := hw _ (List.mem_of_getElem? (i := 39) rfl)
theorem w42 (hw : HW a0 Z) : Jvm.Cond.before (Jvm.Cond.initialized "java/util/AbstractCollection") a0 Z = true := hw _ (List.mem_of_getElem? (i := 42) rfl)
theorem w43 (hw : HW a0 Z) : Jvm.Cond.before (Jvm.Cond.code ({ cls := "java/util/AbstractCollection", name := "<init>", desc := "()V" } : Jvm.MethodName) jdk_22_method_1_code (1 : Nat) (Option.none : Option Jvm.ClassFile.FieldType)) a0 Z = true := hw _ (List.mem_of_getElem? (i := 43) rfl)
theorem w44 (hw : HW a0 Z) : Jvm.Cond.before (Jvm.Cond.methodLink "java/util/AbstractCollection" (1 : Nat) ({ cls := "java/lang/Object", name := "<init>", desc := "()V" } : Jvm.MethodName)) a0 Z = true := hw _ (List.mem_of_getElem? (i := 44) rfl)
theorem w45 (hw : HW a0 Z) : Jvm.Cond.before (Jvm.Cond.fieldLink "java/util/AbstractList" (7 : Nat) "java/util/AbstractList" "modCount" "I") a0 Z = true := hw _ (List.mem_of_getElem? (i := 45) rfl)
theorem w46 (hw : HW a0 Z) : Jvm.Cond.before (Jvm.Cond.lays "java/util/ArrayList" "java/util/AbstractList" "modCount" "I") a0 Z = true := hw _ (List.mem_of_getElem? (i := 46) rfl)
theorem w47 (hw : HW a0 Z) : Jvm.Cond.before (Jvm.Cond.fieldLink "java/util/ArrayList" (39 : Nat) "java/util/ArrayList" "DEFAULTCAPACITY_EMPTY_ELEMENTDATA" "[Ljava/lang/Object;") a0 Z = true := hw _ (List.mem_of_getElem? (i := 47) rfl)
theorem w48 (hw : HW a0 Z) : Jvm.Cond.before (Jvm.Cond.fieldLink "java/util/ArrayList" (9 : Nat) "java/util/ArrayList" "elementData" "[Ljava/lang/Object;") a0 Z = true := hw _ (List.mem_of_getElem? (i := 48) rfl)
theorem w49 (hw : HW a0 Z) : Jvm.Cond.before (Jvm.Cond.lays "java/util/ArrayList" "java/util/ArrayList" "elementData" "[Ljava/lang/Object;") a0 Z = true := hw _ (List.mem_of_getElem? (i := 49) rfl)
theorem w50 (hw : HW a0 Z) : Jvm.Cond.before (Jvm.Cond.methodLink "com/example/shadowhex/shadowhex/CornerEqualsPinLaw" (21 : Nat) ({ cls := "java/lang/Integer", name := "valueOf", desc := "(I)Ljava/lang/Integer;" } : Jvm.MethodName)) a0 Z = true := hw _ (List.mem_of_getElem? (i := 50) rfl)
theorem w51 (hw : HW a0 Z) : Jvm.Cond.before (Jvm.Cond.static ({ cls := "java/lang/Integer", name := "valueOf", desc := "(I)Ljava/lang/Integer;" } : Jvm.MethodName)) a0 Z = true := hw _ (List.mem_of_getElem? (i := 51) rfl)
theorem w52 (hw : HW a0 Z) : Jvm.Cond.before (Jvm.Cond.initialized "java/lang/Integer") a0 Z = true := hw _ (List.mem_of_getElem? (i := 52) rfl)
theorem w53 (hw : HW a0 Z) : Jvm.Cond.before (Jvm.Cond.code ({ cls := "java/lang/Integer", name := "valueOf", desc := "(I)Ljava/lang/Integer;" } : Jvm.MethodName) jdk_33_method_22_code (1 : Nat) (Option.some (Jvm.ClassFile.FieldType.object "java/lang/Integer"))) a0 Z = true := hw _ (List.mem_of_getElem? (i := 53) rfl)
theorem w54 (hw : HW a0 Z) : Jvm.Cond.before (Jvm.Cond.fieldLink "java/lang/Integer" (191 : Nat) "java/lang/Integer$IntegerCache" "high" "I") a0 Z = true := hw _ (List.mem_of_getElem? (i := 54) rfl)
theorem w55 (hw : HW a0 Z) : Jvm.Cond.before (Jvm.Cond.initialized "java/lang/Integer$IntegerCache") a0 Z = true := hw _ (List.mem_of_getElem? (i := 55) rfl)
theorem w56 (hw : HW a0 Z) : Jvm.Cond.before (Jvm.Cond.fieldLink "java/lang/Integer" (195 : Nat) "java/lang/Integer$IntegerCache" "cache" "[Ljava/lang/Integer;") a0 Z = true := hw _ (List.mem_of_getElem? (i := 56) rfl)
theorem w57 (hw : HW a0 Z) : Jvm.Cond.before (Jvm.Cond.methodLink "com/example/shadowhex/shadowhex/CornerEqualsPinLaw" (27 : Nat) ({ cls := "java/util/ArrayList", name := "add", desc := "(Ljava/lang/Object;)Z" } : Jvm.MethodName)) a0 Z = true := hw _ (List.mem_of_getElem? (i := 57) rfl)
theorem w58 (hw : HW a0 Z) : Jvm.Cond.before (Jvm.Cond.declares ({ cls := "java/util/ArrayList", name := "add", desc := "(Ljava/lang/Object;)Z" } : Jvm.MethodName)) a0 Z = true := hw _ (List.mem_of_getElem? (i := 58) rfl)
theorem w59 (hw : HW a0 Z) : Jvm.Cond.before (Jvm.Cond.instanceMethod ({ cls := "java/util/ArrayList", name := "add", desc := "(Ljava/lang/Object;)Z" } : Jvm.MethodName)) a0 Z = true := hw _ (List.mem_of_getElem? (i := 59) rfl)
theorem w60 (hw : HW a0 Z) : Jvm.Cond.before (Jvm.Cond.selects "java/util/ArrayList" ({ cls := "java/util/ArrayList", name := "add", desc := "(Ljava/lang/Object;)Z" } : Jvm.MethodName) ({ cls := "java/util/ArrayList", name := "add", desc := "(Ljava/lang/Object;)Z" } : Jvm.MethodName)) a0 Z = true := hw _ (List.mem_of_getElem? (i := 60) rfl)
theorem w61 (hw : HW a0 Z) : Jvm.Cond.before (Jvm.Cond.code ({ cls := "java/util/ArrayList", name := "add", desc := "(Ljava/lang/Object;)Z" } : Jvm.MethodName) jdk_38_method_25_code (2 : Nat) (Option.some Jvm.ClassFile.FieldType.boolean)) a0 Z = true := hw _ (List.mem_of_getElem? (i := 61) rfl)
theorem w62 (hw : HW a0 Z) : Jvm.Cond.before (Jvm.Cond.fieldLink "java/util/ArrayList" (63 : Nat) "java/util/ArrayList" "modCount" "I") a0 Z = true := hw _ (List.mem_of_getElem? (i := 62) rfl)
theorem w63 (hw : HW a0 Z) : Jvm.Cond.before (Jvm.Cond.sameField "java/util/ArrayList" "java/util/AbstractList" "modCount" "I") a0 Z = true := hw _ (List.mem_of_getElem? (i := 63) rfl)
theorem w64 (hw : HW a0 Z) : Jvm.Cond.before (Jvm.Cond.fieldLink "java/util/ArrayList" (48 : Nat) "java/util/ArrayList" "size" "I") a0 Z = true := hw _ (List.mem_of_getElem? (i := 64) rfl)
theorem w65 (hw : HW a0 Z) : Jvm.Cond.before (Jvm.Cond.lays "java/util/ArrayList" "java/util/ArrayList" "size" "I") a0 Z = true := hw _ (List.mem_of_getElem? (i := 65) rfl)
theorem w66 (hw : HW a0 Z) : Jvm.Cond.before (Jvm.Cond.methodLink "java/util/ArrayList" (131 : Nat) ({ cls := "java/util/ArrayList", name := "add", desc := "(Ljava/lang/Object;[Ljava/lang/Object;I)V" } : Jvm.MethodName)) a0 Z = true := hw _ (List.mem_of_getElem? (i := 66) rfl)
theorem w67 (hw : HW a0 Z) : Jvm.Cond.before (Jvm.Cond.instanceMethod ({ cls := "java/util/ArrayList", name := "add", desc := "(Ljava/lang/Object;[Ljava/lang/Object;I)V" } : Jvm.MethodName)) a0 Z = true := hw _ (List.mem_of_getElem? (i := 67) rfl)
theorem w68 (hw : HW a0 Z) : Jvm.Cond.before (Jvm.Cond.privateMethod ({ cls := "java/util/ArrayList", name := "add", desc := "(Ljava/lang/Object;[Ljava/lang/Object;I)V" } : Jvm.MethodName)) a0 Z = true := hw _ (List.mem_of_getElem? (i := 68) rfl)
theorem w69 (hw : HW a0 Z) : Jvm.Cond.before (Jvm.Cond.selects "java/util/ArrayList" ({ cls := "java/util/ArrayList", name := "add", desc := "(Ljava/lang/Object;[Ljava/lang/Object;I)V" } : Jvm.MethodName) ({ cls := "java/util/ArrayList", name := "add", desc := "(Ljava/lang/Object;[Ljava/lang/Object;I)V" } : Jvm.MethodName)) a0 Z = true := hw _ (List.mem_of_getElem? (i := 69) rfl)
theorem w70 (hw : HW a0 Z) : Jvm.Cond.before (Jvm.Cond.code ({ cls := "java/util/ArrayList", name := "add", desc := "(Ljava/lang/Object;[Ljava/lang/Object;I)V" } : Jvm.MethodName) jdk_38_method_24_code (4 : Nat) (Option.none : Option Jvm.ClassFile.FieldType)) a0 Z = true := hw _ (List.mem_of_getElem? (i := 70) rfl)
theorem w71 (hw : HW a0 Z) : Jvm.Cond.before (Jvm.Cond.methodLink "java/util/ArrayList" (129 : Nat) ({ cls := "java/util/ArrayList", name := "grow", desc := "()[Ljava/lang/Object;" } : Jvm.MethodName)) a0 Z = true := hw _ (List.mem_of_getElem? (i := 71) rfl)
theorem w72 (hw : HW a0 Z) : Jvm.Cond.before (Jvm.Cond.instanceMethod ({ cls := "java/util/ArrayList", name := "grow", desc := "()[Ljava/lang/Object;" } : Jvm.MethodName)) a0 Z = true := hw _ (List.mem_of_getElem? (i := 72) rfl)
theorem w73 (hw : HW a0 Z) : Jvm.Cond.before (Jvm.Cond.privateMethod ({ cls := "java/util/ArrayList", name := "grow", desc := "()[Ljava/lang/Object;" } : Jvm.MethodName)) a0 Z = true := hw _ (List.mem_of_getElem? (i := 73) rfl)
theorem w74 (hw : HW a0 Z) : Jvm.Cond.before (Jvm.Cond.selects "java/util/ArrayList" ({ cls := "java/util/ArrayList", name := "grow", desc := "()[Ljava/lang/Object;" } : Jvm.MethodName) ({ cls := "java/util/ArrayList", name := "grow", desc := "()[Ljava/lang/Object;" } : Jvm.MethodName)) a0 Z = true := hw _ (List.mem_of_getElem? (i := 74) rfl)
theorem w75 (hw : HW a0 Z) : Jvm.Cond.before (Jvm.Cond.code ({ cls := "java/util/ArrayList", name := "grow", desc := "()[Ljava/lang/Object;" } : Jvm.MethodName) jdk_38_method_7_code (1 : Nat) (Option.some (Jvm.ClassFile.FieldType.array (Jvm.ClassFile.FieldType.object "java/lang/Object")))) a0 Z = true := hw _ (List.mem_of_getElem? (i := 75) rfl)
theorem w76 (hw : HW a0 Z) : Jvm.Cond.before (Jvm.Cond.methodLink "java/util/ArrayList" (69 : Nat) ({ cls := "java/util/ArrayList", name := "grow", desc := "(I)[Ljava/lang/Object;" } : Jvm.MethodName)) a0 Z = true := hw _ (List.mem_of_getElem? (i := 76) rfl)
theorem w77 (hw : HW a0 Z) : Jvm.Cond.before (Jvm.Cond.instanceMethod ({ cls := "java/util/ArrayList", name := "grow", desc := "(I)[Ljava/lang/Object;" } : Jvm.MethodName)) a0 Z = true := hw _ (List.mem_of_getElem? (i := 77) rfl)
theorem w78 (hw : HW a0 Z) : Jvm.Cond.before (Jvm.Cond.privateMethod ({ cls := "java/util/ArrayList", name := "grow", desc := "(I)[Ljava/lang/Object;" } : Jvm.MethodName)) a0 Z = true := hw _ (List.mem_of_getElem? (i := 78) rfl)
theorem w79 (hw : HW a0 Z) : Jvm.Cond.before (Jvm.Cond.selects "java/util/ArrayList" ({ cls := "java/util/ArrayList", name := "grow", desc := "(I)[Ljava/lang/Object;" } : Jvm.MethodName) ({ cls := "java/util/ArrayList", name := "grow", desc := "(I)[Ljava/lang/Object;" } : Jvm.MethodName)) a0 Z = true := hw _ (List.mem_of_getElem? (i := 79) rfl)
theorem w80 (hw : HW a0 Z) : Jvm.Cond.before (Jvm.Cond.code ({ cls := "java/util/ArrayList", name := "grow", desc := "(I)[Ljava/lang/Object;" } : Jvm.MethodName) jdk_38_method_6_code (4 : Nat) (Option.some (Jvm.ClassFile.FieldType.array (Jvm.ClassFile.FieldType.object "java/lang/Object")))) a0 Z = true := hw _ (List.mem_of_getElem? (i := 80) rfl)
theorem w81 (hw : HW a0 Z) : Jvm.Cond.before (Jvm.Cond.methodLink "java/util/ArrayList" (79 : Nat) ({ cls := "java/lang/Math", name := "max", desc := "(II)I" } : Jvm.MethodName)) a0 Z = true := hw _ (List.mem_of_getElem? (i := 81) rfl)
theorem w82 (hw : HW a0 Z) : Jvm.Cond.before (Jvm.Cond.static ({ cls := "java/lang/Math", name := "max", desc := "(II)I" } : Jvm.MethodName)) a0 Z = true := hw _ (List.mem_of_getElem? (i := 82) rfl)
theorem w83 (hw : HW a0 Z) : Jvm.Cond.before (Jvm.Cond.initialized "java/lang/Math") a0 Z = true := hw _ (List.mem_of_getElem? (i := 83) rfl)
theorem w84 (hw : HW a0 Z) : Jvm.Cond.before (Jvm.Cond.code ({ cls := "java/lang/Math", name := "max", desc := "(II)I" } : Jvm.MethodName) jdk_29_method_65_code (2 : Nat) (Option.some Jvm.ClassFile.FieldType.int)) a0 Z = true := hw _ (List.mem_of_getElem? (i := 84) rfl)
theorem w85 (hw : HW a0 Z) : Jvm.Cond.before (Jvm.Cond.classLink "java/util/ArrayList" (7 : Nat) "java/lang/Object") a0 Z = true := hw _ (List.mem_of_getElem? (i := 85) rfl)
theorem w86 (hw : HW a0 Z) : Jvm.Cond.before (Jvm.Cond.arrayOver (Jvm.ClassFile.FieldType.object "java/lang/Object")) a0 Z = true := hw _ (List.mem_of_getElem? (i := 86) rfl)
theorem w87 (hw : HW a0 Z) : Jvm.Cond.before (Jvm.Cond.castable "java/lang/Integer" "java/lang/Object") a0 Z = true := hw _ (List.mem_of_getElem? (i := 87) rfl)
theorem w88 (hw : HW a0 Z) : Jvm.Cond.before (Jvm.Cond.classLink "com/example/shadowhex/shadowhex/CornerEqualsPinLaw" (31 : Nat) "com/example/shadowhex/shadowhex/Corner") a0 Z = true := hw _ (List.mem_of_getElem? (i := 88) rfl)
theorem w89 (hw : HW a0 Z) : Jvm.Cond.before (Jvm.Cond.instantiable "com/example/shadowhex/shadowhex/Corner" (4 : Nat)) a0 Z = true := hw _ (List.mem_of_getElem? (i := 89) rfl)
theorem w90 (hw : HW a0 Z) : Jvm.Cond.before (Jvm.Cond.initialized "com/example/shadowhex/shadowhex/Corner") a0 Z = true := hw _ (List.mem_of_getElem? (i := 90) rfl)
theorem w91 (hw : HW a0 Z) : Jvm.Cond.before (Jvm.Cond.methodLink "com/example/shadowhex/shadowhex/CornerEqualsPinLaw" (33 : Nat) ({ cls := "com/example/shadowhex/shadowhex/Corner", name := "<init>", desc := "(Ljava/lang/String;IILjava/util/List;)V" } : Jvm.MethodName)) a0 Z = true := hw _ (List.mem_of_getElem? (i := 91) rfl)
theorem w92 (hw : HW a0 Z) : Jvm.Cond.before (Jvm.Cond.instanceMethod ({ cls := "com/example/shadowhex/shadowhex/Corner", name := "<init>", desc := "(Ljava/lang/String;IILjava/util/List;)V" } : Jvm.MethodName)) a0 Z = true := hw _ (List.mem_of_getElem? (i := 92) rfl)
theorem w93 (hw : HW a0 Z) : Jvm.Cond.before (Jvm.Cond.code ({ cls := "com/example/shadowhex/shadowhex/Corner", name := "<init>", desc := "(Ljava/lang/String;IILjava/util/List;)V" } : Jvm.MethodName) prog_7_method_1_code (5 : Nat) (Option.none : Option Jvm.ClassFile.FieldType)) a0 Z = true := hw _ (List.mem_of_getElem? (i := 93) rfl)
theorem w94 (hw : HW a0 Z) : Jvm.Cond.before (Jvm.Cond.methodLink "com/example/shadowhex/shadowhex/Corner" (1 : Nat) ({ cls := "java/lang/Record", name := "<init>", desc := "()V" } : Jvm.MethodName)) a0 Z = true := hw _ (List.mem_of_getElem? (i := 94) rfl)
theorem w95 (hw : HW a0 Z) : Jvm.Cond.before (Jvm.Cond.instanceMethod ({ cls := "java/lang/Record", name := "<init>", desc := "()V" } : Jvm.MethodName)) a0 Z = true := hw _ (List.mem_of_getElem? (i := 95) rfl)
theorem w97 (hw : HW a0 Z) : Jvm.Cond.before (Jvm.Cond.initialized "java/lang/Record") a0 Z = true := hw _ (List.mem_of_getElem? (i := 97) rfl)
theorem w98 (hw : HW a0 Z) : Jvm.Cond.before (Jvm.Cond.code ({ cls := "java/lang/Record", name := "<init>", desc := "()V" } : Jvm.MethodName) jdk_30_method_1_code (1 : Nat) (Option.none : Option Jvm.ClassFile.FieldType)) a0 Z = true := hw _ (List.mem_of_getElem? (i := 98) rfl)
theorem w99 (hw : HW a0 Z) : Jvm.Cond.before (Jvm.Cond.methodLink "java/lang/Record" (1 : Nat) ({ cls := "java/lang/Object", name := "<init>", desc := "()V" } : Jvm.MethodName)) a0 Z = true := hw _ (List.mem_of_getElem? (i := 99) rfl)
theorem w100 (hw : HW a0 Z) : Jvm.Cond.before (Jvm.Cond.fieldLink "com/example/shadowhex/shadowhex/Corner" (7 : Nat) "com/example/shadowhex/shadowhex/Corner" "name" "Ljava/lang/String;") a0 Z = true := hw _ (List.mem_of_getElem? (i := 100) rfl)
theorem w101 (hw : HW a0 Z) : Jvm.Cond.before (Jvm.Cond.laysFinal "com/example/shadowhex/shadowhex/Corner" "com/example/shadowhex/shadowhex/Corner" "name" "Ljava/lang/String;") a0 Z = true := hw _ (List.mem_of_getElem? (i := 101) rfl)
theorem w102 (hw : HW a0 Z) : Jvm.Cond.before (Jvm.Cond.fieldLink "com/example/shadowhex/shadowhex/Corner" (13 : Nat) "com/example/shadowhex/shadowhex/Corner" "x" "I") a0 Z = true := hw _ (List.mem_of_getElem? (i := 102) rfl)
theorem w103 (hw : HW a0 Z) : Jvm.Cond.before (Jvm.Cond.laysFinal "com/example/shadowhex/shadowhex/Corner" "com/example/shadowhex/shadowhex/Corner" "x" "I") a0 Z = true := hw _ (List.mem_of_getElem? (i := 103) rfl)
theorem w104 (hw : HW a0 Z) : Jvm.Cond.before (Jvm.Cond.fieldLink "com/example/shadowhex/shadowhex/Corner" (17 : Nat) "com/example/shadowhex/shadowhex/Corner" "y" "I") a0 Z = true := hw _ (List.mem_of_getElem? (i := 104) rfl)
theorem w105 (hw : HW a0 Z) : Jvm.Cond.before (Jvm.Cond.laysFinal "com/example/shadowhex/shadowhex/Corner" "com/example/shadowhex/shadowhex/Corner" "y" "I") a0 Z = true := hw _ (List.mem_of_getElem? (i := 105) rfl)
theorem w106 (hw : HW a0 Z) : Jvm.Cond.before (Jvm.Cond.fieldLink "com/example/shadowhex/shadowhex/Corner" (20 : Nat) "com/example/shadowhex/shadowhex/Corner" "hexes" "Ljava/util/List;") a0 Z = true := hw _ (List.mem_of_getElem? (i := 106) rfl)
theorem w107 (hw : HW a0 Z) : Jvm.Cond.before (Jvm.Cond.laysFinal "com/example/shadowhex/shadowhex/Corner" "com/example/shadowhex/shadowhex/Corner" "hexes" "Ljava/util/List;") a0 Z = true := hw _ (List.mem_of_getElem? (i := 107) rfl)
theorem w108 (hw : HW a0 Z) : Jvm.Cond.before (Jvm.Cond.methodLink "com/example/shadowhex/shadowhex/CornerEqualsPinLaw" (36 : Nat) ({ cls := "com/example/shadowhex/shadowhex/Corner", name := "equals", desc := "(Ljava/lang/Object;)Z" } : Jvm.MethodName)) a0 Z = true := hw _ (List.mem_of_getElem? (i := 108) rfl)
theorem w109 (hw : HW a0 Z) : Jvm.Cond.before (Jvm.Cond.declares ({ cls := "com/example/shadowhex/shadowhex/Corner", name := "equals", desc := "(Ljava/lang/Object;)Z" } : Jvm.MethodName)) a0 Z = true := hw _ (List.mem_of_getElem? (i := 109) rfl)
theorem w110 (hw : HW a0 Z) : Jvm.Cond.before (Jvm.Cond.instanceMethod ({ cls := "com/example/shadowhex/shadowhex/Corner", name := "equals", desc := "(Ljava/lang/Object;)Z" } : Jvm.MethodName)) a0 Z = true := hw _ (List.mem_of_getElem? (i := 110) rfl)
theorem w111 (hw : HW a0 Z) : Jvm.Cond.before (Jvm.Cond.selects "com/example/shadowhex/shadowhex/Corner" ({ cls := "com/example/shadowhex/shadowhex/Corner", name := "equals", desc := "(Ljava/lang/Object;)Z" } : Jvm.MethodName) ({ cls := "com/example/shadowhex/shadowhex/Corner", name := "equals", desc := "(Ljava/lang/Object;)Z" } : Jvm.MethodName)) a0 Z = true := hw _ (List.mem_of_getElem? (i := 111) rfl)
theorem w112 (hw : HW a0 Z) : Jvm.Cond.before (Jvm.Cond.code ({ cls := "com/example/shadowhex/shadowhex/Corner", name := "equals", desc := "(Ljava/lang/Object;)Z" } : Jvm.MethodName) prog_7_method_3_code (3 : Nat) (Option.some Jvm.ClassFile.FieldType.boolean)) a0 Z = true := hw _ (List.mem_of_getElem? (i := 112) rfl)
theorem w113 (hw : HW a0 Z) : Jvm.Cond.before (Jvm.Cond.classLink "com/example/shadowhex/shadowhex/Corner" (8 : Nat) "com/example/shadowhex/shadowhex/Corner") a0 Z = true := hw _ (List.mem_of_getElem? (i := 113) rfl)
theorem w115 (hw : HW a0 Z) : Jvm.Cond.before (Jvm.Cond.methodLink "com/example/shadowhex/shadowhex/Corner" (30 : Nat) ({ cls := "java/lang/String", name := "equals", desc := "(Ljava/lang/Object;)Z" } : Jvm.MethodName)) a0 Z = true := hw _ (List.mem_of_getElem? (i := 115) rfl)
theorem w116 (hw : HW a0 Z) : Jvm.Cond.before (Jvm.Cond.declares ({ cls := "java/lang/String", name := "equals", desc := "(Ljava/lang/Object;)Z" } : Jvm.MethodName)) a0 Z = true := hw _ (List.mem_of_getElem? (i := 116) rfl)
theorem w117 (hw : HW a0 Z) : Jvm.Cond.before (Jvm.Cond.instanceMethod ({ cls := "java/lang/String", name := "equals", desc := "(Ljava/lang/Object;)Z" } : Jvm.MethodName)) a0 Z = true := hw _ (List.mem_of_getElem? (i := 117) rfl)
theorem w118 (hw : HW a0 Z) : Jvm.Cond.before (Jvm.Cond.selects "java/lang/String" ({ cls := "java/lang/String", name := "equals", desc := "(Ljava/lang/Object;)Z" } : Jvm.MethodName) ({ cls := "java/lang/String", name := "equals", desc := "(Ljava/lang/Object;)Z" } : Jvm.MethodName)) a0 Z = true := hw _ (List.mem_of_getElem? (i := 118) rfl)
theorem w119 (hw : HW a0 Z) : Jvm.Cond.before (Jvm.Cond.code ({ cls := "java/lang/String", name := "equals", desc := "(Ljava/lang/Object;)Z" } : Jvm.MethodName) jdk_42_method_66_code (3 : Nat) (Option.some Jvm.ClassFile.FieldType.boolean)) a0 Z = true := hw _ (List.mem_of_getElem? (i := 119) rfl)
theorem w120 (hw : HW a0 Z) : Jvm.Cond.before (Jvm.Cond.classLink "java/lang/String" (10 : Nat) "java/lang/String") a0 Z = true := hw _ (List.mem_of_getElem? (i := 120) rfl)
theorem w121 (hw : HW a0 Z) : Jvm.Cond.before (Jvm.Cond.fieldLink "java/lang/String" (38 : Nat) "java/lang/String" "COMPACT_STRINGS" "Z") a0 Z = true := hw _ (List.mem_of_getElem? (i := 121) rfl)
theorem w122 (hw : HW a0 Z) : Jvm.Cond.before (Jvm.Cond.methodLink "java/lang/String" (541 : Nat) ({ cls := "java/lang/StringLatin1", name := "equals", desc := "([B[B)Z" } : Jvm.MethodName)) a0 Z = true := hw _ (List.mem_of_getElem? (i := 122) rfl)
theorem w123 (hw : HW a0 Z) : Jvm.Cond.before (Jvm.Cond.static ({ cls := "java/lang/StringLatin1", name := "equals", desc := "([B[B)Z" } : Jvm.MethodName)) a0 Z = true := hw _ (List.mem_of_getElem? (i := 123) rfl)
theorem w124 (hw : HW a0 Z) : Jvm.Cond.before (Jvm.Cond.initialized "java/lang/StringLatin1") a0 Z = true := hw _ (List.mem_of_getElem? (i := 124) rfl)
theorem w125 (hw : HW a0 Z) : Jvm.Cond.before (Jvm.Cond.code ({ cls := "java/lang/StringLatin1", name := "equals", desc := "([B[B)Z" } : Jvm.MethodName) jdk_43_method_13_code (3 : Nat) (Option.some Jvm.ClassFile.FieldType.boolean)) a0 Z = true := hw _ (List.mem_of_getElem? (i := 125) rfl)
theorem w126 (hw : HW a0 Z) : Jvm.Cond.before (Jvm.Cond.superclass "java/lang/String" "java/lang/Object") a0 Z = true := hw _ (List.mem_of_getElem? (i := 126) rfl)
theorem w127 (hw : HW a0 Z) : Jvm.Cond.before (Jvm.Cond.noSuperclass "java/lang/Object") a0 Z = true := hw _ (List.mem_of_getElem? (i := 127) rfl)
theorem w128 (hw : HW a0 Z) : Jvm.Cond.before (Jvm.Cond.methodLink "java/lang/String" (177 : Nat) ({ cls := "java/lang/StringUTF16", name := "compress", desc := "([CII)[B" } : Jvm.MethodName)) a0 Z = true := hw _ (List.mem_of_getElem? (i := 128) rfl)
theorem w129 (hw : HW a0 Z) : Jvm.Cond.before (Jvm.Cond.static ({ cls := "java/lang/StringUTF16", name := "compress", desc := "([CII)[B" } : Jvm.MethodName)) a0 Z = true := hw _ (List.mem_of_getElem? (i := 129) rfl)
theorem w130 (hw : HW a0 Z) : Jvm.Cond.before (Jvm.Cond.initialized "java/lang/StringUTF16") a0 Z = true := hw _ (List.mem_of_getElem? (i := 130) rfl)
theorem w131 (hw : HW a0 Z) : Jvm.Cond.before (Jvm.Cond.code ({ cls := "java/lang/StringUTF16", name := "compress", desc := "([CII)[B" } : Jvm.MethodName) jdk_52_method_16_code (6 : Nat) (Option.some (Jvm.ClassFile.FieldType.array Jvm.ClassFile.FieldType.byte))) a0 Z = true := hw _ (List.mem_of_getElem? (i := 131) rfl)
theorem w132 (hw : HW a0 Z) : Jvm.Cond.before (Jvm.Cond.methodLink "java/lang/StringUTF16" (115 : Nat) ({ cls := "java/lang/StringUTF16", name := "compress", desc := "([CI[BII)I" } : Jvm.MethodName)) a0 Z = true := hw _ (List.mem_of_getElem? (i := 132) rfl)
theorem w133 (hw : HW a0 Z) : Jvm.Cond.before (Jvm.Cond.static ({ cls := "java/lang/StringUTF16", name := "compress", desc := "([CI[BII)I" } : Jvm.MethodName)) a0 Z = true := hw _ (List.mem_of_getElem? (i := 133) rfl)
theorem w134 (hw : HW a0 Z) : Jvm.Cond.before (Jvm.Cond.code ({ cls := "java/lang/StringUTF16", name := "compress", desc := "([CI[BII)I" } : Jvm.MethodName) jdk_52_method_21_code (7 : Nat) (Option.some Jvm.ClassFile.FieldType.int)) a0 Z = true := hw _ (List.mem_of_getElem? (i := 134) rfl)
theorem w135 (hw : HW a0 Z) : Jvm.Cond.before (Jvm.Cond.methodLink "java/lang/String" (47 : Nat) ({ cls := "java/lang/StringUTF16", name := "coderFromArrayLen", desc := "([BI)B" } : Jvm.MethodName)) a0 Z = true := hw _ (List.mem_of_getElem? (i := 135) rfl)
theorem w136 (hw : HW a0 Z) : Jvm.Cond.before (Jvm.Cond.static ({ cls := "java/lang/StringUTF16", name := "coderFromArrayLen", desc := "([BI)B" } : Jvm.MethodName)) a0 Z = true := hw _ (List.mem_of_getElem? (i := 136) rfl)
theorem w137 (hw : HW a0 Z) : Jvm.Cond.before (Jvm.Cond.code ({ cls := "java/lang/StringUTF16", name := "coderFromArrayLen", desc := "([BI)B" } : Jvm.MethodName) jdk_52_method_15_code (2 : Nat) (Option.some Jvm.ClassFile.FieldType.byte)) a0 Z = true := hw _ (List.mem_of_getElem? (i := 137) rfl)
theorem w138 (hw : HW a0 Z) : Jvm.Cond.before (Jvm.Cond.classLink "java/lang/Integer" (1 : Nat) "java/lang/Integer") a0 Z = true := hw _ (List.mem_of_getElem? (i := 138) rfl)
theorem w139 (hw : HW a0 Z) : Jvm.Cond.before (Jvm.Cond.instantiable "java/lang/Integer" (1 : Nat)) a0 Z = true := hw _ (List.mem_of_getElem? (i := 139) rfl)
theorem w140 (hw : HW a0 Z) : Jvm.Cond.before (Jvm.Cond.methodLink "java/lang/Integer" (199 : Nat) ({ cls := "java/lang/Integer", name := "<init>", desc := "(I)V" } : Jvm.MethodName)) a0 Z = true := hw _ (List.mem_of_getElem? (i := 140) rfl)
theorem w141 (hw : HW a0 Z) : Jvm.Cond.before (Jvm.Cond.instanceMethod ({ cls := "java/lang/Integer", name := "<init>", desc := "(I)V" } : Jvm.MethodName)) a0 Z = true := hw _ (List.mem_of_getElem? (i := 141) rfl)
theorem w143 (hw : HW a0 Z) : Jvm.Cond.before (Jvm.Cond.code ({ cls := "java/lang/Integer", name := "<init>", desc := "(I)V" } : Jvm.MethodName) jdk_33_method_23_code (2 : Nat) (Option.none : Option Jvm.ClassFile.FieldType)) a0 Z = true := hw _ (List.mem_of_getElem? (i := 143) rfl)
theorem w144 (hw : HW a0 Z) : Jvm.Cond.before (Jvm.Cond.methodLink "java/lang/Integer" (202 : Nat) ({ cls := "java/lang/Number", name := "<init>", desc := "()V" } : Jvm.MethodName)) a0 Z = true := hw _ (List.mem_of_getElem? (i := 144) rfl)
theorem w145 (hw : HW a0 Z) : Jvm.Cond.before (Jvm.Cond.instanceMethod ({ cls := "java/lang/Number", name := "<init>", desc := "()V" } : Jvm.MethodName)) a0 Z = true := hw _ (List.mem_of_getElem? (i := 145) rfl)
theorem w148 (hw : HW a0 Z) : Jvm.Cond.before (Jvm.Cond.initialized "java/lang/Number") a0 Z = true := hw _ (List.mem_of_getElem? (i := 148) rfl)
theorem w149 (hw : HW a0 Z) : Jvm.Cond.before (Jvm.Cond.code ({ cls := "java/lang/Number", name := "<init>", desc := "()V" } : Jvm.MethodName) jdk_18_method_1_code (1 : Nat) (Option.none : Option Jvm.ClassFile.FieldType)) a0 Z = true := hw _ (List.mem_of_getElem? (i := 149) rfl)
theorem w150 (hw : HW a0 Z) : Jvm.Cond.before (Jvm.Cond.methodLink "java/lang/Number" (1 : Nat) ({ cls := "java/lang/Object", name := "<init>", desc := "()V" } : Jvm.MethodName)) a0 Z = true := hw _ (List.mem_of_getElem? (i := 150) rfl)
theorem w151 (hw : HW a0 Z) : Jvm.Cond.before (Jvm.Cond.fieldLink "java/lang/Integer" (205 : Nat) "java/lang/Integer" "value" "I") a0 Z = true := hw _ (List.mem_of_getElem? (i := 151) rfl)
theorem w152 (hw : HW a0 Z) : Jvm.Cond.before (Jvm.Cond.laysFinal "java/lang/Integer" "java/lang/Integer" "value" "I") a0 Z = true := hw _ (List.mem_of_getElem? (i := 152) rfl)
end Wds
theorem strAtoms {a0 : Array Value} {Z : State} (hw : HW a0 Z) : ∀ a ∈ Bundle.stringAtoms, a.before a0 Z = true := by
  intro d hd
  simp only [Bundle.stringAtoms, List.mem_cons, List.not_mem_nil, or_false] at hd
  rcases hd with rfl | rfl | rfl | rfl | rfl | rfl | rfl
  · exact hw _ (List.mem_of_getElem? (i := 6) rfl)
  · exact hw _ (List.mem_of_getElem? (i := 5) rfl)
  · exact hw _ (List.mem_of_getElem? (i := 19) rfl)
  · exact hw _ (List.mem_of_getElem? (i := 20) rfl)
  · exact hw _ (List.mem_of_getElem? (i := 21) rfl)
  · exact hw _ (List.mem_of_getElem? (i := 22) rfl)
  · exact hw _ (List.mem_of_getElem? (i := 23) rfl)
theorem hEW {a0 : Array Value} {Z : State} (hw : HW a0 Z) : ∃ a0, EW Z a0 consts_1 := ⟨a0, EW.cons (hw _ (List.mem_of_getElem? (i := 18) rfl)) (by decide) (EW.nil)⟩
theorem d1_0 : decode method_2_code 0 = .ok (.iload_n 0, 1) := by decide +kernel
theorem d1_1 : decode method_2_code 1 = .ok (.ifCond .ne 14, 3) := by decide +kernel
theorem d1_4 : decode method_2_code 4 = .ok (.new 7, 3) := by decide +kernel
theorem d1_7 : decode method_2_code 7 = .ok (.dup, 1) := by decide +kernel
theorem d1_8 : decode method_2_code 8 = .ok (.iconst 0, 1) := by decide +kernel
theorem d1_9 : decode method_2_code 9 = .ok (.newarray .char, 2) := by decide +kernel
theorem d1_11 : decode method_2_code 11 = .ok (.invokespecial 9, 3) := by decide +kernel
theorem d1_14 : decode method_2_code 14 = .ok (.areturn, 1) := by decide +kernel
theorem d1_15 : decode method_2_code 15 = .ok (.iload_n 0, 1) := by decide +kernel
theorem d1_16 : decode method_2_code 16 = .ok (.iconst 1, 1) := by decide +kernel
theorem d1_17 : decode method_2_code 17 = .ok (.if_icmp .ne 21, 3) := by decide +kernel
theorem d1_20 : decode method_2_code 20 = .ok (.iconst 1, 1) := by decide +kernel
theorem d1_21 : decode method_2_code 21 = .ok (.newarray .char, 2) := by decide +kernel
theorem d1_23 : decode method_2_code 23 = .ok (.astore_n 3, 1) := by decide +kernel
theorem d1_24 : decode method_2_code 24 = .ok (.aload_n 3, 1) := by decide +kernel
theorem d1_25 : decode method_2_code 25 = .ok (.iconst 0, 1) := by decide +kernel
theorem d1_26 : decode method_2_code 26 = .ok (.iload_n 1, 1) := by decide +kernel
theorem d1_27 : decode method_2_code 27 = .ok (.i2c, 1) := by decide +kernel
theorem d1_28 : decode method_2_code 28 = .ok (.castore, 1) := by decide +kernel
theorem d1_29 : decode method_2_code 29 = .ok (.new 7, 3) := by decide +kernel
theorem d1_32 : decode method_2_code 32 = .ok (.dup, 1) := by decide +kernel
theorem d1_33 : decode method_2_code 33 = .ok (.aload_n 3, 1) := by decide +kernel
theorem d1_34 : decode method_2_code 34 = .ok (.invokespecial 9, 3) := by decide +kernel
theorem d1_37 : decode method_2_code 37 = .ok (.areturn, 1) := by decide +kernel
theorem d1_38 : decode method_2_code 38 = .ok (.iconst 2, 1) := by decide +kernel
theorem d1_39 : decode method_2_code 39 = .ok (.newarray .char, 2) := by decide +kernel
theorem d1_41 : decode method_2_code 41 = .ok (.astore_n 3, 1) := by decide +kernel
theorem d1_42 : decode method_2_code 42 = .ok (.aload_n 3, 1) := by decide +kernel
theorem d1_43 : decode method_2_code 43 = .ok (.iconst 0, 1) := by decide +kernel
theorem d1_44 : decode method_2_code 44 = .ok (.iload_n 1, 1) := by decide +kernel
theorem d1_45 : decode method_2_code 45 = .ok (.i2c, 1) := by decide +kernel
theorem d1_46 : decode method_2_code 46 = .ok (.castore, 1) := by decide +kernel
theorem d1_47 : decode method_2_code 47 = .ok (.aload_n 3, 1) := by decide +kernel
theorem d1_48 : decode method_2_code 48 = .ok (.iconst 1, 1) := by decide +kernel
theorem d1_49 : decode method_2_code 49 = .ok (.iload_n 2, 1) := by decide +kernel
theorem d1_50 : decode method_2_code 50 = .ok (.i2c, 1) := by decide +kernel
theorem d1_51 : decode method_2_code 51 = .ok (.castore, 1) := by decide +kernel
theorem d1_52 : decode method_2_code 52 = .ok (.new 7, 3) := by decide +kernel
theorem d1_55 : decode method_2_code 55 = .ok (.dup, 1) := by decide +kernel
theorem d1_56 : decode method_2_code 56 = .ok (.aload_n 3, 1) := by decide +kernel
theorem d1_57 : decode method_2_code 57 = .ok (.invokespecial 9, 3) := by decide +kernel
theorem d1_60 : decode method_2_code 60 = .ok (.areturn, 1) := by decide +kernel
theorem d2_0 : decode jdk_42_method_3_code 0 = .ok (.aload_n 0, 1) := by decide +kernel
theorem d2_1 : decode jdk_42_method_3_code 1 = .ok (.aload_n 1, 1) := by decide +kernel
theorem d2_2 : decode jdk_42_method_3_code 2 = .ok (.iconst 0, 1) := by decide +kernel
theorem d2_3 : decode jdk_42_method_3_code 3 = .ok (.aload_n 1, 1) := by decide +kernel
theorem d2_4 : decode jdk_42_method_3_code 4 = .ok (.arraylength, 1) := by decide +kernel
theorem d2_5 : decode jdk_42_method_3_code 5 = .ok (.aconst_null, 1) := by decide +kernel
theorem d2_6 : decode jdk_42_method_3_code 6 = .ok (.invokespecial 27, 3) := by decide +kernel
theorem d2_9 : decode jdk_42_method_3_code 9 = .ok (.return_, 1) := by decide +kernel
theorem d3_0 : decode jdk_42_method_149_code 0 = .ok (.aload_n 0, 1) := by decide +kernel
theorem d3_1 : decode jdk_42_method_149_code 1 = .ok (.invokespecial 1, 3) := by decide +kernel
theorem d3_4 : decode jdk_42_method_149_code 4 = .ok (.iload_n 3, 1) := by decide +kernel
theorem d3_5 : decode jdk_42_method_149_code 5 = .ok (.ifCond .ne 22, 3) := by decide +kernel
theorem d3_8 : decode jdk_42_method_149_code 8 = .ok (.aload_n 0, 1) := by decide +kernel
theorem d3_9 : decode jdk_42_method_149_code 9 = .ok (.ldc 7, 2) := by decide +kernel
theorem d3_11 : decode jdk_42_method_149_code 11 = .ok (.getfield 9, 3) := by decide +kernel
theorem d3_14 : decode jdk_42_method_149_code 14 = .ok (.putfield 9, 3) := by decide +kernel
theorem d3_17 : decode jdk_42_method_149_code 17 = .ok (.aload_n 0, 1) := by decide +kernel
theorem d3_18 : decode jdk_42_method_149_code 18 = .ok (.ldc 7, 2) := by decide +kernel
theorem d3_20 : decode jdk_42_method_149_code 20 = .ok (.getfield 15, 3) := by decide +kernel
theorem d3_23 : decode jdk_42_method_149_code 23 = .ok (.putfield 15, 3) := by decide +kernel
theorem d3_26 : decode jdk_42_method_149_code 26 = .ok (.return_, 1) := by decide +kernel
theorem d3_27 : decode jdk_42_method_149_code 27 = .ok (.getstatic 38, 3) := by decide +kernel
theorem d3_30 : decode jdk_42_method_149_code 30 = .ok (.ifCond .eq 28, 3) := by decide +kernel
theorem d3_33 : decode jdk_42_method_149_code 33 = .ok (.aload_n 1, 1) := by decide +kernel
theorem d3_34 : decode jdk_42_method_149_code 34 = .ok (.iload_n 2, 1) := by decide +kernel
theorem d3_35 : decode jdk_42_method_149_code 35 = .ok (.iload_n 3, 1) := by decide +kernel
theorem d3_36 : decode jdk_42_method_149_code 36 = .ok (.invokestatic 177, 3) := by decide +kernel
theorem d3_39 : decode jdk_42_method_149_code 39 = .ok (.astore 5, 2) := by decide +kernel
theorem d3_41 : decode jdk_42_method_149_code 41 = .ok (.aload_n 0, 1) := by decide +kernel
theorem d3_42 : decode jdk_42_method_149_code 42 = .ok (.aload 5, 2) := by decide +kernel
theorem d3_44 : decode jdk_42_method_149_code 44 = .ok (.iload_n 3, 1) := by decide +kernel
theorem d3_45 : decode jdk_42_method_149_code 45 = .ok (.invokestatic 47, 3) := by decide +kernel
theorem d3_48 : decode jdk_42_method_149_code 48 = .ok (.putfield 15, 3) := by decide +kernel
theorem d3_51 : decode jdk_42_method_149_code 51 = .ok (.aload_n 0, 1) := by decide +kernel
theorem d3_52 : decode jdk_42_method_149_code 52 = .ok (.aload 5, 2) := by decide +kernel
theorem d3_54 : decode jdk_42_method_149_code 54 = .ok (.putfield 9, 3) := by decide +kernel
theorem d3_57 : decode jdk_42_method_149_code 57 = .ok (.return_, 1) := by decide +kernel
theorem d5_0 : decode jdk_38_method_2_code 0 = .ok (.aload_n 0, 1) := by decide +kernel
theorem d5_1 : decode jdk_38_method_2_code 1 = .ok (.invokespecial 1, 3) := by decide +kernel
theorem d5_4 : decode jdk_38_method_2_code 4 = .ok (.aload_n 0, 1) := by decide +kernel
theorem d5_5 : decode jdk_38_method_2_code 5 = .ok (.getstatic 39, 3) := by decide +kernel
theorem d5_8 : decode jdk_38_method_2_code 8 = .ok (.putfield 9, 3) := by decide +kernel
theorem d5_11 : decode jdk_38_method_2_code 11 = .ok (.return_, 1) := by decide +kernel
theorem d6_0 : decode jdk_39_method_1_code 0 = .ok (.aload_n 0, 1) := by decide +kernel
theorem d6_1 : decode jdk_39_method_1_code 1 = .ok (.invokespecial 1, 3) := by decide +kernel
theorem d6_4 : decode jdk_39_method_1_code 4 = .ok (.aload_n 0, 1) := by decide +kernel
theorem d6_5 : decode jdk_39_method_1_code 5 = .ok (.iconst 0, 1) := by decide +kernel
theorem d6_6 : decode jdk_39_method_1_code 6 = .ok (.putfield 7, 3) := by decide +kernel
theorem d6_9 : decode jdk_39_method_1_code 9 = .ok (.return_, 1) := by decide +kernel
theorem d7_0 : decode jdk_22_method_1_code 0 = .ok (.aload_n 0, 1) := by decide +kernel
theorem d7_1 : decode jdk_22_method_1_code 1 = .ok (.invokespecial 1, 3) := by decide +kernel
theorem d7_4 : decode jdk_22_method_1_code 4 = .ok (.return_, 1) := by decide +kernel
theorem d8_0 : decode jdk_33_method_22_code 0 = .ok (.iload_n 0, 1) := by decide +kernel
theorem d8_1 : decode jdk_33_method_22_code 1 = .ok (.bipush (-128), 2) := by decide +kernel
theorem d8_3 : decode jdk_33_method_22_code 3 = .ok (.if_icmp .lt 20, 3) := by decide +kernel
theorem d8_6 : decode jdk_33_method_22_code 6 = .ok (.iload_n 0, 1) := by decide +kernel
theorem d8_7 : decode jdk_33_method_22_code 7 = .ok (.getstatic 191, 3) := by decide +kernel
theorem d8_10 : decode jdk_33_method_22_code 10 = .ok (.if_icmp .gt 13, 3) := by decide +kernel
theorem d8_13 : decode jdk_33_method_22_code 13 = .ok (.getstatic 195, 3) := by decide +kernel
theorem d8_16 : decode jdk_33_method_22_code 16 = .ok (.iload_n 0, 1) := by decide +kernel
theorem d8_17 : decode jdk_33_method_22_code 17 = .ok (.sipush 128, 3) := by decide +kernel
theorem d8_20 : decode jdk_33_method_22_code 20 = .ok (.iadd, 1) := by decide +kernel
theorem d8_21 : decode jdk_33_method_22_code 21 = .ok (.aaload, 1) := by decide +kernel
theorem d8_22 : decode jdk_33_method_22_code 22 = .ok (.areturn, 1) := by decide +kernel
theorem d8_23 : decode jdk_33_method_22_code 23 = .ok (.new 1, 3) := by decide +kernel
theorem d8_26 : decode jdk_33_method_22_code 26 = .ok (.dup, 1) := by decide +kernel
theorem d8_27 : decode jdk_33_method_22_code 27 = .ok (.iload_n 0, 1) := by decide +kernel
theorem d8_28 : decode jdk_33_method_22_code 28 = .ok (.invokespecial 199, 3) := by decide +kernel
theorem d8_31 : decode jdk_33_method_22_code 31 = .ok (.areturn, 1) := by decide +kernel
theorem d9_0 : decode jdk_38_method_25_code 0 = .ok (.aload_n 0, 1) := by decide +kernel
theorem d9_1 : decode jdk_38_method_25_code 1 = .ok (.dup, 1) := by decide +kernel
theorem d9_2 : decode jdk_38_method_25_code 2 = .ok (.getfield 63, 3) := by decide +kernel
theorem d9_5 : decode jdk_38_method_25_code 5 = .ok (.iconst 1, 1) := by decide +kernel
theorem d9_6 : decode jdk_38_method_25_code 6 = .ok (.iadd, 1) := by decide +kernel
theorem d9_7 : decode jdk_38_method_25_code 7 = .ok (.putfield 63, 3) := by decide +kernel
theorem d9_10 : decode jdk_38_method_25_code 10 = .ok (.aload_n 0, 1) := by decide +kernel
theorem d9_11 : decode jdk_38_method_25_code 11 = .ok (.aload_n 1, 1) := by decide +kernel
theorem d9_12 : decode jdk_38_method_25_code 12 = .ok (.aload_n 0, 1) := by decide +kernel
theorem d9_13 : decode jdk_38_method_25_code 13 = .ok (.getfield 9, 3) := by decide +kernel
theorem d9_16 : decode jdk_38_method_25_code 16 = .ok (.aload_n 0, 1) := by decide +kernel
theorem d9_17 : decode jdk_38_method_25_code 17 = .ok (.getfield 48, 3) := by decide +kernel
theorem d9_20 : decode jdk_38_method_25_code 20 = .ok (.invokevirtual 131, 3) := by decide +kernel
theorem d9_23 : decode jdk_38_method_25_code 23 = .ok (.iconst 1, 1) := by decide +kernel
theorem d9_24 : decode jdk_38_method_25_code 24 = .ok (.ireturn, 1) := by decide +kernel
theorem d10_0 : decode jdk_38_method_24_code 0 = .ok (.iload_n 3, 1) := by decide +kernel
theorem d10_1 : decode jdk_38_method_24_code 1 = .ok (.aload_n 2, 1) := by decide +kernel
theorem d10_2 : decode jdk_38_method_24_code 2 = .ok (.arraylength, 1) := by decide +kernel
theorem d10_3 : decode jdk_38_method_24_code 3 = .ok (.if_icmp .ne 8, 3) := by decide +kernel
theorem d10_6 : decode jdk_38_method_24_code 6 = .ok (.aload_n 0, 1) := by decide +kernel
theorem d10_7 : decode jdk_38_method_24_code 7 = .ok (.invokevirtual 129, 3) := by decide +kernel
theorem d10_10 : decode jdk_38_method_24_code 10 = .ok (.astore_n 2, 1) := by decide +kernel
theorem d10_11 : decode jdk_38_method_24_code 11 = .ok (.aload_n 2, 1) := by decide +kernel
theorem d10_12 : decode jdk_38_method_24_code 12 = .ok (.iload_n 3, 1) := by decide +kernel
theorem d10_13 : decode jdk_38_method_24_code 13 = .ok (.aload_n 1, 1) := by decide +kernel
theorem d10_14 : decode jdk_38_method_24_code 14 = .ok (.aastore, 1) := by decide +kernel
theorem d10_15 : decode jdk_38_method_24_code 15 = .ok (.aload_n 0, 1) := by decide +kernel
theorem d10_16 : decode jdk_38_method_24_code 16 = .ok (.iload_n 3, 1) := by decide +kernel
theorem d10_17 : decode jdk_38_method_24_code 17 = .ok (.iconst 1, 1) := by decide +kernel
theorem d10_18 : decode jdk_38_method_24_code 18 = .ok (.iadd, 1) := by decide +kernel
theorem d10_19 : decode jdk_38_method_24_code 19 = .ok (.putfield 48, 3) := by decide +kernel
theorem d10_22 : decode jdk_38_method_24_code 22 = .ok (.return_, 1) := by decide +kernel
theorem d11_0 : decode jdk_38_method_7_code 0 = .ok (.aload_n 0, 1) := by decide +kernel
theorem d11_1 : decode jdk_38_method_7_code 1 = .ok (.aload_n 0, 1) := by decide +kernel
theorem d11_2 : decode jdk_38_method_7_code 2 = .ok (.getfield 48, 3) := by decide +kernel
theorem d11_5 : decode jdk_38_method_7_code 5 = .ok (.iconst 1, 1) := by decide +kernel
theorem d11_6 : decode jdk_38_method_7_code 6 = .ok (.iadd, 1) := by decide +kernel
theorem d11_7 : decode jdk_38_method_7_code 7 = .ok (.invokevirtual 69, 3) := by decide +kernel
theorem d11_10 : decode jdk_38_method_7_code 10 = .ok (.areturn, 1) := by decide +kernel
theorem d12_0 : decode jdk_38_method_6_code 0 = .ok (.aload_n 0, 1) := by decide +kernel
theorem d12_1 : decode jdk_38_method_6_code 1 = .ok (.getfield 9, 3) := by decide +kernel
theorem d12_4 : decode jdk_38_method_6_code 4 = .ok (.arraylength, 1) := by decide +kernel
theorem d12_5 : decode jdk_38_method_6_code 5 = .ok (.istore_n 2, 1) := by decide +kernel
theorem d12_6 : decode jdk_38_method_6_code 6 = .ok (.iload_n 2, 1) := by decide +kernel
theorem d12_7 : decode jdk_38_method_6_code 7 = .ok (.ifCond .gt 13, 3) := by decide +kernel
theorem d12_10 : decode jdk_38_method_6_code 10 = .ok (.aload_n 0, 1) := by decide +kernel
theorem d12_11 : decode jdk_38_method_6_code 11 = .ok (.getfield 9, 3) := by decide +kernel
theorem d12_14 : decode jdk_38_method_6_code 14 = .ok (.getstatic 39, 3) := by decide +kernel
theorem d12_17 : decode jdk_38_method_6_code 17 = .ok (.if_acmp .eq 28, 3) := by decide +kernel
theorem d12_45 : decode jdk_38_method_6_code 45 = .ok (.aload_n 0, 1) := by decide +kernel
theorem d12_46 : decode jdk_38_method_6_code 46 = .ok (.bipush 10, 2) := by decide +kernel
theorem d12_48 : decode jdk_38_method_6_code 48 = .ok (.iload_n 1, 1) := by decide +kernel
theorem d12_49 : decode jdk_38_method_6_code 49 = .ok (.invokestatic 79, 3) := by decide +kernel
theorem d12_52 : decode jdk_38_method_6_code 52 = .ok (.anewarray 7, 3) := by decide +kernel
theorem d12_55 : decode jdk_38_method_6_code 55 = .ok (.dup_x1, 1) := by decide +kernel
theorem d12_56 : decode jdk_38_method_6_code 56 = .ok (.putfield 9, 3) := by decide +kernel
theorem d12_59 : decode jdk_38_method_6_code 59 = .ok (.areturn, 1) := by decide +kernel
theorem d13_0 : decode jdk_29_method_65_code 0 = .ok (.iload_n 0, 1) := by decide +kernel
theorem d13_1 : decode jdk_29_method_65_code 1 = .ok (.iload_n 1, 1) := by decide +kernel
theorem d13_2 : decode jdk_29_method_65_code 2 = .ok (.if_icmp .lt 7, 3) := by decide +kernel
theorem d13_5 : decode jdk_29_method_65_code 5 = .ok (.iload_n 0, 1) := by decide +kernel
theorem d13_6 : decode jdk_29_method_65_code 6 = .ok (.goto 4, 3) := by decide +kernel
theorem d13_9 : decode jdk_29_method_65_code 9 = .ok (.iload_n 1, 1) := by decide +kernel
theorem d13_10 : decode jdk_29_method_65_code 10 = .ok (.ireturn, 1) := by decide +kernel
theorem d14_0 : decode prog_7_method_1_code 0 = .ok (.aload_n 0, 1) := by decide +kernel
theorem d14_1 : decode prog_7_method_1_code 1 = .ok (.invokespecial 1, 3) := by decide +kernel
theorem d14_4 : decode prog_7_method_1_code 4 = .ok (.aload_n 0, 1) := by decide +kernel
theorem d14_5 : decode prog_7_method_1_code 5 = .ok (.aload_n 1, 1) := by decide +kernel
theorem d14_6 : decode prog_7_method_1_code 6 = .ok (.putfield 7, 3) := by decide +kernel
theorem d14_9 : decode prog_7_method_1_code 9 = .ok (.aload_n 0, 1) := by decide +kernel
theorem d14_10 : decode prog_7_method_1_code 10 = .ok (.iload_n 2, 1) := by decide +kernel
theorem d14_11 : decode prog_7_method_1_code 11 = .ok (.putfield 13, 3) := by decide +kernel
theorem d14_14 : decode prog_7_method_1_code 14 = .ok (.aload_n 0, 1) := by decide +kernel
theorem d14_15 : decode prog_7_method_1_code 15 = .ok (.iload_n 3, 1) := by decide +kernel
theorem d14_16 : decode prog_7_method_1_code 16 = .ok (.putfield 17, 3) := by decide +kernel
theorem d14_19 : decode prog_7_method_1_code 19 = .ok (.aload_n 0, 1) := by decide +kernel
theorem d14_20 : decode prog_7_method_1_code 20 = .ok (.aload 4, 2) := by decide +kernel
theorem d14_22 : decode prog_7_method_1_code 22 = .ok (.putfield 20, 3) := by decide +kernel
theorem d14_25 : decode prog_7_method_1_code 25 = .ok (.return_, 1) := by decide +kernel
theorem d15_0 : decode jdk_30_method_1_code 0 = .ok (.aload_n 0, 1) := by decide +kernel
theorem d15_1 : decode jdk_30_method_1_code 1 = .ok (.invokespecial 1, 3) := by decide +kernel
theorem d15_4 : decode jdk_30_method_1_code 4 = .ok (.return_, 1) := by decide +kernel
theorem d16_0 : decode prog_7_method_3_code 0 = .ok (.aload_n 1, 1) := by decide +kernel
theorem d16_1 : decode prog_7_method_3_code 1 = .ok (.instanceof 8, 3) := by decide +kernel
theorem d16_4 : decode prog_7_method_3_code 4 = .ok (.ifCond .eq 26, 3) := by decide +kernel
theorem d16_7 : decode prog_7_method_3_code 7 = .ok (.aload_n 1, 1) := by decide +kernel
theorem d16_8 : decode prog_7_method_3_code 8 = .ok (.checkcast 8, 3) := by decide +kernel
theorem d16_11 : decode prog_7_method_3_code 11 = .ok (.astore_n 2, 1) := by decide +kernel
theorem d16_12 : decode prog_7_method_3_code 12 = .ok (.aload_n 0, 1) := by decide +kernel
theorem d16_13 : decode prog_7_method_3_code 13 = .ok (.getfield 7, 3) := by decide +kernel
theorem d16_16 : decode prog_7_method_3_code 16 = .ok (.aload_n 2, 1) := by decide +kernel
theorem d16_17 : decode prog_7_method_3_code 17 = .ok (.getfield 7, 3) := by decide +kernel
theorem d16_20 : decode prog_7_method_3_code 20 = .ok (.invokevirtual 30, 3) := by decide +kernel
theorem d16_23 : decode prog_7_method_3_code 23 = .ok (.ifCond .eq 7, 3) := by decide +kernel
theorem d16_26 : decode prog_7_method_3_code 26 = .ok (.iconst 1, 1) := by decide +kernel
theorem d16_27 : decode prog_7_method_3_code 27 = .ok (.goto 4, 3) := by decide +kernel
theorem d16_30 : decode prog_7_method_3_code 30 = .ok (.iconst 0, 1) := by decide +kernel
theorem d16_31 : decode prog_7_method_3_code 31 = .ok (.ireturn, 1) := by decide +kernel
theorem d17_0 : decode jdk_42_method_66_code 0 = .ok (.aload_n 0, 1) := by decide +kernel
theorem d17_1 : decode jdk_42_method_66_code 1 = .ok (.aload_n 1, 1) := by decide +kernel
theorem d17_2 : decode jdk_42_method_66_code 2 = .ok (.if_acmp .ne 5, 3) := by decide +kernel
theorem d17_5 : decode jdk_42_method_66_code 5 = .ok (.iconst 1, 1) := by decide +kernel
theorem d17_6 : decode jdk_42_method_66_code 6 = .ok (.ireturn, 1) := by decide +kernel
theorem d17_7 : decode jdk_42_method_66_code 7 = .ok (.aload_n 1, 1) := by decide +kernel
theorem d17_8 : decode jdk_42_method_66_code 8 = .ok (.instanceof 10, 3) := by decide +kernel
theorem d17_11 : decode jdk_42_method_66_code 11 = .ok (.ifCond .eq 43, 3) := by decide +kernel
theorem d17_14 : decode jdk_42_method_66_code 14 = .ok (.aload_n 1, 1) := by decide +kernel
theorem d17_15 : decode jdk_42_method_66_code 15 = .ok (.checkcast 10, 3) := by decide +kernel
theorem d17_18 : decode jdk_42_method_66_code 18 = .ok (.astore_n 2, 1) := by decide +kernel
theorem d17_19 : decode jdk_42_method_66_code 19 = .ok (.getstatic 38, 3) := by decide +kernel
theorem d17_22 : decode jdk_42_method_66_code 22 = .ok (.ifCond .eq 14, 3) := by decide +kernel
theorem d17_25 : decode jdk_42_method_66_code 25 = .ok (.aload_n 0, 1) := by decide +kernel
theorem d17_26 : decode jdk_42_method_66_code 26 = .ok (.getfield 15, 3) := by decide +kernel
theorem d17_29 : decode jdk_42_method_66_code 29 = .ok (.aload_n 2, 1) := by decide +kernel
theorem d17_30 : decode jdk_42_method_66_code 30 = .ok (.getfield 15, 3) := by decide +kernel
theorem d17_33 : decode jdk_42_method_66_code 33 = .ok (.if_icmp .ne 21, 3) := by decide +kernel
theorem d17_36 : decode jdk_42_method_66_code 36 = .ok (.aload_n 0, 1) := by decide +kernel
theorem d17_37 : decode jdk_42_method_66_code 37 = .ok (.getfield 9, 3) := by decide +kernel
theorem d17_40 : decode jdk_42_method_66_code 40 = .ok (.aload_n 2, 1) := by decide +kernel
theorem d17_41 : decode jdk_42_method_66_code 41 = .ok (.getfield 9, 3) := by decide +kernel
theorem d17_44 : decode jdk_42_method_66_code 44 = .ok (.invokestatic 541, 3) := by decide +kernel
theorem d17_47 : decode jdk_42_method_66_code 47 = .ok (.ifCond .eq 7, 3) := by decide +kernel
theorem d17_50 : decode jdk_42_method_66_code 50 = .ok (.iconst 1, 1) := by decide +kernel
theorem d17_51 : decode jdk_42_method_66_code 51 = .ok (.goto 4, 3) := by decide +kernel
theorem d17_54 : decode jdk_42_method_66_code 54 = .ok (.iconst 0, 1) := by decide +kernel
theorem d17_55 : decode jdk_42_method_66_code 55 = .ok (.ireturn, 1) := by decide +kernel
theorem d18_0 : decode jdk_43_method_13_code 0 = .ok (.aload_n 0, 1) := by decide +kernel
theorem d18_1 : decode jdk_43_method_13_code 1 = .ok (.arraylength, 1) := by decide +kernel
theorem d18_2 : decode jdk_43_method_13_code 2 = .ok (.aload_n 1, 1) := by decide +kernel
theorem d18_3 : decode jdk_43_method_13_code 3 = .ok (.arraylength, 1) := by decide +kernel
theorem d18_4 : decode jdk_43_method_13_code 4 = .ok (.if_icmp .ne 30, 3) := by decide +kernel
theorem d18_7 : decode jdk_43_method_13_code 7 = .ok (.iconst 0, 1) := by decide +kernel
theorem d18_8 : decode jdk_43_method_13_code 8 = .ok (.istore_n 2, 1) := by decide +kernel
theorem d18_9 : decode jdk_43_method_13_code 9 = .ok (.iload_n 2, 1) := by decide +kernel
theorem d18_10 : decode jdk_43_method_13_code 10 = .ok (.aload_n 0, 1) := by decide +kernel
theorem d18_11 : decode jdk_43_method_13_code 11 = .ok (.arraylength, 1) := by decide +kernel
theorem d18_12 : decode jdk_43_method_13_code 12 = .ok (.if_icmp .ge 20, 3) := by decide +kernel
theorem d18_15 : decode jdk_43_method_13_code 15 = .ok (.aload_n 0, 1) := by decide +kernel
theorem d18_16 : decode jdk_43_method_13_code 16 = .ok (.iload_n 2, 1) := by decide +kernel
theorem d18_17 : decode jdk_43_method_13_code 17 = .ok (.baload, 1) := by decide +kernel
theorem d18_18 : decode jdk_43_method_13_code 18 = .ok (.aload_n 1, 1) := by decide +kernel
theorem d18_19 : decode jdk_43_method_13_code 19 = .ok (.iload_n 2, 1) := by decide +kernel
theorem d18_20 : decode jdk_43_method_13_code 20 = .ok (.baload, 1) := by decide +kernel
theorem d18_21 : decode jdk_43_method_13_code 21 = .ok (.if_icmp .eq 5, 3) := by decide +kernel
theorem d18_24 : decode jdk_43_method_13_code 24 = .ok (.iconst 0, 1) := by decide +kernel
theorem d18_25 : decode jdk_43_method_13_code 25 = .ok (.ireturn, 1) := by decide +kernel
theorem d18_26 : decode jdk_43_method_13_code 26 = .ok (.iinc 2 1, 3) := by decide +kernel
theorem d18_29 : decode jdk_43_method_13_code 29 = .ok (.goto (-20), 3) := by decide +kernel
theorem d18_32 : decode jdk_43_method_13_code 32 = .ok (.iconst 1, 1) := by decide +kernel
theorem d18_33 : decode jdk_43_method_13_code 33 = .ok (.ireturn, 1) := by decide +kernel
theorem d18_34 : decode jdk_43_method_13_code 34 = .ok (.iconst 0, 1) := by decide +kernel
theorem d18_35 : decode jdk_43_method_13_code 35 = .ok (.ireturn, 1) := by decide +kernel
theorem d19_0 : decode jdk_52_method_16_code 0 = .ok (.iload_n 2, 1) := by decide +kernel
theorem d19_1 : decode jdk_52_method_16_code 1 = .ok (.newarray .byte, 2) := by decide +kernel
theorem d19_3 : decode jdk_52_method_16_code 3 = .ok (.astore_n 3, 1) := by decide +kernel
theorem d19_4 : decode jdk_52_method_16_code 4 = .ok (.aload_n 0, 1) := by decide +kernel
theorem d19_5 : decode jdk_52_method_16_code 5 = .ok (.iload_n 1, 1) := by decide +kernel
theorem d19_6 : decode jdk_52_method_16_code 6 = .ok (.aload_n 3, 1) := by decide +kernel
theorem d19_7 : decode jdk_52_method_16_code 7 = .ok (.iconst 0, 1) := by decide +kernel
theorem d19_8 : decode jdk_52_method_16_code 8 = .ok (.iload_n 2, 1) := by decide +kernel
theorem d19_9 : decode jdk_52_method_16_code 9 = .ok (.invokestatic 115, 3) := by decide +kernel
theorem d19_12 : decode jdk_52_method_16_code 12 = .ok (.istore 4, 2) := by decide +kernel
theorem d19_14 : decode jdk_52_method_16_code 14 = .ok (.iload 4, 2) := by decide +kernel
theorem d19_16 : decode jdk_52_method_16_code 16 = .ok (.iload_n 2, 1) := by decide +kernel
theorem d19_17 : decode jdk_52_method_16_code 17 = .ok (.if_icmp .eq 40, 3) := by decide +kernel
theorem d19_57 : decode jdk_52_method_16_code 57 = .ok (.aload_n 3, 1) := by decide +kernel
theorem d19_58 : decode jdk_52_method_16_code 58 = .ok (.areturn, 1) := by decide +kernel
theorem d20_0 : decode jdk_52_method_21_code 0 = .ok (.iconst 0, 1) := by decide +kernel
theorem d20_1 : decode jdk_52_method_21_code 1 = .ok (.istore 5, 2) := by decide +kernel
theorem d20_3 : decode jdk_52_method_21_code 3 = .ok (.iload 5, 2) := by decide +kernel
theorem d20_5 : decode jdk_52_method_21_code 5 = .ok (.iload 4, 2) := by decide +kernel
theorem d20_7 : decode jdk_52_method_21_code 7 = .ok (.if_icmp .ge 37, 3) := by decide +kernel
theorem d20_10 : decode jdk_52_method_21_code 10 = .ok (.aload_n 0, 1) := by decide +kernel
theorem d20_11 : decode jdk_52_method_21_code 11 = .ok (.iload_n 1, 1) := by decide +kernel
theorem d20_12 : decode jdk_52_method_21_code 12 = .ok (.caload, 1) := by decide +kernel
theorem d20_13 : decode jdk_52_method_21_code 13 = .ok (.istore 6, 2) := by decide +kernel
theorem d20_15 : decode jdk_52_method_21_code 15 = .ok (.iload 6, 2) := by decide +kernel
theorem d20_17 : decode jdk_52_method_21_code 17 = .ok (.sipush 255, 3) := by decide +kernel
theorem d20_20 : decode jdk_52_method_21_code 20 = .ok (.if_icmp .le 6, 3) := by decide +kernel
theorem d20_26 : decode jdk_52_method_21_code 26 = .ok (.aload_n 2, 1) := by decide +kernel
theorem d20_27 : decode jdk_52_method_21_code 27 = .ok (.iload_n 3, 1) := by decide +kernel
theorem d20_28 : decode jdk_52_method_21_code 28 = .ok (.iload 6, 2) := by decide +kernel
theorem d20_30 : decode jdk_52_method_21_code 30 = .ok (.i2b, 1) := by decide +kernel
theorem d20_31 : decode jdk_52_method_21_code 31 = .ok (.bastore, 1) := by decide +kernel
theorem d20_32 : decode jdk_52_method_21_code 32 = .ok (.iinc 1 1, 3) := by decide +kernel
theorem d20_35 : decode jdk_52_method_21_code 35 = .ok (.iinc 3 1, 3) := by decide +kernel
theorem d20_38 : decode jdk_52_method_21_code 38 = .ok (.iinc 5 1, 3) := by decide +kernel
theorem d20_41 : decode jdk_52_method_21_code 41 = .ok (.goto (-38), 3) := by decide +kernel
theorem d20_44 : decode jdk_52_method_21_code 44 = .ok (.iload 4, 2) := by decide +kernel
theorem d20_46 : decode jdk_52_method_21_code 46 = .ok (.ireturn, 1) := by decide +kernel
theorem d21_0 : decode jdk_52_method_15_code 0 = .ok (.iload_n 1, 1) := by decide +kernel
theorem d21_1 : decode jdk_52_method_15_code 1 = .ok (.aload_n 0, 1) := by decide +kernel
theorem d21_2 : decode jdk_52_method_15_code 2 = .ok (.arraylength, 1) := by decide +kernel
theorem d21_3 : decode jdk_52_method_15_code 3 = .ok (.isub, 1) := by decide +kernel
theorem d21_4 : decode jdk_52_method_15_code 4 = .ok (.bipush 31, 2) := by decide +kernel
theorem d21_6 : decode jdk_52_method_15_code 6 = .ok (.iushr, 1) := by decide +kernel
theorem d21_7 : decode jdk_52_method_15_code 7 = .ok (.i2b, 1) := by decide +kernel
theorem d21_8 : decode jdk_52_method_15_code 8 = .ok (.ireturn, 1) := by decide +kernel
theorem d22_0 : decode jdk_33_method_23_code 0 = .ok (.aload_n 0, 1) := by decide +kernel
theorem d22_1 : decode jdk_33_method_23_code 1 = .ok (.invokespecial 202, 3) := by decide +kernel
theorem d22_4 : decode jdk_33_method_23_code 4 = .ok (.aload_n 0, 1) := by decide +kernel
theorem d22_5 : decode jdk_33_method_23_code 5 = .ok (.iload_n 1, 1) := by decide +kernel
theorem d22_6 : decode jdk_33_method_23_code 6 = .ok (.putfield 205, 3) := by decide +kernel
theorem d22_9 : decode jdk_33_method_23_code 9 = .ok (.return_, 1) := by decide +kernel
theorem d23_0 : decode jdk_18_method_1_code 0 = .ok (.aload_n 0, 1) := by decide +kernel
theorem d23_1 : decode jdk_18_method_1_code 1 = .ok (.invokespecial 1, 3) := by decide +kernel
theorem d23_4 : decode jdk_18_method_1_code 4 = .ok (.return_, 1) := by decide +kernel
theorem pd0 : parseMethodDescriptor "([CI[BII)I" = some ⟨[(.array .char), .int, (.array .byte), .int, .int], some .int⟩ := by decide +kernel
theorem pd1 : parseMethodDescriptor "([CII)[B" = some ⟨[(.array .char), .int, .int], some (.array .byte)⟩ := by decide +kernel
theorem pd2 : parseMethodDescriptor "([BI)B" = some ⟨[(.array .byte), .int], some .byte⟩ := by decide +kernel
theorem pd3 : parseMethodDescriptor "([CIILjava/lang/Void;)V" = some ⟨[(.array .char), .int, .int, (.object "java/lang/Void")], none⟩ := by decide +kernel
theorem pd4 : parseMethodDescriptor "([B[B)Z" = some ⟨[(.array .byte), (.array .byte)], some .boolean⟩ := by decide +kernel
theorem pd5 : parseMethodDescriptor "()V" = some ⟨[], none⟩ := by decide +kernel
theorem pd6 : parseMethodDescriptor "(I)V" = some ⟨[.int], none⟩ := by decide +kernel
theorem pd7 : parseMethodDescriptor "(II)I" = some ⟨[.int, .int], some .int⟩ := by decide +kernel
theorem pd8 : parseMethodDescriptor "(I)[Ljava/lang/Object;" = some ⟨[.int], some (.array (.object "java/lang/Object"))⟩ := by decide +kernel
theorem pd9 : parseMethodDescriptor "()[Ljava/lang/Object;" = some ⟨[], some (.array (.object "java/lang/Object"))⟩ := by decide +kernel
theorem pd10 : parseMethodDescriptor "(Ljava/lang/Object;[Ljava/lang/Object;I)V" = some ⟨[(.object "java/lang/Object"), (.array (.object "java/lang/Object")), .int], none⟩ := by decide +kernel
theorem pd11 : parseMethodDescriptor "([C)V" = some ⟨[(.array .char)], none⟩ := by decide +kernel
theorem pd12 : parseMethodDescriptor "(Ljava/lang/Object;)Z" = some ⟨[(.object "java/lang/Object")], some .boolean⟩ := by decide +kernel
theorem pd13 : parseMethodDescriptor "(III)Ljava/lang/String;" = some ⟨[.int, .int, .int], some (.object "java/lang/String")⟩ := by decide +kernel
theorem pd14 : parseMethodDescriptor "(I)Ljava/lang/Integer;" = some ⟨[.int], some (.object "java/lang/Integer")⟩ := by decide +kernel
theorem pd15 : parseMethodDescriptor "(Ljava/lang/String;IILjava/util/List;)V" = some ⟨[(.object "java/lang/String"), .int, .int, (.object "java/util/List")], none⟩ := by decide +kernel

/-- a String of n chars, each 0 to 255: its byte array at b spells them -/
def Str (Z : State) (h : Heap) (s b : Addr) (k : ClassId) (n : Nat) (f : Nat → Int32) : Prop :=
  Exa Z h s "java/lang/String" ∧ Fld Z h s "java/lang/String" "coder" "B" (.int 0) ∧ Fld Z h s "java/lang/String" "value" "[B" (.ref b) ∧ Arf Z h b k .byte n (fun i => .int (f i))
section StrS
variable {Z : State} {h h' : Heap} {s b a : Addr} {k : ClassId} {n sl : Nat} {f : Nat → Int32} {v : Value} {ws : List Addr}
theorem Str.ext (F : Str Z h s b k n f) (E : Ext h h') : Str Z h' s b k n f := ⟨F.1.ext E, F.2.1.ext E, F.2.2.1.ext E, F.2.2.2.ext E⟩
theorem Str.other (F : Str Z h s b k n f) (W : Wr h h' a sl v) (q : s ≠ a) (q' : b ≠ a) : Str Z h' s b k n f := ⟨F.1.wr W, F.2.1.other W (Or.inl q), F.2.2.1.other W (Or.inl q), F.2.2.2.other W q'⟩
theorem Str.keep (F : Str Z h s b k n f) (K : Keep h h' ws) (q : s ∉ ws) (q' : b ∉ ws) : Str Z h' s b k n f := ⟨F.1.keep K, F.2.1.keep K q, F.2.2.1.keep K q, F.2.2.2.keep K q'⟩
theorem Str.lt (F : Str Z h s b k n f) : s < h.size := F.1.lt
theorem Str.lt' (F : Str Z h s b k n f) : b < h.size := F.2.2.2.lt
end StrS
theorem step_set {α : Type} {g : Nat → α} {f : Nat → α} (x : Nat) (j : Int) (h : 0 ≤ j) : (if x = j.toNat then f j.toNat else if x < j.toNat then f x else g x) = if x < (j + 1).toNat then f x else g x := by
  rcases Nat.lt_trichotomy x j.toNat with q | q | q
  · rw [if_neg (by omega), if_pos q, if_pos (by omega)]
  · rw [if_pos q, if_pos (by omega), q]
  · rw [if_neg (by omega), if_neg (by omega), if_neg (by omega)]
theorem byte_inj {x y : Int32} (h1 : 0 ≤ x.toInt) (h2 : x.toInt ≤ 255) (h3 : 0 ≤ y.toInt) (h4 : y.toInt ≤ 255) (e : x.toInt8.toInt32 = y.toInt8.toInt32) : x = y := by
  have a := c_i2b x; have b := c_i2b y; rw [e] at a; exact of_toInt (by omega)

theorem shr0 (z : Int32) : z >>> ((0 : Int32) &&& 31) = z := of_toInt (by rw [c_ishr z 0 0 (by decide)]; simp)
theorem chr_of (b : Int32) : ((b &&& 255).toUInt32.toUInt16.toUInt32.toInt32).toInt = b.toInt % 256 := by
  have h1 := c_mask b 255 8 (by decide) (by decide)
  have h2 := c_i2c (b &&& 255)
  omega
theorem nr_char {r : Int32} (h1 : 0 ≤ r.toInt) (h2 : r.toInt < 65536) : narrow .char (.int r) = .int r := congrArg Value.int (of_toInt (by have := c_i2c r; omega))
theorem nr_i2c (x : Int32) : narrow .char (.int (x.toUInt32.toUInt16.toUInt32.toInt32)) = .int (x.toUInt32.toUInt16.toUInt32.toInt32) := nr_char (c_i2c x).2.1 (c_i2c x).2.2
theorem chr_byte {x : Int32} (h1 : 0 ≤ x.toInt) (h2 : x.toInt ≤ 255) : (x.toInt8.toInt32).toInt % 256 = x.toInt := by have := c_i2b x; omega
theorem s_isRef {s : State} {args : Array Value} {CC n d : String} (h0 : (Cond.initializedFor CC n d).before args s = true) (h1 : (Cond.isRef (Term.static CC n d)).before args s = true) : ∃ v : Value, Sta s s.heap CC n d v ∧ v.isRef = true := by
  obtain ⟨x, ev, hr⟩ := Cond.isRef_spec h1
  exact ⟨x, Sta.start ev (Or.inl h0), hr⟩

/-- Integer's cache as the law finds it -/
def Ich (Z : State) (aC : Addr) (kC : ClassId) (g : Nat → Addr) : Prop :=
  Sta Z Z.heap "java/lang/Integer$IntegerCache" "high" "I" (.int 127) ∧ Sta Z Z.heap "java/lang/Integer$IntegerCache" "cache" "[Ljava/lang/Integer;" (.ref aC) ∧ Arf Z Z.heap aC kC (.object "java/lang/Integer") 256 (fun i => .ref (g i)) ∧ ∀ i, i < 256 → Exa Z Z.heap (g i) "java/lang/Integer"
theorem s_ich {s : State} {args a0 : Array Value} (w0 : (Cond.initialized "java/lang/Integer$IntegerCache").before args s = true) (w1 : (Cond.laysStatic "java/lang/Integer$IntegerCache" "cache" "[Ljava/lang/Integer;").before args s = true) (w2 : (Cond.initializedFor "java/lang/Integer$IntegerCache" "high" "I").before args s = true) (w3 : (Cond.eq (Term.static "java/lang/Integer$IntegerCache" "high" "I") (Term.int 127)).before args s = true) (w4 : (Cond.arrayOf (Term.static "java/lang/Integer$IntegerCache" "cache" "[Ljava/lang/Integer;") (.object "java/lang/Integer")).before args s = true) (w5 : (Cond.exactly (Term.static "java/lang/Integer$IntegerCache" "cache" "[Ljava/lang/Integer;") "[Ljava/lang/Integer;").before args s = true) (w6 : (Cond.eq (Term.length (Term.static "java/lang/Integer$IntegerCache" "cache" "[Ljava/lang/Integer;")) (Term.int 256)).before args s = true)
    {r : Cond} (w7 : (Cond.all (Term.static "java/lang/Integer$IntegerCache" "cache" "[Ljava/lang/Integer;") (Cond.and (Cond.exactly (Term.elem (Term.static "java/lang/Integer$IntegerCache" "cache" "[Ljava/lang/Integer;") (Term.index 0)) "java/lang/Integer") r)).before args s = true) : ∃ aC kC g, Ich s aC kC g := by
  obtain ⟨a, ev⟩ := exa_v (Cond.before_iff.mp w5)
  obtain ⟨c, A⟩ := Arr.start ev (Cond.before_iff.mp w4)
  have A2 := A.fin (Vm.Alike.refl _)
  have hl := Cond.before_iff.mp w6
  have hsz : c.slots.size = 256 := by
    by_cases hb : c.slots.size < 2 ^ 31
    · have q := gotT (Cond.eq_ints (len_f ev A2 hb) (Term.int_eval 256)) hl
      have := congrArg Int32.toInt q
      rw [len_toInt hb, show (256 : Int32).toInt = 256 from rfl] at this
      omega
    · exfalso
      have : (Term.length (Term.static "java/lang/Integer$IntegerCache" "cache" "[Ljava/lang/Integer;")).eval args s none [] s = none := len_none ev A2 hb
      simp [Cond.value, this] at hl
  have H : ∀ i, i < 256 → ∃ x, c.slots[i]? = some (.ref x) ∧ Exa s s.heap x "java/lang/Integer" := fun i hi => by
    have q := (and_e (Cond.all_elim ev A2 (Cond.before_iff.mp w7) i (by omega))).1
    obtain ⟨x, c', cell, k, e1, e2, e3, e4, e5, rfl, e7⟩ := Cond.exactly_spec (beq_iff_eq.mpr q)
    refine ⟨x, ?_, cell, k, e3, e2, e4, e5, e7⟩
    obtain ⟨-, j, ej⟩ := elem_v e1
    have e8 := (elem_in e1 (show (Term.static "java/lang/Integer$IntegerCache" "cache" "[Ljava/lang/Integer;").eval args s none [i] s = some (.ref a) from ev) ej A.1).2
    have ej' : i.toInt32 = j := by simpa [Term.eval] using ej
    rw [← ej', (idx_of (len_toInt (n := i) (by omega))).2] at e8
    exact e8
  obtain ⟨v, ev'⟩ : ∃ v, (Term.static "java/lang/Integer$IntegerCache" "high" "I").eval args s none [] s = some v := by
    have h3 := Cond.before_iff.mp w3
    cases hf : (Term.static "java/lang/Integer$IntegerCache" "high" "I").eval args s none [] s with
    | none => simp [Cond.value, hf] at h3
    | some v => exact ⟨v, rfl⟩
  have hv : v = .int 127 := by
    have h3 := Cond.before_iff.mp w3
    simp only [Cond.value, ev', Term.int_eval] at h3
    cases v <;> simp at h3
    rw [h3]
  subst hv
  refine ⟨a, c.cls, fun i => if h : i < 256 then (H i h).choose else 0, Sta.start ev' (Or.inl w2), Sta.start ev (Or.inr ⟨w0, w1⟩), ⟨c, A, rfl, hsz, by decide, fun i hi => ?_⟩, fun i hi => ?_⟩
  · simp only [dif_pos hi]; exact ⟨(H i hi).choose_spec.1, rfl⟩
  · simp only [dif_pos hi]; exact (H i hi).choose_spec.2

def own2 (c0 c1 : Int32) (i : Nat) : Int32 := if i = 0 then c0 else c1
theorem own2_rng {c0 c1 : Int32} (h0 : 0 ≤ c0.toInt ∧ c0.toInt ≤ 255) (h1 : 0 ≤ c1.toInt ∧ c1.toInt ≤ 255) (i : Nat) : 0 ≤ (own2 c0 c1 i).toInt ∧ (own2 c0 c1 i).toInt ≤ 255 := by unfold own2; split; exact h0; exact h1
theorem i2c_id {x : Int32} (h : 0 ≤ x.toInt ∧ x.toInt ≤ 255) : x.toUInt32.toUInt16.toUInt32.toInt32 = x := of_toInt (by have := c_i2c x; omega)
theorem nar_char {r : Int32} (h : 0 ≤ r.toInt ∧ r.toInt ≤ 255) : nar .char r = r := by
  have := c_i2c r; exact of_toInt (by simp only [nar]; omega)
def SM (n m : Nat) (c0 c1 e0 e1 : Int32) : Prop := n = m ∧ ∀ i, i < n → (own2 c0 c1 i).toInt8.toInt32 = (own2 e0 e1 i).toInt8.toInt32
theorem SM.symm {n m : Nat} {c0 c1 e0 e1 : Int32} (h : SM n m c0 c1 e0 e1) : SM m n e0 e1 c0 c1 := ⟨h.1.symm, fun i hi => (h.2 i (by rw [h.1]; exact hi)).symm⟩
theorem same_iff {n m : Nat} {c0 c1 e0 e1 : Int32} (hn : n ≤ 2) (h0 : 0 ≤ c0.toInt ∧ c0.toInt ≤ 255) (h1 : 0 ≤ c1.toInt ∧ c1.toInt ≤ 255) (g0 : 0 ≤ e0.toInt ∧ e0.toInt ≤ 255) (g1 : 0 ≤ e1.toInt ∧ e1.toInt ≤ 255) : SM n m c0 c1 e0 e1 ↔ n = m ∧ (n < 1 ∨ c0 = e0) ∧ (n < 2 ∨ c1 = e1) := by
  constructor
  · rintro ⟨rfl, h⟩
    refine ⟨rfl, ?_, ?_⟩
    · rcases Nat.lt_or_ge n 1 with q | q
      · exact Or.inl q
      · exact Or.inr (byte_inj h0.1 h0.2 g0.1 g0.2 (h 0 (by omega)))
    · rcases Nat.lt_or_ge n 2 with q | q
      · exact Or.inl q
      · exact Or.inr (byte_inj h1.1 h1.2 g1.1 g1.2 (h 1 (by omega)))
  · rintro ⟨rfl, a, b⟩
    refine ⟨rfl, fun i hi => ?_⟩
    rcases (by omega : i = 0 ∨ i = 1) with rfl | rfl
    · rw [show own2 c0 c1 0 = own2 e0 e1 0 from a.elim (fun q => by omega) id]
    · rw [show own2 c0 c1 1 = own2 e0 e1 1 from b.elim (fun q => by omega) id]
theorem eq_sm {P : Prop} {r s : Int32} (hr : r = 0 ∨ r = 1) (hi : r = 1 ↔ P) (hs : (s = 1 ∧ P) ∨ (s = 0 ∧ ¬ P)) : r = s := by
  rcases hs with ⟨rfl, p⟩ | ⟨rfl, p⟩
  · exact hi.mpr p
  · exact hr.resolve_right fun q => p (hi.mp q)

theorem noInst2 {Z : State} {a0 : Array Value} {CC MM KK : String} {n : Nat} (w : (Cond.superclass CC MM).before a0 Z = true) (w2 : (Cond.superclass MM "java/lang/Object").before a0 Z = true) (wo : (Cond.noSuperclass "java/lang/Object").before a0 Z = true) (wi : (Cond.instantiable KK n).before a0 Z = true) (h1 : CC ≠ KK) (h3 : MM ≠ KK) (h2 : "java/lang/Object" ≠ KK) : ∃ c t, Z.vm.findClass CC = some c ∧ Z.vm.findClass KK = some t ∧ Z.vm.assignable c t = false := by
  obtain ⟨t, kt, g0, g1, g2, gr⟩ := Cond.instantiable_spec wi
  have gi : kt.isInterface = false := by have := gr.1; simp at this; exact this.1
  obtain ⟨o, ko, o1, o2, o3, -⟩ := Cond.noSuperclass_spec wo
  obtain ⟨c, h0⟩ := found_sup w
  obtain ⟨p, k, kp, q1, q2, q3, q4, q5, -, q7⟩ := Cond.superclass_spec h0 w
  obtain ⟨p', k', kp', s1, s2, s3, s4, s5, -, s7⟩ := Cond.superclass_spec q1 w2
  cases o1.symm.trans s1
  have ne1 := ids_ne h0 g0 h1
  have ne2 := ids_ne o1 g0 h2
  have ne3 := ids_ne q1 g0 h3
  have n3 : ∀ fuel, Z.vm.isSubclassAux fuel c t = false := fun fuel => by
    cases fuel with
    | zero => rfl
    | succ f =>
      have n2 : Z.vm.isSubclassAux f p t = false := by
        cases f with
        | zero => rfl
        | succ f =>
          have n1 : Z.vm.isSubclassAux f o t = false := by
            cases f with
            | zero => rfl
            | succ f => simp [Vm.isSubclassAux, ne2, o2, o3]
          simp [Vm.isSubclassAux, ne3, s2, s4, n1]
      simp [Vm.isSubclassAux, ne1, q2, q4, n2]
  refine ⟨c, t, h0, g0, ?_⟩
  show Z.vm.assignableAux (255 + 1) c t = false
  simp [Vm.assignableAux, ne1, q2, g1, q5, g2, gi, Vm.isSubclass, n3]

theorem pn_20 : plainFor (⟨"java/lang/StringUTF16", "compress", "([CI[BII)I"⟩ : MethodName) = true := plainFor_of_name (by first | (simp [plainName, overriddenIn]; done) | decide +kernel)
set_option maxRecDepth 65536 in
set_option maxHeartbeats 40000000 in
theorem str_cmp1 {Z : State} {a0 : Array Value} (hw : HW a0 Z) (a b : Addr) (ka kb : ClassId) (n : Nat) (z : Int32) (c : Nat → Int32) (g : Nat → Value) (h0 : Heap) (n0 : Nat) (sf0 : List Addr) (hz : z.toInt = n) (A : Arf Z h0 a ka .char n (fun i => .int (c i))) (B : Arf Z h0 b kb .byte n g) (ne_a_b : a ≠ b) (gm_b : n0 ≤ b ∧ b ∈ sf0) (hc : ∀ i, i < n → 0 ≤ (c i).toInt ∧ (c i).toInt ≤ 255) :
    MetW Z consts_1 sf0 (⟨"java/lang/StringUTF16", "compress", "([CI[BII)I"⟩ : MethodName) jdk_52_method_21_code 7 (some .int) [] ({ frames := 0, cells := 0, slots := 0, locals := 0 } : Room) #[(.ref a), (.int (0 : Int32)), (.ref b), (.int (0 : Int32)), (.int z)] h0 n0 (fun v h sf => v = some (.int z) ∧ Keep h0 h [b] ∧ Arf Z h b kb .byte n (fun i => .int (c i).toInt8.toInt32)) := by
  refine k_body (hEW hw) (f := (fun m => mkF m 0 #[.val (.ref a), .val (.int (0 : Int32)), .val (.ref b), .val (.int (0 : Int32)), .val (.int z), .unset, .unset] [])) pn_20 (fun m => by first | (simp [entryFrame, mkF, argsToLocals, Value.category, maxLocals]; done) | rfl) ?_
  intro Γ T G X
  have ge_b := gm_b.1
  show Go Γ n0 _ T (mkF Γ.m 0 #[.val (.ref a), .val (.int (0 : Int32)), .val (.ref b), .val (.int (0 : Int32)), .val (.int z), .unset, .unset] [])
  refine k_iconst G X d20_0 (pc' := 1) rfl (z := (0 : Int32)) (by decide) ?_
  refine k_istore G X d20_1 (pc' := 3) rfl (l' := #[.val (.ref a), .val (.int (0 : Int32)), .val (.ref b), .val (.int (0 : Int32)), .val (.int z), .val (.int (0 : Int32)), .unset]) rfl ?_
  have LOOP : ∀ (k : Nat) (T : State) (h1 : Heap) (i : Int32) (s6 : Slot), ((s6 = .unset ∨ ∃ w, s6 = .val w ∧ w.category = 1)) → (Arf Z h1 a ka .char n (fun i => .int (c i))) → (Arf Z h1 b kb .byte n (fun x => if x < i.toInt.toNat then .int (c x).toInt8.toInt32 else g x)) → (Keep h0 h1 [b]) → (0 ≤ i.toInt) → (i.toInt ≤ n) → n - i.toInt.toNat = k → W Γ n0 T h1 0 0 (sf0) → Go Γ n0 (fun v h sf => v = some (.int z) ∧ Keep h0 h [b] ∧ Arf Z h b kb .byte n (fun i => .int (c i).toInt8.toInt32)) T (mkF Γ.m 3 #[.val (.ref a), .val (.int i), .val (.ref b), .val (.int i), .val (.int z), .val (.int i), s6] []) := by
    intro k
    induction k using Nat.strongRecOn with
    | _ k ih =>
      intro T h1 i s6 h_s6 A B KP hi0 hin hk X
      refine k_iload G X d20_3 (pc' := 5) rfl rfl ?_
      refine k_iload G X d20_5 (pc' := 7) rfl rfl ?_
      refine k_icmp_ge G X d20_7 (pc' := 44) rfl (by decide) (pc'' := 10) rfl (fun c7 => ?_) (fun c7 => ?_)
      · refine k_iload G X d20_44 (pc' := 46) rfl rfl ?_
        refine k_reti G X d20_46 rfl ?_ (by decide) (by decide)
        refine ⟨rfl, KP, B.congr fun x hx => ?_⟩
        rw [if_pos (by omega)]
      · have hlt : i.toInt < n := by omega
        have hi1 : (i + (1 : Int32)).toInt = i.toInt + 1 := iadd_toInt (by rw [show (1 : Int32).toInt = 1 from rfl]; omega) (by rw [show (1 : Int32).toInt = 1 from rfl]; have := A.size_lt; omega)
        have hci := hc i.toInt.toNat (by omega)
        refine k_aloadN G X d20_10 (pc' := 11) rfl rfl rfl ?_
        refine k_iloadN G X d20_11 (pc' := 12) rfl rfl ?_
        refine k_caload G X (i := i.toInt.toNat) (v := (.int (c i.toInt.toNat))) A (by omega) (by omega) rfl d20_12 (pc' := 13) rfl ?_
        refine k_istoreS G X d20_13 (pc' := 15) rfl rfl h_s6 (l' := #[.val (.ref a), .val (.int i), .val (.ref b), .val (.int i), .val (.int z), .val (.int i), .val (.int (c i.toInt.toNat))]) rfl ?_
        refine k_iload G X d20_15 (pc' := 17) rfl rfl ?_
        refine k_sipush G X d20_17 (pc' := 20) rfl (z := (255 : Int32)) (by decide) ?_
        refine k_icmp_le G X d20_20 (pc' := 26) rfl (by decide) (pc'' := 23) rfl (fun c20 => ?_) (fun c20 => (absurd c20 (by rw [show (255 : Int32).toInt = 255 from rfl]; omega)))
        refine k_aloadN G X d20_26 (pc' := 27) rfl rfl rfl ?_
        refine k_iloadN G X d20_27 (pc' := 28) rfl rfl ?_
        refine k_iload G X d20_28 (pc' := 30) rfl rfl ?_
        refine k_i2b G X d20_30 (pc' := 31) rfl rfl ?_
        refine k_bastore G X (i := i.toInt.toNat) (z := (c i.toInt.toNat).toInt8.toInt32) B (by omega) (by omega) (by simp [nar]) ge_b (List.mem_append_right [] gm_b.2) d20_31 (pc' := 32) rfl (fun T h31 W31 B X => ?_)
        replace A := A.other W31 ne_a_b
        replace KP := KP.wr W31 (Or.inl (List.mem_of_getElem? (i := 0) rfl))
        refine k_iinc G X d20_32 (pc' := 35) rfl rfl (z := (i + (1 : Int32))) rfl (l' := #[.val (.ref a), .val (.int (i + (1 : Int32))), .val (.ref b), .val (.int i), .val (.int z), .val (.int i), .val (.int (c i.toInt.toNat))]) rfl ?_
        refine k_iinc G X d20_35 (pc' := 38) rfl rfl (z := (i + (1 : Int32))) rfl (l' := #[.val (.ref a), .val (.int (i + (1 : Int32))), .val (.ref b), .val (.int (i + (1 : Int32))), .val (.int z), .val (.int i), .val (.int (c i.toInt.toNat))]) rfl ?_
        refine k_iinc G X d20_38 (pc' := 41) rfl rfl (z := (i + (1 : Int32))) rfl (l' := #[.val (.ref a), .val (.int (i + (1 : Int32))), .val (.ref b), .val (.int (i + (1 : Int32))), .val (.int z), .val (.int (i + (1 : Int32))), .val (.int (c i.toInt.toNat))]) rfl ?_
        refine k_goto G X d20_41 (by decide) (pc' := 3) rfl ?_
        exact ih _ (by rw [hi1]; omega) T h31 (i + (1 : Int32)) (.val (.int (c i.toInt.toNat))) (Or.inr ⟨_, rfl, rfl⟩) A (B.congr fun x hx => by rw [hi1]; exact step_set (f := fun x => Value.int (c x).toInt8.toInt32) (g := g) x i.toInt hi0) KP (by omega) (by omega) rfl X
  exact LOOP _ T h0 (0 : Int32) (.unset) (Or.inl rfl) A (B.congr fun i _ => by simp [show (0 : Int32).toInt = 0 from rfl]) (Keep.refl h0 [b]) (by decide) (by rw [z32]; omega) rfl X
theorem pn_19 : plainFor (⟨"java/lang/StringUTF16", "compress", "([CII)[B"⟩ : MethodName) = true := plainFor_of_name (by first | (simp [plainName, overriddenIn]; done) | decide +kernel)
set_option maxRecDepth 65536 in
set_option maxHeartbeats 40000000 in
theorem str_cmp2 {Z : State} {a0 : Array Value} (hw : HW a0 Z) (a : Addr) (ka : ClassId) (n : Nat) (z : Int32) (c : Nat → Int32) (h0 : Heap) (n0 : Nat) (sf0 : List Addr) (hz : z.toInt = n) (hn : n ≤ 2) (A : Arf Z h0 a ka .char n (fun i => .int (c i))) (O : Old Z n0 h0) (hc : ∀ i, i < n → 0 ≤ (c i).toInt ∧ (c i).toInt ≤ 255) :
    MetW Z consts_1 sf0 (⟨"java/lang/StringUTF16", "compress", "([CII)[B"⟩ : MethodName) jdk_52_method_16_code 6 (some (.array .byte)) [] ({ frames := 1, cells := 1, slots := 2, locals := 18 } : Room) #[(.ref a), (.int (0 : Int32)), (.int z)] h0 n0 (fun v h sf => ∃ b kb, v = some (.ref b) ∧ h0.size ≤ b ∧ Keep h0 h [] ∧ Arf Z h b kb .byte n (fun i => .int (c i).toInt8.toInt32)) := by
  refine k_body (hEW hw) (f := (fun m => mkF m 0 #[.val (.ref a), .val (.int (0 : Int32)), .val (.int z), .unset, .unset, .unset] [])) pn_19 (fun m => by first | (simp [entryFrame, mkF, argsToLocals, Value.category, maxLocals]; done) | rfl) ?_
  intro Γ T G X
  have KP := Keep.refl h0 []
  show Go Γ n0 _ T (mkF Γ.m 0 #[.val (.ref a), .val (.int (0 : Int32)), .val (.int z), .unset, .unset, .unset] [])
  refine k_iloadN G X d19_0 (pc' := 1) rfl rfl ?_
  refine k_newP G X (aty := .byte) (n := n) (cap := 2) (w19 hw) d19_1 (pc' := 3) rfl hz hn (by decide) (by decide) (by decide) (fun T h1 b1 k1 s_b1 E1 A_b1 X => ?_)
  have ne_a_b1 : a ≠ b1 := Nat.ne_of_lt (Nat.lt_of_lt_of_eq A.lt s_b1)
  have ge_b1 : n0 ≤ b1 := Nat.le_trans (Jvm.OwnK.Old_le O) (Nat.le_of_eq s_b1)
  have sz_b1 : h0.size ≤ b1 := Nat.le_trans KP.1 (Nat.le_of_eq s_b1)
  replace A := A.ext E1
  replace O := O.ext E1
  replace KP := KP.ext E1
  replace A_b1 : Arf Z h1 b1 k1 .byte n (fun _ => (.int (0 : Int32))) := A_b1
  refine k_astoreN G X d19_3 (pc' := 4) rfl rfl (l' := #[.val (.ref a), .val (.int (0 : Int32)), .val (.int z), .val (.ref b1), .unset, .unset]) rfl ?_
  refine k_aloadN G X d19_4 (pc' := 5) rfl rfl rfl ?_
  refine k_iloadN G X d19_5 (pc' := 6) rfl rfl ?_
  refine k_aloadN G X d19_6 (pc' := 7) rfl rfl rfl ?_
  refine k_iconst G X d19_7 (pc' := 8) rfl (z := (0 : Int32)) (by decide) ?_
  refine k_iloadN G X d19_8 (pc' := 9) rfl rfl ?_
  refine k_callS G X (argsL := [(.ref a), (.int (0 : Int32)), (.ref b1), (.int (0 : Int32)), (.int z)]) (rest := []) rfl (w132 hw) (w133 hw) (w130 hw) (w134 hw) (by decide) (str_cmp1 hw a b1 ka k1 n z c _ h1 n0 _ hz A A_b1 ne_a_b1 ⟨ge_b1, (List.mem_of_getElem? (i := 0) rfl)⟩ hc) d19_9 pd0 rfl (pc' := 12) rfl rfl (wd := 0) rfl (by decide) (by decide) (by decide) (by decide) (fun T h9 v sf9 X q => ?_)
  replace X := W.drop X
  obtain ⟨rfl, K9, A_b1⟩ := q
  replace A := A.keep K9 (by simp only [List.mem_cons, List.not_mem_nil, or_false, not_or]; exact ne_a_b1)
  replace O := O.keep K9 (allS ge_b1 (all0))
  replace KP := KP.trans K9 (allS (Or.inr sz_b1) (all0))
  show Go Γ n0 _ T (mkF Γ.m 12 #[.val (.ref a), .val (.int (0 : Int32)), .val (.int z), .val (.ref b1), .unset, .unset] [(.int z)])
  refine k_istore G X d19_12 (pc' := 14) rfl (l' := #[.val (.ref a), .val (.int (0 : Int32)), .val (.int z), .val (.ref b1), .val (.int z), .unset]) rfl ?_
  refine k_iload G X d19_14 (pc' := 16) rfl rfl ?_
  refine k_iloadN G X d19_16 (pc' := 17) rfl rfl ?_
  refine k_icmp_eq G X d19_17 (pc' := 57) rfl (by decide) (pc'' := 20) rfl (fun c17 => ?_) (fun c17 => (absurd c17 (by simp)))
  refine k_aloadN G X d19_57 (pc' := 58) rfl rfl rfl ?_
  refine k_reta G X d19_58 (t := (.array .byte)) rfl rfl rfl ?_ (by decide) (by decide)
  exact ⟨b1, k1, rfl, sz_b1, KP, A_b1⟩
theorem pn_21 : plainFor (⟨"java/lang/StringUTF16", "coderFromArrayLen", "([BI)B"⟩ : MethodName) = true := plainFor_of_name (by first | (simp [plainName, overriddenIn]; done) | decide +kernel)
set_option maxRecDepth 65536 in
set_option maxHeartbeats 40000000 in
theorem str_cod {Z : State} {a0 : Array Value} (hw : HW a0 Z) (b : Addr) (kb : ClassId) (n : Nat) (z : Int32) (f : Nat → Value) (h0 : Heap) (n0 : Nat) (sf0 : List Addr) (hz : z.toInt = n) (B : Arf Z h0 b kb .byte n f) :
    MetW Z consts_1 sf0 (⟨"java/lang/StringUTF16", "coderFromArrayLen", "([BI)B"⟩ : MethodName) jdk_52_method_15_code 2 (some .byte) [] ({ frames := 0, cells := 0, slots := 0, locals := 0 } : Room) #[(.ref b), (.int z)] h0 n0 (fun v h sf => v = some (.int 0) ∧ h = h0) := by
  refine k_body (hEW hw) (f := (fun m => mkF m 0 #[.val (.ref b), .val (.int z)] [])) pn_21 (fun m => by first | (simp [entryFrame, mkF, argsToLocals, Value.category, maxLocals]; done) | rfl) ?_
  intro Γ T G X
  show Go Γ n0 _ T (mkF Γ.m 0 #[.val (.ref b), .val (.int z)] [])
  refine k_iloadN G X d21_0 (pc' := 1) rfl rfl ?_
  refine k_aloadN G X d21_1 (pc' := 2) rfl rfl rfl ?_
  refine k_alen G X (z := z) B hz d21_2 (pc' := 3) rfl ?_
  refine k_isub G X d21_3 (pc' := 4) rfl rfl ?_
  rw [show z - z = (0 : Int32) from Int32.sub_self z]
  refine k_bipush G X d21_4 (pc' := 6) rfl (z := (31 : Int32)) (by decide) ?_
  refine k_iushr G X d21_6 (pc' := 7) rfl (z := (0 : Int32)) (by decide) ?_
  refine k_i2b G X d21_7 (pc' := 8) rfl (z := (0 : Int32)) (by decide) ?_
  refine k_retb G X d21_8 (t := .byte) rfl (by simp) rfl ?_ (by decide) (by decide)
  exact ⟨rfl, rfl⟩
theorem pn_3 : plainFor (⟨"java/lang/String", "<init>", "([CIILjava/lang/Void;)V"⟩ : MethodName) = true := plainFor_of_name (by first | (simp [plainName, overriddenIn]; done) | decide +kernel)
set_option maxRecDepth 65536 in
set_option maxHeartbeats 40000000 in
theorem str_init4 {Z : State} {a0 : Array Value} (hw : HW a0 Z) (s a : Addr) (ka : ClassId) (n : Nat) (z cs : Int32) (c : Nat → Int32) (h0 : Heap) (n0 : Nat) (sf0 : List Addr) (hz : z.toInt = n) (hn : n ≤ 2) (hn1 : 1 ≤ n) (E : Exa Z h0 s "java/lang/String") (FV : Fld Z h0 s "java/lang/String" "value" "[B" .null) (FC : Fld Z h0 s "java/lang/String" "coder" "B" (.int 0)) (A : Arf Z h0 a ka .char n (fun i => .int (c i))) (ne_s_a : s ≠ a) (gm_s : n0 ≤ s ∧ s ∈ sf0) (O : Old Z n0 h0) (S_CS : Sta Z h0 "java/lang/String" "COMPACT_STRINGS" "Z" (.int cs)) (hcs : cs ≠ 0) (hc : ∀ i, i < n → 0 ≤ (c i).toInt ∧ (c i).toInt ≤ 255) :
    MetW Z consts_1 sf0 (⟨"java/lang/String", "<init>", "([CIILjava/lang/Void;)V"⟩ : MethodName) jdk_42_method_149_code 6 none [] ({ frames := 2, cells := 1, slots := 2, locals := 37 } : Room) #[(.ref s), (.ref a), (.int (0 : Int32)), (.int z), .null] h0 n0 (fun v h sf => v = none ∧ Keep h0 h [s] ∧ ∃ b kb, h0.size ≤ b ∧ Str Z h s b kb n (fun i => (c i).toInt8.toInt32)) := by
  refine k_body (hEW hw) (f := (fun m => mkF m 0 #[.val (.ref s), .val (.ref a), .val (.int (0 : Int32)), .val (.int z), .val .null, .unset] [])) pn_3 (fun m => by first | (simp [entryFrame, mkF, argsToLocals, Value.category, maxLocals]; done) | rfl) ?_
  intro Γ T G X
  have ge_s := gm_s.1
  have KP := Keep.refl h0 [s]
  have E0 := E; have A0 := A
  show Go Γ n0 _ T (mkF Γ.m 0 #[.val (.ref s), .val (.ref a), .val (.int (0 : Int32)), .val (.int z), .val .null, .unset] [])
  refine k_aloadN G X d3_0 (pc' := 1) rfl rfl rfl ?_
  refine k_initO G X (w15 hw) (w16 hw) (w17 hw) d3_1 (pc' := 4) rfl rfl (by decide) (wd := 0) rfl (by decide) (fun T X => ?_)
  refine k_iloadN G X d3_4 (pc' := 5) rfl rfl ?_
  refine k_if_ne G X d3_5 (pc' := 27) rfl (by decide) (pc'' := 8) rfl (fun c5 => ?_) (fun c5 => (absurd c5 (by intro q; rw [q, z32] at hz; omega)))
  refine k_getS G X (host := "") (Or.inl (w121 hw)) Via.refl S_CS d3_27 (pc' := 30) rfl (fun T X => ?_)
  refine k_if_eq G X d3_30 (pc' := 58) rfl (by decide) (pc'' := 33) rfl (fun c30 => (absurd c30 hcs)) (fun c30 => ?_)
  refine k_aloadN G X d3_33 (pc' := 34) rfl rfl rfl ?_
  refine k_iloadN G X d3_34 (pc' := 35) rfl rfl ?_
  refine k_iloadN G X d3_35 (pc' := 36) rfl rfl ?_
  refine k_callS G X (argsL := [(.ref a), (.int (0 : Int32)), (.int z)]) (rest := []) rfl (w128 hw) (w129 hw) (w130 hw) (w131 hw) (by decide) (str_cmp2 hw a ka n z c h0 n0 _ hz hn A O hc) d3_36 pd1 rfl (pc' := 39) rfl rfl (wd := 0) rfl (by decide) (by decide) (by decide) (by decide) (fun T h36 v sf36 X q => ?_)
  replace X := W.drop X
  obtain ⟨b, kb, rfl, sz_b, K36, B⟩ := q
  replace S_CS := Jvm.OwnK.Sta_keep S_CS K36
  replace E := E.keep K36
  replace FV := FV.keep K36 nin0
  replace FC := FC.keep K36 nin0
  replace A := A.keep K36 nin0
  replace O := O.keep K36 (all0)
  replace KP := KP.trans K36 (all0)
  show Go Γ n0 _ T (mkF Γ.m 39 #[.val (.ref s), .val (.ref a), .val (.int (0 : Int32)), .val (.int z), .val .null, .unset] [(.ref b)])
  refine k_astore G X d3_39 (pc' := 41) rfl rfl (l' := #[.val (.ref s), .val (.ref a), .val (.int (0 : Int32)), .val (.int z), .val .null, .val (.ref b)]) rfl ?_
  have ne_s_b : s ≠ b := Nat.ne_of_lt (Nat.lt_of_lt_of_le E0.lt sz_b)
  have ne_a_b : a ≠ b := Nat.ne_of_lt (Nat.lt_of_lt_of_le A0.lt sz_b)
  refine k_aloadN G X d3_41 (pc' := 42) rfl rfl rfl ?_
  refine k_aload G X d3_42 (pc' := 44) rfl rfl rfl ?_
  refine k_iloadN G X d3_44 (pc' := 45) rfl rfl ?_
  refine k_callS G X (argsL := [(.ref b), (.int z)]) (rest := [(.ref s)]) rfl (w135 hw) (w136 hw) (w130 hw) (w137 hw) (by decide) (str_cod hw b kb n z _ h36 n0 _ hz B) d3_45 pd2 rfl (pc' := 48) rfl rfl (wd := 1) rfl (by decide) (by decide) (by decide) (by decide) (fun T h45 v sf45 X q => ?_)
  replace X := W.drop X
  obtain ⟨rfl, e45⟩ := q
  replace X := X.eq e45
  show Go Γ n0 _ T (mkF Γ.m 48 #[.val (.ref s), .val (.ref a), .val (.int (0 : Int32)), .val (.int z), .val .null, .val (.ref b)] [(.int (0 : Int32)), (.ref s)])
  refine k_putFN G X (w25 hw) Via.refl FC E (Or.inr ⟨(w21 hw), rfl, rfl⟩) (w5 hw) (ty := .byte) (v' := (.int (0 : Int32))) (by decide) rfl rfl ge_s (List.mem_append_right [] gm_s.2) d3_48 (pc' := 51) rfl (fun T h48 W48 X => ?_)
  replace E := E.wr W48
  replace FV := FV.other W48 (Or.inr (slot_ne (Or.inr (w20 hw)) (Or.inr (w21 hw)) (by decide) (t := (.array .byte)) (t' := .byte) (by decide) (by decide)))
  replace FC := FC.same W48
  replace A := A.other W48 (Ne.symm ne_s_a)
  replace O := O.wr W48 ge_s
  replace KP := KP.wr W48 (Or.inl (List.mem_of_getElem? (i := 0) rfl))
  replace S_CS := S_CS.wr W48
  replace B := B.other W48 (Ne.symm ne_s_b)
  refine k_aloadN G X d3_51 (pc' := 52) rfl rfl rfl ?_
  refine k_aload G X d3_52 (pc' := 54) rfl rfl rfl ?_
  refine k_putF G X (host := "") (Or.inl (w24 hw)) Via.refl FV E (Or.inr ⟨(w20 hw), rfl, rfl⟩) (w5 hw) (ty := (.array .byte)) (by decide) rfl rfl ge_s (List.mem_append_right [] gm_s.2) d3_54 (pc' := 57) rfl (fun T h54 W54 X => ?_)
  replace E := E.wr W54
  replace FV := FV.same W54
  replace FC := FC.other W54 (Or.inr (slot_ne (Or.inr (w21 hw)) (Or.inr (w20 hw)) (by decide) (t := .byte) (t' := (.array .byte)) (by decide) (by decide)))
  replace A := A.other W54 (Ne.symm ne_s_a)
  replace O := O.wr W54 ge_s
  replace KP := KP.wr W54 (Or.inl (List.mem_of_getElem? (i := 0) rfl))
  replace S_CS := S_CS.wr W54
  replace B := B.other W54 (Ne.symm ne_s_b)
  refine k_retv G X d3_57 rfl ?_ (by decide) (by decide)
  exact ⟨rfl, KP, b, kb, sz_b, E, FC, FV, B⟩
theorem pn_2 : plainFor (⟨"java/lang/String", "<init>", "([C)V"⟩ : MethodName) = true := plainFor_of_name (by first | (simp [plainName, overriddenIn]; done) | decide +kernel)
set_option maxRecDepth 65536 in
set_option maxHeartbeats 40000000 in
theorem str_init {Z : State} {a0 : Array Value} (hw : HW a0 Z) (s a : Addr) (ka : ClassId) (n : Nat) (z cs : Int32) (c : Nat → Int32) (h0 : Heap) (n0 : Nat) (sf0 : List Addr) (hz : z.toInt = n) (hn : n ≤ 2) (hn1 : 1 ≤ n) (E : Exa Z h0 s "java/lang/String") (FV : Fld Z h0 s "java/lang/String" "value" "[B" .null) (FC : Fld Z h0 s "java/lang/String" "coder" "B" (.int 0)) (A : Arf Z h0 a ka .char n (fun i => .int (c i))) (ne_s_a : s ≠ a) (gm_s : n0 ≤ s ∧ s ∈ sf0) (O : Old Z n0 h0) (S_CS : Sta Z h0 "java/lang/String" "COMPACT_STRINGS" "Z" (.int cs)) (hcs : cs ≠ 0) (hc : ∀ i, i < n → 0 ≤ (c i).toInt ∧ (c i).toInt ≤ 255) :
    MetW Z consts_1 sf0 (⟨"java/lang/String", "<init>", "([C)V"⟩ : MethodName) jdk_42_method_3_code 2 none [] ({ frames := 3, cells := 1, slots := 2, locals := 54 } : Room) #[(.ref s), (.ref a)] h0 n0 (fun v h sf => v = none ∧ Keep h0 h [s] ∧ ∃ b kb, h0.size ≤ b ∧ Str Z h s b kb n (fun i => (c i).toInt8.toInt32)) := by
  refine k_body (hEW hw) (f := (fun m => mkF m 0 #[.val (.ref s), .val (.ref a)] [])) pn_2 (fun m => by first | (simp [entryFrame, mkF, argsToLocals, Value.category, maxLocals]; done) | rfl) ?_
  intro Γ T G X
  have ge_s := gm_s.1
  have KP := Keep.refl h0 [s]
  show Go Γ n0 _ T (mkF Γ.m 0 #[.val (.ref s), .val (.ref a)] [])
  refine k_aloadN G X d2_0 (pc' := 1) rfl rfl rfl ?_
  refine k_aloadN G X d2_1 (pc' := 2) rfl rfl rfl ?_
  refine k_iconst G X d2_2 (pc' := 3) rfl (z := (0 : Int32)) (by decide) ?_
  refine k_aloadN G X d2_3 (pc' := 4) rfl rfl rfl ?_
  refine k_alen G X (z := z) A hz d2_4 (pc' := 5) rfl ?_
  refine k_anull G X d2_5 (pc' := 6) rfl ?_
  refine k_callI G X (argsL := [(.ref a), (.int (0 : Int32)), (.int z), .null]) (rest := []) rfl rfl (w11 hw) (w12 hw) (w6 hw) (w14 hw) (by decide) (str_init4 hw s a ka n z cs c h0 n0 _ hz hn hn1 E FV FC A ne_s_a ⟨ge_s, (List.mem_append_right [] gm_s.2)⟩ O S_CS hcs hc) d2_6 pd3 rfl (pc' := 9) rfl rfl (wd := 0) rfl (by decide) (by decide) (by decide) (by decide) (fun T h6 v sf6 X q => ?_)
  replace X := W.drop X
  obtain ⟨rfl, q⟩ := q
  show Go Γ n0 _ T (mkF Γ.m 9 #[.val (.ref s), .val (.ref a)] [])
  refine k_retv G X d2_9 rfl ?_ (by decide) (by decide)
  exact ⟨rfl, q⟩
theorem pn_18 : plainFor (⟨"java/lang/StringLatin1", "equals", "([B[B)Z"⟩ : MethodName) = true := plainFor_of_name (by first | (simp [plainName, overriddenIn]; done) | decide +kernel)
set_option maxRecDepth 65536 in
set_option maxHeartbeats 40000000 in
theorem str_leq {Z : State} {a0 : Array Value} (hw : HW a0 Z) (a b : Addr) (ka kb : ClassId) (n m : Nat) (f g : Nat → Int32) (h0 : Heap) (n0 : Nat) (sf0 : List Addr) (A : Arf Z h0 a ka .byte n (fun i => .int (f i))) (B : Arf Z h0 b kb .byte m (fun i => .int (g i))) :
    MetW Z consts_1 sf0 (⟨"java/lang/StringLatin1", "equals", "([B[B)Z"⟩ : MethodName) jdk_43_method_13_code 3 (some .boolean) [] ({ frames := 0, cells := 0, slots := 0, locals := 0 } : Room) #[(.ref a), (.ref b)] h0 n0 (fun v h sf => ∃ r : Int32, v = some (.int r) ∧ (r = 0 ∨ r = 1) ∧ (r = 1 ↔ n = m ∧ ∀ i, i < n → f i = g i) ∧ h = h0) := by
  refine k_body (hEW hw) (f := (fun m => mkF m 0 #[.val (.ref a), .val (.ref b), .unset] [])) pn_18 (fun m => by first | (simp [entryFrame, mkF, argsToLocals, Value.category, maxLocals]; done) | rfl) ?_
  intro Γ T G X
  obtain ⟨zn, hn⟩ : ∃ z : Int32, z.toInt = n := ⟨n.toInt32, len_toInt A.size_lt⟩
  obtain ⟨zm, hm⟩ : ∃ z : Int32, z.toInt = m := ⟨m.toInt32, len_toInt B.size_lt⟩
  show Go Γ n0 _ T (mkF Γ.m 0 #[.val (.ref a), .val (.ref b), .unset] [])
  refine k_aloadN G X d18_0 (pc' := 1) rfl rfl rfl ?_
  refine k_alen G X (z := zn) A hn d18_1 (pc' := 2) rfl ?_
  refine k_aloadN G X d18_2 (pc' := 3) rfl rfl rfl ?_
  refine k_alen G X (z := zm) B hm d18_3 (pc' := 4) rfl ?_
  refine k_icmp_ne G X d18_4 (pc' := 34) rfl (by decide) (pc'' := 7) rfl (fun c4 => ?_) (fun c4 => ?_)
  · refine k_iconst G X d18_34 (pc' := 35) rfl (z := (0 : Int32)) (by decide) ?_
    refine k_retb G X d18_35 (t := .boolean) rfl (by simp) rfl ?_ (by decide) (by decide)
    exact ⟨_, rfl, Or.inl rfl, ⟨fun q => absurd q (by decide), fun q => absurd (of_toInt (by rw [hn, hm, q.1])) c4⟩, rfl⟩
  · have hnm : n = m := by have : zn.toInt = zm.toInt := congrArg _ c4; omega
    refine k_iconst G X d18_7 (pc' := 8) rfl (z := (0 : Int32)) (by decide) ?_
    refine k_istoreN G X d18_8 (pc' := 9) rfl (l' := #[.val (.ref a), .val (.ref b), .val (.int (0 : Int32))]) rfl ?_
    have LOOP : ∀ (k : Nat) (T : State) (i : Int32), (0 ≤ i.toInt) → (i.toInt ≤ n) → (∀ x, x < i.toInt.toNat → f x = g x) → n - i.toInt.toNat = k → W Γ n0 T h0 0 0 (sf0) → Go Γ n0 (fun v h sf => ∃ r : Int32, v = some (.int r) ∧ (r = 0 ∨ r = 1) ∧ (r = 1 ↔ n = m ∧ ∀ i, i < n → f i = g i) ∧ h = h0) T (mkF Γ.m 9 #[.val (.ref a), .val (.ref b), .val (.int i)] []) := by
      intro k
      induction k using Nat.strongRecOn with
      | _ k ih =>
        intro T i hi0 hin hall hk X
        refine k_iloadN G X d18_9 (pc' := 10) rfl rfl ?_
        refine k_aloadN G X d18_10 (pc' := 11) rfl rfl rfl ?_
        refine k_alen G X (z := zn) A hn d18_11 (pc' := 12) rfl ?_
        refine k_icmp_ge G X d18_12 (pc' := 32) rfl (by decide) (pc'' := 15) rfl (fun c12 => ?_) (fun c12 => ?_)
        · refine k_iconst G X d18_32 (pc' := 33) rfl (z := (1 : Int32)) (by decide) ?_
          refine k_retb G X d18_33 (t := .boolean) rfl (by simp) rfl ?_ (by decide) (by decide)
          exact ⟨_, rfl, Or.inr rfl, ⟨fun _ => ⟨hnm, fun x hx => hall x (by omega)⟩, fun _ => rfl⟩, rfl⟩
        · have hlt : i.toInt < n := by omega
          have hi1 : (i + (1 : Int32)).toInt = i.toInt + 1 := iadd_toInt (by rw [show (1 : Int32).toInt = 1 from rfl]; omega) (by rw [show (1 : Int32).toInt = 1 from rfl]; have := A.size_lt; omega)
          refine k_aloadN G X d18_15 (pc' := 16) rfl rfl rfl ?_
          refine k_iloadN G X d18_16 (pc' := 17) rfl rfl ?_
          refine k_baload G X (i := i.toInt.toNat) (v := (.int (f i.toInt.toNat))) A (by omega) (by omega) rfl d18_17 (pc' := 18) rfl ?_
          refine k_aloadN G X d18_18 (pc' := 19) rfl rfl rfl ?_
          refine k_iloadN G X d18_19 (pc' := 20) rfl rfl ?_
          refine k_baload G X (i := i.toInt.toNat) (v := (.int (g i.toInt.toNat))) B (by omega) (by omega) rfl d18_20 (pc' := 21) rfl ?_
          refine k_icmp_eq G X d18_21 (pc' := 26) rfl (by decide) (pc'' := 24) rfl (fun c21 => ?_) (fun c21 => ?_)
          · refine k_iinc G X d18_26 (pc' := 29) rfl rfl (z := (i + (1 : Int32))) rfl (l' := #[.val (.ref a), .val (.ref b), .val (.int (i + (1 : Int32)))]) rfl ?_
            refine k_goto G X d18_29 (by decide) (pc' := 9) rfl ?_
            exact ih _ (by rw [hi1]; omega) T (i + (1 : Int32)) (by omega) (by omega) (fun x hx => by rcases Nat.lt_or_ge x i.toInt.toNat with q | q; exact hall x q; rw [show x = i.toInt.toNat by omega]; exact c21) rfl X
          · refine k_iconst G X d18_24 (pc' := 25) rfl (z := (0 : Int32)) (by decide) ?_
            refine k_retb G X d18_25 (t := .boolean) rfl (by simp) rfl ?_ (by decide) (by decide)
            exact ⟨_, rfl, Or.inl rfl, ⟨fun q => absurd q (by decide), fun q => absurd (q.2 i.toInt.toNat (by omega)) c21⟩, rfl⟩
    exact LOOP _ T (0 : Int32) (by decide) (by rw [z32]; omega) (fun x hx => absurd hx (by simp [z32])) rfl X
theorem pn_17 : plainFor (⟨"java/lang/String", "equals", "(Ljava/lang/Object;)Z"⟩ : MethodName) = true := plainFor_of_name (by first | (simp [plainName, overriddenIn]; done) | decide +kernel)
set_option maxRecDepth 65536 in
set_option maxHeartbeats 40000000 in
theorem str_eq {Z : State} {a0 : Array Value} (hw : HW a0 Z) (s t b b' : Addr) (k k' : ClassId) (n m : Nat) (cs : Int32) (f g : Nat → Int32) (h0 : Heap) (n0 : Nat) (sf0 : List Addr) (SS : Str Z h0 s b k n f) (TT : Str Z h0 t b' k' m g) (ne_s_t : s ≠ t) (S_CS : Sta Z h0 "java/lang/String" "COMPACT_STRINGS" "Z" (.int cs)) (hcs : cs ≠ 0) :
    MetW Z consts_1 sf0 (⟨"java/lang/String", "equals", "(Ljava/lang/Object;)Z"⟩ : MethodName) jdk_42_method_66_code 3 (some .boolean) [] ({ frames := 1, cells := 0, slots := 0, locals := 14 } : Room) #[(.ref s), (.ref t)] h0 n0 (fun v h sf => ∃ r : Int32, v = some (.int r) ∧ (r = 0 ∨ r = 1) ∧ (r = 1 ↔ n = m ∧ ∀ i, i < n → f i = g i) ∧ h = h0) := by
  refine k_body (hEW hw) (f := (fun m => mkF m 0 #[.val (.ref s), .val (.ref t), .unset] [])) pn_17 (fun m => by first | (simp [entryFrame, mkF, argsToLocals, Value.category, maxLocals]; done) | rfl) ?_
  intro Γ T G X
  obtain ⟨SE, SC, SV, SA⟩ := id SS
  obtain ⟨TE, TC, TV, TA⟩ := id TT
  show Go Γ n0 _ T (mkF Γ.m 0 #[.val (.ref s), .val (.ref t), .unset] [])
  refine k_aloadN G X d17_0 (pc' := 1) rfl rfl rfl ?_
  refine k_aloadN G X d17_1 (pc' := 2) rfl rfl rfl ?_
  refine k_acmp_ne G X d17_2 (pc' := 7) rfl (by decide) (pc'' := 5) rfl rfl rfl (fun c2 => ?_) (fun c2 => (absurd c2 (by simpa using ne_s_t)))
  refine k_aloadN G X d17_7 (pc' := 8) rfl rfl rfl ?_
  refine k_instY G X (w120 hw) (Ins.self TE) d17_8 (pc' := 11) rfl (fun T X => ?_)
  refine k_if_eq G X d17_11 (pc' := 54) rfl (by decide) (pc'' := 14) rfl (fun c11 => (absurd c11 (by decide))) (fun c11 => ?_)
  refine k_aloadN G X d17_14 (pc' := 15) rfl rfl rfl ?_
  refine k_castY G X (w120 hw) (Ins.self TE) d17_15 (pc' := 18) rfl (fun T X => ?_)
  refine k_astoreN G X d17_18 (pc' := 19) rfl rfl (l' := #[.val (.ref s), .val (.ref t), .val (.ref t)]) rfl ?_
  refine k_getS G X (host := "") (Or.inl (w121 hw)) Via.refl S_CS d17_19 (pc' := 22) rfl (fun T X => ?_)
  refine k_if_eq G X d17_22 (pc' := 36) rfl (by decide) (pc'' := 25) rfl (fun c22 => (absurd c22 hcs)) (fun c22 => ?_)
  refine k_aloadN G X d17_25 (pc' := 26) rfl rfl rfl ?_
  refine k_getF G X (host := "") (Or.inl (w25 hw)) Via.refl SC d17_26 (pc' := 29) rfl (fun T X => ?_)
  refine k_aloadN G X d17_29 (pc' := 30) rfl rfl rfl ?_
  refine k_getF G X (host := "") (Or.inl (w25 hw)) Via.refl TC d17_30 (pc' := 33) rfl (fun T X => ?_)
  refine k_icmp_ne G X d17_33 (pc' := 54) rfl (by decide) (pc'' := 36) rfl (fun c33 => (absurd c33 (by decide))) (fun c33 => ?_)
  refine k_aloadN G X d17_36 (pc' := 37) rfl rfl rfl ?_
  refine k_getF G X (host := "") (Or.inl (w24 hw)) Via.refl SV d17_37 (pc' := 40) rfl (fun T X => ?_)
  refine k_aloadN G X d17_40 (pc' := 41) rfl rfl rfl ?_
  refine k_getF G X (host := "") (Or.inl (w24 hw)) Via.refl TV d17_41 (pc' := 44) rfl (fun T X => ?_)
  refine k_callS G X (argsL := [(.ref b), (.ref b')]) (rest := []) rfl (w122 hw) (w123 hw) (w124 hw) (w125 hw) (by decide) (str_leq hw b b' k k' n m f g h0 n0 _ SS.2.2.2 TT.2.2.2) d17_44 pd4 rfl (pc' := 47) rfl rfl (wd := 0) rfl (by decide) (by decide) (by decide) (by decide) (fun T h44 v sf44 X q => ?_)
  replace X := W.drop X
  obtain ⟨r, rfl, hr, hiff, e44⟩ := q
  replace X := X.eq e44
  show Go Γ n0 _ T (mkF Γ.m 47 #[.val (.ref s), .val (.ref t), .val (.ref t)] [(.int r)])
  refine k_if_eq G X d17_47 (pc' := 54) rfl (by decide) (pc'' := 50) rfl (fun c47 => ?_) (fun c47 => ?_)
  · refine k_iconst G X d17_54 (pc' := 55) rfl (z := (0 : Int32)) (by decide) ?_
    refine k_retb G X d17_55 (t := .boolean) rfl (by simp) rfl ?_ (by decide) (by decide)
    exact ⟨_, rfl, Or.inl rfl, by rw [← hiff]; rcases hr with rfl | rfl <;> simp_all, rfl⟩
  · refine k_iconst G X d17_50 (pc' := 51) rfl (z := (1 : Int32)) (by decide) ?_
    refine k_goto G X d17_51 (by decide) (pc' := 55) rfl ?_
    refine k_retb G X d17_55 (t := .boolean) rfl (by simp) rfl ?_ (by decide) (by decide)
    exact ⟨_, rfl, Or.inr rfl, by rw [← hiff]; rcases hr with rfl | rfl <;> simp_all, rfl⟩
set_option maxRecDepth 65536 in
set_option maxHeartbeats 40000000 in
theorem str_eqs {Z : State} {a0 : Array Value} (hw : HW a0 Z) (s : Addr) (h0 : Heap) (n0 : Nat) (sf0 : List Addr) :
    MetW Z consts_1 sf0 (⟨"java/lang/String", "equals", "(Ljava/lang/Object;)Z"⟩ : MethodName) jdk_42_method_66_code 3 (some .boolean) [] ({ frames := 0, cells := 0, slots := 0, locals := 0 } : Room) #[(.ref s), (.ref s)] h0 n0 (fun v h sf => v = some (.int 1) ∧ h = h0) := by
  refine k_body (hEW hw) (f := (fun m => mkF m 0 #[.val (.ref s), .val (.ref s), .unset] [])) pn_17 (fun m => by first | (simp [entryFrame, mkF, argsToLocals, Value.category, maxLocals]; done) | rfl) ?_
  intro Γ T G X
  show Go Γ n0 _ T (mkF Γ.m 0 #[.val (.ref s), .val (.ref s), .unset] [])
  refine k_aloadN G X d17_0 (pc' := 1) rfl rfl rfl ?_
  refine k_aloadN G X d17_1 (pc' := 2) rfl rfl rfl ?_
  refine k_acmp_ne G X d17_2 (pc' := 7) rfl (by decide) (pc'' := 5) rfl rfl rfl (fun c2 => (absurd c2 (by simp))) (fun c2 => ?_)
  refine k_iconst G X d17_5 (pc' := 6) rfl (z := (1 : Int32)) (by decide) ?_
  refine k_retb G X d17_6 (t := .boolean) rfl (by simp) rfl ?_ (by decide) (by decide)
  exact ⟨rfl, rfl⟩
theorem pn_23 : plainFor (⟨"java/lang/Number", "<init>", "()V"⟩ : MethodName) = true := plainFor_of_name (by first | (simp [plainName, overriddenIn]; done) | decide +kernel)
set_option maxRecDepth 65536 in
set_option maxHeartbeats 40000000 in
theorem num_i {Z : State} {a0 : Array Value} (hw : HW a0 Z) (a : Addr) (h0 : Heap) (n0 : Nat) (sf0 : List Addr) :
    MetW Z consts_1 sf0 (⟨"java/lang/Number", "<init>", "()V"⟩ : MethodName) jdk_18_method_1_code 1 none [] ({ frames := 1, cells := 0, slots := 0, locals := 12 } : Room) #[(.ref a)] h0 n0 (fun v h sf => v = none ∧ h = h0) := by
  refine k_body (hEW hw) (f := (fun m => mkF m 0 #[.val (.ref a)] [])) pn_23 (fun m => by first | (simp [entryFrame, mkF, argsToLocals, Value.category, maxLocals]; done) | rfl) ?_
  intro Γ T G X
  show Go Γ n0 _ T (mkF Γ.m 0 #[.val (.ref a)] [])
  refine k_aloadN G X d23_0 (pc' := 1) rfl rfl rfl ?_
  refine k_initO G X (w150 hw) (w16 hw) (w17 hw) d23_1 (pc' := 4) rfl rfl (by decide) (wd := 0) rfl (by decide) (fun T X => ?_)
  refine k_retv G X d23_4 rfl ?_ (by decide) (by decide)
  exact ⟨rfl, rfl⟩
theorem pn_22 : plainFor (⟨"java/lang/Integer", "<init>", "(I)V"⟩ : MethodName) = true := plainFor_of_name (by first | (simp [plainName, overriddenIn]; done) | decide +kernel)
set_option maxRecDepth 65536 in
set_option maxHeartbeats 40000000 in
theorem int_i {Z : State} {a0 : Array Value} (hw : HW a0 Z) (a : Addr) (x : Int32) (h0 : Heap) (n0 : Nat) (sf0 : List Addr) (gm_a : n0 ≤ a ∧ a ∈ sf0) (E : Exa Z h0 a "java/lang/Integer") (FV : Fld Z h0 a "java/lang/Integer" "value" "I" (.int (0 : Int32))) :
    MetW Z consts_1 sf0 (⟨"java/lang/Integer", "<init>", "(I)V"⟩ : MethodName) jdk_33_method_23_code 2 none [] ({ frames := 2, cells := 0, slots := 0, locals := 24 } : Room) #[(.ref a), (.int x)] h0 n0 (fun v h sf => v = none ∧ Keep h0 h [a] ∧ Exa Z h a "java/lang/Integer") := by
  refine k_body (hEW hw) (f := (fun m => mkF m 0 #[.val (.ref a), .val (.int x)] [])) pn_22 (fun m => by first | (simp [entryFrame, mkF, argsToLocals, Value.category, maxLocals]; done) | rfl) ?_
  intro Γ T G X
  have ge_a := gm_a.1
  have KP := Keep.refl h0 [a]
  show Go Γ n0 _ T (mkF Γ.m 0 #[.val (.ref a), .val (.int x)] [])
  refine k_aloadN G X d22_0 (pc' := 1) rfl rfl rfl ?_
  refine k_callI G X (argsL := []) (rest := []) rfl rfl (w144 hw) (w145 hw) (w148 hw) (w149 hw) (by decide) (num_i hw a h0 n0 _) d22_1 pd5 rfl (pc' := 4) rfl rfl (wd := 0) rfl (by decide) (by decide) (by decide) (by decide) (fun T h1 v sf1 X q => ?_)
  replace X := W.drop X
  obtain ⟨rfl, e1⟩ := q
  replace X := X.eq e1
  show Go Γ n0 _ T (mkF Γ.m 4 #[.val (.ref a), .val (.int x)] [])
  refine k_aloadN G X d22_4 (pc' := 5) rfl rfl rfl ?_
  refine k_iloadN G X d22_5 (pc' := 6) rfl rfl ?_
  refine k_putF G X (host := "") (Or.inl (w151 hw)) Via.refl FV E (Or.inr ⟨(w152 hw), rfl, rfl⟩) (w139 hw) (ty := .int) (by decide) rfl rfl ge_a (List.mem_append_right [] gm_a.2) d22_6 (pc' := 9) rfl (fun T h6 W6 X => ?_)
  replace E := E.wr W6
  replace FV := FV.same W6
  replace KP := KP.wr W6 (Or.inl (List.mem_of_getElem? (i := 0) rfl))
  refine k_retv G X d22_9 rfl ?_ (by decide) (by decide)
  exact ⟨rfl, KP, E⟩
theorem pn_8 : plainFor (⟨"java/lang/Integer", "valueOf", "(I)Ljava/lang/Integer;"⟩ : MethodName) = true := plainFor_of_name (by first | (simp [plainName, overriddenIn]; done) | decide +kernel)
set_option maxRecDepth 65536 in
set_option maxHeartbeats 40000000 in
theorem int_v {Z : State} {a0 : Array Value} (hw : HW a0 Z) (x : Int32) (aC : Addr) (kC : ClassId) (gC : Nat → Addr) (h0 : Heap) (n0 : Nat) (sf0 : List Addr) (O : Old Z n0 h0) (IH : Ich Z aC kC gC) :
    MetW Z consts_1 sf0 (⟨"java/lang/Integer", "valueOf", "(I)Ljava/lang/Integer;"⟩ : MethodName) jdk_33_method_22_code 1 (some (.object "java/lang/Integer")) [] ({ frames := 3, cells := 1, slots := 1, locals := 38 } : Room) #[(.int x)] h0 n0 (fun v h sf => ∃ a, v = some (.ref a) ∧ Keep h0 h [] ∧ Exa Z h a "java/lang/Integer" ∧ (h0.size ≤ a ∨ a < n0)) := by
  refine k_body (hEW hw) (f := (fun m => mkF m 0 #[.val (.int x)] [])) pn_8 (fun m => by first | (simp [entryFrame, mkF, argsToLocals, Value.category, maxLocals]; done) | rfl) ?_
  intro Γ T G X
  have KP := Keep.refl h0 []
  have S_H := IH.1.ext O.2
  have S_C := IH.2.1.ext O.2
  have AC := IH.2.2.1.ext O.2
  have e1 : (-128 : Int32).toInt = -128 := rfl
  have e2 : (127 : Int32).toInt = 127 := rfl
  have e3 : (128 : Int32).toInt = 128 := rfl
  show Go Γ n0 _ T (mkF Γ.m 0 #[.val (.int x)] [])
  refine k_iloadN G X d8_0 (pc' := 1) rfl rfl ?_
  refine k_bipush G X d8_1 (pc' := 3) rfl (z := (-128 : Int32)) (by decide) ?_
  refine k_icmp_lt G X d8_3 (pc' := 23) rfl (by decide) (pc'' := 6) rfl (fun c3 => ?_) (fun c3 => ?_)
  · refine k_new G X (w138 hw) (w139 hw) (w52 hw) d8_23 (pc' := 26) rfl (by decide) (by decide) (fun T h23 b23 s_b23 E23 X_b23 D23 X => ?_)
    have ne_aC_b23 : aC ≠ b23 := Nat.ne_of_lt (Nat.lt_of_lt_of_eq AC.lt s_b23)
    have ge_b23 : n0 ≤ b23 := Nat.le_trans (Jvm.OwnK.Old_le O) (Nat.le_of_eq s_b23)
    have sz_b23 : h0.size ≤ b23 := Nat.le_trans KP.1 (Nat.le_of_eq s_b23)
    replace O := O.ext E23
    replace KP := KP.ext E23
    replace S_H := S_H.ext E23
    replace S_C := S_C.ext E23
    replace AC := AC.ext E23
    have F_b23_value : Fld Z h23 b23 "java/lang/Integer" "value" "I" (.int (0 : Int32)) := D23 (Or.inr (w152 hw)) (ty := .int) (by decide)
    refine k_dup G X d8_26 (pc' := 27) rfl rfl ?_
    refine k_iloadN G X d8_27 (pc' := 28) rfl rfl ?_
    refine k_callI G X (argsL := [(.int x)]) (rest := [(.ref b23)]) rfl rfl (w140 hw) (w141 hw) (w52 hw) (w143 hw) (by decide) (int_i hw b23 x h23 n0 _ ⟨ge_b23, (List.mem_of_getElem? (i := 0) rfl)⟩ X_b23 F_b23_value) d8_28 pd6 rfl (pc' := 31) rfl rfl (wd := 1) rfl (by decide) (by decide) (by decide) (by decide) (fun T h28 v sf28 X q => ?_)
    replace X := W.drop X
    obtain ⟨rfl, K28, E'⟩ := q
    replace S_H := Sta_keepL S_H K28 (allS (Pln_exa X_b23) (all0))
    replace S_C := Sta_keepL S_C K28 (allS (Pln_exa X_b23) (all0))
    replace O := O.keep K28 (allS ge_b23 (all0))
    replace KP := KP.trans K28 (allS (Or.inr sz_b23) (all0))
    replace AC := AC.keep K28 (by simp only [List.mem_cons, List.not_mem_nil, or_false, not_or]; exact ne_aC_b23)
    replace X_b23 := X_b23.keep K28
    show Go Γ n0 _ T (mkF Γ.m 31 #[.val (.int x)] [(.ref b23)])
    refine k_reta G X d8_31 (t := (.object "java/lang/Integer")) rfl rfl rfl ?_ (by decide) (by decide)
    exact ⟨b23, rfl, KP, X_b23, Or.inl sz_b23⟩
  · refine k_iloadN G X d8_6 (pc' := 7) rfl rfl ?_
    refine k_getS G X (host := "") (Or.inl (w54 hw)) Via.refl S_H d8_7 (pc' := 10) rfl (fun T X => ?_)
    refine k_icmp_gt G X d8_10 (pc' := 23) rfl (by decide) (pc'' := 13) rfl (fun c10 => ?_) (fun c10 => ?_)
    · refine k_new G X (w138 hw) (w139 hw) (w52 hw) d8_23 (pc' := 26) rfl (by decide) (by decide) (fun T h23 b23 s_b23 E23 X_b23 D23 X => ?_)
      have ne_aC_b23 : aC ≠ b23 := Nat.ne_of_lt (Nat.lt_of_lt_of_eq AC.lt s_b23)
      have ge_b23 : n0 ≤ b23 := Nat.le_trans (Jvm.OwnK.Old_le O) (Nat.le_of_eq s_b23)
      have sz_b23 : h0.size ≤ b23 := Nat.le_trans KP.1 (Nat.le_of_eq s_b23)
      replace O := O.ext E23
      replace KP := KP.ext E23
      replace S_H := S_H.ext E23
      replace S_C := S_C.ext E23
      replace AC := AC.ext E23
      have F_b23_value : Fld Z h23 b23 "java/lang/Integer" "value" "I" (.int (0 : Int32)) := D23 (Or.inr (w152 hw)) (ty := .int) (by decide)
      refine k_dup G X d8_26 (pc' := 27) rfl rfl ?_
      refine k_iloadN G X d8_27 (pc' := 28) rfl rfl ?_
      refine k_callI G X (argsL := [(.int x)]) (rest := [(.ref b23)]) rfl rfl (w140 hw) (w141 hw) (w52 hw) (w143 hw) (by decide) (int_i hw b23 x h23 n0 _ ⟨ge_b23, (List.mem_of_getElem? (i := 0) rfl)⟩ X_b23 F_b23_value) d8_28 pd6 rfl (pc' := 31) rfl rfl (wd := 1) rfl (by decide) (by decide) (by decide) (by decide) (fun T h28 v sf28 X q => ?_)
      replace X := W.drop X
      obtain ⟨rfl, K28, E'⟩ := q
      replace S_H := Sta_keepL S_H K28 (allS (Pln_exa X_b23) (all0))
      replace S_C := Sta_keepL S_C K28 (allS (Pln_exa X_b23) (all0))
      replace O := O.keep K28 (allS ge_b23 (all0))
      replace KP := KP.trans K28 (allS (Or.inr sz_b23) (all0))
      replace AC := AC.keep K28 (by simp only [List.mem_cons, List.not_mem_nil, or_false, not_or]; exact ne_aC_b23)
      replace X_b23 := X_b23.keep K28
      show Go Γ n0 _ T (mkF Γ.m 31 #[.val (.int x)] [(.ref b23)])
      refine k_reta G X d8_31 (t := (.object "java/lang/Integer")) rfl rfl rfl ?_ (by decide) (by decide)
      exact ⟨b23, rfl, KP, X_b23, Or.inl sz_b23⟩
    · refine k_getS G X (host := "") (Or.inl (w56 hw)) Via.refl S_C d8_13 (pc' := 16) rfl (fun T X => ?_)
      refine k_iloadN G X d8_16 (pc' := 17) rfl rfl ?_
      refine k_sipush G X d8_17 (pc' := 20) rfl (z := (128 : Int32)) (by decide) ?_
      refine k_iadd G X d8_20 (pc' := 21) rfl rfl ?_
      have hj : (x + (128 : Int32)).toInt = ((x.toInt + 128).toNat : Nat) := by rw [iadd_toInt (by omega) (by omega)]; omega
      refine k_aaload G X (i := (x.toInt + 128).toNat) (v := (.ref (gC (x.toInt + 128).toNat))) AC rfl hj (by omega) rfl d8_21 (pc' := 22) rfl ?_
      refine k_reta G X d8_22 (t := (.object "java/lang/Integer")) rfl rfl rfl ?_ (by decide) (by decide)
      exact ⟨_, rfl, KP, (IH.2.2.2 _ (by omega)).ext O.2, Or.inr (by rw [← O.1]; exact (IH.2.2.2 _ (by omega)).lt)⟩
set_option maxRecDepth 65536 in
set_option maxHeartbeats 40000000 in
theorem str_e4 {Z : State} {a0 : Array Value} (hw : HW a0 Z) (s a : Addr) (ka : ClassId) (h0 : Heap) (n0 : Nat) (sf0 : List Addr) (E : Exa Z h0 s "java/lang/String") (FV : Fld Z h0 s "java/lang/String" "value" "[B" .null) (FC : Fld Z h0 s "java/lang/String" "coder" "B" (.int (0 : Int32))) (gm_s : n0 ≤ s ∧ s ∈ sf0) :
    MetW Z consts_1 sf0 (⟨"java/lang/String", "<init>", "([CIILjava/lang/Void;)V"⟩ : MethodName) jdk_42_method_149_code 6 none [] ({ frames := 1, cells := 4, slots := 8, locals := 12 } : Room) #[(.ref s), (.ref a), (.int (0 : Int32)), (.int (0 : Int32)), .null] h0 n0 (fun v h sf => v = none ∧ Keep h0 h [s] ∧ ∃ b kb, Str Z h s b kb 0 (fun _ => 0)) := by
  refine k_body (hEW hw) (f := (fun m => mkF m 0 #[.val (.ref s), .val (.ref a), .val (.int (0 : Int32)), .val (.int (0 : Int32)), .val .null, .unset] [])) pn_3 (fun m => by first | (simp [entryFrame, mkF, argsToLocals, Value.category, maxLocals]; done) | rfl) ?_
  intro Γ T G X
  have ge_s := gm_s.1
  have KP := Keep.refl h0 [s]
  show Go Γ n0 _ T (mkF Γ.m 0 #[.val (.ref s), .val (.ref a), .val (.int (0 : Int32)), .val (.int (0 : Int32)), .val .null, .unset] [])
  refine k_aloadN G X d3_0 (pc' := 1) rfl rfl rfl ?_
  refine k_initO G X (w15 hw) (w16 hw) (w17 hw) d3_1 (pc' := 4) rfl rfl (by decide) (wd := 0) rfl (by decide) (fun T X => ?_)
  refine k_iloadN G X d3_4 (pc' := 5) rfl rfl ?_
  refine k_if_ne G X d3_5 (pc' := 27) rfl (by decide) (pc'' := 8) rfl (fun c5 => (absurd c5 (by decide))) (fun c5 => ?_)
  refine k_aloadN G X d3_8 (pc' := 9) rfl rfl rfl ?_
  refine k_ldcH G X (n := 0) (vs := ([] : List Int32)) (z := 0) (w18 hw) (strAtoms hw) (by decide) ⟨by decide, by decide⟩ (by decide) d3_9 (pc' := 11) rfl (by decide) (by decide) (by decide) (by decide) (fun T h9 sE sEd k9 E9 Xs Fc Fv Fa hne9 X => ?_)
  replace E := E.ext E9
  replace FV := FV.ext E9
  replace FC := FC.ext E9
  replace KP := KP.ext E9
  have SE1 : Str Z h9 sE sEd k9 0 (fun i => ([] : List Int32).getD i 0) := ⟨Xs, Fc, Fv, Fa⟩
  have X_sE := Xs
  have ne_s_sE := (hne9 s (List.mem_append_right [] gm_s.2)).1
  have ne_s_sEd := (hne9 s (List.mem_append_right [] gm_s.2)).2
  have Fc_sE := Fc; have Fv_sE := Fv
  refine k_getF G X (host := "") (Or.inl (w24 hw)) Via.refl Fv_sE d3_11 (pc' := 14) rfl (fun T X => ?_)
  refine k_putF G X (host := "") (Or.inl (w24 hw)) Via.refl FV E (Or.inr ⟨(w20 hw), rfl, rfl⟩) (w5 hw) (ty := (.array .byte)) (by decide) rfl rfl ge_s (List.mem_append_right [] gm_s.2) d3_14 (pc' := 17) rfl (fun T h14 W14 X => ?_)
  replace E := E.wr W14
  replace FV := FV.same W14
  replace FC := FC.other W14 (Or.inr (slot_ne (Or.inr (w21 hw)) (Or.inr (w20 hw)) (by decide) (t := .byte) (t' := (.array .byte)) (by decide) (by decide)))
  replace KP := KP.wr W14 (Or.inl (List.mem_of_getElem? (i := 0) rfl))
  replace Fc_sE := Fc_sE.other W14 (Or.inl (Ne.symm ne_s_sE))
  replace Fv_sE := Fv_sE.other W14 (Or.inl (Ne.symm ne_s_sE))
  replace X_sE := X_sE.wr W14
  replace SE1 := SE1.other W14 (Ne.symm ne_s_sE) (Ne.symm ne_s_sEd)
  refine k_aloadN G X d3_17 (pc' := 18) rfl rfl rfl ?_
  refine k_ldcH G X (n := 0) (vs := ([] : List Int32)) (z := 0) (w18 hw) (strAtoms hw) (by decide) ⟨by decide, by decide⟩ (by decide) d3_18 (pc' := 20) rfl (by decide) (by decide) (by decide) (by decide) (fun T h18 sF sFd k18 E18 Xs Fc Fv Fa hne18 X => ?_)
  replace E := E.ext E18
  replace FV := FV.ext E18
  replace FC := FC.ext E18
  replace KP := KP.ext E18
  replace Fc_sE := Fc_sE.ext E18
  replace Fv_sE := Fv_sE.ext E18
  replace X_sE := X_sE.ext E18
  replace SE1 := SE1.ext E18
  have SF1 : Str Z h18 sF sFd k18 0 (fun i => ([] : List Int32).getD i 0) := ⟨Xs, Fc, Fv, Fa⟩
  have X_sF := Xs
  have ne_s_sF := (hne18 s (List.mem_append_right [] gm_s.2)).1
  have ne_s_sFd := (hne18 s (List.mem_append_right [] gm_s.2)).2
  have Fc_sF := Fc; have Fv_sF := Fv
  refine k_getF G X (host := "") (Or.inl (w25 hw)) Via.refl Fc_sF d3_20 (pc' := 23) rfl (fun T X => ?_)
  refine k_putFN G X (w25 hw) Via.refl FC E (Or.inr ⟨(w21 hw), rfl, rfl⟩) (w5 hw) (ty := .byte) (v' := (.int (0 : Int32))) (by decide) rfl rfl ge_s (List.mem_append_right [] gm_s.2) d3_23 (pc' := 26) rfl (fun T h23 W23 X => ?_)
  replace E := E.wr W23
  replace FV := FV.other W23 (Or.inr (slot_ne (Or.inr (w20 hw)) (Or.inr (w21 hw)) (by decide) (t := (.array .byte)) (t' := .byte) (by decide) (by decide)))
  replace FC := FC.same W23
  replace KP := KP.wr W23 (Or.inl (List.mem_of_getElem? (i := 0) rfl))
  replace Fc_sE := Fc_sE.other W23 (Or.inl (Ne.symm ne_s_sE))
  replace Fv_sE := Fv_sE.other W23 (Or.inl (Ne.symm ne_s_sE))
  replace X_sE := X_sE.wr W23
  replace SE1 := SE1.other W23 (Ne.symm ne_s_sE) (Ne.symm ne_s_sEd)
  replace Fc_sF := Fc_sF.other W23 (Or.inl (Ne.symm ne_s_sF))
  replace Fv_sF := Fv_sF.other W23 (Or.inl (Ne.symm ne_s_sF))
  replace X_sF := X_sF.wr W23
  replace SF1 := SF1.other W23 (Ne.symm ne_s_sF) (Ne.symm ne_s_sFd)
  refine k_retv G X d3_26 rfl ?_ (by decide) (by decide)
  exact ⟨rfl, KP, sEd, k9, E, FC, FV, SE1.2.2.2.congr fun i hi => absurd hi (Nat.not_lt_zero _)⟩
set_option maxRecDepth 65536 in
set_option maxHeartbeats 40000000 in
theorem str_e {Z : State} {a0 : Array Value} (hw : HW a0 Z) (s a : Addr) (ka : ClassId) (fA : Nat → Value) (h0 : Heap) (n0 : Nat) (sf0 : List Addr) (E : Exa Z h0 s "java/lang/String") (FV : Fld Z h0 s "java/lang/String" "value" "[B" .null) (FC : Fld Z h0 s "java/lang/String" "coder" "B" (.int (0 : Int32))) (gm_s : n0 ≤ s ∧ s ∈ sf0) (A : Arf Z h0 a ka .char 0 fA) :
    MetW Z consts_1 sf0 (⟨"java/lang/String", "<init>", "([C)V"⟩ : MethodName) jdk_42_method_3_code 2 none [] ({ frames := 2, cells := 4, slots := 8, locals := 29 } : Room) #[(.ref s), (.ref a)] h0 n0 (fun v h sf => v = none ∧ Keep h0 h [s] ∧ ∃ b kb, Str Z h s b kb 0 (fun _ => 0)) := by
  refine k_body (hEW hw) (f := (fun m => mkF m 0 #[.val (.ref s), .val (.ref a)] [])) pn_2 (fun m => by first | (simp [entryFrame, mkF, argsToLocals, Value.category, maxLocals]; done) | rfl) ?_
  intro Γ T G X
  have ge_s := gm_s.1
  have KP := Keep.refl h0 [s]
  show Go Γ n0 _ T (mkF Γ.m 0 #[.val (.ref s), .val (.ref a)] [])
  refine k_aloadN G X d2_0 (pc' := 1) rfl rfl rfl ?_
  refine k_aloadN G X d2_1 (pc' := 2) rfl rfl rfl ?_
  refine k_iconst G X d2_2 (pc' := 3) rfl (z := (0 : Int32)) (by decide) ?_
  refine k_aloadN G X d2_3 (pc' := 4) rfl rfl rfl ?_
  refine k_alen G X (z := (0 : Int32)) A rfl d2_4 (pc' := 5) rfl ?_
  refine k_anull G X d2_5 (pc' := 6) rfl ?_
  refine k_callI G X (argsL := [(.ref a), (.int (0 : Int32)), (.int (0 : Int32)), .null]) (rest := []) rfl rfl (w11 hw) (w12 hw) (w6 hw) (w14 hw) (by decide) (str_e4 hw s a ka h0 n0 _ E FV FC ⟨ge_s, (List.mem_append_right [] gm_s.2)⟩) d2_6 pd3 rfl (pc' := 9) rfl rfl (wd := 0) rfl (by decide) (by decide) (by decide) (by decide) (fun T h6 v sf6 X q => ?_)
  replace X := W.drop X
  obtain ⟨rfl, q⟩ := q
  show Go Γ n0 _ T (mkF Γ.m 9 #[.val (.ref s), .val (.ref a)] [])
  refine k_retv G X d2_9 rfl ?_ (by decide) (by decide)
  exact ⟨rfl, q⟩
theorem pn_7 : plainFor (⟨"java/util/AbstractCollection", "<init>", "()V"⟩ : MethodName) = true := plainFor_of_name (by first | (simp [plainName, overriddenIn]; done) | decide +kernel)
set_option maxRecDepth 65536 in
set_option maxHeartbeats 40000000 in
theorem al_i3 {Z : State} {a0 : Array Value} (hw : HW a0 Z) (l : Addr) (h0 : Heap) (n0 : Nat) (sf0 : List Addr) :
    MetW Z consts_1 sf0 (⟨"java/util/AbstractCollection", "<init>", "()V"⟩ : MethodName) jdk_22_method_1_code 1 none [] ({ frames := 1, cells := 0, slots := 0, locals := 12 } : Room) #[(.ref l)] h0 n0 (fun v h sf => v = none ∧ h = h0) := by
  refine k_body (hEW hw) (f := (fun m => mkF m 0 #[.val (.ref l)] [])) pn_7 (fun m => by first | (simp [entryFrame, mkF, argsToLocals, Value.category, maxLocals]; done) | rfl) ?_
  intro Γ T G X
  show Go Γ n0 _ T (mkF Γ.m 0 #[.val (.ref l)] [])
  refine k_aloadN G X d7_0 (pc' := 1) rfl rfl rfl ?_
  refine k_initO G X (w44 hw) (w16 hw) (w17 hw) d7_1 (pc' := 4) rfl rfl (by decide) (wd := 0) rfl (by decide) (fun T X => ?_)
  refine k_retv G X d7_4 rfl ?_ (by decide) (by decide)
  exact ⟨rfl, rfl⟩
theorem pn_6 : plainFor (⟨"java/util/AbstractList", "<init>", "()V"⟩ : MethodName) = true := plainFor_of_name (by first | (simp [plainName, overriddenIn]; done) | decide +kernel)
set_option maxRecDepth 65536 in
set_option maxHeartbeats 40000000 in
theorem al_i2 {Z : State} {a0 : Array Value} (hw : HW a0 Z) (l : Addr) (h0 : Heap) (n0 : Nat) (sf0 : List Addr) (gm_l : n0 ≤ l ∧ l ∈ sf0) (E : Exa Z h0 l "java/util/ArrayList") (M : Fld Z h0 l "java/util/AbstractList" "modCount" "I" (.int (0 : Int32))) (D : Fld Z h0 l "java/util/ArrayList" "elementData" "[Ljava/lang/Object;" .null) (Z_ : Fld Z h0 l "java/util/ArrayList" "size" "I" (.int (0 : Int32))) :
    MetW Z consts_1 sf0 (⟨"java/util/AbstractList", "<init>", "()V"⟩ : MethodName) jdk_39_method_1_code 1 none [] ({ frames := 2, cells := 0, slots := 0, locals := 25 } : Room) #[(.ref l)] h0 n0 (fun v h sf => v = none ∧ Keep h0 h [l] ∧ Exa Z h l "java/util/ArrayList" ∧ Fld Z h l "java/util/AbstractList" "modCount" "I" (.int (0 : Int32)) ∧ Fld Z h l "java/util/ArrayList" "elementData" "[Ljava/lang/Object;" .null ∧ Fld Z h l "java/util/ArrayList" "size" "I" (.int (0 : Int32))) := by
  refine k_body (hEW hw) (f := (fun m => mkF m 0 #[.val (.ref l)] [])) pn_6 (fun m => by first | (simp [entryFrame, mkF, argsToLocals, Value.category, maxLocals]; done) | rfl) ?_
  intro Γ T G X
  have ge_l := gm_l.1
  have KP := Keep.refl h0 [l]
  show Go Γ n0 _ T (mkF Γ.m 0 #[.val (.ref l)] [])
  refine k_aloadN G X d6_0 (pc' := 1) rfl rfl rfl ?_
  refine k_callI G X (argsL := []) (rest := []) rfl rfl (w38 hw) (w39 hw) (w42 hw) (w43 hw) (by decide) (al_i3 hw l h0 n0 _) d6_1 pd5 rfl (pc' := 4) rfl rfl (wd := 0) rfl (by decide) (by decide) (by decide) (by decide) (fun T h1 v sf1 X q => ?_)
  replace X := W.drop X
  obtain ⟨rfl, e1⟩ := q
  replace X := X.eq e1
  show Go Γ n0 _ T (mkF Γ.m 4 #[.val (.ref l)] [])
  refine k_aloadN G X d6_4 (pc' := 5) rfl rfl rfl ?_
  refine k_iconst G X d6_5 (pc' := 6) rfl (z := (0 : Int32)) (by decide) ?_
  refine k_putF G X (host := "") (Or.inl (w45 hw)) Via.refl M E (Or.inl (w46 hw)) (w27 hw) (ty := .int) (by decide) rfl rfl ge_l (List.mem_append_right [] gm_l.2) d6_6 (pc' := 9) rfl (fun T h6 W6 X => ?_)
  replace E := E.wr W6
  replace M := M.same W6
  replace D := D.other W6 (Or.inr (slot_ne (Or.inl (w49 hw)) (Or.inl (w46 hw)) (by decide) (t := (.array (.object "java/lang/Object"))) (t' := .int) (by decide) (by decide)))
  replace Z_ := Z_.other W6 (Or.inr (slot_ne (Or.inl (w65 hw)) (Or.inl (w46 hw)) (by decide) (t := .int) (t' := .int) (by decide) (by decide)))
  replace KP := KP.wr W6 (Or.inl (List.mem_of_getElem? (i := 0) rfl))
  refine k_retv G X d6_9 rfl ?_ (by decide) (by decide)
  exact ⟨rfl, KP, E, M, D, Z_⟩
theorem pn_5 : plainFor (⟨"java/util/ArrayList", "<init>", "()V"⟩ : MethodName) = true := plainFor_of_name (by first | (simp [plainName, overriddenIn]; done) | decide +kernel)
set_option maxRecDepth 65536 in
set_option maxHeartbeats 40000000 in
theorem al_i1 {Z : State} {a0 : Array Value} (hw : HW a0 Z) (l aD : Addr) (h0 : Heap) (n0 : Nat) (sf0 : List Addr) (gm_l : n0 ≤ l ∧ l ∈ sf0) (E : Exa Z h0 l "java/util/ArrayList") (M : Fld Z h0 l "java/util/AbstractList" "modCount" "I" (.int (0 : Int32))) (D : Fld Z h0 l "java/util/ArrayList" "elementData" "[Ljava/lang/Object;" .null) (Z_ : Fld Z h0 l "java/util/ArrayList" "size" "I" (.int (0 : Int32))) (S_D : Sta Z h0 "java/util/ArrayList" "DEFAULTCAPACITY_EMPTY_ELEMENTDATA" "[Ljava/lang/Object;" (.ref aD)) :
    MetW Z consts_1 sf0 (⟨"java/util/ArrayList", "<init>", "()V"⟩ : MethodName) jdk_38_method_2_code 1 none [] ({ frames := 3, cells := 0, slots := 0, locals := 38 } : Room) #[(.ref l)] h0 n0 (fun v h sf => v = none ∧ Keep h0 h [l] ∧ Exa Z h l "java/util/ArrayList" ∧ Fld Z h l "java/util/AbstractList" "modCount" "I" (.int (0 : Int32)) ∧ Fld Z h l "java/util/ArrayList" "elementData" "[Ljava/lang/Object;" (.ref aD) ∧ Fld Z h l "java/util/ArrayList" "size" "I" (.int (0 : Int32))) := by
  refine k_body (hEW hw) (f := (fun m => mkF m 0 #[.val (.ref l)] [])) pn_5 (fun m => by first | (simp [entryFrame, mkF, argsToLocals, Value.category, maxLocals]; done) | rfl) ?_
  intro Γ T G X
  have ge_l := gm_l.1
  have KP := Keep.refl h0 [l]
  show Go Γ n0 _ T (mkF Γ.m 0 #[.val (.ref l)] [])
  refine k_aloadN G X d5_0 (pc' := 1) rfl rfl rfl ?_
  refine k_callI G X (argsL := []) (rest := []) rfl rfl (w32 hw) (w33 hw) (w36 hw) (w37 hw) (by decide) (al_i2 hw l h0 n0 _ ⟨ge_l, (List.mem_append_right [] gm_l.2)⟩ E M D Z_) d5_1 pd5 rfl (pc' := 4) rfl rfl (wd := 0) rfl (by decide) (by decide) (by decide) (by decide) (fun T h1 v sf1 X q => ?_)
  replace X := W.drop X
  obtain ⟨rfl, K1, E', M, D, Z_⟩ := q
  replace S_D := Sta_keepL S_D K1 (allS (Pln_exa E) (all0))
  replace E := E.keep K1
  replace KP := KP.trans K1 (allS (Or.inl (List.mem_of_getElem? (i := 0) rfl)) (all0))
  show Go Γ n0 _ T (mkF Γ.m 4 #[.val (.ref l)] [])
  refine k_aloadN G X d5_4 (pc' := 5) rfl rfl rfl ?_
  refine k_getS G X (host := "") (Or.inl (w47 hw)) Via.refl S_D d5_5 (pc' := 8) rfl (fun T X => ?_)
  refine k_putF G X (host := "") (Or.inl (w48 hw)) Via.refl D E (Or.inl (w49 hw)) (w27 hw) (ty := (.array (.object "java/lang/Object"))) (by decide) rfl rfl ge_l (List.mem_append_right [] gm_l.2) d5_8 (pc' := 11) rfl (fun T h8 W8 X => ?_)
  replace E := E.wr W8
  replace KP := KP.wr W8 (Or.inl (List.mem_of_getElem? (i := 0) rfl))
  replace S_D := S_D.wr W8
  replace M := M.other W8 (Or.inr (slot_ne (Or.inl (w46 hw)) (Or.inl (w49 hw)) (by decide) (t := .int) (t' := (.array (.object "java/lang/Object"))) (by decide) (by decide)))
  replace D := D.same W8
  replace Z_ := Z_.other W8 (Or.inr (slot_ne (Or.inl (w65 hw)) (Or.inl (w49 hw)) (by decide) (t := .int) (t' := (.array (.object "java/lang/Object"))) (by decide) (by decide)))
  refine k_retv G X d5_11 rfl ?_ (by decide) (by decide)
  exact ⟨rfl, KP, E, M, D, Z_⟩
theorem pn_13 : plainFor (⟨"java/lang/Math", "max", "(II)I"⟩ : MethodName) = true := Jvm.Free.JP.mathPlain rfl (by decide +kernel)
set_option maxRecDepth 65536 in
set_option maxHeartbeats 40000000 in
theorem m_max {Z : State} {a0 : Array Value} (hw : HW a0 Z) (a b : Int32) (h0 : Heap) (n0 : Nat) (sf0 : List Addr) :
    MetW Z consts_1 sf0 (⟨"java/lang/Math", "max", "(II)I"⟩ : MethodName) jdk_29_method_65_code 2 (some .int) [] ({ frames := 0, cells := 0, slots := 0, locals := 0 } : Room) #[(.int a), (.int b)] h0 n0 (fun v h sf => ∃ r, v = some (.int r) ∧ (b.toInt ≤ a.toInt → r = a) ∧ (a.toInt < b.toInt → r = b) ∧ h = h0) := by
  refine k_body (hEW hw) (f := (fun m => mkF m 0 #[.val (.int a), .val (.int b)] [])) pn_13 (fun m => by first | (simp [entryFrame, mkF, argsToLocals, Value.category, maxLocals]; done) | rfl) ?_
  intro Γ T G X
  show Go Γ n0 _ T (mkF Γ.m 0 #[.val (.int a), .val (.int b)] [])
  refine k_iloadN G X d13_0 (pc' := 1) rfl rfl ?_
  refine k_iloadN G X d13_1 (pc' := 2) rfl rfl ?_
  refine k_icmp_lt G X d13_2 (pc' := 9) rfl (by decide) (pc'' := 5) rfl (fun c2 => ?_) (fun c2 => ?_)
  · refine k_iloadN G X d13_9 (pc' := 10) rfl rfl ?_
    refine k_reti G X d13_10 rfl ?_ (by decide) (by decide)
    exact ⟨_, rfl, by intros; first | rfl | (exfalso; omega), by intros; first | rfl | (exfalso; omega), rfl⟩
  · refine k_iloadN G X d13_5 (pc' := 6) rfl rfl ?_
    refine k_goto G X d13_6 (by decide) (pc' := 10) rfl ?_
    refine k_reti G X d13_10 rfl ?_ (by decide) (by decide)
    exact ⟨_, rfl, by intros; first | rfl | (exfalso; omega), by intros; first | rfl | (exfalso; omega), rfl⟩
theorem pn_12 : plainFor (⟨"java/util/ArrayList", "grow", "(I)[Ljava/lang/Object;"⟩ : MethodName) = true := plainFor_of_name (by first | (simp [plainName, overriddenIn]; done) | decide +kernel)
set_option maxRecDepth 65536 in
set_option maxHeartbeats 40000000 in
theorem al_g1 {Z : State} {a0 : Array Value} (hw : HW a0 Z) (l aD : Addr) (kD : ClassId) (mc : Int32) (h0 : Heap) (n0 : Nat) (sf0 : List Addr) (gm_l : n0 ≤ l ∧ l ∈ sf0) (O : Old Z n0 h0) (E : Exa Z h0 l "java/util/ArrayList") (M : Fld Z h0 l "java/util/AbstractList" "modCount" "I" (.int mc)) (D : Fld Z h0 l "java/util/ArrayList" "elementData" "[Ljava/lang/Object;" (.ref aD)) (Z_ : Fld Z h0 l "java/util/ArrayList" "size" "I" (.int (0 : Int32))) (S_D : Sta Z h0 "java/util/ArrayList" "DEFAULTCAPACITY_EMPTY_ELEMENTDATA" "[Ljava/lang/Object;" (.ref aD)) (AD : Arf Z h0 aD kD (.object "java/lang/Object") 0 (fun _ => .null)) (ne_aD_l : aD ≠ l) :
    MetW Z consts_1 sf0 (⟨"java/util/ArrayList", "grow", "(I)[Ljava/lang/Object;"⟩ : MethodName) jdk_38_method_6_code 4 (some (.array (.object "java/lang/Object"))) [] ({ frames := 1, cells := 1, slots := 10, locals := 14 } : Room) #[(.ref l), (.int (1 : Int32))] h0 n0 (fun v h sf => ∃ e ke, v = some (.ref e) ∧ h0.size ≤ e ∧ Keep h0 h [l] ∧ Exa Z h l "java/util/ArrayList" ∧ Fld Z h l "java/util/AbstractList" "modCount" "I" (.int mc) ∧ Fld Z h l "java/util/ArrayList" "elementData" "[Ljava/lang/Object;" (.ref e) ∧ Fld Z h l "java/util/ArrayList" "size" "I" (.int (0 : Int32)) ∧ Arf Z h e ke (.object "java/lang/Object") 10 (fun _ => .null) ∧ Ovr Z ke "java/lang/Object") := by
  refine k_body (hEW hw) (f := (fun m => mkF m 0 #[.val (.ref l), .val (.int (1 : Int32)), .unset, .unset] [])) pn_12 (fun m => by first | (simp [entryFrame, mkF, argsToLocals, Value.category, maxLocals]; done) | rfl) ?_
  intro Γ T G X
  have ge_l := gm_l.1
  have KP := Keep.refl h0 [l]
  show Go Γ n0 _ T (mkF Γ.m 0 #[.val (.ref l), .val (.int (1 : Int32)), .unset, .unset] [])
  refine k_aloadN G X d12_0 (pc' := 1) rfl rfl rfl ?_
  refine k_getF G X (host := "") (Or.inl (w48 hw)) Via.refl D d12_1 (pc' := 4) rfl (fun T X => ?_)
  refine k_alen G X (z := (0 : Int32)) AD rfl d12_4 (pc' := 5) rfl ?_
  refine k_istoreN G X d12_5 (pc' := 6) rfl (l' := #[.val (.ref l), .val (.int (1 : Int32)), .val (.int (0 : Int32)), .unset]) rfl ?_
  refine k_iloadN G X d12_6 (pc' := 7) rfl rfl ?_
  refine k_if_gt G X d12_7 (pc' := 20) rfl (by decide) (pc'' := 10) rfl (fun c7 => (absurd c7 (by decide))) (fun c7 => ?_)
  refine k_aloadN G X d12_10 (pc' := 11) rfl rfl rfl ?_
  refine k_getF G X (host := "") (Or.inl (w48 hw)) Via.refl D d12_11 (pc' := 14) rfl (fun T X => ?_)
  refine k_getS G X (host := "") (Or.inl (w47 hw)) Via.refl S_D d12_14 (pc' := 17) rfl (fun T X => ?_)
  refine k_acmp_eq G X d12_17 (pc' := 45) rfl (by decide) (pc'' := 20) rfl rfl rfl (fun c17 => ?_) (fun c17 => (absurd c17 (by simp)))
  refine k_aloadN G X d12_45 (pc' := 46) rfl rfl rfl ?_
  refine k_bipush G X d12_46 (pc' := 48) rfl (z := (10 : Int32)) (by decide) ?_
  refine k_iloadN G X d12_48 (pc' := 49) rfl rfl ?_
  refine k_callS G X (argsL := [(.int (10 : Int32)), (.int (1 : Int32))]) (rest := [(.ref l)]) rfl (w81 hw) (w82 hw) (w83 hw) (w84 hw) (by decide) (m_max hw (10 : Int32) (1 : Int32) h0 n0 _) d12_49 pd7 rfl (pc' := 52) rfl rfl (wd := 1) rfl (by decide) (by decide) (by decide) (by decide) (fun T h49 v sf49 X q => ?_)
  replace X := W.drop X
  obtain ⟨r, rfl, q1, q2, e49⟩ := q
  replace X := X.eq e49
  obtain rfl := q1 (by decide)
  show Go Γ n0 _ T (mkF Γ.m 52 #[.val (.ref l), .val (.int (1 : Int32)), .val (.int (0 : Int32)), .unset] [(.int (10 : Int32)), (.ref l)])
  refine k_newR G X (n := 10) (cap := 10) (w85 hw) (w86 hw) d12_52 (pc' := 55) rfl rfl (by decide) (by decide) (by decide) (by decide) (fun T h52 b52 k52 s_b52 E52 A_b52 O_b52 X => ?_)
  have ne_l_b52 : l ≠ b52 := Nat.ne_of_lt (Nat.lt_of_lt_of_eq E.lt s_b52)
  have ne_aD_b52 : aD ≠ b52 := Nat.ne_of_lt (Nat.lt_of_lt_of_eq AD.lt s_b52)
  have ge_b52 : n0 ≤ b52 := Nat.le_trans (Jvm.OwnK.Old_le O) (Nat.le_of_eq s_b52)
  have sz_b52 : h0.size ≤ b52 := Nat.le_trans KP.1 (Nat.le_of_eq s_b52)
  replace E := E.ext E52
  replace KP := KP.ext E52
  replace O := O.ext E52
  replace M := M.ext E52
  replace D := D.ext E52
  replace Z_ := Z_.ext E52
  replace S_D := S_D.ext E52
  replace AD := AD.ext E52
  replace A_b52 : Arf Z h52 b52 k52 (.object "java/lang/Object") 10 (fun _ => .null) := A_b52
  refine k_dupx1 G X d12_55 (pc' := 56) rfl rfl rfl ?_
  refine k_putF G X (host := "") (Or.inl (w48 hw)) Via.refl D E (Or.inl (w49 hw)) (w27 hw) (ty := (.array (.object "java/lang/Object"))) (by decide) rfl rfl ge_l (List.mem_append_right [b52] gm_l.2) d12_56 (pc' := 59) rfl (fun T h56 W56 X => ?_)
  replace E := E.wr W56
  replace KP := KP.wr W56 (Or.inl (List.mem_of_getElem? (i := 0) rfl))
  replace O := O.wr W56 ge_l
  replace M := M.other W56 (Or.inr (slot_ne (Or.inl (w46 hw)) (Or.inl (w49 hw)) (by decide) (t := .int) (t' := (.array (.object "java/lang/Object"))) (by decide) (by decide)))
  replace D := D.same W56
  replace Z_ := Z_.other W56 (Or.inr (slot_ne (Or.inl (w65 hw)) (Or.inl (w49 hw)) (by decide) (t := .int) (t' := (.array (.object "java/lang/Object"))) (by decide) (by decide)))
  replace S_D := S_D.wr W56
  replace AD := AD.other W56 ne_aD_l
  replace A_b52 := A_b52.other W56 (Ne.symm ne_l_b52)
  refine k_reta G X d12_59 (t := (.array (.object "java/lang/Object"))) rfl rfl rfl ?_ (by decide) (by decide)
  exact ⟨b52, k52, rfl, sz_b52, KP, E, M, D, Z_, A_b52, O_b52⟩
theorem pn_11 : plainFor (⟨"java/util/ArrayList", "grow", "()[Ljava/lang/Object;"⟩ : MethodName) = true := plainFor_of_name (by first | (simp [plainName, overriddenIn]; done) | decide +kernel)
set_option maxRecDepth 65536 in
set_option maxHeartbeats 40000000 in
theorem al_g {Z : State} {a0 : Array Value} (hw : HW a0 Z) (l aD : Addr) (kD : ClassId) (mc : Int32) (h0 : Heap) (n0 : Nat) (sf0 : List Addr) (gm_l : n0 ≤ l ∧ l ∈ sf0) (O : Old Z n0 h0) (E : Exa Z h0 l "java/util/ArrayList") (M : Fld Z h0 l "java/util/AbstractList" "modCount" "I" (.int mc)) (D : Fld Z h0 l "java/util/ArrayList" "elementData" "[Ljava/lang/Object;" (.ref aD)) (Z_ : Fld Z h0 l "java/util/ArrayList" "size" "I" (.int (0 : Int32))) (S_D : Sta Z h0 "java/util/ArrayList" "DEFAULTCAPACITY_EMPTY_ELEMENTDATA" "[Ljava/lang/Object;" (.ref aD)) (AD : Arf Z h0 aD kD (.object "java/lang/Object") 0 (fun _ => .null)) (ne_aD_l : aD ≠ l) :
    MetW Z consts_1 sf0 (⟨"java/util/ArrayList", "grow", "()[Ljava/lang/Object;"⟩ : MethodName) jdk_38_method_7_code 1 (some (.array (.object "java/lang/Object"))) [] ({ frames := 2, cells := 1, slots := 10, locals := 29 } : Room) #[(.ref l)] h0 n0 (fun v h sf => ∃ e ke, v = some (.ref e) ∧ h0.size ≤ e ∧ Keep h0 h [l] ∧ Exa Z h l "java/util/ArrayList" ∧ Fld Z h l "java/util/AbstractList" "modCount" "I" (.int mc) ∧ Fld Z h l "java/util/ArrayList" "elementData" "[Ljava/lang/Object;" (.ref e) ∧ Fld Z h l "java/util/ArrayList" "size" "I" (.int (0 : Int32)) ∧ Arf Z h e ke (.object "java/lang/Object") 10 (fun _ => .null) ∧ Ovr Z ke "java/lang/Object") := by
  refine k_body (hEW hw) (f := (fun m => mkF m 0 #[.val (.ref l)] [])) pn_11 (fun m => by first | (simp [entryFrame, mkF, argsToLocals, Value.category, maxLocals]; done) | rfl) ?_
  intro Γ T G X
  have ge_l := gm_l.1
  have KP := Keep.refl h0 [l]
  show Go Γ n0 _ T (mkF Γ.m 0 #[.val (.ref l)] [])
  refine k_aloadN G X d11_0 (pc' := 1) rfl rfl rfl ?_
  refine k_aloadN G X d11_1 (pc' := 2) rfl rfl rfl ?_
  refine k_getF G X (host := "") (Or.inl (w64 hw)) Via.refl Z_ d11_2 (pc' := 5) rfl (fun T X => ?_)
  refine k_iconst G X d11_5 (pc' := 6) rfl (z := (1 : Int32)) (by decide) ?_
  refine k_iadd G X d11_6 (pc' := 7) rfl (z := (1 : Int32)) (by decide) ?_
  refine k_callP G X (argsL := [(.int (1 : Int32))]) (rest := []) rfl E (w76 hw) (w77 hw) (w79 hw) (w78 hw) (w28 hw) (w80 hw) (by decide) (al_g1 hw l aD kD mc h0 n0 _ ⟨ge_l, (List.mem_append_right [] gm_l.2)⟩ O E M D Z_ S_D AD ne_aD_l) d11_7 pd8 rfl (pc' := 10) rfl rfl (wd := 0) rfl (by decide) (by decide) (by decide) (by decide) (fun T h7 v sf7 X q => ?_)
  replace X := W.drop X
  obtain ⟨e, ke, rfl, sz_e, q⟩ := q
  show Go Γ n0 _ T (mkF Γ.m 10 #[.val (.ref l)] [(.ref e)])
  refine k_reta G X d11_10 (t := (.array (.object "java/lang/Object"))) rfl rfl rfl ?_ (by decide) (by decide)
  exact ⟨e, ke, rfl, sz_e, q⟩
theorem pn_10 : plainFor (⟨"java/util/ArrayList", "add", "(Ljava/lang/Object;[Ljava/lang/Object;I)V"⟩ : MethodName) = true := plainFor_of_name (by first | (simp [plainName, overriddenIn]; done) | decide +kernel)
set_option maxRecDepth 65536 in
set_option maxHeartbeats 40000000 in
theorem al_b0 {Z : State} {a0 : Array Value} (hw : HW a0 Z) (l x aD : Addr) (kD : ClassId) (mc : Int32) (h0 : Heap) (n0 : Nat) (sf0 : List Addr) (gm_l : n0 ≤ l ∧ l ∈ sf0) (O : Old Z n0 h0) (E : Exa Z h0 l "java/util/ArrayList") (M : Fld Z h0 l "java/util/AbstractList" "modCount" "I" (.int mc)) (D : Fld Z h0 l "java/util/ArrayList" "elementData" "[Ljava/lang/Object;" (.ref aD)) (Z_ : Fld Z h0 l "java/util/ArrayList" "size" "I" (.int (0 : Int32))) (EX : Exa Z h0 x "java/lang/Integer") (ne_x_l : x ≠ l) (S_D : Sta Z h0 "java/util/ArrayList" "DEFAULTCAPACITY_EMPTY_ELEMENTDATA" "[Ljava/lang/Object;" (.ref aD)) (AD : Arf Z h0 aD kD (.object "java/lang/Object") 0 (fun _ => .null)) (ne_aD_l : aD ≠ l) :
    MetW Z consts_1 sf0 (⟨"java/util/ArrayList", "add", "(Ljava/lang/Object;[Ljava/lang/Object;I)V"⟩ : MethodName) jdk_38_method_24_code 4 none [] ({ frames := 3, cells := 1, slots := 10, locals := 41 } : Room) #[(.ref l), (.ref x), (.ref aD), (.int (0 : Int32))] h0 n0 (fun v h sf => v = none ∧ ∃ e' ke', Keep h0 h [l] ∧ (h0.size ≤ e') ∧ Exa Z h l "java/util/ArrayList" ∧ Fld Z h l "java/util/AbstractList" "modCount" "I" (.int mc) ∧ Fld Z h l "java/util/ArrayList" "elementData" "[Ljava/lang/Object;" (.ref e') ∧ Fld Z h l "java/util/ArrayList" "size" "I" (.int (1 : Int32)) ∧ Arf Z h e' ke' (.object "java/lang/Object") 10 (fun x_ => if x_ = 0 then .ref x else (fun _ => .null) x_) ∧ Ovr Z ke' "java/lang/Object") := by
  refine k_body (hEW hw) (f := (fun m => mkF m 0 #[.val (.ref l), .val (.ref x), .val (.ref aD), .val (.int (0 : Int32))] [])) pn_10 (fun m => by first | (simp [entryFrame, mkF, argsToLocals, Value.category, maxLocals]; done) | rfl) ?_
  intro Γ T G X
  have ge_l := gm_l.1
  have KP := Keep.refl h0 [l]
  have E0 := E
  show Go Γ n0 _ T (mkF Γ.m 0 #[.val (.ref l), .val (.ref x), .val (.ref aD), .val (.int (0 : Int32))] [])
  refine k_iloadN G X d10_0 (pc' := 1) rfl rfl ?_
  refine k_aloadN G X d10_1 (pc' := 2) rfl rfl rfl ?_
  refine k_alen G X (z := (0 : Int32)) AD rfl d10_2 (pc' := 3) rfl ?_
  refine k_icmp_ne G X d10_3 (pc' := 11) rfl (by decide) (pc'' := 6) rfl (fun c3 => (absurd c3 (by decide))) (fun c3 => ?_)
  refine k_aloadN G X d10_6 (pc' := 7) rfl rfl rfl ?_
  refine k_callP G X (argsL := []) (rest := []) rfl E (w71 hw) (w72 hw) (w74 hw) (w73 hw) (w28 hw) (w75 hw) (by decide) (al_g hw l aD kD mc h0 n0 _ ⟨ge_l, (List.mem_append_right [] gm_l.2)⟩ O E M D Z_ S_D AD ne_aD_l) d10_7 pd9 rfl (pc' := 10) rfl rfl (wd := 0) rfl (by decide) (by decide) (by decide) (by decide) (fun T h7 v sf7 X q => ?_)
  replace X := W.drop X
  obtain ⟨e, ke, rfl, sz_e, K7, E', M, D, Z_, A, OO⟩ := q
  have ge_e : n0 ≤ e := Nat.le_trans (Old_le O) sz_e
  have ne_l_e : l ≠ e := Nat.ne_of_lt (Nat.lt_of_lt_of_le E0.lt sz_e)
  have ne_x_e : x ≠ e := Nat.ne_of_lt (Nat.lt_of_lt_of_le EX.lt sz_e)
  replace S_D := Sta_keepL S_D K7 (allS (Pln_exa E) (all0))
  replace E := E.keep K7
  replace KP := KP.trans K7 (allS (Or.inl (List.mem_of_getElem? (i := 0) rfl)) (all0))
  replace O := O.keep K7 (allS ge_l (all0))
  replace EX := EX.keep K7
  replace AD := AD.keep K7 (by simp only [List.mem_cons, List.not_mem_nil, or_false, not_or]; exact ne_aD_l)
  show Go Γ n0 _ T (mkF Γ.m 10 #[.val (.ref l), .val (.ref x), .val (.ref aD), .val (.int (0 : Int32))] [(.ref e)])
  refine k_astoreN G X d10_10 (pc' := 11) rfl rfl (l' := #[.val (.ref l), .val (.ref x), .val (.ref e), .val (.int (0 : Int32))]) rfl ?_
  refine k_aloadN G X d10_11 (pc' := 12) rfl rfl rfl ?_
  refine k_iloadN G X d10_12 (pc' := 13) rfl rfl ?_
  refine k_aloadN G X d10_13 (pc' := 14) rfl rfl rfl ?_
  replace X := W.addA G X A (by simp)
  refine k_aastore G X (i := 0) A rfl rfl (by decide) (A.sto OO (Ins.of_exa EX (w87 hw))) rfl ge_e (List.mem_of_getElem? (i := 0) rfl) d10_14 (pc' := 15) rfl (fun T h14 W14 A X => ?_)
  replace E := E.wr W14
  replace KP := KP.wr W14 (Or.inr sz_e)
  replace O := O.wr W14 ge_e
  replace EX := EX.wr W14
  replace M := M.other W14 (Or.inl ne_l_e)
  replace D := D.other W14 (Or.inl ne_l_e)
  replace Z_ := Z_.other W14 (Or.inl ne_l_e)
  refine k_aloadN G X d10_15 (pc' := 16) rfl rfl rfl ?_
  refine k_iloadN G X d10_16 (pc' := 17) rfl rfl ?_
  refine k_iconst G X d10_17 (pc' := 18) rfl (z := (1 : Int32)) (by decide) ?_
  refine k_iadd G X d10_18 (pc' := 19) rfl (z := (1 : Int32)) (by decide) ?_
  refine k_putF G X (host := "") (Or.inl (w64 hw)) Via.refl Z_ E (Or.inl (w65 hw)) (w27 hw) (ty := .int) (by decide) rfl rfl ge_l (List.mem_append_right [e] gm_l.2) d10_19 (pc' := 22) rfl (fun T h19 W19 X => ?_)
  replace E := E.wr W19
  replace KP := KP.wr W19 (Or.inl (List.mem_of_getElem? (i := 0) rfl))
  replace O := O.wr W19 ge_l
  replace EX := EX.wr W19
  replace M := M.other W19 (Or.inr (slot_ne (Or.inl (w46 hw)) (Or.inl (w65 hw)) (by decide) (t := .int) (t' := .int) (by decide) (by decide)))
  replace D := D.other W19 (Or.inr (slot_ne (Or.inl (w49 hw)) (Or.inl (w65 hw)) (by decide) (t := (.array (.object "java/lang/Object"))) (t' := .int) (by decide) (by decide)))
  replace Z_ := Z_.same W19
  replace A := A.other W19 (Ne.symm ne_l_e)
  refine k_retv G X d10_22 rfl ?_ (by decide) (by decide)
  exact ⟨rfl, e, ke, KP, sz_e, E, M, D, Z_, A, OO⟩
theorem pn_9 : plainFor (⟨"java/util/ArrayList", "add", "(Ljava/lang/Object;)Z"⟩ : MethodName) = true := plainFor_of_name (by first | (simp [plainName, overriddenIn]; done) | decide +kernel)
set_option maxRecDepth 65536 in
set_option maxHeartbeats 40000000 in
theorem al_a0 {Z : State} {a0 : Array Value} (hw : HW a0 Z) (l x aD : Addr) (kD : ClassId) (mc : Int32) (h0 : Heap) (n0 : Nat) (sf0 : List Addr) (gm_l : n0 ≤ l ∧ l ∈ sf0) (O : Old Z n0 h0) (E : Exa Z h0 l "java/util/ArrayList") (M : Fld Z h0 l "java/util/AbstractList" "modCount" "I" (.int mc)) (D : Fld Z h0 l "java/util/ArrayList" "elementData" "[Ljava/lang/Object;" (.ref aD)) (Z_ : Fld Z h0 l "java/util/ArrayList" "size" "I" (.int (0 : Int32))) (EX : Exa Z h0 x "java/lang/Integer") (ne_x_l : x ≠ l) (S_D : Sta Z h0 "java/util/ArrayList" "DEFAULTCAPACITY_EMPTY_ELEMENTDATA" "[Ljava/lang/Object;" (.ref aD)) (AD : Arf Z h0 aD kD (.object "java/lang/Object") 0 (fun _ => .null)) (ne_aD_l : aD ≠ l) :
    MetW Z consts_1 sf0 (⟨"java/util/ArrayList", "add", "(Ljava/lang/Object;)Z"⟩ : MethodName) jdk_38_method_25_code 2 (some .boolean) [] ({ frames := 4, cells := 1, slots := 10, locals := 56 } : Room) #[(.ref l), (.ref x)] h0 n0 (fun v h sf => v = some (.int 1) ∧ ∃ e' ke', Keep h0 h [l] ∧ (h0.size ≤ e') ∧ Exa Z h l "java/util/ArrayList" ∧ Fld Z h l "java/util/AbstractList" "modCount" "I" (.int (mc + (1 : Int32))) ∧ Fld Z h l "java/util/ArrayList" "elementData" "[Ljava/lang/Object;" (.ref e') ∧ Fld Z h l "java/util/ArrayList" "size" "I" (.int (1 : Int32)) ∧ Arf Z h e' ke' (.object "java/lang/Object") 10 (fun x_ => if x_ = 0 then .ref x else (fun _ => .null) x_) ∧ Ovr Z ke' "java/lang/Object") := by
  refine k_body (hEW hw) (f := (fun m => mkF m 0 #[.val (.ref l), .val (.ref x)] [])) pn_9 (fun m => by first | (simp [entryFrame, mkF, argsToLocals, Value.category, maxLocals]; done) | rfl) ?_
  intro Γ T G X
  have ge_l := gm_l.1
  have KP := Keep.refl h0 [l]
  have E0 := E
  show Go Γ n0 _ T (mkF Γ.m 0 #[.val (.ref l), .val (.ref x)] [])
  refine k_aloadN G X d9_0 (pc' := 1) rfl rfl rfl ?_
  refine k_dup G X d9_1 (pc' := 2) rfl rfl ?_
  refine k_getF G X (host := "") (Or.inl (w62 hw)) (Via.of (w63 hw)) M d9_2 (pc' := 5) rfl (fun T X => ?_)
  refine k_iconst G X d9_5 (pc' := 6) rfl (z := (1 : Int32)) (by decide) ?_
  refine k_iadd G X d9_6 (pc' := 7) rfl rfl ?_
  refine k_putF G X (host := "") (Or.inl (w62 hw)) (Via.of (w63 hw)) M E (Or.inl (w46 hw)) (w27 hw) (ty := .int) (by decide) rfl rfl ge_l (List.mem_append_right [] gm_l.2) d9_7 (pc' := 10) rfl (fun T h7 W7 X => ?_)
  replace E := E.wr W7
  replace KP := KP.wr W7 (Or.inl (List.mem_of_getElem? (i := 0) rfl))
  replace O := O.wr W7 ge_l
  replace M := M.same W7
  replace D := D.other W7 (Or.inr (slot_ne (Or.inl (w49 hw)) (Or.inl (w46 hw)) (by decide) (t := (.array (.object "java/lang/Object"))) (t' := .int) (by decide) (by decide)))
  replace Z_ := Z_.other W7 (Or.inr (slot_ne (Or.inl (w65 hw)) (Or.inl (w46 hw)) (by decide) (t := .int) (t' := .int) (by decide) (by decide)))
  replace EX := EX.wr W7
  replace S_D := S_D.wr W7
  replace AD := AD.other W7 ne_aD_l
  refine k_aloadN G X d9_10 (pc' := 11) rfl rfl rfl ?_
  refine k_aloadN G X d9_11 (pc' := 12) rfl rfl rfl ?_
  refine k_aloadN G X d9_12 (pc' := 13) rfl rfl rfl ?_
  refine k_getF G X (host := "") (Or.inl (w48 hw)) Via.refl D d9_13 (pc' := 16) rfl (fun T X => ?_)
  refine k_aloadN G X d9_16 (pc' := 17) rfl rfl rfl ?_
  refine k_getF G X (host := "") (Or.inl (w64 hw)) Via.refl Z_ d9_17 (pc' := 20) rfl (fun T X => ?_)
  refine k_callP G X (argsL := [(.ref x), (.ref aD), (.int (0 : Int32))]) (rest := []) rfl E (w66 hw) (w67 hw) (w69 hw) (w68 hw) (w28 hw) (w70 hw) (by decide) (al_b0 hw l x aD kD (mc + (1 : Int32)) h7 n0 _ ⟨ge_l, (List.mem_append_right [] gm_l.2)⟩ O E M D Z_ EX ne_x_l S_D AD ne_aD_l) d9_20 pd10 rfl (pc' := 23) rfl rfl (wd := 0) rfl (by decide) (by decide) (by decide) (by decide) (fun T h20 v sf20 X q => ?_)
  replace X := W.drop X
  obtain ⟨rfl, q⟩ := q
  show Go Γ n0 _ T (mkF Γ.m 23 #[.val (.ref l), .val (.ref x)] [])
  refine k_iconst G X d9_23 (pc' := 24) rfl (z := (1 : Int32)) (by decide) ?_
  refine k_retb G X d9_24 (t := .boolean) rfl (by simp) rfl ?_ (by decide) (by decide)
  exact ⟨rfl, by obtain ⟨e', ke', K, h1, r⟩ := q; exact ⟨e', ke', KP.trans K (allS (Or.inl (List.mem_of_getElem? (i := 0) rfl)) (all0)), Nat.le_trans KP.1 h1, r⟩⟩
theorem pn_1 : plainFor (⟨"com/example/shadowhex/shadowhex/CornerEqualsPinLaw", "mk", "(III)Ljava/lang/String;"⟩ : MethodName) = true := plainFor_of_name (by first | (simp [plainName, overriddenIn]; done) | decide +kernel)
set_option maxRecDepth 65536 in
set_option maxHeartbeats 40000000 in
theorem mk {Z : State} {a0 : Array Value} (hw : HW a0 Z) (zl ca cb cs : Int32) (n : Nat) (h0 : Heap) (n0 : Nat) (sf0 : List Addr) (hl : zl.toInt = n) (hn : n ≤ 2) (r0 : 0 ≤ ca.toInt ∧ ca.toInt ≤ 255) (r1 : 0 ≤ cb.toInt ∧ cb.toInt ≤ 255) (O : Old Z n0 h0) (S_CS : Sta Z h0 "java/lang/String" "COMPACT_STRINGS" "Z" (.int cs)) (hcs : cs ≠ 0) :
    MetW Z consts_1 sf0 (⟨"com/example/shadowhex/shadowhex/CornerEqualsPinLaw", "mk", "(III)Ljava/lang/String;"⟩ : MethodName) method_2_code 4 (some (.object "java/lang/String")) [] ({ frames := 4, cells := 6, slots := 12, locals := 68 } : Room) #[(.int zl), (.int ca), (.int cb)] h0 n0 (fun v h sf => ∃ s b k, v = some (.ref s) ∧ h0.size ≤ s ∧ Keep h0 h [] ∧ Str Z h s b k n (fun i => (own2 ca cb i).toInt8.toInt32)) := by
  refine k_body (hEW hw) (f := (fun m => mkF m 0 #[.val (.int zl), .val (.int ca), .val (.int cb), .unset] [])) pn_1 (fun m => by first | (simp [entryFrame, mkF, argsToLocals, Value.category, maxLocals]; done) | rfl) ?_
  intro Γ T G X
  have KP := Keep.refl h0 []
  show Go Γ n0 _ T (mkF Γ.m 0 #[.val (.int zl), .val (.int ca), .val (.int cb), .unset] [])
  refine k_iloadN G X d1_0 (pc' := 1) rfl rfl ?_
  refine k_if_ne G X d1_1 (pc' := 15) rfl (by decide) (pc'' := 4) rfl (fun c1 => ?_) (fun c1 => ?_)
  · refine k_iloadN G X d1_15 (pc' := 16) rfl rfl ?_
    refine k_iconst G X d1_16 (pc' := 17) rfl (z := (1 : Int32)) (by decide) ?_
    refine k_icmp_ne G X d1_17 (pc' := 38) rfl (by decide) (pc'' := 20) rfl (fun c17 => ?_) (fun c17 => ?_)
    · refine k_iconst G X d1_38 (pc' := 39) rfl (z := (2 : Int32)) (by decide) ?_
      refine k_newP G X (aty := .char) (n := 2) (cap := 2) (w7 hw) d1_39 (pc' := 41) rfl rfl (by decide) (by decide) (by decide) (by decide) (fun T h39 b39 k39 s_b39 E39 A_b39 X => ?_)
      have ge_b39 : n0 ≤ b39 := Nat.le_trans (Jvm.OwnK.Old_le O) (Nat.le_of_eq s_b39)
      have sz_b39 : h0.size ≤ b39 := Nat.le_trans KP.1 (Nat.le_of_eq s_b39)
      replace O := O.ext E39
      replace KP := KP.ext E39
      replace S_CS := S_CS.ext E39
      replace A_b39 : Arf Z h39 b39 k39 .char 2 (fun _ => (.int (0 : Int32))) := A_b39
      refine k_astoreN G X d1_41 (pc' := 42) rfl rfl (l' := #[.val (.int zl), .val (.int ca), .val (.int cb), .val (.ref b39)]) rfl ?_
      refine k_aloadN G X d1_42 (pc' := 43) rfl rfl rfl ?_
      refine k_iconst G X d1_43 (pc' := 44) rfl (z := (0 : Int32)) (by decide) ?_
      refine k_iloadN G X d1_44 (pc' := 45) rfl rfl ?_
      refine k_i2c G X d1_45 (pc' := 46) rfl rfl ?_
      rw [i2c_id r0]
      refine k_castore G X (i := 0) (z := ca) A_b39 rfl (by decide) (nar_char r0) ge_b39 (List.mem_of_getElem? (i := 0) rfl) d1_46 (pc' := 47) rfl (fun T h46 W46 A_b39 X => ?_)
      replace O := O.wr W46 ge_b39
      replace KP := KP.wr W46 (Or.inr sz_b39)
      replace S_CS := S_CS.wr W46
      refine k_aloadN G X d1_47 (pc' := 48) rfl rfl rfl ?_
      refine k_iconst G X d1_48 (pc' := 49) rfl (z := (1 : Int32)) (by decide) ?_
      refine k_iloadN G X d1_49 (pc' := 50) rfl rfl ?_
      refine k_i2c G X d1_50 (pc' := 51) rfl rfl ?_
      rw [i2c_id r1]
      refine k_castore G X (i := 1) (z := cb) A_b39 rfl (by decide) (nar_char r1) ge_b39 (List.mem_of_getElem? (i := 0) rfl) d1_51 (pc' := 52) rfl (fun T h51 W51 A_b39 X => ?_)
      replace O := O.wr W51 ge_b39
      replace KP := KP.wr W51 (Or.inr sz_b39)
      replace S_CS := S_CS.wr W51
      refine k_new G X (w4 hw) (w5 hw) (w6 hw) d1_52 (pc' := 55) rfl (by decide) (by decide) (fun T h52 b52 s_b52 E52 X_b52 D52 X => ?_)
      have ne_b39_b52 : b39 ≠ b52 := Nat.ne_of_lt (Nat.lt_of_lt_of_eq A_b39.lt s_b52)
      have ge_b52 : n0 ≤ b52 := Nat.le_trans (Jvm.OwnK.Old_le O) (Nat.le_of_eq s_b52)
      have sz_b52 : h0.size ≤ b52 := Nat.le_trans KP.1 (Nat.le_of_eq s_b52)
      replace O := O.ext E52
      replace KP := KP.ext E52
      replace S_CS := S_CS.ext E52
      replace A_b39 := A_b39.ext E52
      have F_b52_value : Fld Z h52 b52 "java/lang/String" "value" "[B" .null := D52 (Or.inr (w20 hw)) (ty := (.array .byte)) (by decide)
      have F_b52_coder : Fld Z h52 b52 "java/lang/String" "coder" "B" (.int (0 : Int32)) := D52 (Or.inr (w21 hw)) (ty := .byte) (by decide)
      refine k_dup G X d1_55 (pc' := 56) rfl rfl ?_
      refine k_aloadN G X d1_56 (pc' := 57) rfl rfl rfl ?_
      refine k_callI G X (argsL := [(.ref b39)]) (rest := [(.ref b52)]) rfl rfl (w8 hw) (w9 hw) (w6 hw) (w10 hw) (by decide) (str_init hw b52 b39 k39 2 (2 : Int32) cs (own2 ca cb) h52 n0 _ rfl (by decide) (by decide) X_b52 F_b52_value F_b52_coder (A_b39.congr fun i hi => by rcases (by omega : i = 0 ∨ i = 1) with rfl | rfl <;> rfl) (Ne.symm ne_b39_b52) ⟨ge_b52, (List.mem_of_getElem? (i := 0) rfl)⟩ O S_CS hcs (fun i _ => own2_rng r0 r1 i)) d1_57 pd11 rfl (pc' := 60) rfl rfl (wd := 1) rfl (by decide) (by decide) (by decide) (by decide) (fun T h57 v sf57 X q => ?_)
      replace X := W.drop X
      obtain ⟨rfl, K57, bb, kb, sz_bb, SS⟩ := q
      replace S_CS := Sta_keepL S_CS K57 (allS (Pln_exa X_b52) (all0))
      replace O := O.keep K57 (allS ge_b52 (all0))
      replace KP := KP.trans K57 (allS (Or.inr sz_b52) (all0))
      replace A_b39 := A_b39.keep K57 (by simp only [List.mem_cons, List.not_mem_nil, or_false, not_or]; exact ne_b39_b52)
      replace X_b52 := X_b52.keep K57
      show Go Γ n0 _ T (mkF Γ.m 60 #[.val (.int zl), .val (.int ca), .val (.int cb), .val (.ref b39)] [(.ref b52)])
      refine k_reta G X d1_60 (t := (.object "java/lang/String")) rfl rfl rfl ?_ (by decide) (by decide)
      obtain rfl : n = 2 := by have h1 : zl.toInt ≠ 0 := fun q => c1 (of_toInt q); have h2 : zl.toInt ≠ 1 := fun q => c17 (of_toInt q); omega
      exact ⟨b52, bb, kb, rfl, sz_b52, KP, SS⟩
    · refine k_iconst G X d1_20 (pc' := 21) rfl (z := (1 : Int32)) (by decide) ?_
      refine k_newP G X (aty := .char) (n := 1) (cap := 1) (w7 hw) d1_21 (pc' := 23) rfl rfl (by decide) (by decide) (by decide) (by decide) (fun T h21 b21 k21 s_b21 E21 A_b21 X => ?_)
      have ge_b21 : n0 ≤ b21 := Nat.le_trans (Jvm.OwnK.Old_le O) (Nat.le_of_eq s_b21)
      have sz_b21 : h0.size ≤ b21 := Nat.le_trans KP.1 (Nat.le_of_eq s_b21)
      replace O := O.ext E21
      replace KP := KP.ext E21
      replace S_CS := S_CS.ext E21
      replace A_b21 : Arf Z h21 b21 k21 .char 1 (fun _ => (.int (0 : Int32))) := A_b21
      refine k_astoreN G X d1_23 (pc' := 24) rfl rfl (l' := #[.val (.int zl), .val (.int ca), .val (.int cb), .val (.ref b21)]) rfl ?_
      refine k_aloadN G X d1_24 (pc' := 25) rfl rfl rfl ?_
      refine k_iconst G X d1_25 (pc' := 26) rfl (z := (0 : Int32)) (by decide) ?_
      refine k_iloadN G X d1_26 (pc' := 27) rfl rfl ?_
      refine k_i2c G X d1_27 (pc' := 28) rfl rfl ?_
      rw [i2c_id r0]
      refine k_castore G X (i := 0) (z := ca) A_b21 rfl (by decide) (nar_char r0) ge_b21 (List.mem_of_getElem? (i := 0) rfl) d1_28 (pc' := 29) rfl (fun T h28 W28 A_b21 X => ?_)
      replace O := O.wr W28 ge_b21
      replace KP := KP.wr W28 (Or.inr sz_b21)
      replace S_CS := S_CS.wr W28
      refine k_new G X (w4 hw) (w5 hw) (w6 hw) d1_29 (pc' := 32) rfl (by decide) (by decide) (fun T h29 b29 s_b29 E29 X_b29 D29 X => ?_)
      have ne_b21_b29 : b21 ≠ b29 := Nat.ne_of_lt (Nat.lt_of_lt_of_eq A_b21.lt s_b29)
      have ge_b29 : n0 ≤ b29 := Nat.le_trans (Jvm.OwnK.Old_le O) (Nat.le_of_eq s_b29)
      have sz_b29 : h0.size ≤ b29 := Nat.le_trans KP.1 (Nat.le_of_eq s_b29)
      replace O := O.ext E29
      replace KP := KP.ext E29
      replace S_CS := S_CS.ext E29
      replace A_b21 := A_b21.ext E29
      have F_b29_value : Fld Z h29 b29 "java/lang/String" "value" "[B" .null := D29 (Or.inr (w20 hw)) (ty := (.array .byte)) (by decide)
      have F_b29_coder : Fld Z h29 b29 "java/lang/String" "coder" "B" (.int (0 : Int32)) := D29 (Or.inr (w21 hw)) (ty := .byte) (by decide)
      refine k_dup G X d1_32 (pc' := 33) rfl rfl ?_
      refine k_aloadN G X d1_33 (pc' := 34) rfl rfl rfl ?_
      refine k_callI G X (argsL := [(.ref b21)]) (rest := [(.ref b29)]) rfl rfl (w8 hw) (w9 hw) (w6 hw) (w10 hw) (by decide) (str_init hw b29 b21 k21 1 (1 : Int32) cs (own2 ca cb) h29 n0 _ rfl (by decide) (by decide) X_b29 F_b29_value F_b29_coder (A_b21.congr fun i hi => by rw [show i = 0 by omega]; rfl) (Ne.symm ne_b21_b29) ⟨ge_b29, (List.mem_of_getElem? (i := 0) rfl)⟩ O S_CS hcs (fun i _ => own2_rng r0 r1 i)) d1_34 pd11 rfl (pc' := 37) rfl rfl (wd := 1) rfl (by decide) (by decide) (by decide) (by decide) (fun T h34 v sf34 X q => ?_)
      replace X := W.drop X
      obtain ⟨rfl, K34, bb, kb, sz_bb, SS⟩ := q
      replace S_CS := Sta_keepL S_CS K34 (allS (Pln_exa X_b29) (all0))
      replace O := O.keep K34 (allS ge_b29 (all0))
      replace KP := KP.trans K34 (allS (Or.inr sz_b29) (all0))
      replace A_b21 := A_b21.keep K34 (by simp only [List.mem_cons, List.not_mem_nil, or_false, not_or]; exact ne_b21_b29)
      replace X_b29 := X_b29.keep K34
      show Go Γ n0 _ T (mkF Γ.m 37 #[.val (.int zl), .val (.int ca), .val (.int cb), .val (.ref b21)] [(.ref b29)])
      refine k_reta G X d1_37 (t := (.object "java/lang/String")) rfl rfl rfl ?_ (by decide) (by decide)
      obtain rfl : n = 1 := by have := congrArg Int32.toInt c17; rw [show (1 : Int32).toInt = 1 from rfl] at this; omega
      exact ⟨b29, bb, kb, rfl, sz_b29, KP, SS⟩
  · refine k_new G X (w4 hw) (w5 hw) (w6 hw) d1_4 (pc' := 7) rfl (by decide) (by decide) (fun T h4 b4 s_b4 E4 X_b4 D4 X => ?_)
    have ge_b4 : n0 ≤ b4 := Nat.le_trans (Jvm.OwnK.Old_le O) (Nat.le_of_eq s_b4)
    have sz_b4 : h0.size ≤ b4 := Nat.le_trans KP.1 (Nat.le_of_eq s_b4)
    replace O := O.ext E4
    replace KP := KP.ext E4
    replace S_CS := S_CS.ext E4
    have F_b4_value : Fld Z h4 b4 "java/lang/String" "value" "[B" .null := D4 (Or.inr (w20 hw)) (ty := (.array .byte)) (by decide)
    have F_b4_coder : Fld Z h4 b4 "java/lang/String" "coder" "B" (.int (0 : Int32)) := D4 (Or.inr (w21 hw)) (ty := .byte) (by decide)
    refine k_dup G X d1_7 (pc' := 8) rfl rfl ?_
    refine k_iconst G X d1_8 (pc' := 9) rfl (z := (0 : Int32)) (by decide) ?_
    refine k_newP G X (aty := .char) (n := 0) (cap := 0) (w7 hw) d1_9 (pc' := 11) rfl rfl (by decide) (by decide) (by decide) (by decide) (fun T h9 b9 k9 s_b9 E9 A_b9 X => ?_)
    have ne_b4_b9 : b4 ≠ b9 := Nat.ne_of_lt (Nat.lt_of_lt_of_eq X_b4.lt s_b9)
    have ge_b9 : n0 ≤ b9 := Nat.le_trans (Jvm.OwnK.Old_le O) (Nat.le_of_eq s_b9)
    have sz_b9 : h0.size ≤ b9 := Nat.le_trans KP.1 (Nat.le_of_eq s_b9)
    replace O := O.ext E9
    replace KP := KP.ext E9
    replace S_CS := S_CS.ext E9
    replace X_b4 := X_b4.ext E9
    replace F_b4_value := F_b4_value.ext E9
    replace F_b4_coder := F_b4_coder.ext E9
    replace A_b9 : Arf Z h9 b9 k9 .char 0 (fun _ => (.int (0 : Int32))) := A_b9
    refine k_callI G X (argsL := [(.ref b9)]) (rest := [(.ref b4)]) rfl rfl (w8 hw) (w9 hw) (w6 hw) (w10 hw) (by decide) (str_e hw b4 b9 k9 _ h9 n0 _ X_b4 F_b4_value F_b4_coder ⟨ge_b4, (List.mem_of_getElem? (i := 1) rfl)⟩ A_b9) d1_11 pd11 rfl (pc' := 14) rfl rfl (wd := 1) rfl (by decide) (by decide) (by decide) (by decide) (fun T h11 v sf11 X q => ?_)
    replace X := W.drop X
    obtain ⟨rfl, K11, bb, kb, SS⟩ := q
    replace S_CS := Sta_keepL S_CS K11 (allS (Pln_exa X_b4) (all0))
    replace O := O.keep K11 (allS ge_b4 (all0))
    replace KP := KP.trans K11 (allS (Or.inr sz_b4) (all0))
    replace X_b4 := X_b4.keep K11
    replace A_b9 := A_b9.keep K11 (by simp only [List.mem_cons, List.not_mem_nil, or_false, not_or]; exact (Ne.symm ne_b4_b9))
    show Go Γ n0 _ T (mkF Γ.m 14 #[.val (.int zl), .val (.int ca), .val (.int cb), .unset] [(.ref b4)])
    refine k_reta G X d1_14 (t := (.object "java/lang/String")) rfl rfl rfl ?_ (by decide) (by decide)
    obtain rfl : n = 0 := by have := congrArg Int32.toInt c1; rw [show (0 : Int32).toInt = 0 from rfl] at this; omega
    exact ⟨b4, bb, kb, rfl, sz_b4, KP, SS.1, SS.2.1, SS.2.2.1, SS.2.2.2.congr fun i hi => absurd hi (Nat.not_lt_zero _)⟩
theorem pn_15 : plainFor (⟨"java/lang/Record", "<init>", "()V"⟩ : MethodName) = true := plainFor_of_name (by first | (simp [plainName, overriddenIn]; done) | decide +kernel)
set_option maxRecDepth 65536 in
set_option maxHeartbeats 40000000 in
theorem rec_i {Z : State} {a0 : Array Value} (hw : HW a0 Z) (a : Addr) (h0 : Heap) (n0 : Nat) (sf0 : List Addr) :
    MetW Z consts_1 sf0 (⟨"java/lang/Record", "<init>", "()V"⟩ : MethodName) jdk_30_method_1_code 1 none [] ({ frames := 1, cells := 0, slots := 0, locals := 12 } : Room) #[(.ref a)] h0 n0 (fun v h sf => v = none ∧ h = h0) := by
  refine k_body (hEW hw) (f := (fun m => mkF m 0 #[.val (.ref a)] [])) pn_15 (fun m => by first | (simp [entryFrame, mkF, argsToLocals, Value.category, maxLocals]; done) | rfl) ?_
  intro Γ T G X
  show Go Γ n0 _ T (mkF Γ.m 0 #[.val (.ref a)] [])
  refine k_aloadN G X d15_0 (pc' := 1) rfl rfl rfl ?_
  refine k_initO G X (w99 hw) (w16 hw) (w17 hw) d15_1 (pc' := 4) rfl rfl (by decide) (wd := 0) rfl (by decide) (fun T X => ?_)
  refine k_retv G X d15_4 rfl ?_ (by decide) (by decide)
  exact ⟨rfl, rfl⟩
theorem pn_14 : plainFor (⟨"com/example/shadowhex/shadowhex/Corner", "<init>", "(Ljava/lang/String;IILjava/util/List;)V"⟩ : MethodName) = true := plainFor_of_name (by first | (simp [plainName, overriddenIn]; done) | decide +kernel)
set_option maxRecDepth 65536 in
set_option maxHeartbeats 40000000 in
theorem co_init {Z : State} {a0 : Array Value} (hw : HW a0 Z) (o s : Addr) (x y : Int32) (l : Addr) (h0 : Heap) (n0 : Nat) (sf0 : List Addr) (gm_o : n0 ≤ o ∧ o ∈ sf0) (E : Exa Z h0 o "com/example/shadowhex/shadowhex/Corner") (F_name : Fld Z h0 o "com/example/shadowhex/shadowhex/Corner" "name" "Ljava/lang/String;" .null) (F_x : Fld Z h0 o "com/example/shadowhex/shadowhex/Corner" "x" "I" (.int (0 : Int32))) (F_y : Fld Z h0 o "com/example/shadowhex/shadowhex/Corner" "y" "I" (.int (0 : Int32))) (F_hexes : Fld Z h0 o "com/example/shadowhex/shadowhex/Corner" "hexes" "Ljava/util/List;" .null) :
    MetW Z consts_1 sf0 (⟨"com/example/shadowhex/shadowhex/Corner", "<init>", "(Ljava/lang/String;IILjava/util/List;)V"⟩ : MethodName) prog_7_method_1_code 5 none [] ({ frames := 2, cells := 0, slots := 0, locals := 24 } : Room) #[(.ref o), (.ref s), (.int x), (.int y), (.ref l)] h0 n0 (fun v h sf => v = none ∧ Keep h0 h [o] ∧ Exa Z h o "com/example/shadowhex/shadowhex/Corner" ∧ Fld Z h o "com/example/shadowhex/shadowhex/Corner" "name" "Ljava/lang/String;" (.ref s)) := by
  refine k_body (hEW hw) (f := (fun m => mkF m 0 #[.val (.ref o), .val (.ref s), .val (.int x), .val (.int y), .val (.ref l)] [])) pn_14 (fun m => by first | (simp [entryFrame, mkF, argsToLocals, Value.category, maxLocals]; done) | rfl) ?_
  intro Γ T G X
  have ge_o := gm_o.1
  have KP := Keep.refl h0 [o]
  show Go Γ n0 _ T (mkF Γ.m 0 #[.val (.ref o), .val (.ref s), .val (.int x), .val (.int y), .val (.ref l)] [])
  refine k_aloadN G X d14_0 (pc' := 1) rfl rfl rfl ?_
  refine k_callI G X (argsL := []) (rest := []) rfl rfl (w94 hw) (w95 hw) (w97 hw) (w98 hw) (by decide) (rec_i hw o h0 n0 _) d14_1 pd5 rfl (pc' := 4) rfl rfl (wd := 0) rfl (by decide) (by decide) (by decide) (by decide) (fun T h1 v sf1 X q => ?_)
  replace X := W.drop X
  obtain ⟨rfl, e1⟩ := q
  replace X := X.eq e1
  show Go Γ n0 _ T (mkF Γ.m 4 #[.val (.ref o), .val (.ref s), .val (.int x), .val (.int y), .val (.ref l)] [])
  refine k_aloadN G X d14_4 (pc' := 5) rfl rfl rfl ?_
  refine k_aloadN G X d14_5 (pc' := 6) rfl rfl rfl ?_
  refine k_putF G X (host := "") (Or.inl (w100 hw)) Via.refl F_name E (Or.inr ⟨(w101 hw), rfl, rfl⟩) (w89 hw) (ty := (.object "java/lang/String")) (by decide) rfl rfl ge_o (List.mem_append_right [] gm_o.2) d14_6 (pc' := 9) rfl (fun T h6 W6 X => ?_)
  replace E := E.wr W6
  replace KP := KP.wr W6 (Or.inl (List.mem_of_getElem? (i := 0) rfl))
  replace F_name := F_name.same W6
  replace F_x := F_x.other W6 (Or.inr (slot_ne (Or.inr (w103 hw)) (Or.inr (w101 hw)) (by decide) (t := .int) (t' := (.object "java/lang/String")) (by decide) (by decide)))
  replace F_y := F_y.other W6 (Or.inr (slot_ne (Or.inr (w105 hw)) (Or.inr (w101 hw)) (by decide) (t := .int) (t' := (.object "java/lang/String")) (by decide) (by decide)))
  replace F_hexes := F_hexes.other W6 (Or.inr (slot_ne (Or.inr (w107 hw)) (Or.inr (w101 hw)) (by decide) (t := (.object "java/util/List")) (t' := (.object "java/lang/String")) (by decide) (by decide)))
  refine k_aloadN G X d14_9 (pc' := 10) rfl rfl rfl ?_
  refine k_iloadN G X d14_10 (pc' := 11) rfl rfl ?_
  refine k_putF G X (host := "") (Or.inl (w102 hw)) Via.refl F_x E (Or.inr ⟨(w103 hw), rfl, rfl⟩) (w89 hw) (ty := .int) (by decide) rfl rfl ge_o (List.mem_append_right [] gm_o.2) d14_11 (pc' := 14) rfl (fun T h11 W11 X => ?_)
  replace E := E.wr W11
  replace KP := KP.wr W11 (Or.inl (List.mem_of_getElem? (i := 0) rfl))
  replace F_name := F_name.other W11 (Or.inr (slot_ne (Or.inr (w101 hw)) (Or.inr (w103 hw)) (by decide) (t := (.object "java/lang/String")) (t' := .int) (by decide) (by decide)))
  replace F_x := F_x.same W11
  replace F_y := F_y.other W11 (Or.inr (slot_ne (Or.inr (w105 hw)) (Or.inr (w103 hw)) (by decide) (t := .int) (t' := .int) (by decide) (by decide)))
  replace F_hexes := F_hexes.other W11 (Or.inr (slot_ne (Or.inr (w107 hw)) (Or.inr (w103 hw)) (by decide) (t := (.object "java/util/List")) (t' := .int) (by decide) (by decide)))
  refine k_aloadN G X d14_14 (pc' := 15) rfl rfl rfl ?_
  refine k_iloadN G X d14_15 (pc' := 16) rfl rfl ?_
  refine k_putF G X (host := "") (Or.inl (w104 hw)) Via.refl F_y E (Or.inr ⟨(w105 hw), rfl, rfl⟩) (w89 hw) (ty := .int) (by decide) rfl rfl ge_o (List.mem_append_right [] gm_o.2) d14_16 (pc' := 19) rfl (fun T h16 W16 X => ?_)
  replace E := E.wr W16
  replace KP := KP.wr W16 (Or.inl (List.mem_of_getElem? (i := 0) rfl))
  replace F_name := F_name.other W16 (Or.inr (slot_ne (Or.inr (w101 hw)) (Or.inr (w105 hw)) (by decide) (t := (.object "java/lang/String")) (t' := .int) (by decide) (by decide)))
  replace F_y := F_y.same W16
  replace F_hexes := F_hexes.other W16 (Or.inr (slot_ne (Or.inr (w107 hw)) (Or.inr (w105 hw)) (by decide) (t := (.object "java/util/List")) (t' := .int) (by decide) (by decide)))
  refine k_aloadN G X d14_19 (pc' := 20) rfl rfl rfl ?_
  refine k_aload G X d14_20 (pc' := 22) rfl rfl rfl ?_
  refine k_putF G X (host := "") (Or.inl (w106 hw)) Via.refl F_hexes E (Or.inr ⟨(w107 hw), rfl, rfl⟩) (w89 hw) (ty := (.object "java/util/List")) (by decide) rfl rfl ge_o (List.mem_append_right [] gm_o.2) d14_22 (pc' := 25) rfl (fun T h22 W22 X => ?_)
  replace E := E.wr W22
  replace KP := KP.wr W22 (Or.inl (List.mem_of_getElem? (i := 0) rfl))
  replace F_name := F_name.other W22 (Or.inr (slot_ne (Or.inr (w101 hw)) (Or.inr (w107 hw)) (by decide) (t := (.object "java/lang/String")) (t' := (.object "java/util/List")) (by decide) (by decide)))
  replace F_hexes := F_hexes.same W22
  refine k_retv G X d14_25 rfl ?_ (by decide) (by decide)
  exact ⟨rfl, KP, E, F_name⟩
theorem pn_16 : plainFor (⟨"com/example/shadowhex/shadowhex/Corner", "equals", "(Ljava/lang/Object;)Z"⟩ : MethodName) = true := plainFor_of_name (by first | (simp [plainName, overriddenIn]; done) | decide +kernel)
set_option maxRecDepth 65536 in
set_option maxHeartbeats 40000000 in
theorem co_q {Z : State} {a0 : Array Value} (hw : HW a0 Z) (p q s t b b' : Addr) (k k' : ClassId) (n m : Nat) (cs : Int32) (f g : Nat → Int32) (h0 : Heap) (n0 : Nat) (sf0 : List Addr) (FP : Fld Z h0 p "com/example/shadowhex/shadowhex/Corner" "name" "Ljava/lang/String;" (.ref s)) (EQ : Exa Z h0 q "com/example/shadowhex/shadowhex/Corner") (FQ : Fld Z h0 q "com/example/shadowhex/shadowhex/Corner" "name" "Ljava/lang/String;" (.ref t)) (SS : Str Z h0 s b k n f) (TT : Str Z h0 t b' k' m g) (ne_s_t : s ≠ t) (S_CS : Sta Z h0 "java/lang/String" "COMPACT_STRINGS" "Z" (.int cs)) (hcs : cs ≠ 0) :
    MetW Z consts_1 sf0 (⟨"com/example/shadowhex/shadowhex/Corner", "equals", "(Ljava/lang/Object;)Z"⟩ : MethodName) prog_7_method_3_code 3 (some .boolean) [] ({ frames := 2, cells := 0, slots := 0, locals := 28 } : Room) #[(.ref p), (.ref q)] h0 n0 (fun v h sf => ∃ r : Int32, v = some (.int r) ∧ (r = 0 ∨ r = 1) ∧ (r = 1 ↔ n = m ∧ ∀ i, i < n → f i = g i) ∧ h = h0) := by
  refine k_body (hEW hw) (f := (fun m => mkF m 0 #[.val (.ref p), .val (.ref q), .unset] [])) pn_16 (fun m => by first | (simp [entryFrame, mkF, argsToLocals, Value.category, maxLocals]; done) | rfl) ?_
  intro Γ T G X
  have SE := SS.1
  show Go Γ n0 _ T (mkF Γ.m 0 #[.val (.ref p), .val (.ref q), .unset] [])
  refine k_aloadN G X d16_0 (pc' := 1) rfl rfl rfl ?_
  refine k_instY G X (w113 hw) (Ins.self EQ) d16_1 (pc' := 4) rfl (fun T X => ?_)
  refine k_if_eq G X d16_4 (pc' := 30) rfl (by decide) (pc'' := 7) rfl (fun c4 => (absurd c4 (by decide))) (fun c4 => ?_)
  refine k_aloadN G X d16_7 (pc' := 8) rfl rfl rfl ?_
  refine k_castY G X (w113 hw) (Ins.self EQ) d16_8 (pc' := 11) rfl (fun T X => ?_)
  refine k_astoreN G X d16_11 (pc' := 12) rfl rfl (l' := #[.val (.ref p), .val (.ref q), .val (.ref q)]) rfl ?_
  refine k_aloadN G X d16_12 (pc' := 13) rfl rfl rfl ?_
  refine k_getF G X (host := "") (Or.inl (w100 hw)) Via.refl FP d16_13 (pc' := 16) rfl (fun T X => ?_)
  refine k_aloadN G X d16_16 (pc' := 17) rfl rfl rfl ?_
  refine k_getF G X (host := "") (Or.inl (w100 hw)) Via.refl FQ d16_17 (pc' := 20) rfl (fun T X => ?_)
  refine k_callV G X (argsL := [(.ref t)]) (rest := []) rfl SE (w115 hw) (w116 hw) (nf_sel (w118 hw)) (w118 hw) (w117 hw) (w6 hw) (w119 hw) (by decide) (str_eq hw s t b b' k k' n m cs f g h0 n0 _ SS TT ne_s_t S_CS hcs) d16_20 pd12 rfl (pc' := 23) rfl rfl (wd := 0) rfl (by decide) (by decide) (by decide) (by decide) (fun T h20 v sf20 X q => ?_)
  replace X := W.drop X
  obtain ⟨r, rfl, hr, hi, e20⟩ := q
  replace X := X.eq e20
  show Go Γ n0 _ T (mkF Γ.m 23 #[.val (.ref p), .val (.ref q), .val (.ref q)] [(.int r)])
  refine k_if_eq G X d16_23 (pc' := 30) rfl (by decide) (pc'' := 26) rfl (fun c23 => ?_) (fun c23 => ?_)
  · refine k_iconst G X d16_30 (pc' := 31) rfl (z := (0 : Int32)) (by decide) ?_
    refine k_retb G X d16_31 (t := .boolean) rfl (by simp) rfl ?_ (by decide) (by decide)
    exact ⟨_, rfl, Or.inl rfl, by rw [← hi]; rcases hr with rfl | rfl <;> simp_all, rfl⟩
  · refine k_iconst G X d16_26 (pc' := 27) rfl (z := (1 : Int32)) (by decide) ?_
    refine k_goto G X d16_27 (by decide) (pc' := 31) rfl ?_
    refine k_retb G X d16_31 (t := .boolean) rfl (by simp) rfl ?_ (by decide) (by decide)
    exact ⟨_, rfl, Or.inr rfl, by rw [← hi]; rcases hr with rfl | rfl <;> simp_all, rfl⟩
set_option maxRecDepth 65536 in
set_option maxHeartbeats 40000000 in
theorem co_s {Z : State} {a0 : Array Value} (hw : HW a0 Z) (p s : Addr) (h0 : Heap) (n0 : Nat) (sf0 : List Addr) (EP : Exa Z h0 p "com/example/shadowhex/shadowhex/Corner") (FP : Fld Z h0 p "com/example/shadowhex/shadowhex/Corner" "name" "Ljava/lang/String;" (.ref s)) (SE : Exa Z h0 s "java/lang/String") :
    MetW Z consts_1 sf0 (⟨"com/example/shadowhex/shadowhex/Corner", "equals", "(Ljava/lang/Object;)Z"⟩ : MethodName) prog_7_method_3_code 3 (some .boolean) [] ({ frames := 1, cells := 0, slots := 0, locals := 14 } : Room) #[(.ref p), (.ref p)] h0 n0 (fun v h sf => v = some (.int 1) ∧ h = h0) := by
  refine k_body (hEW hw) (f := (fun m => mkF m 0 #[.val (.ref p), .val (.ref p), .unset] [])) pn_16 (fun m => by first | (simp [entryFrame, mkF, argsToLocals, Value.category, maxLocals]; done) | rfl) ?_
  intro Γ T G X
  show Go Γ n0 _ T (mkF Γ.m 0 #[.val (.ref p), .val (.ref p), .unset] [])
  refine k_aloadN G X d16_0 (pc' := 1) rfl rfl rfl ?_
  refine k_instY G X (w113 hw) (Ins.self EP) d16_1 (pc' := 4) rfl (fun T X => ?_)
  refine k_if_eq G X d16_4 (pc' := 30) rfl (by decide) (pc'' := 7) rfl (fun c4 => (absurd c4 (by decide))) (fun c4 => ?_)
  refine k_aloadN G X d16_7 (pc' := 8) rfl rfl rfl ?_
  refine k_castY G X (w113 hw) (Ins.self EP) d16_8 (pc' := 11) rfl (fun T X => ?_)
  refine k_astoreN G X d16_11 (pc' := 12) rfl rfl (l' := #[.val (.ref p), .val (.ref p), .val (.ref p)]) rfl ?_
  refine k_aloadN G X d16_12 (pc' := 13) rfl rfl rfl ?_
  refine k_getF G X (host := "") (Or.inl (w100 hw)) Via.refl FP d16_13 (pc' := 16) rfl (fun T X => ?_)
  refine k_aloadN G X d16_16 (pc' := 17) rfl rfl rfl ?_
  refine k_getF G X (host := "") (Or.inl (w100 hw)) Via.refl FP d16_17 (pc' := 20) rfl (fun T X => ?_)
  refine k_callV G X (argsL := [(.ref s)]) (rest := []) rfl SE (w115 hw) (w116 hw) (nf_sel (w118 hw)) (w118 hw) (w117 hw) (w6 hw) (w119 hw) (by decide) (str_eqs hw s h0 n0 _) d16_20 pd12 rfl (pc' := 23) rfl rfl (wd := 0) rfl (by decide) (by decide) (by decide) (by decide) (fun T h20 v sf20 X q => ?_)
  replace X := W.drop X
  obtain ⟨rfl, e20⟩ := q
  replace X := X.eq e20
  show Go Γ n0 _ T (mkF Γ.m 23 #[.val (.ref p), .val (.ref p), .val (.ref p)] [(.int (1 : Int32))])
  refine k_if_eq G X d16_23 (pc' := 30) rfl (by decide) (pc'' := 26) rfl (fun c23 => (absurd c23 (by decide))) (fun c23 => ?_)
  refine k_iconst G X d16_26 (pc' := 27) rfl (z := (1 : Int32)) (by decide) ?_
  refine k_goto G X d16_27 (by decide) (pc' := 31) rfl ?_
  refine k_retb G X d16_31 (t := .boolean) rfl (by simp) rfl ?_ (by decide) (by decide)
  exact ⟨rfl, rfl⟩
set_option maxRecDepth 65536 in
set_option maxHeartbeats 40000000 in
theorem co_n {Z : State} {a0 : Array Value} (hw : HW a0 Z) (p : Addr) (h0 : Heap) (n0 : Nat) (sf0 : List Addr) :
    MetW Z consts_1 sf0 (⟨"com/example/shadowhex/shadowhex/Corner", "equals", "(Ljava/lang/Object;)Z"⟩ : MethodName) prog_7_method_3_code 3 (some .boolean) [] ({ frames := 0, cells := 0, slots := 0, locals := 0 } : Room) #[(.ref p), .null] h0 n0 (fun v h sf => v = some (.int 0) ∧ h = h0) := by
  refine k_body (hEW hw) (f := (fun m => mkF m 0 #[.val (.ref p), .val .null, .unset] [])) pn_16 (fun m => by first | (simp [entryFrame, mkF, argsToLocals, Value.category, maxLocals]; done) | rfl) ?_
  intro Γ T G X
  show Go Γ n0 _ T (mkF Γ.m 0 #[.val (.ref p), .val .null, .unset] [])
  refine k_aloadN G X d16_0 (pc' := 1) rfl rfl rfl ?_
  refine k_instNull G X d16_1 (pc' := 4) rfl ?_
  refine k_if_eq G X d16_4 (pc' := 30) rfl (by decide) (pc'' := 7) rfl (fun c4 => ?_) (fun c4 => (absurd c4 (by decide)))
  refine k_iconst G X d16_30 (pc' := 31) rfl (z := (0 : Int32)) (by decide) ?_
  refine k_retb G X d16_31 (t := .boolean) rfl (by simp) rfl ?_ (by decide) (by decide)
  exact ⟨rfl, rfl⟩
set_option maxRecDepth 65536 in
set_option maxHeartbeats 40000000 in
theorem co_x {Z : State} {a0 : Array Value} (hw : HW a0 Z) (p x : Addr) (h0 : Heap) (n0 : Nat) (sf0 : List Addr) (EX : Exa Z h0 x "java/lang/String") :
    MetW Z consts_1 sf0 (⟨"com/example/shadowhex/shadowhex/Corner", "equals", "(Ljava/lang/Object;)Z"⟩ : MethodName) prog_7_method_3_code 3 (some .boolean) [] ({ frames := 0, cells := 0, slots := 0, locals := 0 } : Room) #[(.ref p), (.ref x)] h0 n0 (fun v h sf => v = some (.int 0) ∧ h = h0) := by
  refine k_body (hEW hw) (f := (fun m => mkF m 0 #[.val (.ref p), .val (.ref x), .unset] [])) pn_16 (fun m => by first | (simp [entryFrame, mkF, argsToLocals, Value.category, maxLocals]; done) | rfl) ?_
  intro Γ T G X
  show Go Γ n0 _ T (mkF Γ.m 0 #[.val (.ref p), .val (.ref x), .unset] [])
  refine k_aloadN G X d16_0 (pc' := 1) rfl rfl rfl ?_
  refine k_instNo G X (w113 hw) EX (noInst (w126 hw) (w127 hw) (w89 hw) (by decide) (by decide)) d16_1 (pc' := 4) rfl (fun T X => ?_)
  refine k_if_eq G X d16_4 (pc' := 30) rfl (by decide) (pc'' := 7) rfl (fun c4 => ?_) (fun c4 => (absurd c4 (by decide)))
  refine k_iconst G X d16_30 (pc' := 31) rfl (z := (0 : Int32)) (by decide) ?_
  refine k_retb G X d16_31 (t := .boolean) rfl (by simp) rfl ?_ (by decide) (by decide)
  exact ⟨rfl, rfl⟩
theorem pn_0 : plainFor (⟨"com/example/shadowhex/shadowhex/CornerEqualsPinLaw", "law", "(IIIIII)Z"⟩ : MethodName) = true := plainFor_of_name (by first | (simp [plainName, overriddenIn]; done) | decide +kernel)
set_option maxRecDepth 65536 in
set_option maxHeartbeats 40000000 in
theorem rm0 {Z : State} {a0 : Array Value} (hw : HW a0 Z) (p0 p1 p2 p3 p4 p5 cs : Int32) (aD aC : Addr) (kD kC : ClassId) (gC : Nat → Addr) (h0 : Heap) (n0 : Nat) (O : Old Z n0 h0) (S_CS : Sta Z h0 "java/lang/String" "COMPACT_STRINGS" "Z" (.int cs)) (hcs : cs ≠ 0) (S_D : Sta Z h0 "java/util/ArrayList" "DEFAULTCAPACITY_EMPTY_ELEMENTDATA" "[Ljava/lang/Object;" (.ref aD)) (AD : Arf Z h0 aD kD (.object "java/lang/Object") 0 (fun _ => .null)) (IH : Ich Z aC kC gC) :
    MetW Z consts_1 [] x code maxLocals ret tables_1 room_1 #[(.int p0), (.int p1), (.int p2), (.int p3), (.int p4), (.int p5)] h0 n0 (fun v h sf => v = some (.int 1)) := by
  refine k_body (hEW hw) (f := (fun m => mkF m 0 #[.val (.int p0), .val (.int p1), .val (.int p2), .val (.int p3), .val (.int p4), .val (.int p5), .unset, .unset, .unset, .unset, .unset, .unset, .unset, .unset, .unset, .unset, .unset, .unset, .unset, .unset] [])) pn_0 (fun m => by first | (simp [entryFrame, mkF, argsToLocals, Value.category, maxLocals]; done) | rfl) ?_
  intro Γ T G X
  show Go Γ n0 _ T (mkF Γ.m 0 #[.val (.int p0), .val (.int p1), .val (.int p2), .val (.int p3), .val (.int p4), .val (.int p5), .unset, .unset, .unset, .unset, .unset, .unset, .unset, .unset, .unset, .unset, .unset, .unset, .unset, .unset] [])
  refine k_iloadN G X at_0 (pc' := 1) rfl rfl ?_
  refine k_iconst G X at_1 (pc' := 2) rfl (z := (3 : Int32)) (by decide) ?_
  refine k_iand G X at_2 (pc' := 3) rfl rfl ?_
  refine k_iconst G X at_3 (pc' := 4) rfl (z := (3 : Int32)) (by decide) ?_
  refine k_irem G X at_4 (pc' := 5) rfl (by decide) rfl ?_
  obtain ⟨l1, q_l1⟩ : ∃ z, ((p0 &&& (3 : Int32)) % (3 : Int32)) = z := ⟨_, rfl⟩
  have t_l1 := rem_rng (p0 &&& (3 : Int32)) (y := 3) 3 rfl (by decide) (and_rng _ 3 rfl (by decide)).1
  rw [q_l1] at t_l1 ⊢
  refine k_istore G X at_5 (pc' := 7) rfl (l' := #[.val (.int p0), .val (.int p1), .val (.int p2), .val (.int p3), .val (.int p4), .val (.int p5), .val (.int l1), .unset, .unset, .unset, .unset, .unset, .unset, .unset, .unset, .unset, .unset, .unset, .unset, .unset]) rfl ?_
  refine k_iloadN G X at_7 (pc' := 8) rfl rfl ?_
  refine k_iconst G X at_8 (pc' := 9) rfl (z := (2 : Int32)) (by decide) ?_
  refine k_iushr G X at_9 (pc' := 10) rfl rfl ?_
  refine k_sipush G X at_10 (pc' := 13) rfl (z := (255 : Int32)) (by decide) ?_
  refine k_iand G X at_13 (pc' := 14) rfl rfl ?_
  obtain ⟨c0, q_c0⟩ : ∃ z, (((p0.toUInt32 >>> ((2 : Int32) &&& 31).toUInt32).toInt32) &&& (255 : Int32)) = z := ⟨_, rfl⟩
  have t_c0 := and_rng ((p0.toUInt32 >>> ((2 : Int32) &&& 31).toUInt32).toInt32) (m := 255) 255 rfl (by decide)
  rw [q_c0] at t_c0 ⊢
  refine k_istore G X at_14 (pc' := 16) rfl (l' := #[.val (.int p0), .val (.int p1), .val (.int p2), .val (.int p3), .val (.int p4), .val (.int p5), .val (.int l1), .val (.int c0), .unset, .unset, .unset, .unset, .unset, .unset, .unset, .unset, .unset, .unset, .unset, .unset]) rfl ?_
  refine k_iloadN G X at_16 (pc' := 17) rfl rfl ?_
  refine k_bipush G X at_17 (pc' := 19) rfl (z := (10 : Int32)) (by decide) ?_
  refine k_iushr G X at_19 (pc' := 20) rfl rfl ?_
  refine k_sipush G X at_20 (pc' := 23) rfl (z := (255 : Int32)) (by decide) ?_
  refine k_iand G X at_23 (pc' := 24) rfl rfl ?_
  obtain ⟨c1, q_c1⟩ : ∃ z, (((p0.toUInt32 >>> ((10 : Int32) &&& 31).toUInt32).toInt32) &&& (255 : Int32)) = z := ⟨_, rfl⟩
  have t_c1 := and_rng ((p0.toUInt32 >>> ((10 : Int32) &&& 31).toUInt32).toInt32) (m := 255) 255 rfl (by decide)
  rw [q_c1] at t_c1 ⊢
  refine k_istore G X at_24 (pc' := 26) rfl (l' := #[.val (.int p0), .val (.int p1), .val (.int p2), .val (.int p3), .val (.int p4), .val (.int p5), .val (.int l1), .val (.int c0), .val (.int c1), .unset, .unset, .unset, .unset, .unset, .unset, .unset, .unset, .unset, .unset, .unset]) rfl ?_
  have J97 : ∀ (T : State) (cp : Int32) (l2 : Int32) (e0 : Int32) (e1 : Int32), (0 ≤ l2.toInt ∧ l2.toInt < 3) → (0 ≤ e0.toInt ∧ e0.toInt ≤ 255) → (0 ≤ e1.toInt ∧ e1.toInt ≤ 255) → W Γ n0 T h0 0 0 ([]) → Go Γ n0 (fun v h sf => v = some (.int 1)) T (mkF Γ.m 97 #[.val (.int p0), .val (.int p1), .val (.int p2), .val (.int p3), .val (.int p4), .val (.int p5), .val (.int l1), .val (.int c0), .val (.int c1), .val (.int cp), .val (.int l2), .val (.int e0), .val (.int e1), .unset, .unset, .unset, .unset, .unset, .unset, .unset] []) := by
    intro T cp l2 e0 e1 t_l2 t_e0 t_e1 X
    refine k_iload G X at_97 (pc' := 99) rfl rfl ?_
    obtain ⟨n1, hl1⟩ : ∃ n : Nat, l1.toInt = n := ⟨l1.toInt.toNat, by omega⟩
    obtain ⟨n2, hl2⟩ : ∃ n : Nat, l2.toInt = n := ⟨l2.toInt.toNat, by omega⟩
    have hn1 : n1 ≤ 2 := by omega
    have hn2 : n2 ≤ 2 := by omega
    refine k_iload G X at_99 (pc' := 101) rfl rfl ?_
    refine k_iload G X at_101 (pc' := 103) rfl rfl ?_
    refine k_callS G X (argsL := [(.int l1), (.int c0), (.int c1)]) (rest := []) rfl (w0 hw) (w1 hw) (w2 hw) (w3 hw) (by decide) (mk hw l1 c0 c1 cs n1 h0 n0 _ hl1 hn1 t_c0 t_c1 O S_CS hcs) at_103 pd13 rfl (pc' := 106) rfl rfl (wd := 0) rfl (by decide) (by decide) (by decide) (by decide) (fun T h103 v sf103 X q => ?_)
    replace X := W.drop X
    obtain ⟨s1, b1, k1, rfl, sz1, K103, SS1⟩ := q
    replace S_CS := Jvm.OwnK.Sta_keep S_CS K103
    replace S_D := Jvm.OwnK.Sta_keep S_D K103
    replace O := O.keep K103 (all0)
    replace AD := AD.keep K103 nin0
    have X_s1 := SS1.1
    show Go Γ n0 _ T (mkF Γ.m 106 #[.val (.int p0), .val (.int p1), .val (.int p2), .val (.int p3), .val (.int p4), .val (.int p5), .val (.int l1), .val (.int c0), .val (.int c1), .val (.int cp), .val (.int l2), .val (.int e0), .val (.int e1), .unset, .unset, .unset, .unset, .unset, .unset, .unset] [(.ref s1)])
    refine k_astore G X at_106 (pc' := 108) rfl rfl (l' := #[.val (.int p0), .val (.int p1), .val (.int p2), .val (.int p3), .val (.int p4), .val (.int p5), .val (.int l1), .val (.int c0), .val (.int c1), .val (.int cp), .val (.int l2), .val (.int e0), .val (.int e1), .val (.ref s1), .unset, .unset, .unset, .unset, .unset, .unset]) rfl ?_
    refine k_iload G X at_108 (pc' := 110) rfl rfl ?_
    refine k_iload G X at_110 (pc' := 112) rfl rfl ?_
    refine k_iload G X at_112 (pc' := 114) rfl rfl ?_
    refine k_callS G X (argsL := [(.int l2), (.int e0), (.int e1)]) (rest := []) rfl (w0 hw) (w1 hw) (w2 hw) (w3 hw) (by decide) (mk hw l2 e0 e1 cs n2 h103 n0 _ hl2 hn2 t_e0 t_e1 O S_CS hcs) at_114 pd13 rfl (pc' := 117) rfl rfl (wd := 0) rfl (by decide) (by decide) (by decide) (by decide) (fun T h114 v sf114 X q => ?_)
    replace X := W.drop X
    obtain ⟨s2, b2, k2, rfl, sz2, K114, SS2⟩ := q
    have ne_s1_s2 : s1 ≠ s2 := Nat.ne_of_lt (Nat.lt_of_lt_of_le SS1.lt sz2)
    replace S_CS := Jvm.OwnK.Sta_keep S_CS K114
    replace S_D := Jvm.OwnK.Sta_keep S_D K114
    replace O := O.keep K114 (all0)
    replace AD := AD.keep K114 nin0
    replace X_s1 := X_s1.keep K114
    replace SS1 := SS1.keep K114 nin0 nin0
    have X_s2 := SS2.1
    show Go Γ n0 _ T (mkF Γ.m 117 #[.val (.int p0), .val (.int p1), .val (.int p2), .val (.int p3), .val (.int p4), .val (.int p5), .val (.int l1), .val (.int c0), .val (.int c1), .val (.int cp), .val (.int l2), .val (.int e0), .val (.int e1), .val (.ref s1), .unset, .unset, .unset, .unset, .unset, .unset] [(.ref s2)])
    refine k_astore G X at_117 (pc' := 119) rfl rfl (l' := #[.val (.int p0), .val (.int p1), .val (.int p2), .val (.int p3), .val (.int p4), .val (.int p5), .val (.int l1), .val (.int c0), .val (.int c1), .val (.int cp), .val (.int l2), .val (.int e0), .val (.int e1), .val (.ref s1), .val (.ref s2), .unset, .unset, .unset, .unset, .unset]) rfl ?_
    refine k_new G X (w26 hw) (w27 hw) (w28 hw) at_119 (pc' := 122) rfl (by decide) (by decide) (fun T h119 b119 s_b119 E119 X_b119 D119 X => ?_)
    have ne_aD_b119 : aD ≠ b119 := Nat.ne_of_lt (Nat.lt_of_lt_of_eq AD.lt s_b119)
    have ne_s1_b119 : s1 ≠ b119 := Nat.ne_of_lt (Nat.lt_of_lt_of_eq X_s1.lt s_b119)
    have ne_s2_b119 : s2 ≠ b119 := Nat.ne_of_lt (Nat.lt_of_lt_of_eq X_s2.lt s_b119)
    have ne_b1_b119 : b1 ≠ b119 := Nat.ne_of_lt (Nat.lt_of_lt_of_eq SS1.lt' s_b119)
    have ne_b2_b119 : b2 ≠ b119 := Nat.ne_of_lt (Nat.lt_of_lt_of_eq SS2.lt' s_b119)
    have ge_b119 : n0 ≤ b119 := Nat.le_trans (Jvm.OwnK.Old_le O) (Nat.le_of_eq s_b119)
    replace O := O.ext E119
    replace S_CS := S_CS.ext E119
    replace S_D := S_D.ext E119
    replace AD := AD.ext E119
    replace X_s1 := X_s1.ext E119
    replace SS1 := SS1.ext E119
    replace X_s2 := X_s2.ext E119
    replace SS2 := SS2.ext E119
    have F_b119_modCount : Fld Z h119 b119 "java/util/AbstractList" "modCount" "I" (.int (0 : Int32)) := D119 (Or.inl (w46 hw)) (ty := .int) (by decide)
    have F_b119_elementData : Fld Z h119 b119 "java/util/ArrayList" "elementData" "[Ljava/lang/Object;" .null := D119 (Or.inl (w49 hw)) (ty := (.array (.object "java/lang/Object"))) (by decide)
    have F_b119_size : Fld Z h119 b119 "java/util/ArrayList" "size" "I" (.int (0 : Int32)) := D119 (Or.inl (w65 hw)) (ty := .int) (by decide)
    refine k_dup G X at_122 (pc' := 123) rfl rfl ?_
    refine k_callI G X (argsL := []) (rest := [(.ref b119)]) rfl rfl (w29 hw) (w30 hw) (w28 hw) (w31 hw) (by decide) (al_i1 hw b119 aD h119 n0 _ ⟨ge_b119, (List.mem_of_getElem? (i := 0) rfl)⟩ X_b119 F_b119_modCount F_b119_elementData F_b119_size S_D) at_123 pd5 rfl (pc' := 126) rfl rfl (wd := 1) rfl (by decide) (by decide) (by decide) (by decide) (fun T h123 v sf123 X q => ?_)
    replace X := W.drop X
    obtain ⟨rfl, K123, X_, LM, LD, LZ⟩ := q
    replace S_CS := Sta_keepL S_CS K123 (allS (Pln_exa X_b119) (all0))
    replace S_D := Sta_keepL S_D K123 (allS (Pln_exa X_b119) (all0))
    replace O := O.keep K123 (allS ge_b119 (all0))
    replace AD := AD.keep K123 (by simp only [List.mem_cons, List.not_mem_nil, or_false, not_or]; exact ne_aD_b119)
    replace X_s1 := X_s1.keep K123
    replace SS1 := SS1.keep K123 (by simp only [List.mem_cons, List.not_mem_nil, or_false, not_or]; exact ne_s1_b119) (by simp only [List.mem_cons, List.not_mem_nil, or_false, not_or]; exact ne_b1_b119)
    replace X_s2 := X_s2.keep K123
    replace SS2 := SS2.keep K123 (by simp only [List.mem_cons, List.not_mem_nil, or_false, not_or]; exact ne_s2_b119) (by simp only [List.mem_cons, List.not_mem_nil, or_false, not_or]; exact ne_b2_b119)
    replace X_b119 := X_b119.keep K123
    show Go Γ n0 _ T (mkF Γ.m 126 #[.val (.int p0), .val (.int p1), .val (.int p2), .val (.int p3), .val (.int p4), .val (.int p5), .val (.int l1), .val (.int c0), .val (.int c1), .val (.int cp), .val (.int l2), .val (.int e0), .val (.int e1), .val (.ref s1), .val (.ref s2), .unset, .unset, .unset, .unset, .unset] [(.ref b119)])
    refine k_astore G X at_126 (pc' := 128) rfl rfl (l' := #[.val (.int p0), .val (.int p1), .val (.int p2), .val (.int p3), .val (.int p4), .val (.int p5), .val (.int l1), .val (.int c0), .val (.int c1), .val (.int cp), .val (.int l2), .val (.int e0), .val (.int e1), .val (.ref s1), .val (.ref s2), .val (.ref b119), .unset, .unset, .unset, .unset]) rfl ?_
    refine k_aload G X at_128 (pc' := 130) rfl rfl rfl ?_
    refine k_iloadN G X at_130 (pc' := 131) rfl rfl ?_
    refine k_callS G X (argsL := [(.int p2)]) (rest := [(.ref b119)]) rfl (w50 hw) (w51 hw) (w52 hw) (w53 hw) (by decide) (int_v hw p2 aC kC gC h123 n0 _ O IH) at_131 pd14 rfl (pc' := 134) rfl rfl (wd := 1) rfl (by decide) (by decide) (by decide) (by decide) (fun T h131 v sf131 X q => ?_)
    replace X := W.drop X
    obtain ⟨xi, rfl, K131, EX, -⟩ := q
    replace LM := LM.keep K131 nin0
    replace LD := LD.keep K131 nin0
    replace LZ := LZ.keep K131 nin0
    replace S_CS := Jvm.OwnK.Sta_keep S_CS K131
    replace S_D := Jvm.OwnK.Sta_keep S_D K131
    replace O := O.keep K131 (all0)
    replace AD := AD.keep K131 nin0
    replace X_s1 := X_s1.keep K131
    replace SS1 := SS1.keep K131 nin0 nin0
    replace X_s2 := X_s2.keep K131
    replace SS2 := SS2.keep K131 nin0 nin0
    replace X_b119 := X_b119.keep K131
    show Go Γ n0 _ T (mkF Γ.m 134 #[.val (.int p0), .val (.int p1), .val (.int p2), .val (.int p3), .val (.int p4), .val (.int p5), .val (.int l1), .val (.int c0), .val (.int c1), .val (.int cp), .val (.int l2), .val (.int e0), .val (.int e1), .val (.ref s1), .val (.ref s2), .val (.ref b119), .unset, .unset, .unset, .unset] [(.ref xi), (.ref b119)])
    refine k_callV G X (argsL := [(.ref xi)]) (rest := []) rfl X_b119 (w57 hw) (w58 hw) (nf_sel (w60 hw)) (w60 hw) (w59 hw) (w28 hw) (w61 hw) (by decide) (al_a0 hw b119 xi aD kD (0 : Int32) h131 n0 _ ⟨ge_b119, (List.mem_of_getElem? (i := 0) rfl)⟩ O X_b119 LM LD LZ EX (ne_exa EX X_b119 (by decide)) S_D AD ne_aD_b119) at_134 pd12 rfl (pc' := 137) rfl rfl (wd := 0) rfl (by decide) (by decide) (by decide) (by decide) (fun T h134 v sf134 X q => ?_)
    replace X := W.drop X
    obtain ⟨rfl, e134, ke134, K134, -⟩ := q
    replace S_CS := Sta_keepL S_CS K134 (allS (Pln_exa X_b119) (all0))
    replace S_D := Sta_keepL S_D K134 (allS (Pln_exa X_b119) (all0))
    replace O := O.keep K134 (allS ge_b119 (all0))
    replace AD := AD.keep K134 (by simp only [List.mem_cons, List.not_mem_nil, or_false, not_or]; exact ne_aD_b119)
    replace X_s1 := X_s1.keep K134
    replace SS1 := SS1.keep K134 (by simp only [List.mem_cons, List.not_mem_nil, or_false, not_or]; exact ne_s1_b119) (by simp only [List.mem_cons, List.not_mem_nil, or_false, not_or]; exact ne_b1_b119)
    replace X_s2 := X_s2.keep K134
    replace SS2 := SS2.keep K134 (by simp only [List.mem_cons, List.not_mem_nil, or_false, not_or]; exact ne_s2_b119) (by simp only [List.mem_cons, List.not_mem_nil, or_false, not_or]; exact ne_b2_b119)
    replace X_b119 := X_b119.keep K134
    show Go Γ n0 _ T (mkF Γ.m 137 #[.val (.int p0), .val (.int p1), .val (.int p2), .val (.int p3), .val (.int p4), .val (.int p5), .val (.int l1), .val (.int c0), .val (.int c1), .val (.int cp), .val (.int l2), .val (.int e0), .val (.int e1), .val (.ref s1), .val (.ref s2), .val (.ref b119), .unset, .unset, .unset, .unset] [(.int (1 : Int32))])
    refine k_pop G X at_137 (pc' := 138) rfl rfl ?_
    refine k_new G X (w26 hw) (w27 hw) (w28 hw) at_138 (pc' := 141) rfl (by decide) (by decide) (fun T h138 b138 s_b138 E138 X_b138 D138 X => ?_)
    have ne_aD_b138 : aD ≠ b138 := Nat.ne_of_lt (Nat.lt_of_lt_of_eq AD.lt s_b138)
    have ne_s1_b138 : s1 ≠ b138 := Nat.ne_of_lt (Nat.lt_of_lt_of_eq X_s1.lt s_b138)
    have ne_s2_b138 : s2 ≠ b138 := Nat.ne_of_lt (Nat.lt_of_lt_of_eq X_s2.lt s_b138)
    have ne_b119_b138 : b119 ≠ b138 := Nat.ne_of_lt (Nat.lt_of_lt_of_eq X_b119.lt s_b138)
    have ne_b1_b138 : b1 ≠ b138 := Nat.ne_of_lt (Nat.lt_of_lt_of_eq SS1.lt' s_b138)
    have ne_b2_b138 : b2 ≠ b138 := Nat.ne_of_lt (Nat.lt_of_lt_of_eq SS2.lt' s_b138)
    have ge_b138 : n0 ≤ b138 := Nat.le_trans (Jvm.OwnK.Old_le O) (Nat.le_of_eq s_b138)
    replace O := O.ext E138
    replace S_CS := S_CS.ext E138
    replace S_D := S_D.ext E138
    replace AD := AD.ext E138
    replace X_s1 := X_s1.ext E138
    replace SS1 := SS1.ext E138
    replace X_s2 := X_s2.ext E138
    replace SS2 := SS2.ext E138
    replace X_b119 := X_b119.ext E138
    have F_b138_modCount : Fld Z h138 b138 "java/util/AbstractList" "modCount" "I" (.int (0 : Int32)) := D138 (Or.inl (w46 hw)) (ty := .int) (by decide)
    have F_b138_elementData : Fld Z h138 b138 "java/util/ArrayList" "elementData" "[Ljava/lang/Object;" .null := D138 (Or.inl (w49 hw)) (ty := (.array (.object "java/lang/Object"))) (by decide)
    have F_b138_size : Fld Z h138 b138 "java/util/ArrayList" "size" "I" (.int (0 : Int32)) := D138 (Or.inl (w65 hw)) (ty := .int) (by decide)
    refine k_dup G X at_141 (pc' := 142) rfl rfl ?_
    refine k_callI G X (argsL := []) (rest := [(.ref b138)]) rfl rfl (w29 hw) (w30 hw) (w28 hw) (w31 hw) (by decide) (al_i1 hw b138 aD h138 n0 _ ⟨ge_b138, (List.mem_of_getElem? (i := 0) rfl)⟩ X_b138 F_b138_modCount F_b138_elementData F_b138_size S_D) at_142 pd5 rfl (pc' := 145) rfl rfl (wd := 1) rfl (by decide) (by decide) (by decide) (by decide) (fun T h142 v sf142 X q => ?_)
    replace X := W.drop X
    obtain ⟨rfl, K142, X_, LM, LD, LZ⟩ := q
    replace S_CS := Sta_keepL S_CS K142 (allS (Pln_exa X_b138) (all0))
    replace S_D := Sta_keepL S_D K142 (allS (Pln_exa X_b138) (all0))
    replace O := O.keep K142 (allS ge_b138 (all0))
    replace AD := AD.keep K142 (by simp only [List.mem_cons, List.not_mem_nil, or_false, not_or]; exact ne_aD_b138)
    replace X_s1 := X_s1.keep K142
    replace SS1 := SS1.keep K142 (by simp only [List.mem_cons, List.not_mem_nil, or_false, not_or]; exact ne_s1_b138) (by simp only [List.mem_cons, List.not_mem_nil, or_false, not_or]; exact ne_b1_b138)
    replace X_s2 := X_s2.keep K142
    replace SS2 := SS2.keep K142 (by simp only [List.mem_cons, List.not_mem_nil, or_false, not_or]; exact ne_s2_b138) (by simp only [List.mem_cons, List.not_mem_nil, or_false, not_or]; exact ne_b2_b138)
    replace X_b119 := X_b119.keep K142
    replace X_b138 := X_b138.keep K142
    show Go Γ n0 _ T (mkF Γ.m 145 #[.val (.int p0), .val (.int p1), .val (.int p2), .val (.int p3), .val (.int p4), .val (.int p5), .val (.int l1), .val (.int c0), .val (.int c1), .val (.int cp), .val (.int l2), .val (.int e0), .val (.int e1), .val (.ref s1), .val (.ref s2), .val (.ref b119), .unset, .unset, .unset, .unset] [(.ref b138)])
    refine k_astore G X at_145 (pc' := 147) rfl rfl (l' := #[.val (.int p0), .val (.int p1), .val (.int p2), .val (.int p3), .val (.int p4), .val (.int p5), .val (.int l1), .val (.int c0), .val (.int c1), .val (.int cp), .val (.int l2), .val (.int e0), .val (.int e1), .val (.ref s1), .val (.ref s2), .val (.ref b119), .val (.ref b138), .unset, .unset, .unset]) rfl ?_
    refine k_iloadN G X at_147 (pc' := 148) rfl rfl ?_
    refine k_bipush G X at_148 (pc' := 150) rfl (z := (19 : Int32)) (by decide) ?_
    refine k_iushr G X at_150 (pc' := 151) rfl rfl ?_
    refine k_iconst G X at_151 (pc' := 152) rfl (z := (1 : Int32)) (by decide) ?_
    refine k_iand G X at_152 (pc' := 153) rfl rfl ?_
    refine k_if_eq G X at_153 (pc' := 167) rfl (by decide) (pc'' := 156) rfl (fun c153 => ?_) (fun c153 => ?_)
    · refine k_new G X (w88 hw) (w89 hw) (w90 hw) at_167 (pc' := 170) rfl (by decide) (by decide) (fun T h167 b167 s_b167 E167 X_b167 D167 X => ?_)
      have ne_aD_b167 : aD ≠ b167 := Nat.ne_of_lt (Nat.lt_of_lt_of_eq AD.lt s_b167)
      have ne_s1_b167 : s1 ≠ b167 := Nat.ne_of_lt (Nat.lt_of_lt_of_eq X_s1.lt s_b167)
      have ne_s2_b167 : s2 ≠ b167 := Nat.ne_of_lt (Nat.lt_of_lt_of_eq X_s2.lt s_b167)
      have ne_b119_b167 : b119 ≠ b167 := Nat.ne_of_lt (Nat.lt_of_lt_of_eq X_b119.lt s_b167)
      have ne_b138_b167 : b138 ≠ b167 := Nat.ne_of_lt (Nat.lt_of_lt_of_eq X_b138.lt s_b167)
      have ne_b1_b167 : b1 ≠ b167 := Nat.ne_of_lt (Nat.lt_of_lt_of_eq SS1.lt' s_b167)
      have ne_b2_b167 : b2 ≠ b167 := Nat.ne_of_lt (Nat.lt_of_lt_of_eq SS2.lt' s_b167)
      have ge_b167 : n0 ≤ b167 := Nat.le_trans (Jvm.OwnK.Old_le O) (Nat.le_of_eq s_b167)
      replace O := O.ext E167
      replace S_CS := S_CS.ext E167
      replace S_D := S_D.ext E167
      replace AD := AD.ext E167
      replace X_s1 := X_s1.ext E167
      replace SS1 := SS1.ext E167
      replace X_s2 := X_s2.ext E167
      replace SS2 := SS2.ext E167
      replace X_b119 := X_b119.ext E167
      replace X_b138 := X_b138.ext E167
      have F_b167_name : Fld Z h167 b167 "com/example/shadowhex/shadowhex/Corner" "name" "Ljava/lang/String;" .null := D167 (Or.inr (w101 hw)) (ty := (.object "java/lang/String")) (by decide)
      have F_b167_x : Fld Z h167 b167 "com/example/shadowhex/shadowhex/Corner" "x" "I" (.int (0 : Int32)) := D167 (Or.inr (w103 hw)) (ty := .int) (by decide)
      have F_b167_y : Fld Z h167 b167 "com/example/shadowhex/shadowhex/Corner" "y" "I" (.int (0 : Int32)) := D167 (Or.inr (w105 hw)) (ty := .int) (by decide)
      have F_b167_hexes : Fld Z h167 b167 "com/example/shadowhex/shadowhex/Corner" "hexes" "Ljava/util/List;" .null := D167 (Or.inr (w107 hw)) (ty := (.object "java/util/List")) (by decide)
      refine k_dup G X at_170 (pc' := 171) rfl rfl ?_
      refine k_aload G X at_171 (pc' := 173) rfl rfl rfl ?_
      refine k_iloadN G X at_173 (pc' := 174) rfl rfl ?_
      refine k_iloadN G X at_174 (pc' := 175) rfl rfl ?_
      refine k_aload G X at_175 (pc' := 177) rfl rfl rfl ?_
      refine k_callI G X (argsL := [(.ref s1), (.int p2), (.int p3), (.ref b119)]) (rest := [(.ref b167)]) rfl rfl (w91 hw) (w92 hw) (w90 hw) (w93 hw) (by decide) (co_init hw b167 s1 p2 p3 b119 h167 n0 _ ⟨ge_b167, (List.mem_of_getElem? (i := 0) rfl)⟩ X_b167 F_b167_name F_b167_x F_b167_y F_b167_hexes) at_177 pd15 rfl (pc' := 180) rfl rfl (wd := 1) rfl (by decide) (by decide) (by decide) (by decide) (fun T h177 v sf177 X q => ?_)
      replace X := W.drop X
      obtain ⟨rfl, K177, E_b167, FN_b167⟩ := q
      replace S_CS := Sta_keepL S_CS K177 (allS (Pln_exa X_b167) (all0))
      replace S_D := Sta_keepL S_D K177 (allS (Pln_exa X_b167) (all0))
      replace O := O.keep K177 (allS ge_b167 (all0))
      replace AD := AD.keep K177 (by simp only [List.mem_cons, List.not_mem_nil, or_false, not_or]; exact ne_aD_b167)
      replace X_s1 := X_s1.keep K177
      replace SS1 := SS1.keep K177 (by simp only [List.mem_cons, List.not_mem_nil, or_false, not_or]; exact ne_s1_b167) (by simp only [List.mem_cons, List.not_mem_nil, or_false, not_or]; exact ne_b1_b167)
      replace X_s2 := X_s2.keep K177
      replace SS2 := SS2.keep K177 (by simp only [List.mem_cons, List.not_mem_nil, or_false, not_or]; exact ne_s2_b167) (by simp only [List.mem_cons, List.not_mem_nil, or_false, not_or]; exact ne_b2_b167)
      replace X_b119 := X_b119.keep K177
      replace X_b138 := X_b138.keep K177
      replace X_b167 := X_b167.keep K177
      show Go Γ n0 _ T (mkF Γ.m 180 #[.val (.int p0), .val (.int p1), .val (.int p2), .val (.int p3), .val (.int p4), .val (.int p5), .val (.int l1), .val (.int c0), .val (.int c1), .val (.int cp), .val (.int l2), .val (.int e0), .val (.int e1), .val (.ref s1), .val (.ref s2), .val (.ref b119), .val (.ref b138), .unset, .unset, .unset] [(.ref b167)])
      refine k_astore G X at_180 (pc' := 182) rfl rfl (l' := #[.val (.int p0), .val (.int p1), .val (.int p2), .val (.int p3), .val (.int p4), .val (.int p5), .val (.int l1), .val (.int c0), .val (.int c1), .val (.int cp), .val (.int l2), .val (.int e0), .val (.int e1), .val (.ref s1), .val (.ref s2), .val (.ref b119), .val (.ref b138), .val (.ref b167), .unset, .unset]) rfl ?_
      refine k_new G X (w88 hw) (w89 hw) (w90 hw) at_182 (pc' := 185) rfl (by decide) (by decide) (fun T h182 b182 s_b182 E182 X_b182 D182 X => ?_)
      have ne_aD_b182 : aD ≠ b182 := Nat.ne_of_lt (Nat.lt_of_lt_of_eq AD.lt s_b182)
      have ne_s1_b182 : s1 ≠ b182 := Nat.ne_of_lt (Nat.lt_of_lt_of_eq X_s1.lt s_b182)
      have ne_s2_b182 : s2 ≠ b182 := Nat.ne_of_lt (Nat.lt_of_lt_of_eq X_s2.lt s_b182)
      have ne_b119_b182 : b119 ≠ b182 := Nat.ne_of_lt (Nat.lt_of_lt_of_eq X_b119.lt s_b182)
      have ne_b138_b182 : b138 ≠ b182 := Nat.ne_of_lt (Nat.lt_of_lt_of_eq X_b138.lt s_b182)
      have ne_b167_b182 : b167 ≠ b182 := Nat.ne_of_lt (Nat.lt_of_lt_of_eq X_b167.lt s_b182)
      have ne_b1_b182 : b1 ≠ b182 := Nat.ne_of_lt (Nat.lt_of_lt_of_eq SS1.lt' s_b182)
      have ne_b2_b182 : b2 ≠ b182 := Nat.ne_of_lt (Nat.lt_of_lt_of_eq SS2.lt' s_b182)
      have ge_b182 : n0 ≤ b182 := Nat.le_trans (Jvm.OwnK.Old_le O) (Nat.le_of_eq s_b182)
      replace O := O.ext E182
      replace S_CS := S_CS.ext E182
      replace S_D := S_D.ext E182
      replace AD := AD.ext E182
      replace X_s1 := X_s1.ext E182
      replace SS1 := SS1.ext E182
      replace X_s2 := X_s2.ext E182
      replace SS2 := SS2.ext E182
      replace X_b119 := X_b119.ext E182
      replace X_b138 := X_b138.ext E182
      replace X_b167 := X_b167.ext E182
      replace FN_b167 := FN_b167.ext E182
      have F_b182_name : Fld Z h182 b182 "com/example/shadowhex/shadowhex/Corner" "name" "Ljava/lang/String;" .null := D182 (Or.inr (w101 hw)) (ty := (.object "java/lang/String")) (by decide)
      have F_b182_x : Fld Z h182 b182 "com/example/shadowhex/shadowhex/Corner" "x" "I" (.int (0 : Int32)) := D182 (Or.inr (w103 hw)) (ty := .int) (by decide)
      have F_b182_y : Fld Z h182 b182 "com/example/shadowhex/shadowhex/Corner" "y" "I" (.int (0 : Int32)) := D182 (Or.inr (w105 hw)) (ty := .int) (by decide)
      have F_b182_hexes : Fld Z h182 b182 "com/example/shadowhex/shadowhex/Corner" "hexes" "Ljava/util/List;" .null := D182 (Or.inr (w107 hw)) (ty := (.object "java/util/List")) (by decide)
      refine k_dup G X at_185 (pc' := 186) rfl rfl ?_
      refine k_aload G X at_186 (pc' := 188) rfl rfl rfl ?_
      refine k_iload G X at_188 (pc' := 190) rfl rfl ?_
      refine k_iload G X at_190 (pc' := 192) rfl rfl ?_
      refine k_aload G X at_192 (pc' := 194) rfl rfl rfl ?_
      refine k_callI G X (argsL := [(.ref s2), (.int p4), (.int p5), (.ref b138)]) (rest := [(.ref b182)]) rfl rfl (w91 hw) (w92 hw) (w90 hw) (w93 hw) (by decide) (co_init hw b182 s2 p4 p5 b138 h182 n0 _ ⟨ge_b182, (List.mem_of_getElem? (i := 0) rfl)⟩ X_b182 F_b182_name F_b182_x F_b182_y F_b182_hexes) at_194 pd15 rfl (pc' := 197) rfl rfl (wd := 1) rfl (by decide) (by decide) (by decide) (by decide) (fun T h194 v sf194 X q => ?_)
      replace X := W.drop X
      obtain ⟨rfl, K194, E_b182, FN_b182⟩ := q
      replace S_CS := Sta_keepL S_CS K194 (allS (Pln_exa X_b182) (all0))
      replace S_D := Sta_keepL S_D K194 (allS (Pln_exa X_b182) (all0))
      replace O := O.keep K194 (allS ge_b182 (all0))
      replace AD := AD.keep K194 (by simp only [List.mem_cons, List.not_mem_nil, or_false, not_or]; exact ne_aD_b182)
      replace X_s1 := X_s1.keep K194
      replace SS1 := SS1.keep K194 (by simp only [List.mem_cons, List.not_mem_nil, or_false, not_or]; exact ne_s1_b182) (by simp only [List.mem_cons, List.not_mem_nil, or_false, not_or]; exact ne_b1_b182)
      replace X_s2 := X_s2.keep K194
      replace SS2 := SS2.keep K194 (by simp only [List.mem_cons, List.not_mem_nil, or_false, not_or]; exact ne_s2_b182) (by simp only [List.mem_cons, List.not_mem_nil, or_false, not_or]; exact ne_b2_b182)
      replace X_b119 := X_b119.keep K194
      replace X_b138 := X_b138.keep K194
      replace X_b167 := X_b167.keep K194
      replace FN_b167 := FN_b167.keep K194 (by simp only [List.mem_cons, List.not_mem_nil, or_false, not_or]; exact ne_b167_b182)
      replace X_b182 := X_b182.keep K194
      show Go Γ n0 _ T (mkF Γ.m 197 #[.val (.int p0), .val (.int p1), .val (.int p2), .val (.int p3), .val (.int p4), .val (.int p5), .val (.int l1), .val (.int c0), .val (.int c1), .val (.int cp), .val (.int l2), .val (.int e0), .val (.int e1), .val (.ref s1), .val (.ref s2), .val (.ref b119), .val (.ref b138), .val (.ref b167), .unset, .unset] [(.ref b182)])
      refine k_astore G X at_197 (pc' := 199) rfl rfl (l' := #[.val (.int p0), .val (.int p1), .val (.int p2), .val (.int p3), .val (.int p4), .val (.int p5), .val (.int l1), .val (.int c0), .val (.int c1), .val (.int cp), .val (.int l2), .val (.int e0), .val (.int e1), .val (.ref s1), .val (.ref s2), .val (.ref b119), .val (.ref b138), .val (.ref b167), .val (.ref b182), .unset]) rfl ?_
      have u1 : (1 : Int32).toInt = 1 := rfl; have u2 : (2 : Int32).toInt = 2 := rfl
      have J239 : ∀ (T : State) (sm : Int32), ((sm = 1 ∧ SM n1 n2 c0 c1 e0 e1) ∨ (sm = 0 ∧ ¬ SM n1 n2 c0 c1 e0 e1)) → W Γ n0 T h194 18 49 (b182 :: b167 :: b138 :: b119 :: []) → Go Γ n0 (fun v h sf => v = some (.int 1)) T (mkF Γ.m 239 #[.val (.int p0), .val (.int p1), .val (.int p2), .val (.int p3), .val (.int p4), .val (.int p5), .val (.int l1), .val (.int c0), .val (.int c1), .val (.int cp), .val (.int l2), .val (.int e0), .val (.int e1), .val (.ref s1), .val (.ref s2), .val (.ref b119), .val (.ref b138), .val (.ref b167), .val (.ref b182), .val (.int sm)] []) := by
        intro T sm hsm X
        refine k_aload G X at_239 (pc' := 241) rfl rfl rfl ?_
        refine k_aload G X at_241 (pc' := 243) rfl rfl rfl ?_
        refine k_callV G X (argsL := [(.ref b182)]) (rest := []) rfl X_b167 (w108 hw) (w109 hw) (nf_sel (w111 hw)) (w111 hw) (w110 hw) (w90 hw) (w112 hw) (by decide) (co_q hw b167 b182 s1 s2 b1 b2 k1 k2 n1 n2 cs (fun i => (own2 c0 c1 i).toInt8.toInt32) (fun i => (own2 e0 e1 i).toInt8.toInt32) h194 n0 _ FN_b167 X_b182 FN_b182 SS1 SS2 ne_s1_s2 S_CS hcs) at_243 pd12 rfl (pc' := 246) rfl rfl (wd := 0) rfl (by decide) (by decide) (by decide) (by decide) (fun T h243 v sf243 X q => ?_)
        replace X := W.drop X
        obtain ⟨rA, rfl, hrA, hiA, e243⟩ := q
        replace X := X.eq e243
        obtain rfl : sm = rA := (eq_sm (P := SM n1 n2 c0 c1 e0 e1) hrA hiA hsm).symm
        show Go Γ n0 _ T (mkF Γ.m 246 #[.val (.int p0), .val (.int p1), .val (.int p2), .val (.int p3), .val (.int p4), .val (.int p5), .val (.int l1), .val (.int c0), .val (.int c1), .val (.int cp), .val (.int l2), .val (.int e0), .val (.int e1), .val (.ref s1), .val (.ref s2), .val (.ref b119), .val (.ref b138), .val (.ref b167), .val (.ref b182), .val (.int sm)] [(.int sm)])
        refine k_iload G X at_246 (pc' := 248) rfl rfl ?_
        refine k_icmp_ne G X at_248 (pc' := 296) rfl (by decide) (pc'' := 251) rfl (fun c248 => (absurd c248 (by simp))) (fun c248 => ?_)
        refine k_aload G X at_251 (pc' := 253) rfl rfl rfl ?_
        refine k_aload G X at_253 (pc' := 255) rfl rfl rfl ?_
        refine k_callV G X (argsL := [(.ref b167)]) (rest := []) rfl X_b182 (w108 hw) (w109 hw) (nf_sel (w111 hw)) (w111 hw) (w110 hw) (w90 hw) (w112 hw) (by decide) (co_q hw b182 b167 s2 s1 b2 b1 k2 k1 n2 n1 cs (fun i => (own2 e0 e1 i).toInt8.toInt32) (fun i => (own2 c0 c1 i).toInt8.toInt32) h194 n0 _ FN_b182 X_b167 FN_b167 SS2 SS1 ne_s1_s2.symm S_CS hcs) at_255 pd12 rfl (pc' := 258) rfl rfl (wd := 0) rfl (by decide) (by decide) (by decide) (by decide) (fun T h255 v sf255 X q => ?_)
        replace X := W.drop X
        obtain ⟨rB, rfl, hrB, hiB, e255⟩ := q
        replace X := X.eq e255
        obtain rfl : sm = rB := (eq_sm (P := SM n1 n2 c0 c1 e0 e1) hrB (hiB.trans ⟨SM.symm, SM.symm⟩) hsm).symm
        show Go Γ n0 _ T (mkF Γ.m 258 #[.val (.int p0), .val (.int p1), .val (.int p2), .val (.int p3), .val (.int p4), .val (.int p5), .val (.int l1), .val (.int c0), .val (.int c1), .val (.int cp), .val (.int l2), .val (.int e0), .val (.int e1), .val (.ref s1), .val (.ref s2), .val (.ref b119), .val (.ref b138), .val (.ref b167), .val (.ref b182), .val (.int sm)] [(.int sm)])
        refine k_iload G X at_258 (pc' := 260) rfl rfl ?_
        refine k_icmp_ne G X at_260 (pc' := 296) rfl (by decide) (pc'' := 263) rfl (fun c260 => (absurd c260 (by simp))) (fun c260 => ?_)
        refine k_aload G X at_263 (pc' := 265) rfl rfl rfl ?_
        refine k_aload G X at_265 (pc' := 267) rfl rfl rfl ?_
        refine k_callV G X (argsL := [(.ref b167)]) (rest := []) rfl X_b167 (w108 hw) (w109 hw) (nf_sel (w111 hw)) (w111 hw) (w110 hw) (w90 hw) (w112 hw) (by decide) (co_s hw b167 s1 h194 n0 _ X_b167 FN_b167 X_s1) at_267 pd12 rfl (pc' := 270) rfl rfl (wd := 0) rfl (by decide) (by decide) (by decide) (by decide) (fun T h267 v sf267 X q => ?_)
        replace X := W.drop X
        obtain ⟨rfl, e267⟩ := q
        replace X := X.eq e267
        show Go Γ n0 _ T (mkF Γ.m 270 #[.val (.int p0), .val (.int p1), .val (.int p2), .val (.int p3), .val (.int p4), .val (.int p5), .val (.int l1), .val (.int c0), .val (.int c1), .val (.int cp), .val (.int l2), .val (.int e0), .val (.int e1), .val (.ref s1), .val (.ref s2), .val (.ref b119), .val (.ref b138), .val (.ref b167), .val (.ref b182), .val (.int sm)] [(.int (1 : Int32))])
        refine k_if_eq G X at_270 (pc' := 296) rfl (by decide) (pc'' := 273) rfl (fun c270 => (absurd c270 (by decide))) (fun c270 => ?_)
        refine k_aload G X at_273 (pc' := 275) rfl rfl rfl ?_
        refine k_anull G X at_275 (pc' := 276) rfl ?_
        refine k_callV G X (argsL := [.null]) (rest := []) rfl X_b167 (w108 hw) (w109 hw) (nf_sel (w111 hw)) (w111 hw) (w110 hw) (w90 hw) (w112 hw) (by decide) (co_n hw b167 h194 n0 _) at_276 pd12 rfl (pc' := 279) rfl rfl (wd := 0) rfl (by decide) (by decide) (by decide) (by decide) (fun T h276 v sf276 X q => ?_)
        replace X := W.drop X
        obtain ⟨rfl, e276⟩ := q
        replace X := X.eq e276
        show Go Γ n0 _ T (mkF Γ.m 279 #[.val (.int p0), .val (.int p1), .val (.int p2), .val (.int p3), .val (.int p4), .val (.int p5), .val (.int l1), .val (.int c0), .val (.int c1), .val (.int cp), .val (.int l2), .val (.int e0), .val (.int e1), .val (.ref s1), .val (.ref s2), .val (.ref b119), .val (.ref b138), .val (.ref b167), .val (.ref b182), .val (.int sm)] [(.int (0 : Int32))])
        refine k_if_ne G X at_279 (pc' := 296) rfl (by decide) (pc'' := 282) rfl (fun c279 => (absurd c279 (by decide))) (fun c279 => ?_)
        refine k_aload G X at_282 (pc' := 284) rfl rfl rfl ?_
        refine k_aload G X at_284 (pc' := 286) rfl rfl rfl ?_
        refine k_callV G X (argsL := [(.ref s1)]) (rest := []) rfl X_b167 (w108 hw) (w109 hw) (nf_sel (w111 hw)) (w111 hw) (w110 hw) (w90 hw) (w112 hw) (by decide) (co_x hw b167 s1 h194 n0 _ X_s1) at_286 pd12 rfl (pc' := 289) rfl rfl (wd := 0) rfl (by decide) (by decide) (by decide) (by decide) (fun T h286 v sf286 X q => ?_)
        replace X := W.drop X
        obtain ⟨rfl, e286⟩ := q
        replace X := X.eq e286
        show Go Γ n0 _ T (mkF Γ.m 289 #[.val (.int p0), .val (.int p1), .val (.int p2), .val (.int p3), .val (.int p4), .val (.int p5), .val (.int l1), .val (.int c0), .val (.int c1), .val (.int cp), .val (.int l2), .val (.int e0), .val (.int e1), .val (.ref s1), .val (.ref s2), .val (.ref b119), .val (.ref b138), .val (.ref b167), .val (.ref b182), .val (.int sm)] [(.int (0 : Int32))])
        refine k_if_ne G X at_289 (pc' := 296) rfl (by decide) (pc'' := 292) rfl (fun c289 => (absurd c289 (by decide))) (fun c289 => ?_)
        refine k_iconst G X at_292 (pc' := 293) rfl (z := (1 : Int32)) (by decide) ?_
        refine k_goto G X at_293 (by decide) (pc' := 297) rfl ?_
        refine k_retb G X at_297 (t := .boolean) rfl (by simp) rfl ?_ (by decide) (by decide)
        rfl
      refine k_iload G X at_199 (pc' := 201) rfl rfl ?_
      refine k_iload G X at_201 (pc' := 203) rfl rfl ?_
      refine k_icmp_ne G X at_203 (pc' := 236) rfl (by decide) (pc'' := 206) rfl (fun c203 => ?_) (fun c203 => ?_)
      · refine k_iconst G X at_236 (pc' := 237) rfl (z := (0 : Int32)) (by decide) ?_
        refine k_istore G X at_237 (pc' := 239) rfl (l' := #[.val (.int p0), .val (.int p1), .val (.int p2), .val (.int p3), .val (.int p4), .val (.int p5), .val (.int l1), .val (.int c0), .val (.int c1), .val (.int cp), .val (.int l2), .val (.int e0), .val (.int e1), .val (.ref s1), .val (.ref s2), .val (.ref b119), .val (.ref b138), .val (.ref b167), .val (.ref b182), .val (.int (0 : Int32))]) rfl ?_
        exact J239 T (0 : Int32) (Or.inr ⟨rfl, fun q => by have q := (same_iff hn1 t_c0 t_c1 t_e0 t_e1).mp q; first | exact c203 (of_toInt (by rw [hl1, hl2, q.1])) | exact q.2.1.elim (fun h => by omega) c216 | exact q.2.2.elim (fun h => by omega) c229⟩) X
      · refine k_iload G X at_206 (pc' := 208) rfl rfl ?_
        refine k_iconst G X at_208 (pc' := 209) rfl (z := (1 : Int32)) (by decide) ?_
        refine k_icmp_lt G X at_209 (pc' := 219) rfl (by decide) (pc'' := 212) rfl (fun c209 => ?_) (fun c209 => ?_)
        · refine k_iload G X at_219 (pc' := 221) rfl rfl ?_
          refine k_iconst G X at_221 (pc' := 222) rfl (z := (2 : Int32)) (by decide) ?_
          refine k_icmp_lt G X at_222 (pc' := 232) rfl (by decide) (pc'' := 225) rfl (fun c222 => ?_) (fun c222 => ?_)
          · refine k_iconst G X at_232 (pc' := 233) rfl (z := (1 : Int32)) (by decide) ?_
            refine k_goto G X at_233 (by decide) (pc' := 237) rfl ?_
            refine k_istore G X at_237 (pc' := 239) rfl (l' := #[.val (.int p0), .val (.int p1), .val (.int p2), .val (.int p3), .val (.int p4), .val (.int p5), .val (.int l1), .val (.int c0), .val (.int c1), .val (.int cp), .val (.int l2), .val (.int e0), .val (.int e1), .val (.ref s1), .val (.ref s2), .val (.ref b119), .val (.ref b138), .val (.ref b167), .val (.ref b182), .val (.int (1 : Int32))]) rfl ?_
            exact J239 T (1 : Int32) (Or.inl ⟨rfl, (same_iff hn1 t_c0 t_c1 t_e0 t_e1).mpr ⟨by have := congrArg Int32.toInt c203; omega, by first | exact Or.inr c216 | exact Or.inl (by omega), by first | exact Or.inr c229 | exact Or.inl (by omega)⟩⟩) X
          · refine k_iload G X at_225 (pc' := 227) rfl rfl ?_
            refine k_iload G X at_227 (pc' := 229) rfl rfl ?_
            refine k_icmp_ne G X at_229 (pc' := 236) rfl (by decide) (pc'' := 232) rfl (fun c229 => ?_) (fun c229 => ?_)
            · refine k_iconst G X at_236 (pc' := 237) rfl (z := (0 : Int32)) (by decide) ?_
              refine k_istore G X at_237 (pc' := 239) rfl (l' := #[.val (.int p0), .val (.int p1), .val (.int p2), .val (.int p3), .val (.int p4), .val (.int p5), .val (.int l1), .val (.int c0), .val (.int c1), .val (.int cp), .val (.int l2), .val (.int e0), .val (.int e1), .val (.ref s1), .val (.ref s2), .val (.ref b119), .val (.ref b138), .val (.ref b167), .val (.ref b182), .val (.int (0 : Int32))]) rfl ?_
              exact J239 T (0 : Int32) (Or.inr ⟨rfl, fun q => by have q := (same_iff hn1 t_c0 t_c1 t_e0 t_e1).mp q; first | exact c203 (of_toInt (by rw [hl1, hl2, q.1])) | exact q.2.1.elim (fun h => by omega) c216 | exact q.2.2.elim (fun h => by omega) c229⟩) X
            · refine k_iconst G X at_232 (pc' := 233) rfl (z := (1 : Int32)) (by decide) ?_
              refine k_goto G X at_233 (by decide) (pc' := 237) rfl ?_
              refine k_istore G X at_237 (pc' := 239) rfl (l' := #[.val (.int p0), .val (.int p1), .val (.int p2), .val (.int p3), .val (.int p4), .val (.int p5), .val (.int l1), .val (.int c0), .val (.int c1), .val (.int cp), .val (.int l2), .val (.int e0), .val (.int e1), .val (.ref s1), .val (.ref s2), .val (.ref b119), .val (.ref b138), .val (.ref b167), .val (.ref b182), .val (.int (1 : Int32))]) rfl ?_
              exact J239 T (1 : Int32) (Or.inl ⟨rfl, (same_iff hn1 t_c0 t_c1 t_e0 t_e1).mpr ⟨by have := congrArg Int32.toInt c203; omega, by first | exact Or.inr c216 | exact Or.inl (by omega), by first | exact Or.inr c229 | exact Or.inl (by omega)⟩⟩) X
        · refine k_iload G X at_212 (pc' := 214) rfl rfl ?_
          refine k_iload G X at_214 (pc' := 216) rfl rfl ?_
          refine k_icmp_ne G X at_216 (pc' := 236) rfl (by decide) (pc'' := 219) rfl (fun c216 => ?_) (fun c216 => ?_)
          · refine k_iconst G X at_236 (pc' := 237) rfl (z := (0 : Int32)) (by decide) ?_
            refine k_istore G X at_237 (pc' := 239) rfl (l' := #[.val (.int p0), .val (.int p1), .val (.int p2), .val (.int p3), .val (.int p4), .val (.int p5), .val (.int l1), .val (.int c0), .val (.int c1), .val (.int cp), .val (.int l2), .val (.int e0), .val (.int e1), .val (.ref s1), .val (.ref s2), .val (.ref b119), .val (.ref b138), .val (.ref b167), .val (.ref b182), .val (.int (0 : Int32))]) rfl ?_
            exact J239 T (0 : Int32) (Or.inr ⟨rfl, fun q => by have q := (same_iff hn1 t_c0 t_c1 t_e0 t_e1).mp q; first | exact c203 (of_toInt (by rw [hl1, hl2, q.1])) | exact q.2.1.elim (fun h => by omega) c216 | exact q.2.2.elim (fun h => by omega) c229⟩) X
          · refine k_iload G X at_219 (pc' := 221) rfl rfl ?_
            refine k_iconst G X at_221 (pc' := 222) rfl (z := (2 : Int32)) (by decide) ?_
            refine k_icmp_lt G X at_222 (pc' := 232) rfl (by decide) (pc'' := 225) rfl (fun c222 => ?_) (fun c222 => ?_)
            · refine k_iconst G X at_232 (pc' := 233) rfl (z := (1 : Int32)) (by decide) ?_
              refine k_goto G X at_233 (by decide) (pc' := 237) rfl ?_
              refine k_istore G X at_237 (pc' := 239) rfl (l' := #[.val (.int p0), .val (.int p1), .val (.int p2), .val (.int p3), .val (.int p4), .val (.int p5), .val (.int l1), .val (.int c0), .val (.int c1), .val (.int cp), .val (.int l2), .val (.int e0), .val (.int e1), .val (.ref s1), .val (.ref s2), .val (.ref b119), .val (.ref b138), .val (.ref b167), .val (.ref b182), .val (.int (1 : Int32))]) rfl ?_
              exact J239 T (1 : Int32) (Or.inl ⟨rfl, (same_iff hn1 t_c0 t_c1 t_e0 t_e1).mpr ⟨by have := congrArg Int32.toInt c203; omega, by first | exact Or.inr c216 | exact Or.inl (by omega), by first | exact Or.inr c229 | exact Or.inl (by omega)⟩⟩) X
            · refine k_iload G X at_225 (pc' := 227) rfl rfl ?_
              refine k_iload G X at_227 (pc' := 229) rfl rfl ?_
              refine k_icmp_ne G X at_229 (pc' := 236) rfl (by decide) (pc'' := 232) rfl (fun c229 => ?_) (fun c229 => ?_)
              · refine k_iconst G X at_236 (pc' := 237) rfl (z := (0 : Int32)) (by decide) ?_
                refine k_istore G X at_237 (pc' := 239) rfl (l' := #[.val (.int p0), .val (.int p1), .val (.int p2), .val (.int p3), .val (.int p4), .val (.int p5), .val (.int l1), .val (.int c0), .val (.int c1), .val (.int cp), .val (.int l2), .val (.int e0), .val (.int e1), .val (.ref s1), .val (.ref s2), .val (.ref b119), .val (.ref b138), .val (.ref b167), .val (.ref b182), .val (.int (0 : Int32))]) rfl ?_
                exact J239 T (0 : Int32) (Or.inr ⟨rfl, fun q => by have q := (same_iff hn1 t_c0 t_c1 t_e0 t_e1).mp q; first | exact c203 (of_toInt (by rw [hl1, hl2, q.1])) | exact q.2.1.elim (fun h => by omega) c216 | exact q.2.2.elim (fun h => by omega) c229⟩) X
              · refine k_iconst G X at_232 (pc' := 233) rfl (z := (1 : Int32)) (by decide) ?_
                refine k_goto G X at_233 (by decide) (pc' := 237) rfl ?_
                refine k_istore G X at_237 (pc' := 239) rfl (l' := #[.val (.int p0), .val (.int p1), .val (.int p2), .val (.int p3), .val (.int p4), .val (.int p5), .val (.int l1), .val (.int c0), .val (.int c1), .val (.int cp), .val (.int l2), .val (.int e0), .val (.int e1), .val (.ref s1), .val (.ref s2), .val (.ref b119), .val (.ref b138), .val (.ref b167), .val (.ref b182), .val (.int (1 : Int32))]) rfl ?_
                exact J239 T (1 : Int32) (Or.inl ⟨rfl, (same_iff hn1 t_c0 t_c1 t_e0 t_e1).mpr ⟨by have := congrArg Int32.toInt c203; omega, by first | exact Or.inr c216 | exact Or.inl (by omega), by first | exact Or.inr c229 | exact Or.inl (by omega)⟩⟩) X
    · refine k_aload G X at_156 (pc' := 158) rfl rfl rfl ?_
      refine k_iload G X at_158 (pc' := 160) rfl rfl ?_
      refine k_callS G X (argsL := [(.int p5)]) (rest := [(.ref b138)]) rfl (w50 hw) (w51 hw) (w52 hw) (w53 hw) (by decide) (int_v hw p5 aC kC gC h142 n0 _ O IH) at_160 pd14 rfl (pc' := 163) rfl rfl (wd := 1) rfl (by decide) (by decide) (by decide) (by decide) (fun T h160 v sf160 X q => ?_)
      replace X := W.drop X
      obtain ⟨xi, rfl, K160, EX, -⟩ := q
      replace LM := LM.keep K160 nin0
      replace LD := LD.keep K160 nin0
      replace LZ := LZ.keep K160 nin0
      replace S_CS := Jvm.OwnK.Sta_keep S_CS K160
      replace S_D := Jvm.OwnK.Sta_keep S_D K160
      replace O := O.keep K160 (all0)
      replace AD := AD.keep K160 nin0
      replace X_s1 := X_s1.keep K160
      replace SS1 := SS1.keep K160 nin0 nin0
      replace X_s2 := X_s2.keep K160
      replace SS2 := SS2.keep K160 nin0 nin0
      replace X_b119 := X_b119.keep K160
      replace X_b138 := X_b138.keep K160
      show Go Γ n0 _ T (mkF Γ.m 163 #[.val (.int p0), .val (.int p1), .val (.int p2), .val (.int p3), .val (.int p4), .val (.int p5), .val (.int l1), .val (.int c0), .val (.int c1), .val (.int cp), .val (.int l2), .val (.int e0), .val (.int e1), .val (.ref s1), .val (.ref s2), .val (.ref b119), .val (.ref b138), .unset, .unset, .unset] [(.ref xi), (.ref b138)])
      refine k_callV G X (argsL := [(.ref xi)]) (rest := []) rfl X_b138 (w57 hw) (w58 hw) (nf_sel (w60 hw)) (w60 hw) (w59 hw) (w28 hw) (w61 hw) (by decide) (al_a0 hw b138 xi aD kD (0 : Int32) h160 n0 _ ⟨ge_b138, (List.mem_of_getElem? (i := 0) rfl)⟩ O X_b138 LM LD LZ EX (ne_exa EX X_b138 (by decide)) S_D AD ne_aD_b138) at_163 pd12 rfl (pc' := 166) rfl rfl (wd := 0) rfl (by decide) (by decide) (by decide) (by decide) (fun T h163 v sf163 X q => ?_)
      replace X := W.drop X
      obtain ⟨rfl, e163, ke163, K163, -⟩ := q
      replace S_CS := Sta_keepL S_CS K163 (allS (Pln_exa X_b138) (all0))
      replace S_D := Sta_keepL S_D K163 (allS (Pln_exa X_b138) (all0))
      replace O := O.keep K163 (allS ge_b138 (all0))
      replace AD := AD.keep K163 (by simp only [List.mem_cons, List.not_mem_nil, or_false, not_or]; exact ne_aD_b138)
      replace X_s1 := X_s1.keep K163
      replace SS1 := SS1.keep K163 (by simp only [List.mem_cons, List.not_mem_nil, or_false, not_or]; exact ne_s1_b138) (by simp only [List.mem_cons, List.not_mem_nil, or_false, not_or]; exact ne_b1_b138)
      replace X_s2 := X_s2.keep K163
      replace SS2 := SS2.keep K163 (by simp only [List.mem_cons, List.not_mem_nil, or_false, not_or]; exact ne_s2_b138) (by simp only [List.mem_cons, List.not_mem_nil, or_false, not_or]; exact ne_b2_b138)
      replace X_b119 := X_b119.keep K163
      replace X_b138 := X_b138.keep K163
      show Go Γ n0 _ T (mkF Γ.m 166 #[.val (.int p0), .val (.int p1), .val (.int p2), .val (.int p3), .val (.int p4), .val (.int p5), .val (.int l1), .val (.int c0), .val (.int c1), .val (.int cp), .val (.int l2), .val (.int e0), .val (.int e1), .val (.ref s1), .val (.ref s2), .val (.ref b119), .val (.ref b138), .unset, .unset, .unset] [(.int (1 : Int32))])
      refine k_pop G X at_166 (pc' := 167) rfl rfl ?_
      refine k_new G X (w88 hw) (w89 hw) (w90 hw) at_167 (pc' := 170) rfl (by decide) (by decide) (fun T h167 b167 s_b167 E167 X_b167 D167 X => ?_)
      have ne_aD_b167 : aD ≠ b167 := Nat.ne_of_lt (Nat.lt_of_lt_of_eq AD.lt s_b167)
      have ne_s1_b167 : s1 ≠ b167 := Nat.ne_of_lt (Nat.lt_of_lt_of_eq X_s1.lt s_b167)
      have ne_s2_b167 : s2 ≠ b167 := Nat.ne_of_lt (Nat.lt_of_lt_of_eq X_s2.lt s_b167)
      have ne_b119_b167 : b119 ≠ b167 := Nat.ne_of_lt (Nat.lt_of_lt_of_eq X_b119.lt s_b167)
      have ne_b138_b167 : b138 ≠ b167 := Nat.ne_of_lt (Nat.lt_of_lt_of_eq X_b138.lt s_b167)
      have ne_b1_b167 : b1 ≠ b167 := Nat.ne_of_lt (Nat.lt_of_lt_of_eq SS1.lt' s_b167)
      have ne_b2_b167 : b2 ≠ b167 := Nat.ne_of_lt (Nat.lt_of_lt_of_eq SS2.lt' s_b167)
      have ge_b167 : n0 ≤ b167 := Nat.le_trans (Jvm.OwnK.Old_le O) (Nat.le_of_eq s_b167)
      replace O := O.ext E167
      replace S_CS := S_CS.ext E167
      replace S_D := S_D.ext E167
      replace AD := AD.ext E167
      replace X_s1 := X_s1.ext E167
      replace SS1 := SS1.ext E167
      replace X_s2 := X_s2.ext E167
      replace SS2 := SS2.ext E167
      replace X_b119 := X_b119.ext E167
      replace X_b138 := X_b138.ext E167
      have F_b167_name : Fld Z h167 b167 "com/example/shadowhex/shadowhex/Corner" "name" "Ljava/lang/String;" .null := D167 (Or.inr (w101 hw)) (ty := (.object "java/lang/String")) (by decide)
      have F_b167_x : Fld Z h167 b167 "com/example/shadowhex/shadowhex/Corner" "x" "I" (.int (0 : Int32)) := D167 (Or.inr (w103 hw)) (ty := .int) (by decide)
      have F_b167_y : Fld Z h167 b167 "com/example/shadowhex/shadowhex/Corner" "y" "I" (.int (0 : Int32)) := D167 (Or.inr (w105 hw)) (ty := .int) (by decide)
      have F_b167_hexes : Fld Z h167 b167 "com/example/shadowhex/shadowhex/Corner" "hexes" "Ljava/util/List;" .null := D167 (Or.inr (w107 hw)) (ty := (.object "java/util/List")) (by decide)
      refine k_dup G X at_170 (pc' := 171) rfl rfl ?_
      refine k_aload G X at_171 (pc' := 173) rfl rfl rfl ?_
      refine k_iloadN G X at_173 (pc' := 174) rfl rfl ?_
      refine k_iloadN G X at_174 (pc' := 175) rfl rfl ?_
      refine k_aload G X at_175 (pc' := 177) rfl rfl rfl ?_
      refine k_callI G X (argsL := [(.ref s1), (.int p2), (.int p3), (.ref b119)]) (rest := [(.ref b167)]) rfl rfl (w91 hw) (w92 hw) (w90 hw) (w93 hw) (by decide) (co_init hw b167 s1 p2 p3 b119 h167 n0 _ ⟨ge_b167, (List.mem_of_getElem? (i := 0) rfl)⟩ X_b167 F_b167_name F_b167_x F_b167_y F_b167_hexes) at_177 pd15 rfl (pc' := 180) rfl rfl (wd := 1) rfl (by decide) (by decide) (by decide) (by decide) (fun T h177 v sf177 X q => ?_)
      replace X := W.drop X
      obtain ⟨rfl, K177, E_b167, FN_b167⟩ := q
      replace S_CS := Sta_keepL S_CS K177 (allS (Pln_exa X_b167) (all0))
      replace S_D := Sta_keepL S_D K177 (allS (Pln_exa X_b167) (all0))
      replace O := O.keep K177 (allS ge_b167 (all0))
      replace AD := AD.keep K177 (by simp only [List.mem_cons, List.not_mem_nil, or_false, not_or]; exact ne_aD_b167)
      replace X_s1 := X_s1.keep K177
      replace SS1 := SS1.keep K177 (by simp only [List.mem_cons, List.not_mem_nil, or_false, not_or]; exact ne_s1_b167) (by simp only [List.mem_cons, List.not_mem_nil, or_false, not_or]; exact ne_b1_b167)
      replace X_s2 := X_s2.keep K177
      replace SS2 := SS2.keep K177 (by simp only [List.mem_cons, List.not_mem_nil, or_false, not_or]; exact ne_s2_b167) (by simp only [List.mem_cons, List.not_mem_nil, or_false, not_or]; exact ne_b2_b167)
      replace X_b119 := X_b119.keep K177
      replace X_b138 := X_b138.keep K177
      replace X_b167 := X_b167.keep K177
      show Go Γ n0 _ T (mkF Γ.m 180 #[.val (.int p0), .val (.int p1), .val (.int p2), .val (.int p3), .val (.int p4), .val (.int p5), .val (.int l1), .val (.int c0), .val (.int c1), .val (.int cp), .val (.int l2), .val (.int e0), .val (.int e1), .val (.ref s1), .val (.ref s2), .val (.ref b119), .val (.ref b138), .unset, .unset, .unset] [(.ref b167)])
      refine k_astore G X at_180 (pc' := 182) rfl rfl (l' := #[.val (.int p0), .val (.int p1), .val (.int p2), .val (.int p3), .val (.int p4), .val (.int p5), .val (.int l1), .val (.int c0), .val (.int c1), .val (.int cp), .val (.int l2), .val (.int e0), .val (.int e1), .val (.ref s1), .val (.ref s2), .val (.ref b119), .val (.ref b138), .val (.ref b167), .unset, .unset]) rfl ?_
      refine k_new G X (w88 hw) (w89 hw) (w90 hw) at_182 (pc' := 185) rfl (by decide) (by decide) (fun T h182 b182 s_b182 E182 X_b182 D182 X => ?_)
      have ne_aD_b182 : aD ≠ b182 := Nat.ne_of_lt (Nat.lt_of_lt_of_eq AD.lt s_b182)
      have ne_s1_b182 : s1 ≠ b182 := Nat.ne_of_lt (Nat.lt_of_lt_of_eq X_s1.lt s_b182)
      have ne_s2_b182 : s2 ≠ b182 := Nat.ne_of_lt (Nat.lt_of_lt_of_eq X_s2.lt s_b182)
      have ne_b119_b182 : b119 ≠ b182 := Nat.ne_of_lt (Nat.lt_of_lt_of_eq X_b119.lt s_b182)
      have ne_b138_b182 : b138 ≠ b182 := Nat.ne_of_lt (Nat.lt_of_lt_of_eq X_b138.lt s_b182)
      have ne_b167_b182 : b167 ≠ b182 := Nat.ne_of_lt (Nat.lt_of_lt_of_eq X_b167.lt s_b182)
      have ne_b1_b182 : b1 ≠ b182 := Nat.ne_of_lt (Nat.lt_of_lt_of_eq SS1.lt' s_b182)
      have ne_b2_b182 : b2 ≠ b182 := Nat.ne_of_lt (Nat.lt_of_lt_of_eq SS2.lt' s_b182)
      have ge_b182 : n0 ≤ b182 := Nat.le_trans (Jvm.OwnK.Old_le O) (Nat.le_of_eq s_b182)
      replace O := O.ext E182
      replace S_CS := S_CS.ext E182
      replace S_D := S_D.ext E182
      replace AD := AD.ext E182
      replace X_s1 := X_s1.ext E182
      replace SS1 := SS1.ext E182
      replace X_s2 := X_s2.ext E182
      replace SS2 := SS2.ext E182
      replace X_b119 := X_b119.ext E182
      replace X_b138 := X_b138.ext E182
      replace X_b167 := X_b167.ext E182
      replace FN_b167 := FN_b167.ext E182
      have F_b182_name : Fld Z h182 b182 "com/example/shadowhex/shadowhex/Corner" "name" "Ljava/lang/String;" .null := D182 (Or.inr (w101 hw)) (ty := (.object "java/lang/String")) (by decide)
      have F_b182_x : Fld Z h182 b182 "com/example/shadowhex/shadowhex/Corner" "x" "I" (.int (0 : Int32)) := D182 (Or.inr (w103 hw)) (ty := .int) (by decide)
      have F_b182_y : Fld Z h182 b182 "com/example/shadowhex/shadowhex/Corner" "y" "I" (.int (0 : Int32)) := D182 (Or.inr (w105 hw)) (ty := .int) (by decide)
      have F_b182_hexes : Fld Z h182 b182 "com/example/shadowhex/shadowhex/Corner" "hexes" "Ljava/util/List;" .null := D182 (Or.inr (w107 hw)) (ty := (.object "java/util/List")) (by decide)
      refine k_dup G X at_185 (pc' := 186) rfl rfl ?_
      refine k_aload G X at_186 (pc' := 188) rfl rfl rfl ?_
      refine k_iload G X at_188 (pc' := 190) rfl rfl ?_
      refine k_iload G X at_190 (pc' := 192) rfl rfl ?_
      refine k_aload G X at_192 (pc' := 194) rfl rfl rfl ?_
      refine k_callI G X (argsL := [(.ref s2), (.int p4), (.int p5), (.ref b138)]) (rest := [(.ref b182)]) rfl rfl (w91 hw) (w92 hw) (w90 hw) (w93 hw) (by decide) (co_init hw b182 s2 p4 p5 b138 h182 n0 _ ⟨ge_b182, (List.mem_of_getElem? (i := 0) rfl)⟩ X_b182 F_b182_name F_b182_x F_b182_y F_b182_hexes) at_194 pd15 rfl (pc' := 197) rfl rfl (wd := 1) rfl (by decide) (by decide) (by decide) (by decide) (fun T h194 v sf194 X q => ?_)
      replace X := W.drop X
      obtain ⟨rfl, K194, E_b182, FN_b182⟩ := q
      replace S_CS := Sta_keepL S_CS K194 (allS (Pln_exa X_b182) (all0))
      replace S_D := Sta_keepL S_D K194 (allS (Pln_exa X_b182) (all0))
      replace O := O.keep K194 (allS ge_b182 (all0))
      replace AD := AD.keep K194 (by simp only [List.mem_cons, List.not_mem_nil, or_false, not_or]; exact ne_aD_b182)
      replace X_s1 := X_s1.keep K194
      replace SS1 := SS1.keep K194 (by simp only [List.mem_cons, List.not_mem_nil, or_false, not_or]; exact ne_s1_b182) (by simp only [List.mem_cons, List.not_mem_nil, or_false, not_or]; exact ne_b1_b182)
      replace X_s2 := X_s2.keep K194
      replace SS2 := SS2.keep K194 (by simp only [List.mem_cons, List.not_mem_nil, or_false, not_or]; exact ne_s2_b182) (by simp only [List.mem_cons, List.not_mem_nil, or_false, not_or]; exact ne_b2_b182)
      replace X_b119 := X_b119.keep K194
      replace X_b138 := X_b138.keep K194
      replace X_b167 := X_b167.keep K194
      replace FN_b167 := FN_b167.keep K194 (by simp only [List.mem_cons, List.not_mem_nil, or_false, not_or]; exact ne_b167_b182)
      replace X_b182 := X_b182.keep K194
      show Go Γ n0 _ T (mkF Γ.m 197 #[.val (.int p0), .val (.int p1), .val (.int p2), .val (.int p3), .val (.int p4), .val (.int p5), .val (.int l1), .val (.int c0), .val (.int c1), .val (.int cp), .val (.int l2), .val (.int e0), .val (.int e1), .val (.ref s1), .val (.ref s2), .val (.ref b119), .val (.ref b138), .val (.ref b167), .unset, .unset] [(.ref b182)])
      refine k_astore G X at_197 (pc' := 199) rfl rfl (l' := #[.val (.int p0), .val (.int p1), .val (.int p2), .val (.int p3), .val (.int p4), .val (.int p5), .val (.int l1), .val (.int c0), .val (.int c1), .val (.int cp), .val (.int l2), .val (.int e0), .val (.int e1), .val (.ref s1), .val (.ref s2), .val (.ref b119), .val (.ref b138), .val (.ref b167), .val (.ref b182), .unset]) rfl ?_
      have u1 : (1 : Int32).toInt = 1 := rfl; have u2 : (2 : Int32).toInt = 2 := rfl
      have J239 : ∀ (T : State) (sm : Int32), ((sm = 1 ∧ SM n1 n2 c0 c1 e0 e1) ∨ (sm = 0 ∧ ¬ SM n1 n2 c0 c1 e0 e1)) → W Γ n0 T h194 20 60 (b182 :: b167 :: b138 :: b119 :: []) → Go Γ n0 (fun v h sf => v = some (.int 1)) T (mkF Γ.m 239 #[.val (.int p0), .val (.int p1), .val (.int p2), .val (.int p3), .val (.int p4), .val (.int p5), .val (.int l1), .val (.int c0), .val (.int c1), .val (.int cp), .val (.int l2), .val (.int e0), .val (.int e1), .val (.ref s1), .val (.ref s2), .val (.ref b119), .val (.ref b138), .val (.ref b167), .val (.ref b182), .val (.int sm)] []) := by
        intro T sm hsm X
        refine k_aload G X at_239 (pc' := 241) rfl rfl rfl ?_
        refine k_aload G X at_241 (pc' := 243) rfl rfl rfl ?_
        refine k_callV G X (argsL := [(.ref b182)]) (rest := []) rfl X_b167 (w108 hw) (w109 hw) (nf_sel (w111 hw)) (w111 hw) (w110 hw) (w90 hw) (w112 hw) (by decide) (co_q hw b167 b182 s1 s2 b1 b2 k1 k2 n1 n2 cs (fun i => (own2 c0 c1 i).toInt8.toInt32) (fun i => (own2 e0 e1 i).toInt8.toInt32) h194 n0 _ FN_b167 X_b182 FN_b182 SS1 SS2 ne_s1_s2 S_CS hcs) at_243 pd12 rfl (pc' := 246) rfl rfl (wd := 0) rfl (by decide) (by decide) (by decide) (by decide) (fun T h243 v sf243 X q => ?_)
        replace X := W.drop X
        obtain ⟨rA, rfl, hrA, hiA, e243⟩ := q
        replace X := X.eq e243
        obtain rfl : sm = rA := (eq_sm (P := SM n1 n2 c0 c1 e0 e1) hrA hiA hsm).symm
        show Go Γ n0 _ T (mkF Γ.m 246 #[.val (.int p0), .val (.int p1), .val (.int p2), .val (.int p3), .val (.int p4), .val (.int p5), .val (.int l1), .val (.int c0), .val (.int c1), .val (.int cp), .val (.int l2), .val (.int e0), .val (.int e1), .val (.ref s1), .val (.ref s2), .val (.ref b119), .val (.ref b138), .val (.ref b167), .val (.ref b182), .val (.int sm)] [(.int sm)])
        refine k_iload G X at_246 (pc' := 248) rfl rfl ?_
        refine k_icmp_ne G X at_248 (pc' := 296) rfl (by decide) (pc'' := 251) rfl (fun c248 => (absurd c248 (by simp))) (fun c248 => ?_)
        refine k_aload G X at_251 (pc' := 253) rfl rfl rfl ?_
        refine k_aload G X at_253 (pc' := 255) rfl rfl rfl ?_
        refine k_callV G X (argsL := [(.ref b167)]) (rest := []) rfl X_b182 (w108 hw) (w109 hw) (nf_sel (w111 hw)) (w111 hw) (w110 hw) (w90 hw) (w112 hw) (by decide) (co_q hw b182 b167 s2 s1 b2 b1 k2 k1 n2 n1 cs (fun i => (own2 e0 e1 i).toInt8.toInt32) (fun i => (own2 c0 c1 i).toInt8.toInt32) h194 n0 _ FN_b182 X_b167 FN_b167 SS2 SS1 ne_s1_s2.symm S_CS hcs) at_255 pd12 rfl (pc' := 258) rfl rfl (wd := 0) rfl (by decide) (by decide) (by decide) (by decide) (fun T h255 v sf255 X q => ?_)
        replace X := W.drop X
        obtain ⟨rB, rfl, hrB, hiB, e255⟩ := q
        replace X := X.eq e255
        obtain rfl : sm = rB := (eq_sm (P := SM n1 n2 c0 c1 e0 e1) hrB (hiB.trans ⟨SM.symm, SM.symm⟩) hsm).symm
        show Go Γ n0 _ T (mkF Γ.m 258 #[.val (.int p0), .val (.int p1), .val (.int p2), .val (.int p3), .val (.int p4), .val (.int p5), .val (.int l1), .val (.int c0), .val (.int c1), .val (.int cp), .val (.int l2), .val (.int e0), .val (.int e1), .val (.ref s1), .val (.ref s2), .val (.ref b119), .val (.ref b138), .val (.ref b167), .val (.ref b182), .val (.int sm)] [(.int sm)])
        refine k_iload G X at_258 (pc' := 260) rfl rfl ?_
        refine k_icmp_ne G X at_260 (pc' := 296) rfl (by decide) (pc'' := 263) rfl (fun c260 => (absurd c260 (by simp))) (fun c260 => ?_)
        refine k_aload G X at_263 (pc' := 265) rfl rfl rfl ?_
        refine k_aload G X at_265 (pc' := 267) rfl rfl rfl ?_
        refine k_callV G X (argsL := [(.ref b167)]) (rest := []) rfl X_b167 (w108 hw) (w109 hw) (nf_sel (w111 hw)) (w111 hw) (w110 hw) (w90 hw) (w112 hw) (by decide) (co_s hw b167 s1 h194 n0 _ X_b167 FN_b167 X_s1) at_267 pd12 rfl (pc' := 270) rfl rfl (wd := 0) rfl (by decide) (by decide) (by decide) (by decide) (fun T h267 v sf267 X q => ?_)
        replace X := W.drop X
        obtain ⟨rfl, e267⟩ := q
        replace X := X.eq e267
        show Go Γ n0 _ T (mkF Γ.m 270 #[.val (.int p0), .val (.int p1), .val (.int p2), .val (.int p3), .val (.int p4), .val (.int p5), .val (.int l1), .val (.int c0), .val (.int c1), .val (.int cp), .val (.int l2), .val (.int e0), .val (.int e1), .val (.ref s1), .val (.ref s2), .val (.ref b119), .val (.ref b138), .val (.ref b167), .val (.ref b182), .val (.int sm)] [(.int (1 : Int32))])
        refine k_if_eq G X at_270 (pc' := 296) rfl (by decide) (pc'' := 273) rfl (fun c270 => (absurd c270 (by decide))) (fun c270 => ?_)
        refine k_aload G X at_273 (pc' := 275) rfl rfl rfl ?_
        refine k_anull G X at_275 (pc' := 276) rfl ?_
        refine k_callV G X (argsL := [.null]) (rest := []) rfl X_b167 (w108 hw) (w109 hw) (nf_sel (w111 hw)) (w111 hw) (w110 hw) (w90 hw) (w112 hw) (by decide) (co_n hw b167 h194 n0 _) at_276 pd12 rfl (pc' := 279) rfl rfl (wd := 0) rfl (by decide) (by decide) (by decide) (by decide) (fun T h276 v sf276 X q => ?_)
        replace X := W.drop X
        obtain ⟨rfl, e276⟩ := q
        replace X := X.eq e276
        show Go Γ n0 _ T (mkF Γ.m 279 #[.val (.int p0), .val (.int p1), .val (.int p2), .val (.int p3), .val (.int p4), .val (.int p5), .val (.int l1), .val (.int c0), .val (.int c1), .val (.int cp), .val (.int l2), .val (.int e0), .val (.int e1), .val (.ref s1), .val (.ref s2), .val (.ref b119), .val (.ref b138), .val (.ref b167), .val (.ref b182), .val (.int sm)] [(.int (0 : Int32))])
        refine k_if_ne G X at_279 (pc' := 296) rfl (by decide) (pc'' := 282) rfl (fun c279 => (absurd c279 (by decide))) (fun c279 => ?_)
        refine k_aload G X at_282 (pc' := 284) rfl rfl rfl ?_
        refine k_aload G X at_284 (pc' := 286) rfl rfl rfl ?_
        refine k_callV G X (argsL := [(.ref s1)]) (rest := []) rfl X_b167 (w108 hw) (w109 hw) (nf_sel (w111 hw)) (w111 hw) (w110 hw) (w90 hw) (w112 hw) (by decide) (co_x hw b167 s1 h194 n0 _ X_s1) at_286 pd12 rfl (pc' := 289) rfl rfl (wd := 0) rfl (by decide) (by decide) (by decide) (by decide) (fun T h286 v sf286 X q => ?_)
        replace X := W.drop X
        obtain ⟨rfl, e286⟩ := q
        replace X := X.eq e286
        show Go Γ n0 _ T (mkF Γ.m 289 #[.val (.int p0), .val (.int p1), .val (.int p2), .val (.int p3), .val (.int p4), .val (.int p5), .val (.int l1), .val (.int c0), .val (.int c1), .val (.int cp), .val (.int l2), .val (.int e0), .val (.int e1), .val (.ref s1), .val (.ref s2), .val (.ref b119), .val (.ref b138), .val (.ref b167), .val (.ref b182), .val (.int sm)] [(.int (0 : Int32))])
        refine k_if_ne G X at_289 (pc' := 296) rfl (by decide) (pc'' := 292) rfl (fun c289 => (absurd c289 (by decide))) (fun c289 => ?_)
        refine k_iconst G X at_292 (pc' := 293) rfl (z := (1 : Int32)) (by decide) ?_
        refine k_goto G X at_293 (by decide) (pc' := 297) rfl ?_
        refine k_retb G X at_297 (t := .boolean) rfl (by simp) rfl ?_ (by decide) (by decide)
        rfl
      refine k_iload G X at_199 (pc' := 201) rfl rfl ?_
      refine k_iload G X at_201 (pc' := 203) rfl rfl ?_
      refine k_icmp_ne G X at_203 (pc' := 236) rfl (by decide) (pc'' := 206) rfl (fun c203 => ?_) (fun c203 => ?_)
      · refine k_iconst G X at_236 (pc' := 237) rfl (z := (0 : Int32)) (by decide) ?_
        refine k_istore G X at_237 (pc' := 239) rfl (l' := #[.val (.int p0), .val (.int p1), .val (.int p2), .val (.int p3), .val (.int p4), .val (.int p5), .val (.int l1), .val (.int c0), .val (.int c1), .val (.int cp), .val (.int l2), .val (.int e0), .val (.int e1), .val (.ref s1), .val (.ref s2), .val (.ref b119), .val (.ref b138), .val (.ref b167), .val (.ref b182), .val (.int (0 : Int32))]) rfl ?_
        exact J239 T (0 : Int32) (Or.inr ⟨rfl, fun q => by have q := (same_iff hn1 t_c0 t_c1 t_e0 t_e1).mp q; first | exact c203 (of_toInt (by rw [hl1, hl2, q.1])) | exact q.2.1.elim (fun h => by omega) c216 | exact q.2.2.elim (fun h => by omega) c229⟩) X
      · refine k_iload G X at_206 (pc' := 208) rfl rfl ?_
        refine k_iconst G X at_208 (pc' := 209) rfl (z := (1 : Int32)) (by decide) ?_
        refine k_icmp_lt G X at_209 (pc' := 219) rfl (by decide) (pc'' := 212) rfl (fun c209 => ?_) (fun c209 => ?_)
        · refine k_iload G X at_219 (pc' := 221) rfl rfl ?_
          refine k_iconst G X at_221 (pc' := 222) rfl (z := (2 : Int32)) (by decide) ?_
          refine k_icmp_lt G X at_222 (pc' := 232) rfl (by decide) (pc'' := 225) rfl (fun c222 => ?_) (fun c222 => ?_)
          · refine k_iconst G X at_232 (pc' := 233) rfl (z := (1 : Int32)) (by decide) ?_
            refine k_goto G X at_233 (by decide) (pc' := 237) rfl ?_
            refine k_istore G X at_237 (pc' := 239) rfl (l' := #[.val (.int p0), .val (.int p1), .val (.int p2), .val (.int p3), .val (.int p4), .val (.int p5), .val (.int l1), .val (.int c0), .val (.int c1), .val (.int cp), .val (.int l2), .val (.int e0), .val (.int e1), .val (.ref s1), .val (.ref s2), .val (.ref b119), .val (.ref b138), .val (.ref b167), .val (.ref b182), .val (.int (1 : Int32))]) rfl ?_
            exact J239 T (1 : Int32) (Or.inl ⟨rfl, (same_iff hn1 t_c0 t_c1 t_e0 t_e1).mpr ⟨by have := congrArg Int32.toInt c203; omega, by first | exact Or.inr c216 | exact Or.inl (by omega), by first | exact Or.inr c229 | exact Or.inl (by omega)⟩⟩) X
          · refine k_iload G X at_225 (pc' := 227) rfl rfl ?_
            refine k_iload G X at_227 (pc' := 229) rfl rfl ?_
            refine k_icmp_ne G X at_229 (pc' := 236) rfl (by decide) (pc'' := 232) rfl (fun c229 => ?_) (fun c229 => ?_)
            · refine k_iconst G X at_236 (pc' := 237) rfl (z := (0 : Int32)) (by decide) ?_
              refine k_istore G X at_237 (pc' := 239) rfl (l' := #[.val (.int p0), .val (.int p1), .val (.int p2), .val (.int p3), .val (.int p4), .val (.int p5), .val (.int l1), .val (.int c0), .val (.int c1), .val (.int cp), .val (.int l2), .val (.int e0), .val (.int e1), .val (.ref s1), .val (.ref s2), .val (.ref b119), .val (.ref b138), .val (.ref b167), .val (.ref b182), .val (.int (0 : Int32))]) rfl ?_
              exact J239 T (0 : Int32) (Or.inr ⟨rfl, fun q => by have q := (same_iff hn1 t_c0 t_c1 t_e0 t_e1).mp q; first | exact c203 (of_toInt (by rw [hl1, hl2, q.1])) | exact q.2.1.elim (fun h => by omega) c216 | exact q.2.2.elim (fun h => by omega) c229⟩) X
            · refine k_iconst G X at_232 (pc' := 233) rfl (z := (1 : Int32)) (by decide) ?_
              refine k_goto G X at_233 (by decide) (pc' := 237) rfl ?_
              refine k_istore G X at_237 (pc' := 239) rfl (l' := #[.val (.int p0), .val (.int p1), .val (.int p2), .val (.int p3), .val (.int p4), .val (.int p5), .val (.int l1), .val (.int c0), .val (.int c1), .val (.int cp), .val (.int l2), .val (.int e0), .val (.int e1), .val (.ref s1), .val (.ref s2), .val (.ref b119), .val (.ref b138), .val (.ref b167), .val (.ref b182), .val (.int (1 : Int32))]) rfl ?_
              exact J239 T (1 : Int32) (Or.inl ⟨rfl, (same_iff hn1 t_c0 t_c1 t_e0 t_e1).mpr ⟨by have := congrArg Int32.toInt c203; omega, by first | exact Or.inr c216 | exact Or.inl (by omega), by first | exact Or.inr c229 | exact Or.inl (by omega)⟩⟩) X
        · refine k_iload G X at_212 (pc' := 214) rfl rfl ?_
          refine k_iload G X at_214 (pc' := 216) rfl rfl ?_
          refine k_icmp_ne G X at_216 (pc' := 236) rfl (by decide) (pc'' := 219) rfl (fun c216 => ?_) (fun c216 => ?_)
          · refine k_iconst G X at_236 (pc' := 237) rfl (z := (0 : Int32)) (by decide) ?_
            refine k_istore G X at_237 (pc' := 239) rfl (l' := #[.val (.int p0), .val (.int p1), .val (.int p2), .val (.int p3), .val (.int p4), .val (.int p5), .val (.int l1), .val (.int c0), .val (.int c1), .val (.int cp), .val (.int l2), .val (.int e0), .val (.int e1), .val (.ref s1), .val (.ref s2), .val (.ref b119), .val (.ref b138), .val (.ref b167), .val (.ref b182), .val (.int (0 : Int32))]) rfl ?_
            exact J239 T (0 : Int32) (Or.inr ⟨rfl, fun q => by have q := (same_iff hn1 t_c0 t_c1 t_e0 t_e1).mp q; first | exact c203 (of_toInt (by rw [hl1, hl2, q.1])) | exact q.2.1.elim (fun h => by omega) c216 | exact q.2.2.elim (fun h => by omega) c229⟩) X
          · refine k_iload G X at_219 (pc' := 221) rfl rfl ?_
            refine k_iconst G X at_221 (pc' := 222) rfl (z := (2 : Int32)) (by decide) ?_
            refine k_icmp_lt G X at_222 (pc' := 232) rfl (by decide) (pc'' := 225) rfl (fun c222 => ?_) (fun c222 => ?_)
            · refine k_iconst G X at_232 (pc' := 233) rfl (z := (1 : Int32)) (by decide) ?_
              refine k_goto G X at_233 (by decide) (pc' := 237) rfl ?_
              refine k_istore G X at_237 (pc' := 239) rfl (l' := #[.val (.int p0), .val (.int p1), .val (.int p2), .val (.int p3), .val (.int p4), .val (.int p5), .val (.int l1), .val (.int c0), .val (.int c1), .val (.int cp), .val (.int l2), .val (.int e0), .val (.int e1), .val (.ref s1), .val (.ref s2), .val (.ref b119), .val (.ref b138), .val (.ref b167), .val (.ref b182), .val (.int (1 : Int32))]) rfl ?_
              exact J239 T (1 : Int32) (Or.inl ⟨rfl, (same_iff hn1 t_c0 t_c1 t_e0 t_e1).mpr ⟨by have := congrArg Int32.toInt c203; omega, by first | exact Or.inr c216 | exact Or.inl (by omega), by first | exact Or.inr c229 | exact Or.inl (by omega)⟩⟩) X
            · refine k_iload G X at_225 (pc' := 227) rfl rfl ?_
              refine k_iload G X at_227 (pc' := 229) rfl rfl ?_
              refine k_icmp_ne G X at_229 (pc' := 236) rfl (by decide) (pc'' := 232) rfl (fun c229 => ?_) (fun c229 => ?_)
              · refine k_iconst G X at_236 (pc' := 237) rfl (z := (0 : Int32)) (by decide) ?_
                refine k_istore G X at_237 (pc' := 239) rfl (l' := #[.val (.int p0), .val (.int p1), .val (.int p2), .val (.int p3), .val (.int p4), .val (.int p5), .val (.int l1), .val (.int c0), .val (.int c1), .val (.int cp), .val (.int l2), .val (.int e0), .val (.int e1), .val (.ref s1), .val (.ref s2), .val (.ref b119), .val (.ref b138), .val (.ref b167), .val (.ref b182), .val (.int (0 : Int32))]) rfl ?_
                exact J239 T (0 : Int32) (Or.inr ⟨rfl, fun q => by have q := (same_iff hn1 t_c0 t_c1 t_e0 t_e1).mp q; first | exact c203 (of_toInt (by rw [hl1, hl2, q.1])) | exact q.2.1.elim (fun h => by omega) c216 | exact q.2.2.elim (fun h => by omega) c229⟩) X
              · refine k_iconst G X at_232 (pc' := 233) rfl (z := (1 : Int32)) (by decide) ?_
                refine k_goto G X at_233 (by decide) (pc' := 237) rfl ?_
                refine k_istore G X at_237 (pc' := 239) rfl (l' := #[.val (.int p0), .val (.int p1), .val (.int p2), .val (.int p3), .val (.int p4), .val (.int p5), .val (.int l1), .val (.int c0), .val (.int c1), .val (.int cp), .val (.int l2), .val (.int e0), .val (.int e1), .val (.ref s1), .val (.ref s2), .val (.ref b119), .val (.ref b138), .val (.ref b167), .val (.ref b182), .val (.int (1 : Int32))]) rfl ?_
                exact J239 T (1 : Int32) (Or.inl ⟨rfl, (same_iff hn1 t_c0 t_c1 t_e0 t_e1).mpr ⟨by have := congrArg Int32.toInt c203; omega, by first | exact Or.inr c216 | exact Or.inl (by omega), by first | exact Or.inr c229 | exact Or.inl (by omega)⟩⟩) X
  refine k_iloadN G X at_26 (pc' := 27) rfl rfl ?_
  refine k_iconst G X at_27 (pc' := 28) rfl (z := (1 : Int32)) (by decide) ?_
  refine k_iand G X at_28 (pc' := 29) rfl rfl ?_
  refine k_if_eq G X at_29 (pc' := 36) rfl (by decide) (pc'' := 32) rfl (fun c29 => ?_) (fun c29 => ?_)
  · refine k_iconst G X at_36 (pc' := 37) rfl (z := (0 : Int32)) (by decide) ?_
    refine k_istore G X at_37 (pc' := 39) rfl (l' := #[.val (.int p0), .val (.int p1), .val (.int p2), .val (.int p3), .val (.int p4), .val (.int p5), .val (.int l1), .val (.int c0), .val (.int c1), .val (.int (0 : Int32)), .unset, .unset, .unset, .unset, .unset, .unset, .unset, .unset, .unset, .unset]) rfl ?_
    refine k_iload G X at_39 (pc' := 41) rfl rfl ?_
    refine k_if_eq G X at_41 (pc' := 49) rfl (by decide) (pc'' := 44) rfl (fun c41 => ?_) (fun c41 => (absurd c41 (by decide)))
    refine k_iloadN G X at_49 (pc' := 50) rfl rfl ?_
    refine k_iconst G X at_50 (pc' := 51) rfl (z := (1 : Int32)) (by decide) ?_
    refine k_iushr G X at_51 (pc' := 52) rfl rfl ?_
    refine k_iconst G X at_52 (pc' := 53) rfl (z := (3 : Int32)) (by decide) ?_
    refine k_iand G X at_53 (pc' := 54) rfl rfl ?_
    refine k_iconst G X at_54 (pc' := 55) rfl (z := (3 : Int32)) (by decide) ?_
    refine k_irem G X at_55 (pc' := 56) rfl (by decide) rfl ?_
    obtain ⟨l2, q_l2⟩ : ∃ z, ((((p1.toUInt32 >>> ((1 : Int32) &&& 31).toUInt32).toInt32) &&& (3 : Int32)) % (3 : Int32)) = z := ⟨_, rfl⟩
    have t_l2 := rem_rng (((p1.toUInt32 >>> ((1 : Int32) &&& 31).toUInt32).toInt32) &&& (3 : Int32)) (y := 3) 3 rfl (by decide) (and_rng _ 3 rfl (by decide)).1
    rw [q_l2] at t_l2 ⊢
    refine k_istore G X at_56 (pc' := 58) rfl (l' := #[.val (.int p0), .val (.int p1), .val (.int p2), .val (.int p3), .val (.int p4), .val (.int p5), .val (.int l1), .val (.int c0), .val (.int c1), .val (.int (0 : Int32)), .val (.int l2), .unset, .unset, .unset, .unset, .unset, .unset, .unset, .unset, .unset]) rfl ?_
    refine k_iload G X at_58 (pc' := 60) rfl rfl ?_
    refine k_if_eq G X at_60 (pc' := 68) rfl (by decide) (pc'' := 63) rfl (fun c60 => ?_) (fun c60 => (absurd c60 (by decide)))
    refine k_iloadN G X at_68 (pc' := 69) rfl rfl ?_
    refine k_iconst G X at_69 (pc' := 70) rfl (z := (3 : Int32)) (by decide) ?_
    refine k_iushr G X at_70 (pc' := 71) rfl rfl ?_
    refine k_sipush G X at_71 (pc' := 74) rfl (z := (255 : Int32)) (by decide) ?_
    refine k_iand G X at_74 (pc' := 75) rfl rfl ?_
    obtain ⟨e0, q_e0⟩ : ∃ z, (((p1.toUInt32 >>> ((3 : Int32) &&& 31).toUInt32).toInt32) &&& (255 : Int32)) = z := ⟨_, rfl⟩
    have t_e0 := and_rng ((p1.toUInt32 >>> ((3 : Int32) &&& 31).toUInt32).toInt32) (m := 255) 255 rfl (by decide)
    rw [q_e0] at t_e0 ⊢
    refine k_istore G X at_75 (pc' := 77) rfl (l' := #[.val (.int p0), .val (.int p1), .val (.int p2), .val (.int p3), .val (.int p4), .val (.int p5), .val (.int l1), .val (.int c0), .val (.int c1), .val (.int (0 : Int32)), .val (.int l2), .val (.int e0), .unset, .unset, .unset, .unset, .unset, .unset, .unset, .unset]) rfl ?_
    refine k_iload G X at_77 (pc' := 79) rfl rfl ?_
    refine k_if_eq G X at_79 (pc' := 87) rfl (by decide) (pc'' := 82) rfl (fun c79 => ?_) (fun c79 => (absurd c79 (by decide)))
    refine k_iloadN G X at_87 (pc' := 88) rfl rfl ?_
    refine k_bipush G X at_88 (pc' := 90) rfl (z := (11 : Int32)) (by decide) ?_
    refine k_iushr G X at_90 (pc' := 91) rfl rfl ?_
    refine k_sipush G X at_91 (pc' := 94) rfl (z := (255 : Int32)) (by decide) ?_
    refine k_iand G X at_94 (pc' := 95) rfl rfl ?_
    obtain ⟨e1, q_e1⟩ : ∃ z, (((p1.toUInt32 >>> ((11 : Int32) &&& 31).toUInt32).toInt32) &&& (255 : Int32)) = z := ⟨_, rfl⟩
    have t_e1 := and_rng ((p1.toUInt32 >>> ((11 : Int32) &&& 31).toUInt32).toInt32) (m := 255) 255 rfl (by decide)
    rw [q_e1] at t_e1 ⊢
    refine k_istore G X at_95 (pc' := 97) rfl (l' := #[.val (.int p0), .val (.int p1), .val (.int p2), .val (.int p3), .val (.int p4), .val (.int p5), .val (.int l1), .val (.int c0), .val (.int c1), .val (.int (0 : Int32)), .val (.int l2), .val (.int e0), .val (.int e1), .unset, .unset, .unset, .unset, .unset, .unset, .unset]) rfl ?_
    exact J97 T (0 : Int32) l2 e0 e1 (by omega) (by omega) (by omega) X
  · refine k_iconst G X at_32 (pc' := 33) rfl (z := (1 : Int32)) (by decide) ?_
    refine k_goto G X at_33 (by decide) (pc' := 37) rfl ?_
    refine k_istore G X at_37 (pc' := 39) rfl (l' := #[.val (.int p0), .val (.int p1), .val (.int p2), .val (.int p3), .val (.int p4), .val (.int p5), .val (.int l1), .val (.int c0), .val (.int c1), .val (.int (1 : Int32)), .unset, .unset, .unset, .unset, .unset, .unset, .unset, .unset, .unset, .unset]) rfl ?_
    refine k_iload G X at_39 (pc' := 41) rfl rfl ?_
    refine k_if_eq G X at_41 (pc' := 49) rfl (by decide) (pc'' := 44) rfl (fun c41 => (absurd c41 (by decide))) (fun c41 => ?_)
    refine k_iload G X at_44 (pc' := 46) rfl rfl ?_
    refine k_goto G X at_46 (by decide) (pc' := 56) rfl ?_
    refine k_istore G X at_56 (pc' := 58) rfl (l' := #[.val (.int p0), .val (.int p1), .val (.int p2), .val (.int p3), .val (.int p4), .val (.int p5), .val (.int l1), .val (.int c0), .val (.int c1), .val (.int (1 : Int32)), .val (.int l1), .unset, .unset, .unset, .unset, .unset, .unset, .unset, .unset, .unset]) rfl ?_
    refine k_iload G X at_58 (pc' := 60) rfl rfl ?_
    refine k_if_eq G X at_60 (pc' := 68) rfl (by decide) (pc'' := 63) rfl (fun c60 => (absurd c60 (by decide))) (fun c60 => ?_)
    refine k_iload G X at_63 (pc' := 65) rfl rfl ?_
    refine k_goto G X at_65 (by decide) (pc' := 75) rfl ?_
    refine k_istore G X at_75 (pc' := 77) rfl (l' := #[.val (.int p0), .val (.int p1), .val (.int p2), .val (.int p3), .val (.int p4), .val (.int p5), .val (.int l1), .val (.int c0), .val (.int c1), .val (.int (1 : Int32)), .val (.int l1), .val (.int c0), .unset, .unset, .unset, .unset, .unset, .unset, .unset, .unset]) rfl ?_
    refine k_iload G X at_77 (pc' := 79) rfl rfl ?_
    refine k_if_eq G X at_79 (pc' := 87) rfl (by decide) (pc'' := 82) rfl (fun c79 => (absurd c79 (by decide))) (fun c79 => ?_)
    refine k_iload G X at_82 (pc' := 84) rfl rfl ?_
    refine k_goto G X at_84 (by decide) (pc' := 95) rfl ?_
    refine k_istore G X at_95 (pc' := 97) rfl (l' := #[.val (.int p0), .val (.int p1), .val (.int p2), .val (.int p3), .val (.int p4), .val (.int p5), .val (.int l1), .val (.int c0), .val (.int c1), .val (.int (1 : Int32)), .val (.int l1), .val (.int c0), .val (.int c1), .unset, .unset, .unset, .unset, .unset, .unset, .unset]) rfl ?_
    exact J97 T (1 : Int32) l1 c0 c1 (by omega) (by omega) (by omega) X
set_option maxRecDepth 65536 in
set_option maxHeartbeats 40000000 in
theorem comes_1 {Post : Tables → Env → Array Value → State → Outcome → State → Prop} (hpost : ∀ tb e args s v u, (limb_1_1.after args s (.returned v) u = true ∧ limb_1_2.after args s (.returned v) u = true ∧ True) → ReturnedEndW s (.returned v) u (Jvm.fieldLocs frame_1_writes args s ++ Jvm.arrayLocs frame_1_arrays args s ++ Jvm.staticLocs frame_1_statics s) 40 1216 → Post tb e args s (.returned v) u) :
    ArmFor flags0 classFile x code maxLocals ret World_1 tables_1 room_1 Calls_1 rest_1 Pre_1 Post := by
  intro l hfl _ _ p e ha hc hk s m args below hf hA hF happ hP
  obtain ⟨hcalls, hrest, hpre⟩ := hP
  obtain ⟨-, -, -, hnamed, -, -, -, hat⟩ := (Spec.applies_iff hf).mp happ
  obtain ⟨hg, hn⟩ := and_e (Cond.before_iff.mp (show (Jvm.Cond.and given_1 narrow_1).before args s = true from hpre))
  obtain ⟨hg0, hgr0⟩ := and_e hg
  obtain ⟨hg1, hgr1⟩ := and_e hgr0
  obtain ⟨hg2, hgr2⟩ := and_e hgr1
  obtain ⟨hg3, hgr3⟩ := and_e hgr2
  obtain ⟨hg4, hgr4⟩ := and_e hgr3
  obtain ⟨hg5, hgr5⟩ := and_e hgr4
  obtain ⟨w0', w1', w2', w3', w4', w5', rfl⟩ : ∃ w0' w1' w2' w3' w4' w5' : Value, args = #[w0', w1', w2', w3', w4', w5'] := by
    have hs : args.size = 6 := by simpa [Cond.value, given_1] using hg0
    obtain ⟨L⟩ := args
    match L, hs with
    | [w0', w1', w2', w3', w4', w5'], _ => exact ⟨w0', w1', w2', w3', w4', w5', rfl⟩
  have hw : HW _ s := fun d (hd : d ∈ tables_1) => atoms_spec (ws := Jvm.Cond.code x code maxLocals ret :: tables_1) hat d (List.mem_cons_of_mem _ hd)
  have hfit : Fit s := fun {y c} hc i hi => by
    obtain ⟨ha, rfl⟩ := Array.getElem?_eq_some_iff.mp hc
    have q := List.all_eq_true.mp ((Array.all_eq_true_iff_forall_mem.mp hF) _ (Array.getElem_mem ha)) i (List.mem_range.mpr hi)
    simpa [Array.getElem?_eq_getElem hi] using q
  obtain ⟨hsets, hown0⟩ := atoms_of _ (rest_1_c_eq ▸ (show rest_1_c.before _ s = true from hrest))
  have hr0 := Cond.before_iff.mp hown0
  obtain ⟨i0, ei0⟩ := is_v hg1
  obtain rfl : w0' = (.int i0) := Option.some.inj ei0
  obtain ⟨i1, ei1⟩ := is_v hg2
  obtain rfl : w1' = (.int i1) := Option.some.inj ei1
  obtain ⟨i2, ei2⟩ := is_v hg3
  obtain rfl : w2' = (.int i2) := Option.some.inj ei2
  obtain ⟨i3, ei3⟩ := is_v hg4
  obtain rfl : w3' = (.int i3) := Option.some.inj ei3
  obtain ⟨i4, ei4⟩ := is_v hg5
  obtain rfl : w4' = (.int i4) := Option.some.inj ei4
  obtain ⟨i5, ei5⟩ := is_v hgr5
  obtain rfl : w5' = (.int i5) := Option.some.inj ei5
  have hcw := (hsets _ (List.mem_of_getElem? (i := 19) rfl))
  obtain ⟨cs, S_CS, hcs⟩ := s_cs (hsets _ (List.mem_of_getElem? (i := 17) rfl)) (hsets _ (List.mem_of_getElem? (i := 18) rfl)) (hsets _ (List.mem_of_getElem? (i := 19) rfl))
  obtain ⟨aD, kD, S_D, AD⟩ := s_arr2 (hsets _ (List.mem_of_getElem? (i := 7) rfl)) (Or.inr ⟨(w28 hw), (hsets _ (List.mem_of_getElem? (i := 2) rfl))⟩) (hsets _ (List.mem_of_getElem? (i := 6) rfl)) (hsets _ (List.mem_of_getElem? (i := 8) rfl))
  obtain ⟨aC, kC, gC, IH⟩ := s_ich (a0 := #[]) (w55 hw) (hsets _ (List.mem_of_getElem? (i := 11) rfl)) (hsets _ (List.mem_of_getElem? (i := 10) rfl)) (hsets _ (List.mem_of_getElem? (i := 12) rfl)) (hsets _ (List.mem_of_getElem? (i := 13) rfl)) (hsets _ (List.mem_of_getElem? (i := 14) rfl)) (hsets _ (List.mem_of_getElem? (i := 15) rfl)) (hsets _ (List.mem_of_getElem? (i := 16) rfl))
  obtain ⟨n, o, h1, h2, h3, _, L, rfl, ⟨⟨_, rfl, -⟩, N⟩, -, hq⟩ := rm0 hw i0 i1 i2 i3 i4 i5 cs aD aC kD kC gC s.heap s.heap.size (Old.start s) S_CS hcs S_D AD IH l p e ha hc hk s m _ below hf ((Spec.applies_iff_loose hf).mp happ).1 ⟨rfl, State.Warmed39.refl s, rfl, CHv.start (hEW hw).choose_spec (fun p hp => hcalls.1 p hp) hcw (hw _ (List.mem_of_getElem? (i := 19) rfl)) (hw _ (List.mem_of_getElem? (i := 5) rfl)), fun x hx => by cases hx⟩ trivial
  exact ⟨n, _, h1, h2, h3, hpost _ _ _ _ _ _ ⟨Cond.after_iff.mpr rfl, Cond.after_iff.mpr (eq_i res_at (Term.int_eval (1)) rfl), trivial⟩ ⟨hq.1, hq.2.1, hq.2.2.1, (hq.2.2.2.sift fun y hy => Or.inr (N y hy)).mono (by decide) (by decide)⟩⟩
theorem main_1_1 : Claimed_1_1 := comes_1 fun _ _ _ _ _ _ h hF => ⟨h.1, hF⟩
theorem main_1_2 : Claimed_1_2 := comes_1 fun _ _ _ _ _ _ h hF => ⟨h.2.1, hF⟩
end Jvm.Pilot.@@N@@
namespace Jvm.Pilot.@@N@@
open Jvm Jvm.ClassFile Sem Op Lib Jvm.Free Jvm.Stand Jvm.Pilot.@@N@@.Jvm.D
/-! MADE BY PROGRAM (witnessworld.py) out of the Statement's table words and the real class files: 35 classes; the members and pool entries that the words name. The judged class is class 1, her method 2. -/
namespace start1
open Jvm.ClassFile
def u (s : String) : CpInfo := .utf8 (stringToUtf16 s)
/-- a pool by its gaps: so many unusable entries, then the entry; so many at the end -/
def gap : Nat → List CpInfo → List CpInfo
  | 0, r => r
  | n + 1, r => .unusable :: gap n r
def poolList (es : List (Nat × CpInfo)) (last : Nat) : List CpInfo := es.foldr (fun e r => gap e.1 (e.2 :: r)) (gap last [])
def pool (es : List (Nat × CpInfo)) (last : Nat) : Array CpInfo := ⟨poolList es last⟩
def fileOf (pool : Array CpInfo) (this : Nat) (attrs : Array Attribute := #[]) (ms : Array MethodInfo := #[]) (fl : Nat := 33) (sup : Nat := 0) (ifs : Array Nat := #[]) (fds : Array FieldInfo := #[]) : ClassFile where
  minorVersion := 0
  majorVersion := 65
  constantPool := pool
  accessFlags := fl
  thisClass := this
  superClass := sup
  interfaces := ifs
  fields := fds
  methods := ms
  attributes := attrs
def plain (name : String) (sup : Option ClassId) : Class where
  name := name
  kind := .ordinary
  loader := none
  accessFlags := 33
  super := sup
  interfaces := #[]
  cf := none
  fields := #[]
  methods := #[]
  instanceTypes := #[]
  staticTypes := #[]
  resolved := #[]
  callSites := []
  init := .initialized
  statics := none
  mirror := none

def pool0 : Array CpInfo := pool [(5, u "<init>"), (0, u "()V"), (1, .class_ 10), (1, u "java/lang/Object")] 113

def k0c0 : Code := { maxStack := 0, maxLocals := 1, code := object_method_1_code, exceptionTable := #[], attributes := #[] }
def k0m0 : Method := { name := "<init>", desc := "()V", sig := { parameters := [], returnType := none }, accessFlags := 1, code := some k0c0 }
/-- java/lang/Object -/
def k0 : Class := { plain "java/lang/Object" none with
  accessFlags := 33
  interfaces := #[]
  cf := some (fileOf pool0 8 #[] #[{ accessFlags := 1, nameIndex := 5, descriptorIndex := 6, attributes := #[] }] 33 0 #[] #[])
  fields := #[]
  methods := #[k0m0]
  instanceTypes := #[]
  staticTypes := #[]
  resolved := Array.replicate 124 none
  statics := none }

def pool1 : Array CpInfo := pool [(2, .class_ 4), (0, .nameAndType 5 6), (0, u "java/lang/Object"), (0, u "<init>"), (0, u "()V"), (0, .class_ 8), (0, u "java/lang/String"), (0, .methodref 7 10), (0, .nameAndType 5 11), (0, u "([C)V"), (0, .methodref 13 14), (0, .class_ 15), (0, .nameAndType 16 17), (0, u "com/example/shadowhex/shadowhex/CornerEqualsPinLaw"), (0, u "mk"), (0, u "(III)Ljava/lang/String;"), (0, .class_ 19), (0, u "java/util/ArrayList"), (0, .methodref 18 3), (0, .methodref 22 23), (0, .class_ 24), (0, .nameAndType 25 26), (0, u "java/lang/Integer"), (0, u "valueOf"), (0, u "(I)Ljava/lang/Integer;"), (0, .methodref 18 28), (0, .nameAndType 29 30), (0, u "add"), (0, u "(Ljava/lang/Object;)Z"), (0, .class_ 32), (0, u "com/example/shadowhex/shadowhex/Corner"), (0, .methodref 31 34), (0, .nameAndType 5 35), (0, u "(Ljava/lang/String;IILjava/util/List;)V"), (0, .methodref 31 37), (0, .nameAndType 38 30), (0, u "equals"), (3, u "law"), (0, u "(IIIIII)Z")] 2

def k1m0 : Method := { name := "<init>", desc := "()V", sig := { parameters := [], returnType := none }, accessFlags := 1, code := none }
def k1c1 : Code := { maxStack := 3, maxLocals := 4, code := method_2_code, exceptionTable := #[], attributes := #[] }
def k1m1 : Method := { name := "mk", desc := "(III)Ljava/lang/String;", sig := { parameters := [.int, .int, .int], returnType := some (.object "java/lang/String") }, accessFlags := 10, code := some k1c1 }
def k1c2 : Code := { maxStack := 6, maxLocals := 20, code := code, exceptionTable := #[], attributes := #[] }
def k1m2 : Method := { name := "law", desc := "(IIIIII)Z", sig := { parameters := [.int, .int, .int, .int, .int, .int], returnType := some .boolean }, accessFlags := 9, code := some k1c2 }
/-- com/example/shadowhex/shadowhex/CornerEqualsPinLaw -/
def k1 : Class := { plain "com/example/shadowhex/shadowhex/CornerEqualsPinLaw" (some 0) with
  accessFlags := 49
  interfaces := #[]
  cf := some (fileOf pool1 13 #[] #[{ accessFlags := 1, nameIndex := 5, descriptorIndex := 6, attributes := #[] }, { accessFlags := 10, nameIndex := 16, descriptorIndex := 17, attributes := #[] }, { accessFlags := 9, nameIndex := 42, descriptorIndex := 43, attributes := #[] }] 49 2 #[] #[])
  fields := #[]
  methods := #[k1m0, k1m1, k1m2]
  instanceTypes := #[]
  staticTypes := #[]
  resolved := Array.replicate 46 none
  statics := none }

def pool2 : Array CpInfo := pool [(1, .class_ 2), (0, u "java/io/Serializable"), (0, .class_ 4), (0, u "java/lang/Object")] 2

/-- java/io/Serializable -/
def k2 : Class := { plain "java/io/Serializable" (some 0) with
  accessFlags := 1537
  interfaces := #[]
  cf := some (fileOf pool2 1 #[] #[] 1537 3 #[] #[])
  fields := #[]
  methods := #[]
  instanceTypes := #[]
  staticTypes := #[]
  resolved := Array.replicate 7 none
  statics := none }

def pool3 : Array CpInfo := pool [(1, .class_ 2), (0, u "java/lang/Comparable"), (0, .class_ 4), (0, u "java/lang/Object")] 7

/-- java/lang/Comparable -/
def k3 : Class := { plain "java/lang/Comparable" (some 0) with
  accessFlags := 1537
  interfaces := #[]
  cf := some (fileOf pool3 1 #[] #[] 1537 3 #[] #[])
  fields := #[]
  methods := #[]
  instanceTypes := #[]
  staticTypes := #[]
  resolved := Array.replicate 12 none
  statics := none }

def pool4 : Array CpInfo := pool [(2, .class_ 4), (1, u "java/lang/CharSequence"), (42, .class_ 48), (0, u "java/lang/CharSequence$1CodePointIterator"), (10, .class_ 60), (0, u "java/lang/CharSequence$1CharIterator"), (5, .class_ 67), (0, u "java/lang/Object")] 63

/-- java/lang/CharSequence -/
def k4 : Class := { plain "java/lang/CharSequence" (some 0) with
  accessFlags := 1537
  interfaces := #[]
  cf := some (fileOf pool4 2 #[.nestMembers #[47, 59]] #[] 1537 66 #[] #[])
  fields := #[]
  methods := #[]
  instanceTypes := #[]
  staticTypes := #[]
  resolved := Array.replicate 131 none
  statics := none }

def pool5 : Array CpInfo := pool [(1, .class_ 2), (0, u "java/lang/constant/Constable"), (0, .class_ 4), (0, u "java/lang/Object")] 6

/-- java/lang/constant/Constable -/
def k5 : Class := { plain "java/lang/constant/Constable" (some 0) with
  accessFlags := 1537
  interfaces := #[]
  cf := some (fileOf pool5 1 #[] #[] 1537 3 #[] #[])
  fields := #[]
  methods := #[]
  instanceTypes := #[]
  staticTypes := #[]
  resolved := Array.replicate 11 none
  statics := none }

def pool6 : Array CpInfo := pool [(1, .class_ 2), (0, u "java/lang/constant/ConstantDesc"), (0, .class_ 4), (0, u "java/lang/Object")] 32

/-- java/lang/constant/ConstantDesc -/
def k6 : Class := { plain "java/lang/constant/ConstantDesc" (some 0) with
  accessFlags := 1537
  interfaces := #[]
  cf := some (fileOf pool6 1 #[] #[] 1537 3 #[] #[])
  fields := #[]
  methods := #[]
  instanceTypes := #[]
  staticTypes := #[]
  resolved := Array.replicate 37 none
  statics := none }

def pool7 : Array CpInfo := pool [(1, .methodref 2 3), (0, .class_ 4), (0, .nameAndType 5 6), (0, u "java/lang/Object"), (0, u "<init>"), (0, u "()V"), (0, .string 8), (0, u ""), (0, .fieldref 10 11), (0, .class_ 12), (0, .nameAndType 13 14), (0, u "java/lang/String"), (0, u "value"), (0, u "[B"), (0, .fieldref 10 16), (0, .nameAndType 17 18), (0, u "coder"), (0, u "B"), (2, u "hash"), (0, u "I"), (2, u "hashIsZero"), (0, u "Z"), (0, .methodref 10 28), (0, .nameAndType 5 29), (0, u "([CIILjava/lang/Void;)V"), (8, .fieldref 10 39), (0, .nameAndType 40 26), (0, u "COMPACT_STRINGS"), (1, .class_ 44), (1, u "java/lang/StringUTF16"), (0, u "compress"), (1, .methodref 42 48), (0, .nameAndType 49 50), (0, u "coderFromArrayLen"), (0, u "([BI)B"), (56, .class_ 109), (1, u "java/lang/StringLatin1"), (67, .methodref 42 178), (0, .nameAndType 45 179), (0, u "([CII)[B"), (361, .methodref 107 542), (0, .nameAndType 543 544), (0, u "equals"), (0, u "([B[B)Z"), (28, u "(Ljava/lang/Object;)Z"), (1, .class_ 576), (0, u "java/lang/CharSequence"), (22, u "CASE_INSENSITIVE_ORDER"), (0, u "Ljava/util/Comparator;"), (409, u "([C)V"), (90, u "serialPersistentFields"), (0, u "[Ljava/io/ObjectStreamField;"), (0, .class_ 1104), (0, u "java/lang/String$CaseInsensitiveComparator"), (1, .class_ 1107), (0, u "java/io/Serializable"), (0, .class_ 1109), (0, u "java/lang/Comparable"), (0, .class_ 1111), (0, u "java/lang/constant/Constable"), (0, .class_ 1113), (0, u "java/lang/constant/ConstantDesc"), (2, u "serialVersionUID"), (0, u "J"), (3, u "REPL"), (0, u "C"), (2, u "LATIN1"), (1, u "UTF16")] 323

def k7m0 : Method := { name := "<init>", desc := "()V", sig := { parameters := [], returnType := none }, accessFlags := 1, code := none }
def k7c1 : Code := { maxStack := 5, maxLocals := 2, code := jdk_42_method_3_code, exceptionTable := #[], attributes := #[] }
def k7m1 : Method := { name := "<init>", desc := "([C)V", sig := { parameters := [(.array .char)], returnType := none }, accessFlags := 1, code := some k7c1 }
def k7c2 : Code := { maxStack := 2, maxLocals := 3, code := jdk_42_method_66_code, exceptionTable := #[], attributes := #[] }
def k7m2 : Method := { name := "equals", desc := "(Ljava/lang/Object;)Z", sig := { parameters := [(.object "java/lang/Object")], returnType := some .boolean }, accessFlags := 1, code := some k7c2 }
def k7c3 : Code := { maxStack := 4, maxLocals := 6, code := jdk_42_method_149_code, exceptionTable := #[], attributes := #[] }
def k7m3 : Method := { name := "<init>", desc := "([CIILjava/lang/Void;)V", sig := { parameters := [(.array .char), .int, .int, (.object "java/lang/Void")], returnType := none }, accessFlags := 2, code := some k7c3 }
/-- java/lang/String -/
def k7 : Class := { plain "java/lang/String" (some 0) with
  accessFlags := 49
  interfaces := #[2, 3, 4, 5, 6]
  cf := some (fileOf pool7 10 #[.nestMembers #[1103]] #[{ accessFlags := 1, nameIndex := 5, descriptorIndex := 6, attributes := #[] }, { accessFlags := 1, nameIndex := 5, descriptorIndex := 1010, attributes := #[] }, { accessFlags := 1, nameIndex := 543, descriptorIndex := 573, attributes := #[] }, { accessFlags := 2, nameIndex := 5, descriptorIndex := 29, attributes := #[] }] 49 2 #[1106, 1108, 575, 1110, 1112] #[{ accessFlags := 18, nameIndex := 13, descriptorIndex := 14, attributes := #[] }, { accessFlags := 18, nameIndex := 17, descriptorIndex := 18, attributes := #[] }, { accessFlags := 2, nameIndex := 21, descriptorIndex := 22, attributes := #[] }, { accessFlags := 2, nameIndex := 25, descriptorIndex := 26, attributes := #[] }, { accessFlags := 26, nameIndex := 1116, descriptorIndex := 1117, attributes := #[] }, { accessFlags := 24, nameIndex := 40, descriptorIndex := 26, attributes := #[] }, { accessFlags := 26, nameIndex := 1101, descriptorIndex := 1102, attributes := #[] }, { accessFlags := 26, nameIndex := 1121, descriptorIndex := 1122, attributes := #[] }, { accessFlags := 25, nameIndex := 599, descriptorIndex := 600, attributes := #[] }, { accessFlags := 24, nameIndex := 1125, descriptorIndex := 18, attributes := #[] }, { accessFlags := 24, nameIndex := 1127, descriptorIndex := 18, attributes := #[] }])
  fields := #[{ name := "value", type := (.array .byte), accessFlags := 18, slot := 0, constantValue := 0 }, { name := "coder", type := .byte, accessFlags := 18, slot := 1, constantValue := 0 }, { name := "hash", type := .int, accessFlags := 2, slot := 2, constantValue := 0 }, { name := "hashIsZero", type := .boolean, accessFlags := 2, slot := 3, constantValue := 0 }, { name := "serialVersionUID", type := .long, accessFlags := 26, slot := 0, constantValue := 0 }, { name := "COMPACT_STRINGS", type := .boolean, accessFlags := 24, slot := 1, constantValue := 0 }, { name := "serialPersistentFields", type := (.array (.object "java/io/ObjectStreamField")), accessFlags := 26, slot := 2, constantValue := 0 }, { name := "REPL", type := .char, accessFlags := 26, slot := 3, constantValue := 0 }, { name := "CASE_INSENSITIVE_ORDER", type := (.object "java/util/Comparator"), accessFlags := 25, slot := 4, constantValue := 0 }, { name := "LATIN1", type := .byte, accessFlags := 24, slot := 5, constantValue := 0 }, { name := "UTF16", type := .byte, accessFlags := 24, slot := 6, constantValue := 0 }]
  methods := #[k7m0, k7m1, k7m2, k7m3]
  instanceTypes := #[(.array .byte), .byte, .int, .boolean]
  staticTypes := #[.long, .boolean, (.array (.object "java/io/ObjectStreamField")), .char, (.object "java/util/Comparator"), .byte, .byte]
  resolved := Array.replicate 1451 none
  statics := some 0 }

def pool8 : Array CpInfo := pool [(8, .class_ 10), (1, u "java/lang/Iterable"), (24, .class_ 36), (0, u "java/lang/Object")] 25

/-- java/lang/Iterable -/
def k8 : Class := { plain "java/lang/Iterable" (some 0) with
  accessFlags := 1537
  interfaces := #[]
  cf := some (fileOf pool8 8 #[] #[] 1537 35 #[] #[])
  fields := #[]
  methods := #[]
  instanceTypes := #[]
  staticTypes := #[]
  resolved := Array.replicate 62 none
  statics := none }

def pool9 : Array CpInfo := pool [(10, .class_ 12), (1, u "java/util/Collection"), (47, .class_ 61), (0, u "java/lang/Object"), (0, .class_ 63), (0, u "java/lang/Iterable")] 51

/-- java/util/Collection -/
def k9 : Class := { plain "java/util/Collection" (some 0) with
  accessFlags := 1537
  interfaces := #[8]
  cf := some (fileOf pool9 10 #[] #[] 1537 60 #[62] #[])
  fields := #[]
  methods := #[]
  instanceTypes := #[]
  staticTypes := #[]
  resolved := Array.replicate 115 none
  statics := none }

def pool10 : Array CpInfo := pool [(1, .methodref 2 3), (0, .class_ 4), (0, .nameAndType 5 6), (0, u "java/lang/Object"), (0, u "<init>"), (0, u "()V"), (1, .class_ 10), (1, u "java/util/AbstractCollection"), (66, .class_ 78), (0, u "java/util/Collection")] 81

def k10c0 : Code := { maxStack := 1, maxLocals := 1, code := jdk_22_method_1_code, exceptionTable := #[], attributes := #[] }
def k10m0 : Method := { name := "<init>", desc := "()V", sig := { parameters := [], returnType := none }, accessFlags := 4, code := some k10c0 }
/-- java/util/AbstractCollection -/
def k10 : Class := { plain "java/util/AbstractCollection" (some 0) with
  accessFlags := 1057
  interfaces := #[9]
  cf := some (fileOf pool10 8 #[] #[{ accessFlags := 4, nameIndex := 5, descriptorIndex := 6, attributes := #[] }] 1057 2 #[77] #[])
  fields := #[]
  methods := #[k10m0]
  instanceTypes := #[]
  staticTypes := #[]
  resolved := Array.replicate 160 none
  statics := none }

def pool11 : Array CpInfo := pool [(8, .class_ 10), (1, u "java/util/SequencedCollection"), (15, .class_ 27), (0, u "java/lang/Object"), (0, .class_ 29), (0, u "java/util/Collection")] 27

/-- java/util/SequencedCollection -/
def k11 : Class := { plain "java/util/SequencedCollection" (some 0) with
  accessFlags := 1537
  interfaces := #[9]
  cf := some (fileOf pool11 8 #[] #[] 1537 26 #[28] #[])
  fields := #[]
  methods := #[]
  instanceTypes := #[]
  staticTypes := #[]
  resolved := Array.replicate 57 none
  statics := none }

def pool12 : Array CpInfo := pool [(8, .class_ 10), (1, u "java/util/List"), (92, .class_ 104), (0, u "java/lang/Object"), (15, .class_ 121), (0, u "java/util/SequencedCollection")] 129

/-- java/util/List -/
def k12 : Class := { plain "java/util/List" (some 0) with
  accessFlags := 1537
  interfaces := #[11]
  cf := some (fileOf pool12 8 #[] #[] 1537 103 #[120] #[])
  fields := #[]
  methods := #[]
  instanceTypes := #[]
  staticTypes := #[]
  resolved := Array.replicate 251 none
  statics := none }

def pool13 : Array CpInfo := pool [(1, .methodref 2 3), (0, .class_ 4), (0, .nameAndType 5 6), (0, u "java/util/AbstractCollection"), (0, u "<init>"), (0, u "()V"), (0, .fieldref 8 9), (0, .class_ 10), (0, .nameAndType 11 12), (0, u "java/util/AbstractList"), (0, u "modCount"), (0, u "I"), (64, .class_ 78), (0, u "java/util/AbstractList$Itr"), (3, .class_ 83), (0, u "java/util/AbstractList$ListItr"), (9, .class_ 94), (0, u "java/util/AbstractList$RandomAccessSubList"), (3, .class_ 99), (0, u "java/util/AbstractList$SubList"), (33, .class_ 134), (0, u "java/util/List"), (73, .class_ 209), (0, u "java/util/AbstractList$SubList$1"), (0, .class_ 211), (0, u "java/util/AbstractList$RandomAccessSpliterator")] 6

def k13c0 : Code := { maxStack := 2, maxLocals := 1, code := jdk_39_method_1_code, exceptionTable := #[], attributes := #[] }
def k13m0 : Method := { name := "<init>", desc := "()V", sig := { parameters := [], returnType := none }, accessFlags := 4, code := some k13c0 }
/-- java/util/AbstractList -/
def k13 : Class := { plain "java/util/AbstractList" (some 10) with
  accessFlags := 1057
  interfaces := #[12]
  cf := some (fileOf pool13 8 #[.nestMembers #[93, 98, 208, 210, 82, 77]] #[{ accessFlags := 4, nameIndex := 5, descriptorIndex := 6, attributes := #[] }] 1057 2 #[133] #[{ accessFlags := 132, nameIndex := 11, descriptorIndex := 12, attributes := #[] }])
  fields := #[{ name := "modCount", type := .int, accessFlags := 132, slot := 0, constantValue := 0 }]
  methods := #[k13m0]
  instanceTypes := #[.int]
  staticTypes := #[]
  resolved := Array.replicate 218 none
  statics := none }

def pool14 : Array CpInfo := pool [(1, .class_ 2), (0, u "java/util/RandomAccess"), (0, .class_ 4), (0, u "java/lang/Object")] 2

/-- java/util/RandomAccess -/
def k14 : Class := { plain "java/util/RandomAccess" (some 0) with
  accessFlags := 1537
  interfaces := #[]
  cf := some (fileOf pool14 1 #[] #[] 1537 3 #[] #[])
  fields := #[]
  methods := #[]
  instanceTypes := #[]
  staticTypes := #[]
  resolved := Array.replicate 7 none
  statics := none }

def pool15 : Array CpInfo := pool [(1, .class_ 2), (0, u "java/lang/Cloneable"), (0, .class_ 4), (0, u "java/lang/Object")] 2

/-- java/lang/Cloneable -/
def k15 : Class := { plain "java/lang/Cloneable" (some 0) with
  accessFlags := 1537
  interfaces := #[]
  cf := some (fileOf pool15 1 #[] #[] 1537 3 #[] #[])
  fields := #[]
  methods := #[]
  instanceTypes := #[]
  staticTypes := #[]
  resolved := Array.replicate 7 none
  statics := none }

def pool16 : Array CpInfo := pool [(1, .methodref 2 3), (0, .class_ 4), (0, .nameAndType 5 6), (0, u "java/util/AbstractList"), (0, u "<init>"), (0, u "()V"), (0, .class_ 8), (0, u "java/lang/Object"), (0, .fieldref 10 11), (0, .class_ 12), (0, .nameAndType 13 14), (0, u "java/util/ArrayList"), (0, u "elementData"), (0, u "[Ljava/lang/Object;"), (2, u "EMPTY_ELEMENTDATA"), (21, .fieldref 10 40), (0, .nameAndType 41 14), (0, u "DEFAULTCAPACITY_EMPTY_ELEMENTDATA"), (5, u "()[Ljava/lang/Object;"), (0, .fieldref 10 49), (0, .nameAndType 50 51), (0, u "size"), (0, u "I"), (11, .fieldref 10 64), (0, .nameAndType 65 51), (0, u "modCount"), (3, .methodref 10 70), (0, .nameAndType 71 72), (0, u "grow"), (0, u "(I)[Ljava/lang/Object;"), (6, .methodref 80 81), (0, .class_ 82), (0, .nameAndType 83 84), (0, u "java/lang/Math"), (0, u "max"), (0, u "(II)I"), (11, u "(Ljava/lang/Object;)Z"), (32, .methodref 10 130), (0, .nameAndType 71 47), (0, .methodref 10 132), (0, .nameAndType 133 134), (0, u "add"), (0, u "(Ljava/lang/Object;[Ljava/lang/Object;I)V"), (13, .class_ 149), (0, u "java/util/List"), (112, .class_ 263), (0, u "java/util/ArrayList$ListItr"), (3, .class_ 268), (0, u "java/util/ArrayList$Itr"), (7, .class_ 277), (0, u "java/util/ArrayList$SubList"), (12, .class_ 291), (0, u "java/util/ArrayList$ArrayListSpliterator"), (37, .class_ 330), (0, u "java/util/RandomAccess"), (0, .class_ 332), (0, u "java/lang/Cloneable"), (0, .class_ 334), (0, u "java/io/Serializable"), (0, u "serialVersionUID"), (0, u "J"), (3, u "DEFAULT_CAPACITY"), (159, .class_ 501), (0, u "java/util/ArrayList$SubList$2"), (0, .class_ 503), (0, u "java/util/ArrayList$SubList$1")] 5

def k16c0 : Code := { maxStack := 2, maxLocals := 1, code := jdk_38_method_2_code, exceptionTable := #[], attributes := #[] }
def k16m0 : Method := { name := "<init>", desc := "()V", sig := { parameters := [], returnType := none }, accessFlags := 1, code := some k16c0 }
def k16c1 : Code := { maxStack := 4, maxLocals := 4, code := jdk_38_method_6_code, exceptionTable := #[], attributes := #[] }
def k16m1 : Method := { name := "grow", desc := "(I)[Ljava/lang/Object;", sig := { parameters := [.int], returnType := some (.array (.object "java/lang/Object")) }, accessFlags := 2, code := some k16c1 }
def k16c2 : Code := { maxStack := 3, maxLocals := 1, code := jdk_38_method_7_code, exceptionTable := #[], attributes := #[] }
def k16m2 : Method := { name := "grow", desc := "()[Ljava/lang/Object;", sig := { parameters := [], returnType := some (.array (.object "java/lang/Object")) }, accessFlags := 2, code := some k16c2 }
def k16c3 : Code := { maxStack := 3, maxLocals := 4, code := jdk_38_method_24_code, exceptionTable := #[], attributes := #[] }
def k16m3 : Method := { name := "add", desc := "(Ljava/lang/Object;[Ljava/lang/Object;I)V", sig := { parameters := [(.object "java/lang/Object"), (.array (.object "java/lang/Object")), .int], returnType := none }, accessFlags := 2, code := some k16c3 }
def k16c4 : Code := { maxStack := 4, maxLocals := 2, code := jdk_38_method_25_code, exceptionTable := #[], attributes := #[] }
def k16m4 : Method := { name := "add", desc := "(Ljava/lang/Object;)Z", sig := { parameters := [(.object "java/lang/Object")], returnType := some .boolean }, accessFlags := 1, code := some k16c4 }
/-- java/util/ArrayList -/
def k16 : Class := { plain "java/util/ArrayList" (some 13) with
  accessFlags := 33
  interfaces := #[12, 14, 15, 2]
  cf := some (fileOf pool16 10 #[.nestMembers #[290, 276, 500, 502, 262, 267]] #[{ accessFlags := 1, nameIndex := 5, descriptorIndex := 6, attributes := #[] }, { accessFlags := 2, nameIndex := 71, descriptorIndex := 72, attributes := #[] }, { accessFlags := 2, nameIndex := 71, descriptorIndex := 47, attributes := #[] }, { accessFlags := 2, nameIndex := 133, descriptorIndex := 134, attributes := #[] }, { accessFlags := 1, nameIndex := 133, descriptorIndex := 96, attributes := #[] }] 33 2 #[148, 329, 331, 333] #[{ accessFlags := 26, nameIndex := 335, descriptorIndex := 336, attributes := #[] }, { accessFlags := 26, nameIndex := 340, descriptorIndex := 51, attributes := #[] }, { accessFlags := 26, nameIndex := 17, descriptorIndex := 14, attributes := #[] }, { accessFlags := 26, nameIndex := 41, descriptorIndex := 14, attributes := #[] }, { accessFlags := 128, nameIndex := 13, descriptorIndex := 14, attributes := #[] }, { accessFlags := 2, nameIndex := 50, descriptorIndex := 51, attributes := #[] }])
  fields := #[{ name := "serialVersionUID", type := .long, accessFlags := 26, slot := 0, constantValue := 0 }, { name := "DEFAULT_CAPACITY", type := .int, accessFlags := 26, slot := 1, constantValue := 0 }, { name := "EMPTY_ELEMENTDATA", type := (.array (.object "java/lang/Object")), accessFlags := 26, slot := 2, constantValue := 0 }, { name := "DEFAULTCAPACITY_EMPTY_ELEMENTDATA", type := (.array (.object "java/lang/Object")), accessFlags := 26, slot := 3, constantValue := 0 }, { name := "elementData", type := (.array (.object "java/lang/Object")), accessFlags := 128, slot := 1, constantValue := 0 }, { name := "size", type := .int, accessFlags := 2, slot := 2, constantValue := 0 }]
  methods := #[k16m0, k16m1, k16m2, k16m3, k16m4]
  instanceTypes := #[.int, (.array (.object "java/lang/Object")), .int]
  staticTypes := #[.long, .int, (.array (.object "java/lang/Object")), (.array (.object "java/lang/Object"))]
  resolved := Array.replicate 509 none
  statics := some 1 }

def pool17 : Array CpInfo := pool [(1, .methodref 2 3), (0, .class_ 4), (0, .nameAndType 5 6), (0, u "java/lang/Object"), (0, u "<init>"), (0, u "()V"), (1, .class_ 10), (1, u "java/lang/Number"), (2, .class_ 14), (0, u "java/io/Serializable"), (0, u "serialVersionUID"), (0, u "J")] 20

def k17c0 : Code := { maxStack := 1, maxLocals := 1, code := jdk_18_method_1_code, exceptionTable := #[], attributes := #[] }
def k17m0 : Method := { name := "<init>", desc := "()V", sig := { parameters := [], returnType := none }, accessFlags := 1, code := some k17c0 }
/-- java/lang/Number -/
def k17 : Class := { plain "java/lang/Number" (some 0) with
  accessFlags := 1057
  interfaces := #[2]
  cf := some (fileOf pool17 8 #[] #[{ accessFlags := 1, nameIndex := 5, descriptorIndex := 6, attributes := #[] }] 1057 2 #[13] #[{ accessFlags := 26, nameIndex := 15, descriptorIndex := 16, attributes := #[] }])
  fields := #[{ name := "serialVersionUID", type := .long, accessFlags := 26, slot := 0, constantValue := 0 }]
  methods := #[k17m0]
  instanceTypes := #[]
  staticTypes := #[.long]
  resolved := Array.replicate 37 none
  statics := none }

def pool18 : Array CpInfo := pool [(1, .class_ 2), (0, u "java/lang/Integer"), (16, u "digits"), (0, u "[C"), (46, u "<init>"), (17, u "DigitOnes"), (0, u "[B"), (2, u "DigitTens"), (10, .nameAndType 67 101), (0, u "()V"), (85, u "valueOf"), (0, u "(I)Ljava/lang/Integer;"), (0, .class_ 190), (0, u "java/lang/Integer$IntegerCache"), (0, .fieldref 189 192), (0, .nameAndType 193 194), (0, u "high"), (0, u "I"), (0, .fieldref 189 196), (0, .nameAndType 197 198), (0, u "cache"), (0, u "[Ljava/lang/Integer;"), (0, .methodref 1 200), (0, .nameAndType 67 201), (0, u "(I)V"), (0, .methodref 203 100), (0, .class_ 204), (0, u "java/lang/Number"), (0, .fieldref 1 206), (0, .nameAndType 207 194), (0, u "value"), (94, u "TYPE"), (0, u "Ljava/lang/Class;"), (0, .class_ 305), (0, u "java/lang/Comparable"), (0, .class_ 307), (0, u "java/lang/constant/Constable"), (0, .class_ 309), (0, u "java/lang/constant/ConstantDesc"), (0, u "MIN_VALUE"), (1, u "MAX_VALUE"), (3, u "SIZE"), (1, u "BYTES"), (1, u "serialVersionUID"), (0, u "J")] 131

def k18c0 : Code := { maxStack := 3, maxLocals := 1, code := jdk_33_method_22_code, exceptionTable := #[], attributes := #[] }
def k18m0 : Method := { name := "valueOf", desc := "(I)Ljava/lang/Integer;", sig := { parameters := [.int], returnType := some (.object "java/lang/Integer") }, accessFlags := 9, code := some k18c0 }
def k18c1 : Code := { maxStack := 2, maxLocals := 2, code := jdk_33_method_23_code, exceptionTable := #[], attributes := #[] }
def k18m1 : Method := { name := "<init>", desc := "(I)V", sig := { parameters := [.int], returnType := none }, accessFlags := 1, code := some k18c1 }
/-- java/lang/Integer -/
def k18 : Class := { plain "java/lang/Integer" (some 17) with
  accessFlags := 49
  interfaces := #[3, 5, 6]
  cf := some (fileOf pool18 1 #[.nestMembers #[189]] #[{ accessFlags := 9, nameIndex := 187, descriptorIndex := 188, attributes := #[] }, { accessFlags := 1, nameIndex := 67, descriptorIndex := 201, attributes := #[] }] 49 203 #[304, 306, 308] #[{ accessFlags := 25, nameIndex := 310, descriptorIndex := 194, attributes := #[] }, { accessFlags := 25, nameIndex := 312, descriptorIndex := 194, attributes := #[] }, { accessFlags := 25, nameIndex := 302, descriptorIndex := 303, attributes := #[] }, { accessFlags := 24, nameIndex := 19, descriptorIndex := 20, attributes := #[] }, { accessFlags := 24, nameIndex := 89, descriptorIndex := 86, attributes := #[] }, { accessFlags := 24, nameIndex := 85, descriptorIndex := 86, attributes := #[] }, { accessFlags := 18, nameIndex := 207, descriptorIndex := 194, attributes := #[] }, { accessFlags := 25, nameIndex := 316, descriptorIndex := 194, attributes := #[] }, { accessFlags := 25, nameIndex := 318, descriptorIndex := 194, attributes := #[] }, { accessFlags := 26, nameIndex := 320, descriptorIndex := 321, attributes := #[] }])
  fields := #[{ name := "MIN_VALUE", type := .int, accessFlags := 25, slot := 0, constantValue := 0 }, { name := "MAX_VALUE", type := .int, accessFlags := 25, slot := 1, constantValue := 0 }, { name := "TYPE", type := (.object "java/lang/Class"), accessFlags := 25, slot := 2, constantValue := 0 }, { name := "digits", type := (.array .char), accessFlags := 24, slot := 3, constantValue := 0 }, { name := "DigitTens", type := (.array .byte), accessFlags := 24, slot := 4, constantValue := 0 }, { name := "DigitOnes", type := (.array .byte), accessFlags := 24, slot := 5, constantValue := 0 }, { name := "value", type := .int, accessFlags := 18, slot := 0, constantValue := 0 }, { name := "SIZE", type := .int, accessFlags := 25, slot := 6, constantValue := 0 }, { name := "BYTES", type := .int, accessFlags := 25, slot := 7, constantValue := 0 }, { name := "serialVersionUID", type := .long, accessFlags := 26, slot := 8, constantValue := 0 }]
  methods := #[k18m0, k18m1]
  instanceTypes := #[.int]
  staticTypes := #[.int, .int, (.object "java/lang/Class"), (.array .char), (.array .byte), (.array .byte), .int, .int, .long]
  resolved := Array.replicate 453 none
  statics := none }

def pool19 : Array CpInfo := pool [(2, .class_ 4), (1, u "java/lang/Object"), (0, u "<init>"), (0, u "()V"), (0, .class_ 8), (0, u "java/lang/Integer"), (7, .class_ 18), (1, u "java/lang/Integer$IntegerCache"), (0, u "$assertionsDisabled"), (0, u "Z"), (26, u "high"), (0, u "I"), (8, u "archivedCache"), (0, u "[Ljava/lang/Integer;"), (12, u "cache"), (0, u "low")] 27

def k19m0 : Method := { name := "<init>", desc := "()V", sig := { parameters := [], returnType := none }, accessFlags := 2, code := none }
/-- java/lang/Integer$IntegerCache -/
def k19 : Class := { plain "java/lang/Integer$IntegerCache" (some 0) with
  accessFlags := 48
  interfaces := #[]
  cf := some (fileOf pool19 16 #[.nestHost 7] #[{ accessFlags := 2, nameIndex := 5, descriptorIndex := 6, attributes := #[] }] 48 2 #[] #[{ accessFlags := 24, nameIndex := 72, descriptorIndex := 48, attributes := #[] }, { accessFlags := 24, nameIndex := 47, descriptorIndex := 48, attributes := #[] }, { accessFlags := 24, nameIndex := 71, descriptorIndex := 58, attributes := #[] }, { accessFlags := 8, nameIndex := 57, descriptorIndex := 58, attributes := #[] }, { accessFlags := 4120, nameIndex := 19, descriptorIndex := 20, attributes := #[] }])
  fields := #[{ name := "low", type := .int, accessFlags := 24, slot := 0, constantValue := 0 }, { name := "high", type := .int, accessFlags := 24, slot := 1, constantValue := 0 }, { name := "cache", type := (.array (.object "java/lang/Integer")), accessFlags := 24, slot := 2, constantValue := 0 }, { name := "archivedCache", type := (.array (.object "java/lang/Integer")), accessFlags := 8, slot := 3, constantValue := 0 }, { name := "$assertionsDisabled", type := .boolean, accessFlags := 4120, slot := 4, constantValue := 0 }]
  methods := #[k19m0]
  instanceTypes := #[]
  staticTypes := #[.int, .int, (.array (.object "java/lang/Integer")), (.array (.object "java/lang/Integer")), .boolean]
  resolved := Array.replicate 100 none
  statics := some 2 }

def pool20 : Array CpInfo := pool [(1, .class_ 2), (0, u "java/lang/Math"), (1, .class_ 6), (1, u "java/lang/Object"), (0, u "<init>"), (0, u "()V"), (89, .class_ 100), (1, u "java/lang/Math$RandomNumberGeneratorHolder"), (71, u "negativeZeroFloatBits"), (0, u "J"), (2, u "negativeZeroDoubleBits"), (21, u "max"), (46, u "$assertionsDisabled"), (0, u "Z"), (88, u "(II)I"), (2, u "twoToTheDoubleScaleDown"), (0, u "D"), (4, u "twoToTheDoubleScaleUp"), (9, u "E"), (3, u "PI"), (2, u "TAU"), (2, u "DEGREES_TO_RADIANS"), (0, u "RADIANS_TO_DEGREES")] 94

def k20m0 : Method := { name := "<init>", desc := "()V", sig := { parameters := [], returnType := none }, accessFlags := 2, code := none }
def k20c1 : Code := { maxStack := 2, maxLocals := 2, code := jdk_29_method_65_code, exceptionTable := #[], attributes := #[] }
def k20m1 : Method := { name := "max", desc := "(II)I", sig := { parameters := [.int, .int], returnType := some .int }, accessFlags := 9, code := some k20c1 }
/-- java/lang/Math -/
def k20 : Class := { plain "java/lang/Math" (some 0) with
  accessFlags := 49
  interfaces := #[]
  cf := some (fileOf pool20 1 #[.nestMembers #[98]] #[{ accessFlags := 2, nameIndex := 7, descriptorIndex := 8, attributes := #[] }, { accessFlags := 9, nameIndex := 198, descriptorIndex := 335, attributes := #[] }] 49 4 #[] #[{ accessFlags := 25, nameIndex := 354, descriptorIndex := 339, attributes := #[] }, { accessFlags := 25, nameIndex := 358, descriptorIndex := 339, attributes := #[] }, { accessFlags := 25, nameIndex := 361, descriptorIndex := 339, attributes := #[] }, { accessFlags := 26, nameIndex := 364, descriptorIndex := 339, attributes := #[] }, { accessFlags := 26, nameIndex := 365, descriptorIndex := 339, attributes := #[] }, { accessFlags := 26, nameIndex := 172, descriptorIndex := 173, attributes := #[] }, { accessFlags := 26, nameIndex := 176, descriptorIndex := 173, attributes := #[] }, { accessFlags := 8, nameIndex := 344, descriptorIndex := 339, attributes := #[] }, { accessFlags := 8, nameIndex := 338, descriptorIndex := 339, attributes := #[] }, { accessFlags := 4120, nameIndex := 245, descriptorIndex := 246, attributes := #[] }])
  fields := #[{ name := "E", type := .double, accessFlags := 25, slot := 0, constantValue := 0 }, { name := "PI", type := .double, accessFlags := 25, slot := 1, constantValue := 0 }, { name := "TAU", type := .double, accessFlags := 25, slot := 2, constantValue := 0 }, { name := "DEGREES_TO_RADIANS", type := .double, accessFlags := 26, slot := 3, constantValue := 0 }, { name := "RADIANS_TO_DEGREES", type := .double, accessFlags := 26, slot := 4, constantValue := 0 }, { name := "negativeZeroFloatBits", type := .long, accessFlags := 26, slot := 5, constantValue := 0 }, { name := "negativeZeroDoubleBits", type := .long, accessFlags := 26, slot := 6, constantValue := 0 }, { name := "twoToTheDoubleScaleUp", type := .double, accessFlags := 8, slot := 7, constantValue := 0 }, { name := "twoToTheDoubleScaleDown", type := .double, accessFlags := 8, slot := 8, constantValue := 0 }, { name := "$assertionsDisabled", type := .boolean, accessFlags := 4120, slot := 9, constantValue := 0 }]
  methods := #[k20m0, k20m1]
  instanceTypes := #[]
  staticTypes := #[.double, .double, .double, .double, .double, .long, .long, .double, .double, .boolean]
  resolved := Array.replicate 460 none
  statics := none }

def pool21 : Array CpInfo := pool [(1, .methodref 2 3), (0, .class_ 4), (0, .nameAndType 5 6), (0, u "java/lang/Object"), (0, u "<init>"), (0, u "()V"), (0, .class_ 8), (0, u "java/lang/Record")] 13

def k21c0 : Code := { maxStack := 1, maxLocals := 1, code := jdk_30_method_1_code, exceptionTable := #[], attributes := #[] }
def k21m0 : Method := { name := "<init>", desc := "()V", sig := { parameters := [], returnType := none }, accessFlags := 4, code := some k21c0 }
/-- java/lang/Record -/
def k21 : Class := { plain "java/lang/Record" (some 0) with
  accessFlags := 1057
  interfaces := #[]
  cf := some (fileOf pool21 7 #[] #[{ accessFlags := 4, nameIndex := 5, descriptorIndex := 6, attributes := #[] }] 1057 2 #[] #[])
  fields := #[]
  methods := #[k21m0]
  instanceTypes := #[]
  staticTypes := #[]
  resolved := Array.replicate 22 none
  statics := none }

def pool22 : Array CpInfo := pool [(1, .methodref 2 3), (0, .class_ 4), (0, .nameAndType 5 6), (0, u "java/lang/Record"), (0, u "<init>"), (0, u "()V"), (0, .fieldref 8 9), (0, .class_ 10), (0, .nameAndType 11 12), (0, u "com/example/shadowhex/shadowhex/Corner"), (0, u "name"), (0, u "Ljava/lang/String;"), (0, .fieldref 8 14), (0, .nameAndType 15 16), (0, u "x"), (0, u "I"), (0, .fieldref 8 18), (0, .nameAndType 19 16), (0, u "y"), (0, .fieldref 8 21), (0, .nameAndType 22 23), (0, u "hexes"), (0, u "Ljava/util/List;"), (6, .methodref 31 32), (0, .class_ 33), (0, .nameAndType 34 35), (0, u "java/lang/String"), (0, u "equals"), (0, u "(Ljava/lang/Object;)Z"), (9, u "(Ljava/lang/String;IILjava/util/List;)V")] 33

def k22c0 : Code := { maxStack := 2, maxLocals := 5, code := prog_7_method_1_code, exceptionTable := #[], attributes := #[] }
def k22m0 : Method := { name := "<init>", desc := "(Ljava/lang/String;IILjava/util/List;)V", sig := { parameters := [(.object "java/lang/String"), .int, .int, (.object "java/util/List")], returnType := none }, accessFlags := 0, code := some k22c0 }
def k22c1 : Code := { maxStack := 2, maxLocals := 3, code := prog_7_method_3_code, exceptionTable := #[], attributes := #[] }
def k22m1 : Method := { name := "equals", desc := "(Ljava/lang/Object;)Z", sig := { parameters := [(.object "java/lang/Object")], returnType := some .boolean }, accessFlags := 1, code := some k22c1 }
/-- com/example/shadowhex/shadowhex/Corner -/
def k22 : Class := { plain "com/example/shadowhex/shadowhex/Corner" (some 21) with
  accessFlags := 48
  interfaces := #[]
  cf := some (fileOf pool22 8 #[] #[{ accessFlags := 0, nameIndex := 5, descriptorIndex := 45, attributes := #[] }, { accessFlags := 1, nameIndex := 34, descriptorIndex := 35, attributes := #[] }] 48 2 #[] #[{ accessFlags := 18, nameIndex := 11, descriptorIndex := 12, attributes := #[] }, { accessFlags := 18, nameIndex := 15, descriptorIndex := 16, attributes := #[] }, { accessFlags := 18, nameIndex := 19, descriptorIndex := 16, attributes := #[] }, { accessFlags := 18, nameIndex := 22, descriptorIndex := 23, attributes := #[] }])
  fields := #[{ name := "name", type := (.object "java/lang/String"), accessFlags := 18, slot := 0, constantValue := 0 }, { name := "x", type := .int, accessFlags := 18, slot := 1, constantValue := 0 }, { name := "y", type := .int, accessFlags := 18, slot := 2, constantValue := 0 }, { name := "hexes", type := (.object "java/util/List"), accessFlags := 18, slot := 3, constantValue := 0 }]
  methods := #[k22m0, k22m1]
  instanceTypes := #[(.object "java/lang/String"), .int, .int, (.object "java/util/List")]
  staticTypes := #[]
  resolved := Array.replicate 79 none
  statics := none }

def pool23 : Array CpInfo := pool [(4, .class_ 6), (1, u "java/lang/Object"), (0, u "<init>"), (0, u "()V"), (5, .class_ 16), (1, u "java/lang/StringLatin1"), (104, u "$assertionsDisabled"), (0, u "Z"), (98, .class_ 223), (1, u "java/lang/StringLatin1$LinesSpliterator"), (57, u "equals"), (0, u "([B[B)Z"), (107, .class_ 391), (0, u "java/lang/StringLatin1$CharsSpliterator")] 3

def k23m0 : Method := { name := "<init>", desc := "()V", sig := { parameters := [], returnType := none }, accessFlags := 0, code := none }
def k23c1 : Code := { maxStack := 3, maxLocals := 3, code := jdk_43_method_13_code, exceptionTable := #[], attributes := #[] }
def k23m1 : Method := { name := "equals", desc := "([B[B)Z", sig := { parameters := [(.array .byte), (.array .byte)], returnType := some .boolean }, accessFlags := 9, code := some k23c1 }
/-- java/lang/StringLatin1 -/
def k23 : Class := { plain "java/lang/StringLatin1" (some 0) with
  accessFlags := 48
  interfaces := #[]
  cf := some (fileOf pool23 14 #[.nestMembers #[390, 221]] #[{ accessFlags := 0, nameIndex := 7, descriptorIndex := 8, attributes := #[] }, { accessFlags := 9, nameIndex := 281, descriptorIndex := 282, attributes := #[] }] 48 4 #[] #[{ accessFlags := 4120, nameIndex := 121, descriptorIndex := 122, attributes := #[] }])
  fields := #[{ name := "$assertionsDisabled", type := .boolean, accessFlags := 4120, slot := 0, constantValue := 0 }]
  methods := #[k23m0, k23m1]
  instanceTypes := #[]
  staticTypes := #[.boolean]
  resolved := Array.replicate 395 none
  statics := none }

def pool24 : Array CpInfo := pool [(6, .class_ 8), (1, u "java/lang/Object"), (0, u "<init>"), (0, u "()V"), (1, .class_ 14), (1, u "java/lang/StringUTF16"), (31, u "$assertionsDisabled"), (0, u "Z"), (13, u "HI_BYTE_SHIFT"), (0, u "I"), (2, u "LO_BYTE_SHIFT"), (49, .methodref 12 116), (0, .nameAndType 117 118), (0, u "compress"), (0, u "([CI[BII)I"), (3, u "([CII)[B"), (138, u "coderFromArrayLen"), (0, u "([BI)B"), (106, .class_ 371), (1, u "java/lang/StringUTF16$LinesSpliterator"), (58, u "MAX_LENGTH"), (196, .class_ 628), (0, u "java/lang/StringUTF16$CodePointsSpliterator"), (0, .class_ 630), (0, u "java/lang/StringUTF16$CharsSpliterator")] 4

def k24m0 : Method := { name := "<init>", desc := "()V", sig := { parameters := [], returnType := none }, accessFlags := 0, code := none }
def k24c1 : Code := { maxStack := 2, maxLocals := 2, code := jdk_52_method_15_code, exceptionTable := #[], attributes := #[] }
def k24m1 : Method := { name := "coderFromArrayLen", desc := "([BI)B", sig := { parameters := [(.array .byte), .int], returnType := some .byte }, accessFlags := 8, code := some k24c1 }
def k24c2 : Code := { maxStack := 5, maxLocals := 6, code := jdk_52_method_16_code, exceptionTable := #[], attributes := #[] }
def k24m2 : Method := { name := "compress", desc := "([CII)[B", sig := { parameters := [(.array .char), .int, .int], returnType := some (.array .byte) }, accessFlags := 9, code := some k24c2 }
def k24c3 : Code := { maxStack := 3, maxLocals := 7, code := jdk_52_method_21_code, exceptionTable := #[], attributes := #[] }
def k24m3 : Method := { name := "compress", desc := "([CI[BII)I", sig := { parameters := [(.array .char), .int, (.array .byte), .int, .int], returnType := some .int }, accessFlags := 9, code := some k24c3 }
/-- java/lang/StringUTF16 -/
def k24 : Class := { plain "java/lang/StringUTF16" (some 0) with
  accessFlags := 48
  interfaces := #[]
  cf := some (fileOf pool24 12 #[.nestMembers #[627, 629, 369]] #[{ accessFlags := 0, nameIndex := 9, descriptorIndex := 10, attributes := #[] }, { accessFlags := 8, nameIndex := 261, descriptorIndex := 262, attributes := #[] }, { accessFlags := 9, nameIndex := 117, descriptorIndex := 122, attributes := #[] }, { accessFlags := 9, nameIndex := 117, descriptorIndex := 118, attributes := #[] }] 48 6 #[] #[{ accessFlags := 26, nameIndex := 61, descriptorIndex := 62, attributes := #[] }, { accessFlags := 26, nameIndex := 65, descriptorIndex := 62, attributes := #[] }, { accessFlags := 24, nameIndex := 430, descriptorIndex := 62, attributes := #[] }, { accessFlags := 4120, nameIndex := 46, descriptorIndex := 47, attributes := #[] }])
  fields := #[{ name := "HI_BYTE_SHIFT", type := .int, accessFlags := 26, slot := 0, constantValue := 0 }, { name := "LO_BYTE_SHIFT", type := .int, accessFlags := 26, slot := 1, constantValue := 0 }, { name := "MAX_LENGTH", type := .int, accessFlags := 24, slot := 2, constantValue := 0 }, { name := "$assertionsDisabled", type := .boolean, accessFlags := 4120, slot := 3, constantValue := 0 }]
  methods := #[k24m0, k24m1, k24m2, k24m3]
  instanceTypes := #[]
  staticTypes := #[.int, .int, .int, .boolean]
  resolved := Array.replicate 635 none
  statics := none }

def pool25 : Array CpInfo := pool [(2, .class_ 4), (1, u "java/lang/Object"), (0, u "<init>"), (0, u "()V"), (17, .class_ 26), (1, u "jdk/internal/util/Preconditions"), (28, .class_ 56), (0, u "jdk/internal/util/Preconditions$4"), (57, .class_ 115), (0, u "jdk/internal/util/Preconditions$1"), (7, u "SIOOBE_FORMATTER"), (0, u "Ljava/util/function/BiFunction;"), (0, .class_ 126), (0, u "jdk/internal/util/Preconditions$2"), (3, u "AIOOBE_FORMATTER"), (0, .class_ 132), (0, u "jdk/internal/util/Preconditions$3"), (3, u "IOOBE_FORMATTER")] 57

def k25m0 : Method := { name := "<init>", desc := "()V", sig := { parameters := [], returnType := none }, accessFlags := 1, code := none }
/-- jdk/internal/util/Preconditions -/
def k25 : Class := { plain "jdk/internal/util/Preconditions" (some 0) with
  accessFlags := 33
  interfaces := #[]
  cf := some (fileOf pool25 24 #[.nestMembers #[55, 131, 125, 114]] #[{ accessFlags := 1, nameIndex := 5, descriptorIndex := 6, attributes := #[] }] 33 2 #[] #[{ accessFlags := 25, nameIndex := 123, descriptorIndex := 124, attributes := #[] }, { accessFlags := 25, nameIndex := 130, descriptorIndex := 124, attributes := #[] }, { accessFlags := 25, nameIndex := 136, descriptorIndex := 124, attributes := #[] }])
  fields := #[{ name := "SIOOBE_FORMATTER", type := (.object "java/util/function/BiFunction"), accessFlags := 25, slot := 0, constantValue := 0 }, { name := "AIOOBE_FORMATTER", type := (.object "java/util/function/BiFunction"), accessFlags := 25, slot := 1, constantValue := 0 }, { name := "IOOBE_FORMATTER", type := (.object "java/util/function/BiFunction"), accessFlags := 25, slot := 2, constantValue := 0 }]
  methods := #[k25m0]
  instanceTypes := #[]
  staticTypes := #[(.object "java/util/function/BiFunction"), (.object "java/util/function/BiFunction"), (.object "java/util/function/BiFunction")]
  resolved := Array.replicate 194 none
  statics := some 3 }

def pool26 : Array CpInfo := pool [(9, u "<init>"), (6, .class_ 18), (1, u "java/lang/Object"), (0, u "()V"), (1, .class_ 23), (1, u "jdk/internal/util/ArraysSupport"), (0, u "LOG2_ARRAY_LONG_INDEX_SCALE"), (0, u "I"), (2, u "U"), (0, u "Ljdk/internal/misc/Unsafe;"), (8, u "BIG_ENDIAN"), (0, u "Z"), (8, u "LOG2_BYTE_BIT_SIZE"), (4, u "LOG2_ARRAY_INT_INDEX_SCALE"), (54, u "JLA"), (0, u "Ljdk/internal/access/JavaLangAccess;"), (11, u "LOG2_ARRAY_BOOLEAN_INDEX_SCALE"), (9, u "LOG2_ARRAY_BYTE_INDEX_SCALE"), (5, u "LOG2_ARRAY_CHAR_INDEX_SCALE"), (5, u "LOG2_ARRAY_SHORT_INDEX_SCALE"), (18, u "LOG2_ARRAY_FLOAT_INDEX_SCALE"), (24, u "LOG2_ARRAY_DOUBLE_INDEX_SCALE"), (89, u "T_BOOLEAN"), (2, u "T_CHAR"), (1, u "T_FLOAT"), (1, u "T_DOUBLE"), (1, u "T_BYTE"), (1, u "T_SHORT"), (1, u "T_INT"), (1, u "T_LONG"), (1, u "SOFT_MAX_ARRAY_LENGTH")] 83

def k26m0 : Method := { name := "<init>", desc := "()V", sig := { parameters := [], returnType := none }, accessFlags := 2, code := none }
/-- jdk/internal/util/ArraysSupport -/
def k26 : Class := { plain "jdk/internal/util/ArraysSupport" (some 0) with
  accessFlags := 33
  interfaces := #[]
  cf := some (fileOf pool26 21 #[] #[{ accessFlags := 2, nameIndex := 9, descriptorIndex := 19, attributes := #[] }] 33 16 #[] #[{ accessFlags := 24, nameIndex := 28, descriptorIndex := 29, attributes := #[] }, { accessFlags := 26, nameIndex := 38, descriptorIndex := 39, attributes := #[] }, { accessFlags := 25, nameIndex := 121, descriptorIndex := 25, attributes := #[] }, { accessFlags := 25, nameIndex := 131, descriptorIndex := 25, attributes := #[] }, { accessFlags := 25, nameIndex := 137, descriptorIndex := 25, attributes := #[] }, { accessFlags := 25, nameIndex := 143, descriptorIndex := 25, attributes := #[] }, { accessFlags := 25, nameIndex := 53, descriptorIndex := 25, attributes := #[] }, { accessFlags := 25, nameIndex := 24, descriptorIndex := 25, attributes := #[] }, { accessFlags := 25, nameIndex := 162, descriptorIndex := 25, attributes := #[] }, { accessFlags := 25, nameIndex := 187, descriptorIndex := 25, attributes := #[] }, { accessFlags := 26, nameIndex := 48, descriptorIndex := 25, attributes := #[] }, { accessFlags := 25, nameIndex := 277, descriptorIndex := 25, attributes := #[] }, { accessFlags := 25, nameIndex := 280, descriptorIndex := 25, attributes := #[] }, { accessFlags := 25, nameIndex := 282, descriptorIndex := 25, attributes := #[] }, { accessFlags := 25, nameIndex := 284, descriptorIndex := 25, attributes := #[] }, { accessFlags := 25, nameIndex := 286, descriptorIndex := 25, attributes := #[] }, { accessFlags := 25, nameIndex := 288, descriptorIndex := 25, attributes := #[] }, { accessFlags := 25, nameIndex := 290, descriptorIndex := 25, attributes := #[] }, { accessFlags := 25, nameIndex := 292, descriptorIndex := 25, attributes := #[] }, { accessFlags := 26, nameIndex := 108, descriptorIndex := 109, attributes := #[] }, { accessFlags := 25, nameIndex := 294, descriptorIndex := 25, attributes := #[] }])
  fields := #[{ name := "U", type := (.object "jdk/internal/misc/Unsafe"), accessFlags := 24, slot := 0, constantValue := 0 }, { name := "BIG_ENDIAN", type := .boolean, accessFlags := 26, slot := 1, constantValue := 0 }, { name := "LOG2_ARRAY_BOOLEAN_INDEX_SCALE", type := .int, accessFlags := 25, slot := 2, constantValue := 0 }, { name := "LOG2_ARRAY_BYTE_INDEX_SCALE", type := .int, accessFlags := 25, slot := 3, constantValue := 0 }, { name := "LOG2_ARRAY_CHAR_INDEX_SCALE", type := .int, accessFlags := 25, slot := 4, constantValue := 0 }, { name := "LOG2_ARRAY_SHORT_INDEX_SCALE", type := .int, accessFlags := 25, slot := 5, constantValue := 0 }, { name := "LOG2_ARRAY_INT_INDEX_SCALE", type := .int, accessFlags := 25, slot := 6, constantValue := 0 }, { name := "LOG2_ARRAY_LONG_INDEX_SCALE", type := .int, accessFlags := 25, slot := 7, constantValue := 0 }, { name := "LOG2_ARRAY_FLOAT_INDEX_SCALE", type := .int, accessFlags := 25, slot := 8, constantValue := 0 }, { name := "LOG2_ARRAY_DOUBLE_INDEX_SCALE", type := .int, accessFlags := 25, slot := 9, constantValue := 0 }, { name := "LOG2_BYTE_BIT_SIZE", type := .int, accessFlags := 26, slot := 10, constantValue := 0 }, { name := "T_BOOLEAN", type := .int, accessFlags := 25, slot := 11, constantValue := 0 }, { name := "T_CHAR", type := .int, accessFlags := 25, slot := 12, constantValue := 0 }, { name := "T_FLOAT", type := .int, accessFlags := 25, slot := 13, constantValue := 0 }, { name := "T_DOUBLE", type := .int, accessFlags := 25, slot := 14, constantValue := 0 }, { name := "T_BYTE", type := .int, accessFlags := 25, slot := 15, constantValue := 0 }, { name := "T_SHORT", type := .int, accessFlags := 25, slot := 16, constantValue := 0 }, { name := "T_INT", type := .int, accessFlags := 25, slot := 17, constantValue := 0 }, { name := "T_LONG", type := .int, accessFlags := 25, slot := 18, constantValue := 0 }, { name := "JLA", type := (.object "jdk/internal/access/JavaLangAccess"), accessFlags := 26, slot := 19, constantValue := 0 }, { name := "SOFT_MAX_ARRAY_LENGTH", type := .int, accessFlags := 25, slot := 20, constantValue := 0 }]
  methods := #[k26m0]
  instanceTypes := #[]
  staticTypes := #[(.object "jdk/internal/misc/Unsafe"), .boolean, .int, .int, .int, .int, .int, .int, .int, .int, .int, .int, .int, .int, .int, .int, .int, .int, .int, (.object "jdk/internal/access/JavaLangAccess"), .int]
  resolved := Array.replicate 378 none
  statics := none }

/-- the primitive byte -/
def k27 : Class := { plain "byte" none with kind := .primitive 'B', accessFlags := 0x411 }
/-- [B -/
def k28 : Class := { plain "[B" (some 0) with kind := .array 27 .byte, interfaces := #[15, 2], accessFlags := 1041 }

/-- the primitive char -/
def k29 : Class := { plain "char" none with kind := .primitive 'C', accessFlags := 0x411 }
/-- [C -/
def k30 : Class := { plain "[C" (some 0) with kind := .array 29 .char, interfaces := #[15, 2], accessFlags := 1041 }

/-- the primitive int -/
def k31 : Class := { plain "int" none with kind := .primitive 'I', accessFlags := 0x411 }
/-- [I -/
def k32 : Class := { plain "[I" (some 0) with kind := .array 31 .int, interfaces := #[15, 2], accessFlags := 1041 }

/-- [Ljava/lang/Integer; -/
def k33 : Class := { plain "[Ljava/lang/Integer;" (some 0) with kind := .array 18 (.object "java/lang/Integer"), interfaces := #[15, 2], accessFlags := 1041 }

/-- [Ljava/lang/Object; -/
def k34 : Class := { plain "[Ljava/lang/Object;" (some 0) with kind := .array 0 (.object "java/lang/Object"), interfaces := #[15, 2], accessFlags := 1041 }

def heap : Heap := #[{ cls := 7, slots := #[.long 0, .int 1, .null, .int 0, .null, .int 0, .int 0], vm := .statics 7 },
  { cls := 16, slots := #[.long 0, .int 0, .ref 261, .ref 262], vm := .statics 16 },
  { cls := 19, slots := #[.int 0, .int 127, .ref 4, .null, .int 0], vm := .statics 19 },
  { cls := 25, slots := #[.null, .null, .null], vm := .statics 25 },
  { cls := 33, slots := #[.ref 5, .ref 6, .ref 7, .ref 8, .ref 9, .ref 10, .ref 11, .ref 12, .ref 13, .ref 14, .ref 15, .ref 16, .ref 17, .ref 18, .ref 19, .ref 20, .ref 21, .ref 22, .ref 23, .ref 24, .ref 25, .ref 26, .ref 27, .ref 28, .ref 29, .ref 30, .ref 31, .ref 32, .ref 33, .ref 34, .ref 35, .ref 36, .ref 37, .ref 38, .ref 39, .ref 40, .ref 41, .ref 42, .ref 43, .ref 44, .ref 45, .ref 46, .ref 47, .ref 48, .ref 49, .ref 50, .ref 51, .ref 52, .ref 53, .ref 54, .ref 55, .ref 56, .ref 57, .ref 58, .ref 59, .ref 60, .ref 61, .ref 62, .ref 63, .ref 64, .ref 65, .ref 66, .ref 67, .ref 68, .ref 69, .ref 70, .ref 71, .ref 72, .ref 73, .ref 74, .ref 75, .ref 76, .ref 77, .ref 78, .ref 79, .ref 80, .ref 81, .ref 82, .ref 83, .ref 84, .ref 85, .ref 86, .ref 87, .ref 88, .ref 89, .ref 90, .ref 91, .ref 92, .ref 93, .ref 94, .ref 95, .ref 96, .ref 97, .ref 98, .ref 99, .ref 100, .ref 101, .ref 102, .ref 103, .ref 104, .ref 105, .ref 106, .ref 107, .ref 108, .ref 109, .ref 110, .ref 111, .ref 112, .ref 113, .ref 114, .ref 115, .ref 116, .ref 117, .ref 118, .ref 119, .ref 120, .ref 121, .ref 122, .ref 123, .ref 124, .ref 125, .ref 126, .ref 127, .ref 128, .ref 129, .ref 130, .ref 131, .ref 132, .ref 133, .ref 134, .ref 135, .ref 136, .ref 137, .ref 138, .ref 139, .ref 140, .ref 141, .ref 142, .ref 143, .ref 144, .ref 145, .ref 146, .ref 147, .ref 148, .ref 149, .ref 150, .ref 151, .ref 152, .ref 153, .ref 154, .ref 155, .ref 156, .ref 157, .ref 158, .ref 159, .ref 160, .ref 161, .ref 162, .ref 163, .ref 164, .ref 165, .ref 166, .ref 167, .ref 168, .ref 169, .ref 170, .ref 171, .ref 172, .ref 173, .ref 174, .ref 175, .ref 176, .ref 177, .ref 178, .ref 179, .ref 180, .ref 181, .ref 182, .ref 183, .ref 184, .ref 185, .ref 186, .ref 187, .ref 188, .ref 189, .ref 190, .ref 191, .ref 192, .ref 193, .ref 194, .ref 195, .ref 196, .ref 197, .ref 198, .ref 199, .ref 200, .ref 201, .ref 202, .ref 203, .ref 204, .ref 205, .ref 206, .ref 207, .ref 208, .ref 209, .ref 210, .ref 211, .ref 212, .ref 213, .ref 214, .ref 215, .ref 216, .ref 217, .ref 218, .ref 219, .ref 220, .ref 221, .ref 222, .ref 223, .ref 224, .ref 225, .ref 226, .ref 227, .ref 228, .ref 229, .ref 230, .ref 231, .ref 232, .ref 233, .ref 234, .ref 235, .ref 236, .ref 237, .ref 238, .ref 239, .ref 240, .ref 241, .ref 242, .ref 243, .ref 244, .ref 245, .ref 246, .ref 247, .ref 248, .ref 249, .ref 250, .ref 251, .ref 252, .ref 253, .ref 254, .ref 255, .ref 256, .ref 257, .ref 258, .ref 259, .ref 260], vm := .none },
  { cls := 18, slots := #[.int (-128)], vm := .none },
  { cls := 18, slots := #[.int (-127)], vm := .none },
  { cls := 18, slots := #[.int (-126)], vm := .none },
  { cls := 18, slots := #[.int (-125)], vm := .none },
  { cls := 18, slots := #[.int (-124)], vm := .none },
  { cls := 18, slots := #[.int (-123)], vm := .none },
  { cls := 18, slots := #[.int (-122)], vm := .none },
  { cls := 18, slots := #[.int (-121)], vm := .none },
  { cls := 18, slots := #[.int (-120)], vm := .none },
  { cls := 18, slots := #[.int (-119)], vm := .none },
  { cls := 18, slots := #[.int (-118)], vm := .none },
  { cls := 18, slots := #[.int (-117)], vm := .none },
  { cls := 18, slots := #[.int (-116)], vm := .none },
  { cls := 18, slots := #[.int (-115)], vm := .none },
  { cls := 18, slots := #[.int (-114)], vm := .none },
  { cls := 18, slots := #[.int (-113)], vm := .none },
  { cls := 18, slots := #[.int (-112)], vm := .none },
  { cls := 18, slots := #[.int (-111)], vm := .none },
  { cls := 18, slots := #[.int (-110)], vm := .none },
  { cls := 18, slots := #[.int (-109)], vm := .none },
  { cls := 18, slots := #[.int (-108)], vm := .none },
  { cls := 18, slots := #[.int (-107)], vm := .none },
  { cls := 18, slots := #[.int (-106)], vm := .none },
  { cls := 18, slots := #[.int (-105)], vm := .none },
  { cls := 18, slots := #[.int (-104)], vm := .none },
  { cls := 18, slots := #[.int (-103)], vm := .none },
  { cls := 18, slots := #[.int (-102)], vm := .none },
  { cls := 18, slots := #[.int (-101)], vm := .none },
  { cls := 18, slots := #[.int (-100)], vm := .none },
  { cls := 18, slots := #[.int (-99)], vm := .none },
  { cls := 18, slots := #[.int (-98)], vm := .none },
  { cls := 18, slots := #[.int (-97)], vm := .none },
  { cls := 18, slots := #[.int (-96)], vm := .none },
  { cls := 18, slots := #[.int (-95)], vm := .none },
  { cls := 18, slots := #[.int (-94)], vm := .none },
  { cls := 18, slots := #[.int (-93)], vm := .none },
  { cls := 18, slots := #[.int (-92)], vm := .none },
  { cls := 18, slots := #[.int (-91)], vm := .none },
  { cls := 18, slots := #[.int (-90)], vm := .none },
  { cls := 18, slots := #[.int (-89)], vm := .none },
  { cls := 18, slots := #[.int (-88)], vm := .none },
  { cls := 18, slots := #[.int (-87)], vm := .none },
  { cls := 18, slots := #[.int (-86)], vm := .none },
  { cls := 18, slots := #[.int (-85)], vm := .none },
  { cls := 18, slots := #[.int (-84)], vm := .none },
  { cls := 18, slots := #[.int (-83)], vm := .none },
  { cls := 18, slots := #[.int (-82)], vm := .none },
  { cls := 18, slots := #[.int (-81)], vm := .none },
  { cls := 18, slots := #[.int (-80)], vm := .none },
  { cls := 18, slots := #[.int (-79)], vm := .none },
  { cls := 18, slots := #[.int (-78)], vm := .none },
  { cls := 18, slots := #[.int (-77)], vm := .none },
  { cls := 18, slots := #[.int (-76)], vm := .none },
  { cls := 18, slots := #[.int (-75)], vm := .none },
  { cls := 18, slots := #[.int (-74)], vm := .none },
  { cls := 18, slots := #[.int (-73)], vm := .none },
  { cls := 18, slots := #[.int (-72)], vm := .none },
  { cls := 18, slots := #[.int (-71)], vm := .none },
  { cls := 18, slots := #[.int (-70)], vm := .none },
  { cls := 18, slots := #[.int (-69)], vm := .none },
  { cls := 18, slots := #[.int (-68)], vm := .none },
  { cls := 18, slots := #[.int (-67)], vm := .none },
  { cls := 18, slots := #[.int (-66)], vm := .none },
  { cls := 18, slots := #[.int (-65)], vm := .none },
  { cls := 18, slots := #[.int (-64)], vm := .none },
  { cls := 18, slots := #[.int (-63)], vm := .none },
  { cls := 18, slots := #[.int (-62)], vm := .none },
  { cls := 18, slots := #[.int (-61)], vm := .none },
  { cls := 18, slots := #[.int (-60)], vm := .none },
  { cls := 18, slots := #[.int (-59)], vm := .none },
  { cls := 18, slots := #[.int (-58)], vm := .none },
  { cls := 18, slots := #[.int (-57)], vm := .none },
  { cls := 18, slots := #[.int (-56)], vm := .none },
  { cls := 18, slots := #[.int (-55)], vm := .none },
  { cls := 18, slots := #[.int (-54)], vm := .none },
  { cls := 18, slots := #[.int (-53)], vm := .none },
  { cls := 18, slots := #[.int (-52)], vm := .none },
  { cls := 18, slots := #[.int (-51)], vm := .none },
  { cls := 18, slots := #[.int (-50)], vm := .none },
  { cls := 18, slots := #[.int (-49)], vm := .none },
  { cls := 18, slots := #[.int (-48)], vm := .none },
  { cls := 18, slots := #[.int (-47)], vm := .none },
  { cls := 18, slots := #[.int (-46)], vm := .none },
  { cls := 18, slots := #[.int (-45)], vm := .none },
  { cls := 18, slots := #[.int (-44)], vm := .none },
  { cls := 18, slots := #[.int (-43)], vm := .none },
  { cls := 18, slots := #[.int (-42)], vm := .none },
  { cls := 18, slots := #[.int (-41)], vm := .none },
  { cls := 18, slots := #[.int (-40)], vm := .none },
  { cls := 18, slots := #[.int (-39)], vm := .none },
  { cls := 18, slots := #[.int (-38)], vm := .none },
  { cls := 18, slots := #[.int (-37)], vm := .none },
  { cls := 18, slots := #[.int (-36)], vm := .none },
  { cls := 18, slots := #[.int (-35)], vm := .none },
  { cls := 18, slots := #[.int (-34)], vm := .none },
  { cls := 18, slots := #[.int (-33)], vm := .none },
  { cls := 18, slots := #[.int (-32)], vm := .none },
  { cls := 18, slots := #[.int (-31)], vm := .none },
  { cls := 18, slots := #[.int (-30)], vm := .none },
  { cls := 18, slots := #[.int (-29)], vm := .none },
  { cls := 18, slots := #[.int (-28)], vm := .none },
  { cls := 18, slots := #[.int (-27)], vm := .none },
  { cls := 18, slots := #[.int (-26)], vm := .none },
  { cls := 18, slots := #[.int (-25)], vm := .none },
  { cls := 18, slots := #[.int (-24)], vm := .none },
  { cls := 18, slots := #[.int (-23)], vm := .none },
  { cls := 18, slots := #[.int (-22)], vm := .none },
  { cls := 18, slots := #[.int (-21)], vm := .none },
  { cls := 18, slots := #[.int (-20)], vm := .none },
  { cls := 18, slots := #[.int (-19)], vm := .none },
  { cls := 18, slots := #[.int (-18)], vm := .none },
  { cls := 18, slots := #[.int (-17)], vm := .none },
  { cls := 18, slots := #[.int (-16)], vm := .none },
  { cls := 18, slots := #[.int (-15)], vm := .none },
  { cls := 18, slots := #[.int (-14)], vm := .none },
  { cls := 18, slots := #[.int (-13)], vm := .none },
  { cls := 18, slots := #[.int (-12)], vm := .none },
  { cls := 18, slots := #[.int (-11)], vm := .none },
  { cls := 18, slots := #[.int (-10)], vm := .none },
  { cls := 18, slots := #[.int (-9)], vm := .none },
  { cls := 18, slots := #[.int (-8)], vm := .none },
  { cls := 18, slots := #[.int (-7)], vm := .none },
  { cls := 18, slots := #[.int (-6)], vm := .none },
  { cls := 18, slots := #[.int (-5)], vm := .none },
  { cls := 18, slots := #[.int (-4)], vm := .none },
  { cls := 18, slots := #[.int (-3)], vm := .none },
  { cls := 18, slots := #[.int (-2)], vm := .none },
  { cls := 18, slots := #[.int (-1)], vm := .none },
  { cls := 18, slots := #[.int 0], vm := .none },
  { cls := 18, slots := #[.int 1], vm := .none },
  { cls := 18, slots := #[.int 2], vm := .none },
  { cls := 18, slots := #[.int 3], vm := .none },
  { cls := 18, slots := #[.int 4], vm := .none },
  { cls := 18, slots := #[.int 5], vm := .none },
  { cls := 18, slots := #[.int 6], vm := .none },
  { cls := 18, slots := #[.int 7], vm := .none },
  { cls := 18, slots := #[.int 8], vm := .none },
  { cls := 18, slots := #[.int 9], vm := .none },
  { cls := 18, slots := #[.int 10], vm := .none },
  { cls := 18, slots := #[.int 11], vm := .none },
  { cls := 18, slots := #[.int 12], vm := .none },
  { cls := 18, slots := #[.int 13], vm := .none },
  { cls := 18, slots := #[.int 14], vm := .none },
  { cls := 18, slots := #[.int 15], vm := .none },
  { cls := 18, slots := #[.int 16], vm := .none },
  { cls := 18, slots := #[.int 17], vm := .none },
  { cls := 18, slots := #[.int 18], vm := .none },
  { cls := 18, slots := #[.int 19], vm := .none },
  { cls := 18, slots := #[.int 20], vm := .none },
  { cls := 18, slots := #[.int 21], vm := .none },
  { cls := 18, slots := #[.int 22], vm := .none },
  { cls := 18, slots := #[.int 23], vm := .none },
  { cls := 18, slots := #[.int 24], vm := .none },
  { cls := 18, slots := #[.int 25], vm := .none },
  { cls := 18, slots := #[.int 26], vm := .none },
  { cls := 18, slots := #[.int 27], vm := .none },
  { cls := 18, slots := #[.int 28], vm := .none },
  { cls := 18, slots := #[.int 29], vm := .none },
  { cls := 18, slots := #[.int 30], vm := .none },
  { cls := 18, slots := #[.int 31], vm := .none },
  { cls := 18, slots := #[.int 32], vm := .none },
  { cls := 18, slots := #[.int 33], vm := .none },
  { cls := 18, slots := #[.int 34], vm := .none },
  { cls := 18, slots := #[.int 35], vm := .none },
  { cls := 18, slots := #[.int 36], vm := .none },
  { cls := 18, slots := #[.int 37], vm := .none },
  { cls := 18, slots := #[.int 38], vm := .none },
  { cls := 18, slots := #[.int 39], vm := .none },
  { cls := 18, slots := #[.int 40], vm := .none },
  { cls := 18, slots := #[.int 41], vm := .none },
  { cls := 18, slots := #[.int 42], vm := .none },
  { cls := 18, slots := #[.int 43], vm := .none },
  { cls := 18, slots := #[.int 44], vm := .none },
  { cls := 18, slots := #[.int 45], vm := .none },
  { cls := 18, slots := #[.int 46], vm := .none },
  { cls := 18, slots := #[.int 47], vm := .none },
  { cls := 18, slots := #[.int 48], vm := .none },
  { cls := 18, slots := #[.int 49], vm := .none },
  { cls := 18, slots := #[.int 50], vm := .none },
  { cls := 18, slots := #[.int 51], vm := .none },
  { cls := 18, slots := #[.int 52], vm := .none },
  { cls := 18, slots := #[.int 53], vm := .none },
  { cls := 18, slots := #[.int 54], vm := .none },
  { cls := 18, slots := #[.int 55], vm := .none },
  { cls := 18, slots := #[.int 56], vm := .none },
  { cls := 18, slots := #[.int 57], vm := .none },
  { cls := 18, slots := #[.int 58], vm := .none },
  { cls := 18, slots := #[.int 59], vm := .none },
  { cls := 18, slots := #[.int 60], vm := .none },
  { cls := 18, slots := #[.int 61], vm := .none },
  { cls := 18, slots := #[.int 62], vm := .none },
  { cls := 18, slots := #[.int 63], vm := .none },
  { cls := 18, slots := #[.int 64], vm := .none },
  { cls := 18, slots := #[.int 65], vm := .none },
  { cls := 18, slots := #[.int 66], vm := .none },
  { cls := 18, slots := #[.int 67], vm := .none },
  { cls := 18, slots := #[.int 68], vm := .none },
  { cls := 18, slots := #[.int 69], vm := .none },
  { cls := 18, slots := #[.int 70], vm := .none },
  { cls := 18, slots := #[.int 71], vm := .none },
  { cls := 18, slots := #[.int 72], vm := .none },
  { cls := 18, slots := #[.int 73], vm := .none },
  { cls := 18, slots := #[.int 74], vm := .none },
  { cls := 18, slots := #[.int 75], vm := .none },
  { cls := 18, slots := #[.int 76], vm := .none },
  { cls := 18, slots := #[.int 77], vm := .none },
  { cls := 18, slots := #[.int 78], vm := .none },
  { cls := 18, slots := #[.int 79], vm := .none },
  { cls := 18, slots := #[.int 80], vm := .none },
  { cls := 18, slots := #[.int 81], vm := .none },
  { cls := 18, slots := #[.int 82], vm := .none },
  { cls := 18, slots := #[.int 83], vm := .none },
  { cls := 18, slots := #[.int 84], vm := .none },
  { cls := 18, slots := #[.int 85], vm := .none },
  { cls := 18, slots := #[.int 86], vm := .none },
  { cls := 18, slots := #[.int 87], vm := .none },
  { cls := 18, slots := #[.int 88], vm := .none },
  { cls := 18, slots := #[.int 89], vm := .none },
  { cls := 18, slots := #[.int 90], vm := .none },
  { cls := 18, slots := #[.int 91], vm := .none },
  { cls := 18, slots := #[.int 92], vm := .none },
  { cls := 18, slots := #[.int 93], vm := .none },
  { cls := 18, slots := #[.int 94], vm := .none },
  { cls := 18, slots := #[.int 95], vm := .none },
  { cls := 18, slots := #[.int 96], vm := .none },
  { cls := 18, slots := #[.int 97], vm := .none },
  { cls := 18, slots := #[.int 98], vm := .none },
  { cls := 18, slots := #[.int 99], vm := .none },
  { cls := 18, slots := #[.int 100], vm := .none },
  { cls := 18, slots := #[.int 101], vm := .none },
  { cls := 18, slots := #[.int 102], vm := .none },
  { cls := 18, slots := #[.int 103], vm := .none },
  { cls := 18, slots := #[.int 104], vm := .none },
  { cls := 18, slots := #[.int 105], vm := .none },
  { cls := 18, slots := #[.int 106], vm := .none },
  { cls := 18, slots := #[.int 107], vm := .none },
  { cls := 18, slots := #[.int 108], vm := .none },
  { cls := 18, slots := #[.int 109], vm := .none },
  { cls := 18, slots := #[.int 110], vm := .none },
  { cls := 18, slots := #[.int 111], vm := .none },
  { cls := 18, slots := #[.int 112], vm := .none },
  { cls := 18, slots := #[.int 113], vm := .none },
  { cls := 18, slots := #[.int 114], vm := .none },
  { cls := 18, slots := #[.int 115], vm := .none },
  { cls := 18, slots := #[.int 116], vm := .none },
  { cls := 18, slots := #[.int 117], vm := .none },
  { cls := 18, slots := #[.int 118], vm := .none },
  { cls := 18, slots := #[.int 119], vm := .none },
  { cls := 18, slots := #[.int 120], vm := .none },
  { cls := 18, slots := #[.int 121], vm := .none },
  { cls := 18, slots := #[.int 122], vm := .none },
  { cls := 18, slots := #[.int 123], vm := .none },
  { cls := 18, slots := #[.int 124], vm := .none },
  { cls := 18, slots := #[.int 125], vm := .none },
  { cls := 18, slots := #[.int 126], vm := .none },
  { cls := 18, slots := #[.int 127], vm := .none },
  { cls := 34, slots := #[], vm := .none },
  { cls := 34, slots := #[], vm := .none }]
def classes : Array Class := #[k0, k1, k2, k3, k4, k5, k6, k7, k8, k9, k10, k11, k12, k13, k14, k15, k16, k17, k18, k19, k20, k21, k22, k23, k24, k25, k26, k27, k28, k29, k30, k31, k32, k33, k34]
def interned : List (Array UInt16 × Addr) := []
def slotsUsed : Nat := 531
def theMethod : MethodId := ⟨1, 2⟩
def args0 : Array Value := #[.int 5, .int 6, .int 7, .int 8, .int 9, .int 10]
def aboutOver (below : List Frame) : State where
  vm := { classes := classes, interned := interned.toArray }
  heap := heap
  slotsUsed := slotsUsed
  threads := #[{ frames := .invoking theMethod args0 :: below }]
def below0 : List Frame := [.native { method := ⟨0, 0⟩, args := #[] }]
def about1 : State := aboutOver below0
def p0 : Program := .bare "" "" ""
def e0 : Env := launch0.env 0 0 0
theorem w_frames : about1.frames = Frame.invoking theMethod args0 :: below0 := rfl
set_option maxRecDepth 65536 in
theorem w_args : argsFit about1.vm theMethod args0 = true := by decide +kernel
set_option maxRecDepth 65536 in
theorem w_heap : heapFits about1 = true := by decide +kernel
set_option maxRecDepth 65536 in
theorem w_runnable : about1.curStatus? = some .runnable := by decide +kernel
set_option maxRecDepth 65536 in
theorem w_alone : about1.alone = true := by decide +kernel
set_option maxRecDepth 65536 in
theorem w_named : about1.methodNamed? x = some theMethod := by decide +kernel
set_option maxRecDepth 65536 in
theorem w_hears : about1.hears theMethod below0 = true := by decide +kernel
set_option maxRecDepth 65536 in
theorem w_ripe : about1.ripe theMethod args0 below0 = true := by decide +kernel
theorem w_running : about1.status = .running := rfl
set_option maxRecDepth 65536 in
theorem w_room : about1.hasRoom e0.platform room_1 = true :=
  launch0.hasRoom_least _ room_1 (by decide +kernel) (by decide +kernel) (by decide +kernel) (by decide +kernel) (by decide +kernel) (by decide +kernel)
theorem allAtoms_all (ts : List Jvm.Cond) (a : Array Jvm.Value) (st : Jvm.State) : (allAtoms ts).before a st = ts.all (fun c => c.before a st) := by
  induction ts with
  | nil => rfl
  | cons c t ih =>
    show (Jvm.Cond.and c (allAtoms t)).before a st = _
    rw [Jvm.Cond.before_and, ih, List.all_cons]
def words1 : List Jvm.Cond := Jvm.Cond.code x code maxLocals ret :: tables_1
/-- a 'code' word, met by the world's own term for the bytes: nothing is compared byte by byte -/
theorem code_word {y : MethodName} {bytes : ByteArray} {mx : Nat} {rt : Option FieldType} {a : Array Value} {s : State} {m : MethodId} {meth : Method} {c : Code} (h1 : s.methodNamed? y = some m) (h2 : s.vm.method? m = some meth) (h3 : meth.code = some c) (h4 : c.code = bytes)
    (h5 : (c.maxLocals == mx && c.exceptionTable.isEmpty && decide (c.maxStack ≤ mostOperands) && decide (meth.sig.returnType = rt) && !meth.locks && decide (parseMethodDescriptor y.desc = some meth.sig)) = true) : (Jvm.Cond.code y bytes mx rt).before a s = true := by
  simp only [Bool.and_eq_true, beq_iff_eq, Bool.not_eq_true', decide_eq_true_eq] at h5
  obtain ⟨⟨⟨⟨⟨g1, g2⟩, g3⟩, g4⟩, g5⟩, g6⟩ := h5
  simp [Cond.before, Cond.holds, Cond.value, h1, h2, h3, h4, g1, g2, g3, g4, g5, g6]
def isCode : Jvm.Cond → Bool
  | .code _ _ _ _ => true
  | _ => false
theorem all_split {L : List Jvm.Cond} {P : Jvm.Cond → Bool} (h1 : L.all (fun c => isCode c || P c) = true) (h2 : ∀ c ∈ L.filter isCode, P c = true) : L.all P = true := by
  refine List.all_eq_true.mpr fun c hc => ?_
  have h := List.all_eq_true.mp h1 c hc
  rcases Bool.eq_false_or_eq_true (isCode c) with hi | hi
  · exact h2 c (List.mem_filter.mpr ⟨hc, hi⟩)
  · simpa [hi] using h
set_option maxRecDepth 65536 in
theorem w_c0 : (Jvm.Cond.code x code maxLocals ret).before args0 about1 = true := code_word (m := ⟨1, 2⟩) (meth := k1m2) (c := k1c2) (by decide +kernel) rfl rfl rfl (by decide +kernel)
set_option maxRecDepth 65536 in
theorem w_c1 : (Jvm.Cond.code ({ cls := "com/example/shadowhex/shadowhex/CornerEqualsPinLaw", name := "mk", desc := "(III)Ljava/lang/String;" } : Jvm.MethodName) method_2_code (4 : Nat) (Option.some (Jvm.ClassFile.FieldType.object "java/lang/String"))).before args0 about1 = true := code_word (m := ⟨1, 1⟩) (meth := k1m1) (c := k1c1) (by decide +kernel) rfl rfl rfl (by decide +kernel)
set_option maxRecDepth 65536 in
theorem w_c2 : (Jvm.Cond.code ({ cls := "java/lang/String", name := "<init>", desc := "([C)V" } : Jvm.MethodName) jdk_42_method_3_code (2 : Nat) (Option.none : Option Jvm.ClassFile.FieldType)).before args0 about1 = true := code_word (m := ⟨7, 1⟩) (meth := k7m1) (c := k7c1) (by decide +kernel) rfl rfl rfl (by decide +kernel)
set_option maxRecDepth 65536 in
theorem w_c3 : (Jvm.Cond.code ({ cls := "java/lang/String", name := "<init>", desc := "([CIILjava/lang/Void;)V" } : Jvm.MethodName) jdk_42_method_149_code (6 : Nat) (Option.none : Option Jvm.ClassFile.FieldType)).before args0 about1 = true := code_word (m := ⟨7, 3⟩) (meth := k7m3) (c := k7c3) (by decide +kernel) rfl rfl rfl (by decide +kernel)
set_option maxRecDepth 65536 in
theorem w_c4 : (Jvm.Cond.code ({ cls := "java/lang/Object", name := "<init>", desc := "()V" } : Jvm.MethodName) object_method_1_code (1 : Nat) (Option.none : Option Jvm.ClassFile.FieldType)).before args0 about1 = true := code_word (m := ⟨0, 0⟩) (meth := k0m0) (c := k0c0) (by decide +kernel) rfl rfl rfl (by decide +kernel)
set_option maxRecDepth 65536 in
theorem w_c5 : (Jvm.Cond.code ({ cls := "java/util/ArrayList", name := "<init>", desc := "()V" } : Jvm.MethodName) jdk_38_method_2_code (1 : Nat) (Option.none : Option Jvm.ClassFile.FieldType)).before args0 about1 = true := code_word (m := ⟨16, 0⟩) (meth := k16m0) (c := k16c0) (by decide +kernel) rfl rfl rfl (by decide +kernel)
set_option maxRecDepth 65536 in
theorem w_c6 : (Jvm.Cond.code ({ cls := "java/util/AbstractList", name := "<init>", desc := "()V" } : Jvm.MethodName) jdk_39_method_1_code (1 : Nat) (Option.none : Option Jvm.ClassFile.FieldType)).before args0 about1 = true := code_word (m := ⟨13, 0⟩) (meth := k13m0) (c := k13c0) (by decide +kernel) rfl rfl rfl (by decide +kernel)
set_option maxRecDepth 65536 in
theorem w_c7 : (Jvm.Cond.code ({ cls := "java/util/AbstractCollection", name := "<init>", desc := "()V" } : Jvm.MethodName) jdk_22_method_1_code (1 : Nat) (Option.none : Option Jvm.ClassFile.FieldType)).before args0 about1 = true := code_word (m := ⟨10, 0⟩) (meth := k10m0) (c := k10c0) (by decide +kernel) rfl rfl rfl (by decide +kernel)
set_option maxRecDepth 65536 in
theorem w_c8 : (Jvm.Cond.code ({ cls := "java/lang/Integer", name := "valueOf", desc := "(I)Ljava/lang/Integer;" } : Jvm.MethodName) jdk_33_method_22_code (1 : Nat) (Option.some (Jvm.ClassFile.FieldType.object "java/lang/Integer"))).before args0 about1 = true := code_word (m := ⟨18, 0⟩) (meth := k18m0) (c := k18c0) (by decide +kernel) rfl rfl rfl (by decide +kernel)
set_option maxRecDepth 65536 in
theorem w_c9 : (Jvm.Cond.code ({ cls := "java/util/ArrayList", name := "add", desc := "(Ljava/lang/Object;)Z" } : Jvm.MethodName) jdk_38_method_25_code (2 : Nat) (Option.some Jvm.ClassFile.FieldType.boolean)).before args0 about1 = true := code_word (m := ⟨16, 4⟩) (meth := k16m4) (c := k16c4) (by decide +kernel) rfl rfl rfl (by decide +kernel)
set_option maxRecDepth 65536 in
theorem w_c10 : (Jvm.Cond.code ({ cls := "java/util/ArrayList", name := "add", desc := "(Ljava/lang/Object;[Ljava/lang/Object;I)V" } : Jvm.MethodName) jdk_38_method_24_code (4 : Nat) (Option.none : Option Jvm.ClassFile.FieldType)).before args0 about1 = true := code_word (m := ⟨16, 3⟩) (meth := k16m3) (c := k16c3) (by decide +kernel) rfl rfl rfl (by decide +kernel)
set_option maxRecDepth 65536 in
theorem w_c11 : (Jvm.Cond.code ({ cls := "java/util/ArrayList", name := "grow", desc := "()[Ljava/lang/Object;" } : Jvm.MethodName) jdk_38_method_7_code (1 : Nat) (Option.some (Jvm.ClassFile.FieldType.array (Jvm.ClassFile.FieldType.object "java/lang/Object")))).before args0 about1 = true := code_word (m := ⟨16, 2⟩) (meth := k16m2) (c := k16c2) (by decide +kernel) rfl rfl rfl (by decide +kernel)
set_option maxRecDepth 65536 in
theorem w_c12 : (Jvm.Cond.code ({ cls := "java/util/ArrayList", name := "grow", desc := "(I)[Ljava/lang/Object;" } : Jvm.MethodName) jdk_38_method_6_code (4 : Nat) (Option.some (Jvm.ClassFile.FieldType.array (Jvm.ClassFile.FieldType.object "java/lang/Object")))).before args0 about1 = true := code_word (m := ⟨16, 1⟩) (meth := k16m1) (c := k16c1) (by decide +kernel) rfl rfl rfl (by decide +kernel)
set_option maxRecDepth 65536 in
theorem w_c13 : (Jvm.Cond.code ({ cls := "java/lang/Math", name := "max", desc := "(II)I" } : Jvm.MethodName) jdk_29_method_65_code (2 : Nat) (Option.some Jvm.ClassFile.FieldType.int)).before args0 about1 = true := code_word (m := ⟨20, 1⟩) (meth := k20m1) (c := k20c1) (by decide +kernel) rfl rfl rfl (by decide +kernel)
set_option maxRecDepth 65536 in
theorem w_c14 : (Jvm.Cond.code ({ cls := "com/example/shadowhex/shadowhex/Corner", name := "<init>", desc := "(Ljava/lang/String;IILjava/util/List;)V" } : Jvm.MethodName) prog_7_method_1_code (5 : Nat) (Option.none : Option Jvm.ClassFile.FieldType)).before args0 about1 = true := code_word (m := ⟨22, 0⟩) (meth := k22m0) (c := k22c0) (by decide +kernel) rfl rfl rfl (by decide +kernel)
set_option maxRecDepth 65536 in
theorem w_c15 : (Jvm.Cond.code ({ cls := "java/lang/Record", name := "<init>", desc := "()V" } : Jvm.MethodName) jdk_30_method_1_code (1 : Nat) (Option.none : Option Jvm.ClassFile.FieldType)).before args0 about1 = true := code_word (m := ⟨21, 0⟩) (meth := k21m0) (c := k21c0) (by decide +kernel) rfl rfl rfl (by decide +kernel)
set_option maxRecDepth 65536 in
theorem w_c16 : (Jvm.Cond.code ({ cls := "com/example/shadowhex/shadowhex/Corner", name := "equals", desc := "(Ljava/lang/Object;)Z" } : Jvm.MethodName) prog_7_method_3_code (3 : Nat) (Option.some Jvm.ClassFile.FieldType.boolean)).before args0 about1 = true := code_word (m := ⟨22, 1⟩) (meth := k22m1) (c := k22c1) (by decide +kernel) rfl rfl rfl (by decide +kernel)
set_option maxRecDepth 65536 in
theorem w_c17 : (Jvm.Cond.code ({ cls := "java/lang/String", name := "equals", desc := "(Ljava/lang/Object;)Z" } : Jvm.MethodName) jdk_42_method_66_code (3 : Nat) (Option.some Jvm.ClassFile.FieldType.boolean)).before args0 about1 = true := code_word (m := ⟨7, 2⟩) (meth := k7m2) (c := k7c2) (by decide +kernel) rfl rfl rfl (by decide +kernel)
set_option maxRecDepth 65536 in
theorem w_c18 : (Jvm.Cond.code ({ cls := "java/lang/StringLatin1", name := "equals", desc := "([B[B)Z" } : Jvm.MethodName) jdk_43_method_13_code (3 : Nat) (Option.some Jvm.ClassFile.FieldType.boolean)).before args0 about1 = true := code_word (m := ⟨23, 1⟩) (meth := k23m1) (c := k23c1) (by decide +kernel) rfl rfl rfl (by decide +kernel)
set_option maxRecDepth 65536 in
theorem w_c19 : (Jvm.Cond.code ({ cls := "java/lang/StringUTF16", name := "compress", desc := "([CII)[B" } : Jvm.MethodName) jdk_52_method_16_code (6 : Nat) (Option.some (Jvm.ClassFile.FieldType.array Jvm.ClassFile.FieldType.byte))).before args0 about1 = true := code_word (m := ⟨24, 2⟩) (meth := k24m2) (c := k24c2) (by decide +kernel) rfl rfl rfl (by decide +kernel)
set_option maxRecDepth 65536 in
theorem w_c20 : (Jvm.Cond.code ({ cls := "java/lang/StringUTF16", name := "compress", desc := "([CI[BII)I" } : Jvm.MethodName) jdk_52_method_21_code (7 : Nat) (Option.some Jvm.ClassFile.FieldType.int)).before args0 about1 = true := code_word (m := ⟨24, 3⟩) (meth := k24m3) (c := k24c3) (by decide +kernel) rfl rfl rfl (by decide +kernel)
set_option maxRecDepth 65536 in
theorem w_c21 : (Jvm.Cond.code ({ cls := "java/lang/StringUTF16", name := "coderFromArrayLen", desc := "([BI)B" } : Jvm.MethodName) jdk_52_method_15_code (2 : Nat) (Option.some Jvm.ClassFile.FieldType.byte)).before args0 about1 = true := code_word (m := ⟨24, 1⟩) (meth := k24m1) (c := k24c1) (by decide +kernel) rfl rfl rfl (by decide +kernel)
set_option maxRecDepth 65536 in
theorem w_c22 : (Jvm.Cond.code ({ cls := "java/lang/Integer", name := "<init>", desc := "(I)V" } : Jvm.MethodName) jdk_33_method_23_code (2 : Nat) (Option.none : Option Jvm.ClassFile.FieldType)).before args0 about1 = true := code_word (m := ⟨18, 1⟩) (meth := k18m1) (c := k18c1) (by decide +kernel) rfl rfl rfl (by decide +kernel)
set_option maxRecDepth 65536 in
theorem w_c23 : (Jvm.Cond.code ({ cls := "java/lang/Number", name := "<init>", desc := "()V" } : Jvm.MethodName) jdk_18_method_1_code (1 : Nat) (Option.none : Option Jvm.ClassFile.FieldType)).before args0 about1 = true := code_word (m := ⟨17, 0⟩) (meth := k17m0) (c := k17c0) (by decide +kernel) rfl rfl rfl (by decide +kernel)
def codes1 : List Jvm.Cond := [Jvm.Cond.code x code maxLocals ret, Jvm.Cond.code ({ cls := "com/example/shadowhex/shadowhex/CornerEqualsPinLaw", name := "mk", desc := "(III)Ljava/lang/String;" } : Jvm.MethodName) method_2_code (4 : Nat) (Option.some (Jvm.ClassFile.FieldType.object "java/lang/String")), Jvm.Cond.code ({ cls := "java/lang/String", name := "<init>", desc := "([C)V" } : Jvm.MethodName) jdk_42_method_3_code (2 : Nat) (Option.none : Option Jvm.ClassFile.FieldType), Jvm.Cond.code ({ cls := "java/lang/String", name := "<init>", desc := "([CIILjava/lang/Void;)V" } : Jvm.MethodName) jdk_42_method_149_code (6 : Nat) (Option.none : Option Jvm.ClassFile.FieldType), Jvm.Cond.code ({ cls := "java/lang/Object", name := "<init>", desc := "()V" } : Jvm.MethodName) object_method_1_code (1 : Nat) (Option.none : Option Jvm.ClassFile.FieldType), Jvm.Cond.code ({ cls := "java/util/ArrayList", name := "<init>", desc := "()V" } : Jvm.MethodName) jdk_38_method_2_code (1 : Nat) (Option.none : Option Jvm.ClassFile.FieldType), Jvm.Cond.code ({ cls := "java/util/AbstractList", name := "<init>", desc := "()V" } : Jvm.MethodName) jdk_39_method_1_code (1 : Nat) (Option.none : Option Jvm.ClassFile.FieldType), Jvm.Cond.code ({ cls := "java/util/AbstractCollection", name := "<init>", desc := "()V" } : Jvm.MethodName) jdk_22_method_1_code (1 : Nat) (Option.none : Option Jvm.ClassFile.FieldType), Jvm.Cond.code ({ cls := "java/lang/Integer", name := "valueOf", desc := "(I)Ljava/lang/Integer;" } : Jvm.MethodName) jdk_33_method_22_code (1 : Nat) (Option.some (Jvm.ClassFile.FieldType.object "java/lang/Integer")), Jvm.Cond.code ({ cls := "java/util/ArrayList", name := "add", desc := "(Ljava/lang/Object;)Z" } : Jvm.MethodName) jdk_38_method_25_code (2 : Nat) (Option.some Jvm.ClassFile.FieldType.boolean), Jvm.Cond.code ({ cls := "java/util/ArrayList", name := "add", desc := "(Ljava/lang/Object;[Ljava/lang/Object;I)V" } : Jvm.MethodName) jdk_38_method_24_code (4 : Nat) (Option.none : Option Jvm.ClassFile.FieldType), Jvm.Cond.code ({ cls := "java/util/ArrayList", name := "grow", desc := "()[Ljava/lang/Object;" } : Jvm.MethodName) jdk_38_method_7_code (1 : Nat) (Option.some (Jvm.ClassFile.FieldType.array (Jvm.ClassFile.FieldType.object "java/lang/Object"))), Jvm.Cond.code ({ cls := "java/util/ArrayList", name := "grow", desc := "(I)[Ljava/lang/Object;" } : Jvm.MethodName) jdk_38_method_6_code (4 : Nat) (Option.some (Jvm.ClassFile.FieldType.array (Jvm.ClassFile.FieldType.object "java/lang/Object"))), Jvm.Cond.code ({ cls := "java/lang/Math", name := "max", desc := "(II)I" } : Jvm.MethodName) jdk_29_method_65_code (2 : Nat) (Option.some Jvm.ClassFile.FieldType.int), Jvm.Cond.code ({ cls := "com/example/shadowhex/shadowhex/Corner", name := "<init>", desc := "(Ljava/lang/String;IILjava/util/List;)V" } : Jvm.MethodName) prog_7_method_1_code (5 : Nat) (Option.none : Option Jvm.ClassFile.FieldType), Jvm.Cond.code ({ cls := "java/lang/Record", name := "<init>", desc := "()V" } : Jvm.MethodName) jdk_30_method_1_code (1 : Nat) (Option.none : Option Jvm.ClassFile.FieldType), Jvm.Cond.code ({ cls := "com/example/shadowhex/shadowhex/Corner", name := "equals", desc := "(Ljava/lang/Object;)Z" } : Jvm.MethodName) prog_7_method_3_code (3 : Nat) (Option.some Jvm.ClassFile.FieldType.boolean), Jvm.Cond.code ({ cls := "java/lang/String", name := "equals", desc := "(Ljava/lang/Object;)Z" } : Jvm.MethodName) jdk_42_method_66_code (3 : Nat) (Option.some Jvm.ClassFile.FieldType.boolean), Jvm.Cond.code ({ cls := "java/lang/StringLatin1", name := "equals", desc := "([B[B)Z" } : Jvm.MethodName) jdk_43_method_13_code (3 : Nat) (Option.some Jvm.ClassFile.FieldType.boolean), Jvm.Cond.code ({ cls := "java/lang/StringUTF16", name := "compress", desc := "([CII)[B" } : Jvm.MethodName) jdk_52_method_16_code (6 : Nat) (Option.some (Jvm.ClassFile.FieldType.array Jvm.ClassFile.FieldType.byte)), Jvm.Cond.code ({ cls := "java/lang/StringUTF16", name := "compress", desc := "([CI[BII)I" } : Jvm.MethodName) jdk_52_method_21_code (7 : Nat) (Option.some Jvm.ClassFile.FieldType.int), Jvm.Cond.code ({ cls := "java/lang/StringUTF16", name := "coderFromArrayLen", desc := "([BI)B" } : Jvm.MethodName) jdk_52_method_15_code (2 : Nat) (Option.some Jvm.ClassFile.FieldType.byte), Jvm.Cond.code ({ cls := "java/lang/Integer", name := "<init>", desc := "(I)V" } : Jvm.MethodName) jdk_33_method_23_code (2 : Nat) (Option.none : Option Jvm.ClassFile.FieldType), Jvm.Cond.code ({ cls := "java/lang/Number", name := "<init>", desc := "()V" } : Jvm.MethodName) jdk_18_method_1_code (1 : Nat) (Option.none : Option Jvm.ClassFile.FieldType)]
set_option maxRecDepth 65536 in
theorem codes_eq : words1.filter isCode = codes1 := rfl
theorem w_codes : ∀ c ∈ words1.filter isCode, c.before args0 about1 = true := by
  rw [codes_eq]
  intro c hc
  simp only [codes1, List.mem_cons, List.not_mem_nil, or_false] at hc
  rcases hc with rfl | rfl | rfl | rfl | rfl | rfl | rfl | rfl | rfl | rfl | rfl | rfl | rfl | rfl | rfl | rfl | rfl | rfl | rfl | rfl | rfl | rfl | rfl | rfl
  · exact w_c0
  · exact w_c1
  · exact w_c2
  · exact w_c3
  · exact w_c4
  · exact w_c5
  · exact w_c6
  · exact w_c7
  · exact w_c8
  · exact w_c9
  · exact w_c10
  · exact w_c11
  · exact w_c12
  · exact w_c13
  · exact w_c14
  · exact w_c15
  · exact w_c16
  · exact w_c17
  · exact w_c18
  · exact w_c19
  · exact w_c20
  · exact w_c21
  · exact w_c22
  · exact w_c23
set_option maxRecDepth 65536 in
theorem w_t1 : (words1.take 24).all (fun c => isCode c || c.before args0 about1) = true := by decide +kernel
set_option maxRecDepth 65536 in
theorem w_t2 : ((words1.drop 24).take 24).all (fun c => isCode c || c.before args0 about1) = true := by decide +kernel
set_option maxRecDepth 65536 in
theorem w_t3 : (((words1.drop 24).drop 24).take 24).all (fun c => isCode c || c.before args0 about1) = true := by decide +kernel
set_option maxRecDepth 65536 in
theorem w_t4 : ((((words1.drop 24).drop 24).drop 24).take 24).all (fun c => isCode c || c.before args0 about1) = true := by decide +kernel
set_option maxRecDepth 65536 in
theorem w_t5 : (((((words1.drop 24).drop 24).drop 24).drop 24).take 24).all (fun c => isCode c || c.before args0 about1) = true := by decide +kernel
set_option maxRecDepth 65536 in
theorem w_t6 : ((((((words1.drop 24).drop 24).drop 24).drop 24).drop 24).take 24).all (fun c => isCode c || c.before args0 about1) = true := by decide +kernel
set_option maxRecDepth 65536 in
theorem w_t7 : ((((((words1.drop 24).drop 24).drop 24).drop 24).drop 24).drop 24).all (fun c => isCode c || c.before args0 about1) = true := by decide +kernel
theorem w_tables : (allAtoms (Jvm.Cond.code x code maxLocals ret :: tables_1)).before args0 about1 = true := by
  rw [allAtoms_all]
  show words1.all (fun c => c.before args0 about1) = true
  refine all_split ?_ w_codes
  rw [← List.take_append_drop 24 words1, List.all_append, w_t1, ← List.take_append_drop 24 (words1.drop 24), List.all_append, w_t2, ← List.take_append_drop 24 ((words1.drop 24).drop 24), List.all_append, w_t3, ← List.take_append_drop 24 (((words1.drop 24).drop 24).drop 24), List.all_append, w_t4, ← List.take_append_drop 24 ((((words1.drop 24).drop 24).drop 24).drop 24), List.all_append, w_t5, ← List.take_append_drop 24 (((((words1.drop 24).drop 24).drop 24).drop 24).drop 24), List.all_append, w_t6, w_t7]
  rfl
set_option maxRecDepth 65536 in
theorem w_rest : rest_1_c.before args0 about1 = true := by decide +kernel
set_option maxRecDepth 65536 in
theorem w_case : (Jvm.Cond.and given_1 narrow_1).before args0 about1 = true := by decide +kernel
set_option maxRecDepth 65536 in
theorem w_consts : constsHeld consts_1 about1 := Jvm.Lit.constsHeldB_iff.mp (by decide +kernel)
theorem w_applies : (headSpec (Jvm.Cond.code x code maxLocals ret :: tables_1) room_1).applies x e0.platform about1 = true :=
  (Spec.applies_iff w_frames).mpr ⟨w_running, w_runnable, w_alone, w_named, w_hears, w_ripe, w_room, w_tables⟩
theorem atStart : AtStart classFile x code maxLocals ret World_1 tables_1 room_1 Calls_1 rest_1 Pre_1 launch0 p0 e0 about1 theMethod args0 below0 :=
  ⟨lists_1, trivial, launch0.admits_env _ _ _, launch0.least_env, fairChoices_fair.cas, fairChoices_fair.clock, w_frames, w_args, w_heap, w_applies, ⟨w_consts, trivial⟩, w_rest, w_case⟩
end start1
theorem witness_1 : WitnessClaimed_1 := ⟨start1.p0, start1.e0, start1.about1, start1.theMethod, start1.args0, start1.below0, start1.atStart⟩
end Jvm.Pilot.@@N@@
