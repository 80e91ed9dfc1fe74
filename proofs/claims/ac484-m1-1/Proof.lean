import JvmDerived
import JvmDerived.Pilot.@@N@@Statement
import JvmDerived.Pilot.@@N@@Code
set_option linter.unusedVariables false
set_option linter.unusedSimpArgs false
namespace Jvm.Pilot.@@N@@
open Jvm Jvm.ClassFile Sem Op Lib Jvm.Free Jvm.Stand Jvm.LawKit Jvm.RoadKit Bundle Jvm.Pilot.@@N@@.Jvm.D
/-! own_: what is left of a walk, read forwards -/
def own_WP (p : Program) (e : Env) (below : List Frame) (s : State) (Q : Option Value → Heap → List Loc → Prop) (k n : Nat) (a : State) : Prop :=
  ∃ s₂ o, Steps p.tables e below a s₂ ∧ s₂.status = .running ∧ Ended s₂ below o ∧ ∃ v L, o = .returned v ∧ Q v s₂.heap L ∧ FrameEnd s o s₂ L k n
def own_Con (l : Launch) (Z : State) (y : MethodName) (bytes : ByteArray) (maxL : Nat) (ret : Option FieldType) (rm : Room) (as' : Array Value) (h0 : Heap) (Q : Option Value → Heap → List Loc → Prop) : Prop :=
  ∀ ws, MetFree l y (head1 (Jvm.Cond.code y bytes maxL ret :: ws) rm) (fun a U => a = as' ∧ Z.Warmed39 U.vm ∧ U.heap = h0) (fun _ _ _ _ _ => True) (fun _ U o U' => ∃ v L, o = .returned v ∧ Q v U'.heap L ∧ FrameEnd U o U' L rm.cells rm.slots)
theorem own_Con_of {l : Launch} {Z : State} {y : MethodName} {bytes : ByteArray} {maxL : Nat} {ret : Option FieldType} {rm : Room} {as' : Array Value} {h0 : Heap} {Q : Option Value → Heap → List Loc → Prop} (hp : plainFor y = true)
    (hb : ∀ (p : Program) (e : Env) (s : State) (m : MethodId) (below : List Frame) (meth : Method) (c : Code) (s₁ : State), Stand p l e rm s m as' below meth c s₁ [] 0 0 → p.tables.exec = Jvm.exec → c.code = bytes → c.maxLocals = maxL → meth.sig.returnType = ret → meth.locks = false → meth.name = y.name → s.vm.findClass y.cls = some m.cls → Z.Warmed39 s.vm → s₁.heap = h0 →
      own_WP p e below s Q rm.cells rm.slots (s₁.setTop (entryFrame m as' maxL))) : own_Con l Z y bytes maxL ret rm as' h0 Q := by
  intro ws
  refine MetFree.of_bodySF hp hisR ?_
  intro p e s m args below meth c s₁ Bd hml0 hP hK
  obtain ⟨rfl, hZ, hh⟩ := hP
  exact hb p e s m below meth c s₁ (Stand.of_body Bd) Bd.exec Bd.bytes hml0 Bd.returns Bd.notSynchronized (name_of_methodNamed Bd.named Bd.method).1 (findClass_of_methodNamed Bd.named) hZ (by rw [← hh, Bd.state]; rfl)
theorem own_Con_mono {l : Launch} {Z : State} {y : MethodName} {bytes : ByteArray} {maxL : Nat} {ret : Option FieldType} {rm : Room} {as' : Array Value} {h0 : Heap} {Q Q' : Option Value → Heap → List Loc → Prop} (C : own_Con l Z y bytes maxL ret rm as' h0 Q) (hq : ∀ v h L, Q v h L → Q' v h L) : own_Con l Z y bytes maxL ret rm as' h0 Q' := by
  intro ws p e ha hc hk s m args below hf happ hP hK
  obtain ⟨n, o, h1, h2, h3, v, L, h4, h5, h6⟩ := C ws p e ha hc hk s m args below hf happ hP hK
  exact ⟨n, o, h1, h2, h3, v, L, h4, hq _ _ _ h5, h6⟩
theorem own_w {Z : State} {a0 : Array Value} {ts : List Jvm.Cond} {d : Jvm.Cond} (hw : ∀ d ∈ ts, d.before a0 Z = true) (i : Nat) (hi : ts[i]? = some d) : d.before a0 Z = true := hw _ (List.mem_of_getElem? hi)
section OwnWP
variable {p : Program} {l : Launch} {e : Env} {R : Room} {s : State} {m : MethodId} {args : Array Value} {below : List Frame} {meth : Method} {c : Code} {T : State} {locs : List Loc} {cells slots : Nat} {Z : State} {a0 : Array Value} {h : Heap} {Q : Option Value → Heap → List Loc → Prop} {k n : Nat} {a a' : State} {pc pc' : Nat} {ls l' : Array Slot} {rest : List Value}
theorem own_of (hs : ∀ t, Steps p.tables e below a' t → Steps p.tables e below a t) (w : own_WP p e below s Q k n a') : own_WP p e below s Q k n a := by
  obtain ⟨s₂, o, st, r⟩ := w
  exact ⟨s₂, o, hs _ st, r⟩
theorem own_mono {Q' : Option Value → Heap → List Loc → Prop} (hq : ∀ v h L, Q v h L → Q' v h L) (w : own_WP p e below s Q k n a) : own_WP p e below s Q' k n a := by
  obtain ⟨s₂, o, h1, h2, h3, v, L, h4, h5, h6⟩ := w
  exact ⟨s₂, o, h1, h2, h3, v, L, h4, hq _ _ _ h5, h6⟩
theorem own_join {α : Type} (P : α → Prop) (f : α → State) (h1 : (∀ x, P x → own_WP p e below s Q k n (f x)) → own_WP p e below s Q k n a) (h2 : ∀ x, P x → own_WP p e below s Q k n (f x)) : own_WP p e below s Q k n a := h1 h2
theorem own_done (X : Stand p l e R s m args below meth c T locs cells slots) {v : Option Value} (hlk : meth.locks = false) (hv : meth.sig.returnType = none → v = none) (hc : cells ≤ k) (hn : slots ≤ n) (hq : Q v T.heap locs)
    (st : ∀ fs, (∀ (f : JFrame) (acts : List Action), f.method = m → f.locked = none → f.entered = [] → (doReturn e (T.setTop f) acts v).1 = T.setFrames fs) → Steps p.tables e below a (T.setFrames fs)) : own_WP p e below s Q k n a := by
  obtain ⟨fs, hr, hrun, hended, hW, hsame⟩ := X.leave hv hlk
  exact ⟨_, _, st fs hr, hrun, hended, _, _, rfl, hq, ⟨_, rfl⟩, hW, hsame.mono hc hn⟩
theorem own_retI (X : Stand p l e R s m args below meth c T locs cells slots) (hx : p.tables.exec = Jvm.exec) (hlk : meth.locks = false) (hret : meth.sig.returnType = some .int) {z : Int32} (hd : decode c.code pc = .ok (.ireturn, 1)) (hc : cells ≤ k) (hn : slots ≤ n) (hq : Q (some (.int z)) T.heap locs) : own_WP p e below s Q k n (T.setTop (mkF m pc ls (.int z :: rest))) :=
  own_done X hlk (fun q => by rw [hret] at q; cases q) hc hn hq fun fs hr => retOut X hx hret rfl (Or.inl ⟨rfl, Or.inl rfl, z, rfl⟩) hd hr
theorem own_retN (X : Stand p l e R s m args below meth c T locs cells slots) (hx : p.tables.exec = Jvm.exec) (hlk : meth.locks = false) {t : FieldType} (ht : t = .boolean ∨ t = .byte ∨ t = .char ∨ t = .short) (hret : meth.sig.returnType = some t) {z : Int32} (hd : decode c.code pc = .ok (.ireturn, 1)) (hc : cells ≤ k) (hn : slots ≤ n) (hq : Q (some (.int (nar t z))) T.heap locs) : own_WP p e below s Q k n (T.setTop (mkF m pc ls (.int z :: rest))) :=
  own_done X hlk (fun q => by rw [hret] at q; cases q) hc hn hq fun fs hr => retN X hx hret ht hd hr
theorem own_retJ (X : Stand p l e R s m args below meth c T locs cells slots) (hx : p.tables.exec = Jvm.exec) (hlk : meth.locks = false) (hret : meth.sig.returnType = some .long) {z : Int64} (hd : decode c.code pc = .ok (.lreturn, 1)) (hc : cells ≤ k) (hn : slots ≤ n) (hq : Q (some (.long z)) T.heap locs) : own_WP p e below s Q k n (T.setTop (mkF m pc ls (.long z :: rest))) :=
  own_done X hlk (fun q => by rw [hret] at q; cases q) hc hn hq fun fs hr => retOut X hx hret rfl (Or.inr (Or.inl ⟨rfl, rfl, z, rfl⟩)) hd hr
theorem own_retA (X : Stand p l e R s m args below meth c T locs cells slots) (hx : p.tables.exec = Jvm.exec) (hlk : meth.locks = false) {t : FieldType} (ht : t.isReference = true) (hret : meth.sig.returnType = some t) {w : Value} (hw : w.isRef = true) (hnw : narrow t w = w) (hd : decode c.code pc = .ok (.areturn, 1)) (hc : cells ≤ k) (hn : slots ≤ n) (hq : Q (some w) T.heap locs) : own_WP p e below s Q k n (T.setTop (mkF m pc ls (w :: rest))) :=
  own_done X hlk (fun q => by rw [hret] at q; cases q) hc hn hq fun fs hr => retOut X hx hret hnw (Or.inr (Or.inr (Or.inr (Or.inr ⟨rfl, ht, hw⟩)))) hd hr
theorem own_ret0 (X : Stand p l e R s m args below meth c T locs cells slots) (hx : p.tables.exec = Jvm.exec) (hlk : meth.locks = false) (hret : meth.sig.returnType = none) (hd : decode c.code pc = .ok (.return_, 1)) (hc : cells ≤ k) (hn : slots ≤ n) (hq : Q none T.heap locs) : own_WP p e below s Q k n (T.setTop (mkF m pc ls [])) :=
  own_done X hlk (fun _ => rfl) hc hn hq fun fs hr => X.returnOut hx hret hd hr
theorem own_iload (X : Stand p l e R s m args below meth c T locs cells slots) (hx : p.tables.exec = Jvm.exec) {j : Nat} {v : Int32} (hd : decode c.code pc = .ok (.iload j, 2)) (hl : ls[j]? = some (.val (.int v))) (hpc : pc + 2 = pc') (w : own_WP p e below s Q k n (T.setTop (mkF m pc' ls (.int v :: rest)))) : own_WP p e below s Q k n (T.setTop (mkF m pc ls rest)) := by
  subst hpc
  exact own_of (fun t q => XS.iload X.here hx rfl hd hl q) w
theorem own_iloadN (X : Stand p l e R s m args below meth c T locs cells slots) (hx : p.tables.exec = Jvm.exec) {j : Fin 4} {v : Int32} (hd : decode c.code pc = .ok (.iload_n j, 1)) (hl : ls[j.val]? = some (.val (.int v))) (hpc : pc + 1 = pc') (w : own_WP p e below s Q k n (T.setTop (mkF m pc' ls (.int v :: rest)))) : own_WP p e below s Q k n (T.setTop (mkF m pc ls rest)) := by
  subst hpc
  exact own_of (fun t q => XS.iloadN X.here hx rfl hd hl q) w
theorem own_lload (X : Stand p l e R s m args below meth c T locs cells slots) (hx : p.tables.exec = Jvm.exec) {j : Nat} {v : Int64} (hd : decode c.code pc = .ok (.lload j, 2)) (hl : ls[j]? = some (.val (.long v))) (hpc : pc + 2 = pc') (w : own_WP p e below s Q k n (T.setTop (mkF m pc' ls (.long v :: rest)))) : own_WP p e below s Q k n (T.setTop (mkF m pc ls rest)) := by
  subst hpc
  exact own_of (fun t q => XS.lload X.here hx rfl hd hl q) w
theorem own_lloadN (X : Stand p l e R s m args below meth c T locs cells slots) (hx : p.tables.exec = Jvm.exec) {j : Fin 4} {v : Int64} (hd : decode c.code pc = .ok (.lload_n j, 1)) (hl : ls[j.val]? = some (.val (.long v))) (hpc : pc + 1 = pc') (w : own_WP p e below s Q k n (T.setTop (mkF m pc' ls (.long v :: rest)))) : own_WP p e below s Q k n (T.setTop (mkF m pc ls rest)) := by
  subst hpc
  exact own_of (fun t q => XS.lloadN X.here hx rfl hd hl q) w
theorem own_aload (X : Stand p l e R s m args below meth c T locs cells slots) (hx : p.tables.exec = Jvm.exec) {j : Nat} {v : Value} (hd : decode c.code pc = .ok (.aload j, 2)) (hl : ls[j]? = some (.val v)) (hv : v.isRef = true) (hpc : pc + 2 = pc') (w : own_WP p e below s Q k n (T.setTop (mkF m pc' ls (v :: rest)))) : own_WP p e below s Q k n (T.setTop (mkF m pc ls rest)) := by
  subst hpc
  exact own_of (fun t q => XS.aload X.here hx rfl hd hl hv q) w
theorem own_aloadN (X : Stand p l e R s m args below meth c T locs cells slots) (hx : p.tables.exec = Jvm.exec) {j : Fin 4} {v : Value} (hd : decode c.code pc = .ok (.aload_n j, 1)) (hl : ls[j.val]? = some (.val v)) (hv : v.isRef = true) (hpc : pc + 1 = pc') (w : own_WP p e below s Q k n (T.setTop (mkF m pc' ls (v :: rest)))) : own_WP p e below s Q k n (T.setTop (mkF m pc ls rest)) := by
  subst hpc
  exact own_of (fun t q => XS.aloadN X.here hx rfl hd hl hv q) w
theorem own_istore (X : Stand p l e R s m args below meth c T locs cells slots) (hx : p.tables.exec = Jvm.exec) {j : Nat} {v z : Int32} (hd : decode c.code pc = .ok (.istore j, 2)) (hz : z = v) (hl : storeLocals ls j (.int z) = some l') (hpc : pc + 2 = pc') (w : own_WP p e below s Q k n (T.setTop (mkF m pc' l' rest))) : own_WP p e below s Q k n (T.setTop (mkF m pc ls (.int v :: rest))) := by
  subst hpc
  exact own_of (fun t q => XS.istore X.here hx rfl hd rfl (hz ▸ hl) q) w
theorem own_istoreN (X : Stand p l e R s m args below meth c T locs cells slots) (hx : p.tables.exec = Jvm.exec) {j : Fin 4} {v z : Int32} (hd : decode c.code pc = .ok (.istore_n j, 1)) (hz : z = v) (hl : storeLocals ls j.val (.int z) = some l') (hpc : pc + 1 = pc') (w : own_WP p e below s Q k n (T.setTop (mkF m pc' l' rest))) : own_WP p e below s Q k n (T.setTop (mkF m pc ls (.int v :: rest))) := by
  subst hpc
  exact own_of (fun t q => XS.istoreN X.here hx rfl hd rfl (hz ▸ hl) q) w
theorem own_lstore (X : Stand p l e R s m args below meth c T locs cells slots) (hx : p.tables.exec = Jvm.exec) {j : Nat} {v z : Int64} (hd : decode c.code pc = .ok (.lstore j, 2)) (hz : z = v) (hl : storeLocals ls j (.long z) = some l') (hpc : pc + 2 = pc') (w : own_WP p e below s Q k n (T.setTop (mkF m pc' l' rest))) : own_WP p e below s Q k n (T.setTop (mkF m pc ls (.long v :: rest))) := by
  subst hpc
  exact own_of (fun t q => XS.lstore X.here hx rfl hd rfl (hz ▸ hl) q) w
theorem own_lstoreN (X : Stand p l e R s m args below meth c T locs cells slots) (hx : p.tables.exec = Jvm.exec) {j : Fin 4} {v z : Int64} (hd : decode c.code pc = .ok (.lstore_n j, 1)) (hz : z = v) (hl : storeLocals ls j.val (.long z) = some l') (hpc : pc + 1 = pc') (w : own_WP p e below s Q k n (T.setTop (mkF m pc' l' rest))) : own_WP p e below s Q k n (T.setTop (mkF m pc ls (.long v :: rest))) := by
  subst hpc
  exact own_of (fun t q => XS.lstoreN X.here hx rfl hd rfl (hz ▸ hl) q) w
theorem own_astore (X : Stand p l e R s m args below meth c T locs cells slots) (hx : p.tables.exec = Jvm.exec) {j : Nat} {v : Value} (hd : decode c.code pc = .ok (.astore j, 2)) (hv : v.isRef = true) (hl : storeLocals ls j v = some l') (hpc : pc + 2 = pc') (w : own_WP p e below s Q k n (T.setTop (mkF m pc' l' rest))) : own_WP p e below s Q k n (T.setTop (mkF m pc ls (v :: rest))) := by
  subst hpc
  exact own_of (fun t q => XS.astore X.here hx rfl hd rfl hv hl q) w
theorem own_astoreN (X : Stand p l e R s m args below meth c T locs cells slots) (hx : p.tables.exec = Jvm.exec) {j : Fin 4} {v : Value} (hd : decode c.code pc = .ok (.astore_n j, 1)) (hv : v.isRef = true) (hl : storeLocals ls j.val v = some l') (hpc : pc + 1 = pc') (w : own_WP p e below s Q k n (T.setTop (mkF m pc' l' rest))) : own_WP p e below s Q k n (T.setTop (mkF m pc ls (v :: rest))) := by
  subst hpc
  exact own_of (fun t q => XS.astoreN X.here hx rfl hd rfl hv hl q) w
theorem own_iinc (X : Stand p l e R s m args below meth c T locs cells slots) (hx : p.tables.exec = Jvm.exec) {j : Nat} {i : Int} {v z : Int32} (hd : decode c.code pc = .ok (.iinc j i, 3)) (hl0 : ls[j]? = some (.val (.int v))) (hz : z = v + Int32.ofInt i) (hl : storeLocals ls j (.int z) = some l') (hpc : pc + 3 = pc') (w : own_WP p e below s Q k n (T.setTop (mkF m pc' l' rest))) : own_WP p e below s Q k n (T.setTop (mkF m pc ls rest)) := by
  subst hpc
  exact own_of (fun t q => XS.iinc X.here hx rfl hd hl0 (hz ▸ hl) q) w
theorem own_iconst (X : Stand p l e R s m args below meth c T locs cells slots) (hx : p.tables.exec = Jvm.exec) {i : Int} (v : Int32) (hd : decode c.code pc = .ok (.iconst i, 1)) (hv : v = Int32.ofInt i) (hpc : pc + 1 = pc') (w : own_WP p e below s Q k n (T.setTop (mkF m pc' ls (.int v :: rest)))) : own_WP p e below s Q k n (T.setTop (mkF m pc ls rest)) := by
  subst hpc
  exact own_of (fun t q => XS.iconst X.here hx rfl hd (hv ▸ q)) w
theorem own_bipush (X : Stand p l e R s m args below meth c T locs cells slots) (hx : p.tables.exec = Jvm.exec) {i : Int} (v : Int32) (hd : decode c.code pc = .ok (.bipush i, 2)) (hv : v = (Int8.ofInt i).toInt32) (hpc : pc + 2 = pc') (w : own_WP p e below s Q k n (T.setTop (mkF m pc' ls (.int v :: rest)))) : own_WP p e below s Q k n (T.setTop (mkF m pc ls rest)) := by
  subst hpc
  exact own_of (fun t q => XS.bipush X.here hx rfl hd (hv ▸ q)) w
theorem own_sipush (X : Stand p l e R s m args below meth c T locs cells slots) (hx : p.tables.exec = Jvm.exec) {i : Int} (v : Int32) (hd : decode c.code pc = .ok (.sipush i, 3)) (hv : v = (Int16.ofInt i).toInt32) (hpc : pc + 3 = pc') (w : own_WP p e below s Q k n (T.setTop (mkF m pc' ls (.int v :: rest)))) : own_WP p e below s Q k n (T.setTop (mkF m pc ls rest)) := by
  subst hpc
  exact own_of (fun t q => XS.sipush X.here hx rfl hd (hv ▸ q)) w
theorem own_anull (X : Stand p l e R s m args below meth c T locs cells slots) (hx : p.tables.exec = Jvm.exec)  (hd : decode c.code pc = .ok (.aconst_null, 1)) (hpc : pc + 1 = pc') (w : own_WP p e below s Q k n (T.setTop (mkF m pc' ls (.null :: rest)))) : own_WP p e below s Q k n (T.setTop (mkF m pc ls rest)) := by
  subst hpc
  exact own_of (fun t q => XS.aconstNull X.here hx rfl hd q) w
theorem own_lconst0 (X : Stand p l e R s m args below meth c T locs cells slots) (hx : p.tables.exec = Jvm.exec)  (hd : decode c.code pc = .ok (.lconst 0, 1)) (hpc : pc + 1 = pc') (w : own_WP p e below s Q k n (T.setTop (mkF m pc' ls (.long 0 :: rest)))) : own_WP p e below s Q k n (T.setTop (mkF m pc ls rest)) := by
  subst hpc
  exact own_of (fun t q => XS.lconst X.here hx rfl hd q) w
theorem own_lconst1 (X : Stand p l e R s m args below meth c T locs cells slots) (hx : p.tables.exec = Jvm.exec)  (hd : decode c.code pc = .ok (.lconst 1, 1)) (hpc : pc + 1 = pc') (w : own_WP p e below s Q k n (T.setTop (mkF m pc' ls (.long 1 :: rest)))) : own_WP p e below s Q k n (T.setTop (mkF m pc ls rest)) := by
  subst hpc
  exact own_of (fun t q => XS.lconst X.here hx rfl hd q) w
theorem own_ldcInt (X : Stand p l e R s m args below meth c T locs cells slots) (hx : p.tables.exec = Jvm.exec) (hZ : Z.Warmed39 s.vm) {own : String} {idx : Nat} {v : Int32} (hown : s.vm.findClass own = some m.cls) (w1 : (Jvm.Cond.constant own idx v).before a0 Z = true) (hd : decode c.code pc = .ok (.ldc idx, 2)) (hpc : pc + 2 = pc') (w : own_WP p e below s Q k n (T.setTop (mkF m pc' ls (.int v :: rest)))) : own_WP p e below s Q k n (T.setTop (mkF m pc ls rest)) := by
  subst hpc
  exact own_of (fun t q => X.ldcInt hx hown (mvT hZ w1) (g := mkF m pc ls rest) rfl hd _ q) w
theorem own_ldcwInt (X : Stand p l e R s m args below meth c T locs cells slots) (hx : p.tables.exec = Jvm.exec) (hZ : Z.Warmed39 s.vm) {own : String} {idx : Nat} {v : Int32} (hown : s.vm.findClass own = some m.cls) (w1 : (Jvm.Cond.constant own idx v).before a0 Z = true) (hd : decode c.code pc = .ok (.ldc_w idx, 3)) (hpc : pc + 3 = pc') (w : own_WP p e below s Q k n (T.setTop (mkF m pc' ls (.int v :: rest)))) : own_WP p e below s Q k n (T.setTop (mkF m pc ls rest)) := by
  subst hpc
  exact own_of (fun t q => X.ldcwInt hx hown (mvT hZ w1) (g := mkF m pc ls rest) rfl hd _ q) w
theorem own_ldc2Long (X : Stand p l e R s m args below meth c T locs cells slots) (hx : p.tables.exec = Jvm.exec) (hZ : Z.Warmed39 s.vm) {own : String} {idx : Nat} {v : Int64} (hown : s.vm.findClass own = some m.cls) (w1 : (Jvm.Cond.constantLong own idx v).before a0 Z = true) (hd : decode c.code pc = .ok (.ldc2_w idx, 3)) (hpc : pc + 3 = pc') (w : own_WP p e below s Q k n (T.setTop (mkF m pc' ls (.long v :: rest)))) : own_WP p e below s Q k n (T.setTop (mkF m pc ls rest)) := by
  subst hpc
  exact own_of (fun t q => X.ldc2Long hx hown (mvT hZ w1) (g := mkF m pc ls rest) rfl hd _ q) w
theorem own_iadd (X : Stand p l e R s m args below meth c T locs cells slots) (hx : p.tables.exec = Jvm.exec) {x y : Int32} (hd : decode c.code pc = .ok (.iadd, 1)) (hpc : pc + 1 = pc') (w : own_WP p e below s Q k n (T.setTop (mkF m pc' ls (.int (x + y) :: rest)))) : own_WP p e below s Q k n (T.setTop (mkF m pc ls (.int y :: .int x :: rest))) := by
  subst hpc
  exact own_of (fun t q => XS.iadd X.here hx rfl hd rfl q) w
theorem own_ladd (X : Stand p l e R s m args below meth c T locs cells slots) (hx : p.tables.exec = Jvm.exec) {x y : Int64} (hd : decode c.code pc = .ok (.ladd, 1)) (hpc : pc + 1 = pc') (w : own_WP p e below s Q k n (T.setTop (mkF m pc' ls (.long (x + y) :: rest)))) : own_WP p e below s Q k n (T.setTop (mkF m pc ls (.long y :: .long x :: rest))) := by
  subst hpc
  exact own_of (fun t q => XS.ladd X.here hx rfl hd rfl q) w
theorem own_isub (X : Stand p l e R s m args below meth c T locs cells slots) (hx : p.tables.exec = Jvm.exec) {x y : Int32} (hd : decode c.code pc = .ok (.isub, 1)) (hpc : pc + 1 = pc') (w : own_WP p e below s Q k n (T.setTop (mkF m pc' ls (.int (x - y) :: rest)))) : own_WP p e below s Q k n (T.setTop (mkF m pc ls (.int y :: .int x :: rest))) := by
  subst hpc
  exact own_of (fun t q => XS.isub X.here hx rfl hd rfl q) w
theorem own_lsub (X : Stand p l e R s m args below meth c T locs cells slots) (hx : p.tables.exec = Jvm.exec) {x y : Int64} (hd : decode c.code pc = .ok (.lsub, 1)) (hpc : pc + 1 = pc') (w : own_WP p e below s Q k n (T.setTop (mkF m pc' ls (.long (x - y) :: rest)))) : own_WP p e below s Q k n (T.setTop (mkF m pc ls (.long y :: .long x :: rest))) := by
  subst hpc
  exact own_of (fun t q => XS.lsub X.here hx rfl hd rfl q) w
theorem own_imul (X : Stand p l e R s m args below meth c T locs cells slots) (hx : p.tables.exec = Jvm.exec) {x y : Int32} (hd : decode c.code pc = .ok (.imul, 1)) (hpc : pc + 1 = pc') (w : own_WP p e below s Q k n (T.setTop (mkF m pc' ls (.int (x * y) :: rest)))) : own_WP p e below s Q k n (T.setTop (mkF m pc ls (.int y :: .int x :: rest))) := by
  subst hpc
  exact own_of (fun t q => XS.imul X.here hx rfl hd rfl q) w
theorem own_lmul (X : Stand p l e R s m args below meth c T locs cells slots) (hx : p.tables.exec = Jvm.exec) {x y : Int64} (hd : decode c.code pc = .ok (.lmul, 1)) (hpc : pc + 1 = pc') (w : own_WP p e below s Q k n (T.setTop (mkF m pc' ls (.long (x * y) :: rest)))) : own_WP p e below s Q k n (T.setTop (mkF m pc ls (.long y :: .long x :: rest))) := by
  subst hpc
  exact own_of (fun t q => XS.lmul X.here hx rfl hd rfl q) w
theorem own_iand (X : Stand p l e R s m args below meth c T locs cells slots) (hx : p.tables.exec = Jvm.exec) {x y : Int32} (hd : decode c.code pc = .ok (.iand, 1)) (hpc : pc + 1 = pc') (w : own_WP p e below s Q k n (T.setTop (mkF m pc' ls (.int (x &&& y) :: rest)))) : own_WP p e below s Q k n (T.setTop (mkF m pc ls (.int y :: .int x :: rest))) := by
  subst hpc
  exact own_of (fun t q => XS.iand X.here hx rfl hd rfl q) w
theorem own_land (X : Stand p l e R s m args below meth c T locs cells slots) (hx : p.tables.exec = Jvm.exec) {x y : Int64} (hd : decode c.code pc = .ok (.land, 1)) (hpc : pc + 1 = pc') (w : own_WP p e below s Q k n (T.setTop (mkF m pc' ls (.long (x &&& y) :: rest)))) : own_WP p e below s Q k n (T.setTop (mkF m pc ls (.long y :: .long x :: rest))) := by
  subst hpc
  exact own_of (fun t q => XS.land X.here hx rfl hd rfl q) w
theorem own_ior (X : Stand p l e R s m args below meth c T locs cells slots) (hx : p.tables.exec = Jvm.exec) {x y : Int32} (hd : decode c.code pc = .ok (.ior, 1)) (hpc : pc + 1 = pc') (w : own_WP p e below s Q k n (T.setTop (mkF m pc' ls (.int (x ||| y) :: rest)))) : own_WP p e below s Q k n (T.setTop (mkF m pc ls (.int y :: .int x :: rest))) := by
  subst hpc
  exact own_of (fun t q => XS.ior X.here hx rfl hd rfl q) w
theorem own_lor (X : Stand p l e R s m args below meth c T locs cells slots) (hx : p.tables.exec = Jvm.exec) {x y : Int64} (hd : decode c.code pc = .ok (.lor, 1)) (hpc : pc + 1 = pc') (w : own_WP p e below s Q k n (T.setTop (mkF m pc' ls (.long (x ||| y) :: rest)))) : own_WP p e below s Q k n (T.setTop (mkF m pc ls (.long y :: .long x :: rest))) := by
  subst hpc
  exact own_of (fun t q => XS.lor X.here hx rfl hd rfl q) w
theorem own_ixor (X : Stand p l e R s m args below meth c T locs cells slots) (hx : p.tables.exec = Jvm.exec) {x y : Int32} (hd : decode c.code pc = .ok (.ixor, 1)) (hpc : pc + 1 = pc') (w : own_WP p e below s Q k n (T.setTop (mkF m pc' ls (.int (x ^^^ y) :: rest)))) : own_WP p e below s Q k n (T.setTop (mkF m pc ls (.int y :: .int x :: rest))) := by
  subst hpc
  exact own_of (fun t q => XS.ixor X.here hx rfl hd rfl q) w
theorem own_lxor (X : Stand p l e R s m args below meth c T locs cells slots) (hx : p.tables.exec = Jvm.exec) {x y : Int64} (hd : decode c.code pc = .ok (.lxor, 1)) (hpc : pc + 1 = pc') (w : own_WP p e below s Q k n (T.setTop (mkF m pc' ls (.long (x ^^^ y) :: rest)))) : own_WP p e below s Q k n (T.setTop (mkF m pc ls (.long y :: .long x :: rest))) := by
  subst hpc
  exact own_of (fun t q => XS.lxor X.here hx rfl hd rfl q) w
theorem own_ishl (X : Stand p l e R s m args below meth c T locs cells slots) (hx : p.tables.exec = Jvm.exec) {x y : Int32} (hd : decode c.code pc = .ok (.ishl, 1)) (hpc : pc + 1 = pc') (w : own_WP p e below s Q k n (T.setTop (mkF m pc' ls (.int (x <<< (y &&& 31)) :: rest)))) : own_WP p e below s Q k n (T.setTop (mkF m pc ls (.int y :: .int x :: rest))) := by
  subst hpc
  exact own_of (fun t q => XS.ishl X.here hx rfl hd rfl q) w
theorem own_ishr (X : Stand p l e R s m args below meth c T locs cells slots) (hx : p.tables.exec = Jvm.exec) {x y : Int32} (hd : decode c.code pc = .ok (.ishr, 1)) (hpc : pc + 1 = pc') (w : own_WP p e below s Q k n (T.setTop (mkF m pc' ls (.int (x >>> (y &&& 31)) :: rest)))) : own_WP p e below s Q k n (T.setTop (mkF m pc ls (.int y :: .int x :: rest))) := by
  subst hpc
  exact own_of (fun t q => XS.ishr X.here hx rfl hd rfl q) w
theorem own_iushr (X : Stand p l e R s m args below meth c T locs cells slots) (hx : p.tables.exec = Jvm.exec) {x y : Int32} (hd : decode c.code pc = .ok (.iushr, 1)) (hpc : pc + 1 = pc') (w : own_WP p e below s Q k n (T.setTop (mkF m pc' ls (.int ((x.toUInt32 >>> (y &&& 31).toUInt32).toInt32) :: rest)))) : own_WP p e below s Q k n (T.setTop (mkF m pc ls (.int y :: .int x :: rest))) := by
  subst hpc
  exact own_of (fun t q => XS.iushr X.here hx rfl hd rfl q) w
theorem own_lshl (X : Stand p l e R s m args below meth c T locs cells slots) (hx : p.tables.exec = Jvm.exec) {x : Int64} {y : Int32} (hd : decode c.code pc = .ok (.lshl, 1)) (hpc : pc + 1 = pc') (w : own_WP p e below s Q k n (T.setTop (mkF m pc' ls (.long (x <<< (y &&& 0x3f).toInt64) :: rest)))) : own_WP p e below s Q k n (T.setTop (mkF m pc ls (.int y :: .long x :: rest))) := by
  subst hpc
  exact own_of (fun t q => XS.lshl X.here hx rfl hd rfl q) w
theorem own_lshr (X : Stand p l e R s m args below meth c T locs cells slots) (hx : p.tables.exec = Jvm.exec) {x : Int64} {y : Int32} (hd : decode c.code pc = .ok (.lshr, 1)) (hpc : pc + 1 = pc') (w : own_WP p e below s Q k n (T.setTop (mkF m pc' ls (.long (x >>> (y &&& 0x3f).toInt64) :: rest)))) : own_WP p e below s Q k n (T.setTop (mkF m pc ls (.int y :: .long x :: rest))) := by
  subst hpc
  exact own_of (fun t q => XS.lshr X.here hx rfl hd rfl q) w
theorem own_lushr (X : Stand p l e R s m args below meth c T locs cells slots) (hx : p.tables.exec = Jvm.exec) {x : Int64} {y : Int32} (hd : decode c.code pc = .ok (.lushr, 1)) (hpc : pc + 1 = pc') (w : own_WP p e below s Q k n (T.setTop (mkF m pc' ls (.long ((x.toUInt64 >>> (y &&& 0x3f).toInt64.toUInt64).toInt64) :: rest)))) : own_WP p e below s Q k n (T.setTop (mkF m pc ls (.int y :: .long x :: rest))) := by
  subst hpc
  exact own_of (fun t q => XS.lushr X.here hx rfl hd rfl q) w
theorem own_idiv (X : Stand p l e R s m args below meth c T locs cells slots) (hx : p.tables.exec = Jvm.exec) {x y : Int32} (hd : decode c.code pc = .ok (.idiv, 1)) (hy : y ≠ 0) (hpc : pc + 1 = pc') (w : own_WP p e below s Q k n (T.setTop (mkF m pc' ls (.int (x / y) :: rest)))) : own_WP p e below s Q k n (T.setTop (mkF m pc ls (.int y :: .int x :: rest))) := by
  subst hpc
  exact own_of (fun t q => XS.idiv X.here hx rfl hd rfl hy q) w
theorem own_irem (X : Stand p l e R s m args below meth c T locs cells slots) (hx : p.tables.exec = Jvm.exec) {x y : Int32} (hd : decode c.code pc = .ok (.irem, 1)) (hy : y ≠ 0) (hpc : pc + 1 = pc') (w : own_WP p e below s Q k n (T.setTop (mkF m pc' ls (.int (x % y) :: rest)))) : own_WP p e below s Q k n (T.setTop (mkF m pc ls (.int y :: .int x :: rest))) := by
  subst hpc
  exact own_of (fun t q => iremM X hx rfl hd rfl hy q) w
theorem own_ldiv (X : Stand p l e R s m args below meth c T locs cells slots) (hx : p.tables.exec = Jvm.exec) {x y : Int64} (hd : decode c.code pc = .ok (.ldiv, 1)) (hy : y ≠ 0) (hpc : pc + 1 = pc') (w : own_WP p e below s Q k n (T.setTop (mkF m pc' ls (.long (x / y) :: rest)))) : own_WP p e below s Q k n (T.setTop (mkF m pc ls (.long y :: .long x :: rest))) := by
  subst hpc
  exact own_of (fun t q => XS.ldiv X.here hx rfl hd rfl hy q) w
theorem own_lrem (X : Stand p l e R s m args below meth c T locs cells slots) (hx : p.tables.exec = Jvm.exec) {x y : Int64} (hd : decode c.code pc = .ok (.lrem, 1)) (hy : y ≠ 0) (hpc : pc + 1 = pc') (w : own_WP p e below s Q k n (T.setTop (mkF m pc' ls (.long (x % y) :: rest)))) : own_WP p e below s Q k n (T.setTop (mkF m pc ls (.long y :: .long x :: rest))) := by
  subst hpc
  exact own_of (fun t q => XS.lrem X.here hx rfl hd rfl hy ((lrem_mod x y).symm ▸ q)) w
theorem own_ineg (X : Stand p l e R s m args below meth c T locs cells slots) (hx : p.tables.exec = Jvm.exec) {x : Int32} (hd : decode c.code pc = .ok (.ineg, 1)) (hpc : pc + 1 = pc') (w : own_WP p e below s Q k n (T.setTop (mkF m pc' ls (.int (-x) :: rest)))) : own_WP p e below s Q k n (T.setTop (mkF m pc ls (.int x :: rest))) := by
  subst hpc
  exact own_of (fun t q => XS.ineg X.here hx rfl hd rfl q) w
theorem own_lneg (X : Stand p l e R s m args below meth c T locs cells slots) (hx : p.tables.exec = Jvm.exec) {x : Int64} (hd : decode c.code pc = .ok (.lneg, 1)) (hpc : pc + 1 = pc') (w : own_WP p e below s Q k n (T.setTop (mkF m pc' ls (.long (-x) :: rest)))) : own_WP p e below s Q k n (T.setTop (mkF m pc ls (.long x :: rest))) := by
  subst hpc
  exact own_of (fun t q => XS.lneg X.here hx rfl hd rfl q) w
theorem own_i2l (X : Stand p l e R s m args below meth c T locs cells slots) (hx : p.tables.exec = Jvm.exec) {x : Int32} (hd : decode c.code pc = .ok (.i2l, 1)) (hpc : pc + 1 = pc') (w : own_WP p e below s Q k n (T.setTop (mkF m pc' ls (.long (x.toInt64) :: rest)))) : own_WP p e below s Q k n (T.setTop (mkF m pc ls (.int x :: rest))) := by
  subst hpc
  exact own_of (fun t q => XS.i2l X.here hx rfl hd rfl q) w
theorem own_l2i (X : Stand p l e R s m args below meth c T locs cells slots) (hx : p.tables.exec = Jvm.exec) {x : Int64} (hd : decode c.code pc = .ok (.l2i, 1)) (hpc : pc + 1 = pc') (w : own_WP p e below s Q k n (T.setTop (mkF m pc' ls (.int (x.toInt32) :: rest)))) : own_WP p e below s Q k n (T.setTop (mkF m pc ls (.long x :: rest))) := by
  subst hpc
  exact own_of (fun t q => XS.l2i X.here hx rfl hd rfl q) w
theorem own_i2b (X : Stand p l e R s m args below meth c T locs cells slots) (hx : p.tables.exec = Jvm.exec) {x : Int32} (hd : decode c.code pc = .ok (.i2b, 1)) (hpc : pc + 1 = pc') (w : own_WP p e below s Q k n (T.setTop (mkF m pc' ls (.int (x.toInt8.toInt32) :: rest)))) : own_WP p e below s Q k n (T.setTop (mkF m pc ls (.int x :: rest))) := by
  subst hpc
  exact own_of (fun t q => XS.i2b X.here hx rfl hd rfl q) w
theorem own_i2s (X : Stand p l e R s m args below meth c T locs cells slots) (hx : p.tables.exec = Jvm.exec) {x : Int32} (hd : decode c.code pc = .ok (.i2s, 1)) (hpc : pc + 1 = pc') (w : own_WP p e below s Q k n (T.setTop (mkF m pc' ls (.int (x.toInt16.toInt32) :: rest)))) : own_WP p e below s Q k n (T.setTop (mkF m pc ls (.int x :: rest))) := by
  subst hpc
  exact own_of (fun t q => XS.i2s X.here hx rfl hd rfl q) w
theorem own_i2c (X : Stand p l e R s m args below meth c T locs cells slots) (hx : p.tables.exec = Jvm.exec) {x : Int32} (hd : decode c.code pc = .ok (.i2c, 1)) (hpc : pc + 1 = pc') (w : own_WP p e below s Q k n (T.setTop (mkF m pc' ls (.int (x.toUInt32.toUInt16.toUInt32.toInt32) :: rest)))) : own_WP p e below s Q k n (T.setTop (mkF m pc ls (.int x :: rest))) := by
  subst hpc
  exact own_of (fun t q => XS.i2c X.here hx rfl hd rfl q) w
theorem own_lcmp (X : Stand p l e R s m args below meth c T locs cells slots) (hx : p.tables.exec = Jvm.exec) {x y : Int64} (hd : decode c.code pc = .ok (.lcmp, 1)) (hpc : pc + 1 = pc') (w : own_WP p e below s Q k n (T.setTop (mkF m pc' ls (.int (lcmpW x y) :: rest)))) : own_WP p e below s Q k n (T.setTop (mkF m pc ls (.long y :: .long x :: rest))) := by
  subst hpc
  exact own_of (fun t q => XS.lcmp X.here hx rfl hd rfl q) w
theorem own_dup (X : Stand p l e R s m args below meth c T locs cells slots) (hx : p.tables.exec = Jvm.exec) {v : Value} (hd : decode c.code pc = .ok (.dup, 1)) (hv : v.category = 1) (hpc : pc + 1 = pc') (w : own_WP p e below s Q k n (T.setTop (mkF m pc' ls (v :: v :: rest)))) : own_WP p e below s Q k n (T.setTop (mkF m pc ls (v :: rest))) := by
  subst hpc
  exact own_of (fun t q => XS.dup X.here hx rfl hd rfl hv q) w
theorem own_pop (X : Stand p l e R s m args below meth c T locs cells slots) (hx : p.tables.exec = Jvm.exec) {v : Value} (hd : decode c.code pc = .ok (.pop, 1)) (hv : v.category = 1) (hpc : pc + 1 = pc') (w : own_WP p e below s Q k n (T.setTop (mkF m pc' ls rest))) : own_WP p e below s Q k n (T.setTop (mkF m pc ls (v :: rest))) := by
  subst hpc
  exact own_of (fun t q => XS.pop X.here hx rfl hd rfl hv q) w
theorem own_dup2 (X : Stand p l e R s m args below meth c T locs cells slots) (hx : p.tables.exec = Jvm.exec) {v1 v2 : Value} (hd : decode c.code pc = .ok (.dup2, 1)) (h1 : v1.category = 1) (h2 : v2.category = 1) (hpc : pc + 1 = pc') (w : own_WP p e below s Q k n (T.setTop (mkF m pc' ls (v1 :: v2 :: v1 :: v2 :: rest)))) : own_WP p e below s Q k n (T.setTop (mkF m pc ls (v1 :: v2 :: rest))) := by
  subst hpc
  refine own_of (fun t q => ?_) w
  jvm_step X.here [X.here.top, hx, hd, h1, h2]
  exact q
theorem own_goto (X : Stand p l e R s m args below meth c T locs cells slots) (hx : p.tables.exec = Jvm.exec) {o : Int} (hd : decode c.code pc = .ok (.goto o, 3)) (ho : 0 ≤ (pc : Int) + o) (hpc : ((pc : Int) + o).toNat = pc') (w : own_WP p e below s Q k n (T.setTop (mkF m pc' ls rest))) : own_WP p e below s Q k n (T.setTop (mkF m pc ls rest)) :=
  own_of (fun t q => XS.goto X.here hx rfl (pc0 := pc) (pc' := pc') rfl hd ho hpc q) w
theorem own_icmp_lt (X : Stand p l e R s m args below meth c T locs cells slots) (hx : p.tables.exec = Jvm.exec) {x y : Int32} {o : Int} {pf pt : Nat} (hd : decode c.code pc = .ok (.if_icmp .lt o, 3)) (hpf : pc + 3 = pf) (ho : 0 ≤ (pc : Int) + o) (hpt : ((pc : Int) + o).toNat = pt)
    (yes : x < y → own_WP p e below s Q k n (T.setTop (mkF m pt ls rest))) (no : ¬ x < y → own_WP p e below s Q k n (T.setTop (mkF m pf ls rest))) : own_WP p e below s Q k n (T.setTop (mkF m pc ls (.int y :: .int x :: rest))) := by
  subst hpf
  by_cases hq : x < y
  · exact own_of (fun t q => XS.icmpYes X.here hx rfl (pc0 := pc) (pc' := pt) rfl hd rfl ((tlt hq).1) ho hpt q) (yes hq)
  · exact own_of (fun t q => XS.icmpNo X.here hx rfl hd rfl ((flt hq).1) q) (no hq)
theorem own_if_lt (X : Stand p l e R s m args below meth c T locs cells slots) (hx : p.tables.exec = Jvm.exec) {x : Int32} {o : Int} {pf pt : Nat} (hd : decode c.code pc = .ok (.ifCond .lt o, 3)) (hpf : pc + 3 = pf) (ho : 0 ≤ (pc : Int) + o) (hpt : ((pc : Int) + o).toNat = pt)
    (yes : x < 0 → own_WP p e below s Q k n (T.setTop (mkF m pt ls rest))) (no : ¬ x < 0 → own_WP p e below s Q k n (T.setTop (mkF m pf ls rest))) : own_WP p e below s Q k n (T.setTop (mkF m pc ls (.int x :: rest))) := by
  subst hpf
  by_cases hq : x < 0
  · exact own_of (fun t q => XS.ifYes X.here hx rfl (pc0 := pc) (pc' := pt) rfl hd rfl ((if0 _ _).trans (tlt hq).1) ho hpt q) (yes hq)
  · exact own_of (fun t q => XS.ifNo X.here hx rfl hd rfl ((if0 _ _).trans (flt hq).1) q) (no hq)
theorem own_ifl_lt (X : Stand p l e R s m args below meth c T locs cells slots) (hx : p.tables.exec = Jvm.exec) {x y : Int64} {o : Int} {pf pt : Nat} (hd : decode c.code pc = .ok (.ifCond .lt o, 3)) (hpf : pc + 3 = pf) (ho : 0 ≤ (pc : Int) + o) (hpt : ((pc : Int) + o).toNat = pt)
    (yes : x < y → own_WP p e below s Q k n (T.setTop (mkF m pt ls rest))) (no : ¬ x < y → own_WP p e below s Q k n (T.setTop (mkF m pf ls rest))) : own_WP p e below s Q k n (T.setTop (mkF m pc ls (.int (lcmpW x y) :: rest))) := by
  subst hpf
  by_cases hq : x < y
  · exact own_of (fun t q => XS.ifYes X.here hx rfl (pc0 := pc) (pc' := pt) rfl hd rfl ((if0 _ _).trans (tlt ((lw_lt x y).mpr hq)).1) ho hpt q) (yes hq)
  · exact own_of (fun t q => XS.ifNo X.here hx rfl hd rfl ((if0 _ _).trans (flt (fun z => hq ((lw_lt x y).mp z))).1) q) (no hq)
theorem own_icmp_ge (X : Stand p l e R s m args below meth c T locs cells slots) (hx : p.tables.exec = Jvm.exec) {x y : Int32} {o : Int} {pf pt : Nat} (hd : decode c.code pc = .ok (.if_icmp .ge o, 3)) (hpf : pc + 3 = pf) (ho : 0 ≤ (pc : Int) + o) (hpt : ((pc : Int) + o).toNat = pt)
    (yes : ¬ x < y → own_WP p e below s Q k n (T.setTop (mkF m pt ls rest))) (no : x < y → own_WP p e below s Q k n (T.setTop (mkF m pf ls rest))) : own_WP p e below s Q k n (T.setTop (mkF m pc ls (.int y :: .int x :: rest))) := by
  subst hpf
  by_cases hq : ¬ x < y
  · exact own_of (fun t q => XS.icmpYes X.here hx rfl (pc0 := pc) (pc' := pt) rfl hd rfl ((flt hq).2.1) ho hpt q) (yes hq)
  · exact own_of (fun t q => XS.icmpNo X.here hx rfl hd rfl ((tlt (Classical.not_not.mp hq)).2.1) q) (no (Classical.not_not.mp hq))
theorem own_if_ge (X : Stand p l e R s m args below meth c T locs cells slots) (hx : p.tables.exec = Jvm.exec) {x : Int32} {o : Int} {pf pt : Nat} (hd : decode c.code pc = .ok (.ifCond .ge o, 3)) (hpf : pc + 3 = pf) (ho : 0 ≤ (pc : Int) + o) (hpt : ((pc : Int) + o).toNat = pt)
    (yes : ¬ x < 0 → own_WP p e below s Q k n (T.setTop (mkF m pt ls rest))) (no : x < 0 → own_WP p e below s Q k n (T.setTop (mkF m pf ls rest))) : own_WP p e below s Q k n (T.setTop (mkF m pc ls (.int x :: rest))) := by
  subst hpf
  by_cases hq : ¬ x < 0
  · exact own_of (fun t q => XS.ifYes X.here hx rfl (pc0 := pc) (pc' := pt) rfl hd rfl ((if0 _ _).trans (flt hq).2.1) ho hpt q) (yes hq)
  · exact own_of (fun t q => XS.ifNo X.here hx rfl hd rfl ((if0 _ _).trans (tlt (Classical.not_not.mp hq)).2.1) q) (no (Classical.not_not.mp hq))
theorem own_ifl_ge (X : Stand p l e R s m args below meth c T locs cells slots) (hx : p.tables.exec = Jvm.exec) {x y : Int64} {o : Int} {pf pt : Nat} (hd : decode c.code pc = .ok (.ifCond .ge o, 3)) (hpf : pc + 3 = pf) (ho : 0 ≤ (pc : Int) + o) (hpt : ((pc : Int) + o).toNat = pt)
    (yes : ¬ x < y → own_WP p e below s Q k n (T.setTop (mkF m pt ls rest))) (no : x < y → own_WP p e below s Q k n (T.setTop (mkF m pf ls rest))) : own_WP p e below s Q k n (T.setTop (mkF m pc ls (.int (lcmpW x y) :: rest))) := by
  subst hpf
  by_cases hq : ¬ x < y
  · exact own_of (fun t q => XS.ifYes X.here hx rfl (pc0 := pc) (pc' := pt) rfl hd rfl ((if0 _ _).trans (flt (fun z => hq ((lw_lt x y).mp z))).2.1) ho hpt q) (yes hq)
  · exact own_of (fun t q => XS.ifNo X.here hx rfl hd rfl ((if0 _ _).trans (tlt ((lw_lt x y).mpr (Classical.not_not.mp hq))).2.1) q) (no (Classical.not_not.mp hq))
theorem own_icmp_gt (X : Stand p l e R s m args below meth c T locs cells slots) (hx : p.tables.exec = Jvm.exec) {x y : Int32} {o : Int} {pf pt : Nat} (hd : decode c.code pc = .ok (.if_icmp .gt o, 3)) (hpf : pc + 3 = pf) (ho : 0 ≤ (pc : Int) + o) (hpt : ((pc : Int) + o).toNat = pt)
    (yes : y < x → own_WP p e below s Q k n (T.setTop (mkF m pt ls rest))) (no : ¬ y < x → own_WP p e below s Q k n (T.setTop (mkF m pf ls rest))) : own_WP p e below s Q k n (T.setTop (mkF m pc ls (.int y :: .int x :: rest))) := by
  subst hpf
  by_cases hq : y < x
  · exact own_of (fun t q => XS.icmpYes X.here hx rfl (pc0 := pc) (pc' := pt) rfl hd rfl ((tlt hq).2.2.1) ho hpt q) (yes hq)
  · exact own_of (fun t q => XS.icmpNo X.here hx rfl hd rfl ((flt hq).2.2.1) q) (no hq)
theorem own_if_gt (X : Stand p l e R s m args below meth c T locs cells slots) (hx : p.tables.exec = Jvm.exec) {x : Int32} {o : Int} {pf pt : Nat} (hd : decode c.code pc = .ok (.ifCond .gt o, 3)) (hpf : pc + 3 = pf) (ho : 0 ≤ (pc : Int) + o) (hpt : ((pc : Int) + o).toNat = pt)
    (yes : 0 < x → own_WP p e below s Q k n (T.setTop (mkF m pt ls rest))) (no : ¬ 0 < x → own_WP p e below s Q k n (T.setTop (mkF m pf ls rest))) : own_WP p e below s Q k n (T.setTop (mkF m pc ls (.int x :: rest))) := by
  subst hpf
  by_cases hq : 0 < x
  · exact own_of (fun t q => XS.ifYes X.here hx rfl (pc0 := pc) (pc' := pt) rfl hd rfl ((if0 _ _).trans (tlt hq).2.2.1) ho hpt q) (yes hq)
  · exact own_of (fun t q => XS.ifNo X.here hx rfl hd rfl ((if0 _ _).trans (flt hq).2.2.1) q) (no hq)
theorem own_ifl_gt (X : Stand p l e R s m args below meth c T locs cells slots) (hx : p.tables.exec = Jvm.exec) {x y : Int64} {o : Int} {pf pt : Nat} (hd : decode c.code pc = .ok (.ifCond .gt o, 3)) (hpf : pc + 3 = pf) (ho : 0 ≤ (pc : Int) + o) (hpt : ((pc : Int) + o).toNat = pt)
    (yes : y < x → own_WP p e below s Q k n (T.setTop (mkF m pt ls rest))) (no : ¬ y < x → own_WP p e below s Q k n (T.setTop (mkF m pf ls rest))) : own_WP p e below s Q k n (T.setTop (mkF m pc ls (.int (lcmpW x y) :: rest))) := by
  subst hpf
  by_cases hq : y < x
  · exact own_of (fun t q => XS.ifYes X.here hx rfl (pc0 := pc) (pc' := pt) rfl hd rfl ((if0 _ _).trans (tlt ((lw_gt x y).mpr hq)).2.2.1) ho hpt q) (yes hq)
  · exact own_of (fun t q => XS.ifNo X.here hx rfl hd rfl ((if0 _ _).trans (flt (fun z => hq ((lw_gt x y).mp z))).2.2.1) q) (no hq)
theorem own_icmp_le (X : Stand p l e R s m args below meth c T locs cells slots) (hx : p.tables.exec = Jvm.exec) {x y : Int32} {o : Int} {pf pt : Nat} (hd : decode c.code pc = .ok (.if_icmp .le o, 3)) (hpf : pc + 3 = pf) (ho : 0 ≤ (pc : Int) + o) (hpt : ((pc : Int) + o).toNat = pt)
    (yes : ¬ y < x → own_WP p e below s Q k n (T.setTop (mkF m pt ls rest))) (no : y < x → own_WP p e below s Q k n (T.setTop (mkF m pf ls rest))) : own_WP p e below s Q k n (T.setTop (mkF m pc ls (.int y :: .int x :: rest))) := by
  subst hpf
  by_cases hq : ¬ y < x
  · exact own_of (fun t q => XS.icmpYes X.here hx rfl (pc0 := pc) (pc' := pt) rfl hd rfl ((flt hq).2.2.2) ho hpt q) (yes hq)
  · exact own_of (fun t q => XS.icmpNo X.here hx rfl hd rfl ((tlt (Classical.not_not.mp hq)).2.2.2) q) (no (Classical.not_not.mp hq))
theorem own_if_le (X : Stand p l e R s m args below meth c T locs cells slots) (hx : p.tables.exec = Jvm.exec) {x : Int32} {o : Int} {pf pt : Nat} (hd : decode c.code pc = .ok (.ifCond .le o, 3)) (hpf : pc + 3 = pf) (ho : 0 ≤ (pc : Int) + o) (hpt : ((pc : Int) + o).toNat = pt)
    (yes : ¬ 0 < x → own_WP p e below s Q k n (T.setTop (mkF m pt ls rest))) (no : 0 < x → own_WP p e below s Q k n (T.setTop (mkF m pf ls rest))) : own_WP p e below s Q k n (T.setTop (mkF m pc ls (.int x :: rest))) := by
  subst hpf
  by_cases hq : ¬ 0 < x
  · exact own_of (fun t q => XS.ifYes X.here hx rfl (pc0 := pc) (pc' := pt) rfl hd rfl ((if0 _ _).trans (flt hq).2.2.2) ho hpt q) (yes hq)
  · exact own_of (fun t q => XS.ifNo X.here hx rfl hd rfl ((if0 _ _).trans (tlt (Classical.not_not.mp hq)).2.2.2) q) (no (Classical.not_not.mp hq))
theorem own_ifl_le (X : Stand p l e R s m args below meth c T locs cells slots) (hx : p.tables.exec = Jvm.exec) {x y : Int64} {o : Int} {pf pt : Nat} (hd : decode c.code pc = .ok (.ifCond .le o, 3)) (hpf : pc + 3 = pf) (ho : 0 ≤ (pc : Int) + o) (hpt : ((pc : Int) + o).toNat = pt)
    (yes : ¬ y < x → own_WP p e below s Q k n (T.setTop (mkF m pt ls rest))) (no : y < x → own_WP p e below s Q k n (T.setTop (mkF m pf ls rest))) : own_WP p e below s Q k n (T.setTop (mkF m pc ls (.int (lcmpW x y) :: rest))) := by
  subst hpf
  by_cases hq : ¬ y < x
  · exact own_of (fun t q => XS.ifYes X.here hx rfl (pc0 := pc) (pc' := pt) rfl hd rfl ((if0 _ _).trans (flt (fun z => hq ((lw_gt x y).mp z))).2.2.2) ho hpt q) (yes hq)
  · exact own_of (fun t q => XS.ifNo X.here hx rfl hd rfl ((if0 _ _).trans (tlt ((lw_gt x y).mpr (Classical.not_not.mp hq))).2.2.2) q) (no (Classical.not_not.mp hq))
theorem own_icmp_eq (X : Stand p l e R s m args below meth c T locs cells slots) (hx : p.tables.exec = Jvm.exec) {x y : Int32} {o : Int} {pf pt : Nat} (hd : decode c.code pc = .ok (.if_icmp .eq o, 3)) (hpf : pc + 3 = pf) (ho : 0 ≤ (pc : Int) + o) (hpt : ((pc : Int) + o).toNat = pt)
    (yes : x = y → own_WP p e below s Q k n (T.setTop (mkF m pt ls rest))) (no : ¬ x = y → own_WP p e below s Q k n (T.setTop (mkF m pf ls rest))) : own_WP p e below s Q k n (T.setTop (mkF m pc ls (.int y :: .int x :: rest))) := by
  subst hpf
  by_cases hq : x = y
  · exact own_of (fun t q => XS.icmpYes X.here hx rfl (pc0 := pc) (pc' := pt) rfl hd rfl ((teq hq).1) ho hpt q) (yes hq)
  · exact own_of (fun t q => XS.icmpNo X.here hx rfl hd rfl ((feq hq).1) q) (no hq)
theorem own_if_eq (X : Stand p l e R s m args below meth c T locs cells slots) (hx : p.tables.exec = Jvm.exec) {x : Int32} {o : Int} {pf pt : Nat} (hd : decode c.code pc = .ok (.ifCond .eq o, 3)) (hpf : pc + 3 = pf) (ho : 0 ≤ (pc : Int) + o) (hpt : ((pc : Int) + o).toNat = pt)
    (yes : x = 0 → own_WP p e below s Q k n (T.setTop (mkF m pt ls rest))) (no : ¬ x = 0 → own_WP p e below s Q k n (T.setTop (mkF m pf ls rest))) : own_WP p e below s Q k n (T.setTop (mkF m pc ls (.int x :: rest))) := by
  subst hpf
  by_cases hq : x = 0
  · exact own_of (fun t q => XS.ifYes X.here hx rfl (pc0 := pc) (pc' := pt) rfl hd rfl ((if0 _ _).trans (teq hq).1) ho hpt q) (yes hq)
  · exact own_of (fun t q => XS.ifNo X.here hx rfl hd rfl ((if0 _ _).trans (feq hq).1) q) (no hq)
theorem own_ifl_eq (X : Stand p l e R s m args below meth c T locs cells slots) (hx : p.tables.exec = Jvm.exec) {x y : Int64} {o : Int} {pf pt : Nat} (hd : decode c.code pc = .ok (.ifCond .eq o, 3)) (hpf : pc + 3 = pf) (ho : 0 ≤ (pc : Int) + o) (hpt : ((pc : Int) + o).toNat = pt)
    (yes : x = y → own_WP p e below s Q k n (T.setTop (mkF m pt ls rest))) (no : ¬ x = y → own_WP p e below s Q k n (T.setTop (mkF m pf ls rest))) : own_WP p e below s Q k n (T.setTop (mkF m pc ls (.int (lcmpW x y) :: rest))) := by
  subst hpf
  by_cases hq : x = y
  · exact own_of (fun t q => XS.ifYes X.here hx rfl (pc0 := pc) (pc' := pt) rfl hd rfl ((if0 _ _).trans (teq ((lw_eq x y).mpr hq)).1) ho hpt q) (yes hq)
  · exact own_of (fun t q => XS.ifNo X.here hx rfl hd rfl ((if0 _ _).trans (feq (fun z => hq ((lw_eq x y).mp z))).1) q) (no hq)
theorem own_icmp_ne (X : Stand p l e R s m args below meth c T locs cells slots) (hx : p.tables.exec = Jvm.exec) {x y : Int32} {o : Int} {pf pt : Nat} (hd : decode c.code pc = .ok (.if_icmp .ne o, 3)) (hpf : pc + 3 = pf) (ho : 0 ≤ (pc : Int) + o) (hpt : ((pc : Int) + o).toNat = pt)
    (yes : ¬ x = y → own_WP p e below s Q k n (T.setTop (mkF m pt ls rest))) (no : x = y → own_WP p e below s Q k n (T.setTop (mkF m pf ls rest))) : own_WP p e below s Q k n (T.setTop (mkF m pc ls (.int y :: .int x :: rest))) := by
  subst hpf
  by_cases hq : ¬ x = y
  · exact own_of (fun t q => XS.icmpYes X.here hx rfl (pc0 := pc) (pc' := pt) rfl hd rfl ((feq hq).2) ho hpt q) (yes hq)
  · exact own_of (fun t q => XS.icmpNo X.here hx rfl hd rfl ((teq (Classical.not_not.mp hq)).2) q) (no (Classical.not_not.mp hq))
theorem own_if_ne (X : Stand p l e R s m args below meth c T locs cells slots) (hx : p.tables.exec = Jvm.exec) {x : Int32} {o : Int} {pf pt : Nat} (hd : decode c.code pc = .ok (.ifCond .ne o, 3)) (hpf : pc + 3 = pf) (ho : 0 ≤ (pc : Int) + o) (hpt : ((pc : Int) + o).toNat = pt)
    (yes : ¬ x = 0 → own_WP p e below s Q k n (T.setTop (mkF m pt ls rest))) (no : x = 0 → own_WP p e below s Q k n (T.setTop (mkF m pf ls rest))) : own_WP p e below s Q k n (T.setTop (mkF m pc ls (.int x :: rest))) := by
  subst hpf
  by_cases hq : ¬ x = 0
  · exact own_of (fun t q => XS.ifYes X.here hx rfl (pc0 := pc) (pc' := pt) rfl hd rfl ((if0 _ _).trans (feq hq).2) ho hpt q) (yes hq)
  · exact own_of (fun t q => XS.ifNo X.here hx rfl hd rfl ((if0 _ _).trans (teq (Classical.not_not.mp hq)).2) q) (no (Classical.not_not.mp hq))
theorem own_ifl_ne (X : Stand p l e R s m args below meth c T locs cells slots) (hx : p.tables.exec = Jvm.exec) {x y : Int64} {o : Int} {pf pt : Nat} (hd : decode c.code pc = .ok (.ifCond .ne o, 3)) (hpf : pc + 3 = pf) (ho : 0 ≤ (pc : Int) + o) (hpt : ((pc : Int) + o).toNat = pt)
    (yes : ¬ x = y → own_WP p e below s Q k n (T.setTop (mkF m pt ls rest))) (no : x = y → own_WP p e below s Q k n (T.setTop (mkF m pf ls rest))) : own_WP p e below s Q k n (T.setTop (mkF m pc ls (.int (lcmpW x y) :: rest))) := by
  subst hpf
  by_cases hq : ¬ x = y
  · exact own_of (fun t q => XS.ifYes X.here hx rfl (pc0 := pc) (pc' := pt) rfl hd rfl ((if0 _ _).trans (feq (fun z => hq ((lw_eq x y).mp z))).2) ho hpt q) (yes hq)
  · exact own_of (fun t q => XS.ifNo X.here hx rfl hd rfl ((if0 _ _).trans (teq ((lw_eq x y).mpr (Classical.not_not.mp hq))).2) q) (no (Classical.not_not.mp hq))
theorem own_getF (X : Stand p l e R s m args below meth c T locs cells slots) (hx : p.tables.exec = Jvm.exec) (hZ : Z.Warmed39 s.vm) {own R0 O nm d host : String} {idx : Nat} (hown : s.vm.findClass own = some m.cls) (w1 : (Jvm.Cond.fieldLink own idx R0 nm d).before a0 Z = true ∨ (Jvm.Cond.fieldLinkNest own idx R0 nm d host).before a0 Z = true) (via : Via Z R0 O nm d) (eT : T.heap = h) {b : Addr} {v : Value} (F : Fld Z h b O nm d v) (hd : decode c.code pc = .ok (.getfield idx, 3)) (hpc : pc + 3 = pc')
    (w : ∀ T', Stand p l e R s m args below meth c T' locs cells slots → T'.heap = h → own_WP p e below s Q k n (T'.setTop (mkF m pc' ls (v :: rest)))) : own_WP p e below s Q k n (T.setTop (mkF m pc ls (.ref b :: rest))) := by
  subst hpc
  obtain ⟨T', X', e', st⟩ := getF X hx hZ hown w1 via eT F (g := mkF m pc ls (.ref b :: rest)) rfl rfl hd
  exact own_of st (w T' X' e')
theorem own_putF (X : Stand p l e R s m args below meth c T locs cells slots) (hx : p.tables.exec = Jvm.exec) (hZ : Z.Warmed39 s.vm) {own R0 O nm d host C : String} {idx kk : Nat} {ty : FieldType} (hown : s.vm.findClass own = some m.cls) (w1 : (Jvm.Cond.fieldLink own idx R0 nm d).before a0 Z = true ∨ (Jvm.Cond.fieldLinkNest own idx R0 nm d host).before a0 Z = true) (via : Via Z R0 O nm d) (eT : T.heap = h) {b : Addr} {v old : Value} (F : Fld Z h b O nm d old) (E : Exa Z h b C) (L : (Jvm.Cond.lays C O nm d).before a0 Z = true ∨ ((Jvm.Cond.laysFinal C O nm d).before a0 Z = true ∧ own = O ∧ meth.name = "<init>")) (wi : (Jvm.Cond.instantiable C kk).before a0 Z = true) (hty : parseFieldDescriptor d = some ty) (hn : narrow ty v = v) (hf : fits ty v = true) (hd : decode c.code pc = .ok (.putfield idx, 3)) (hpc : pc + 3 = pc')
    (w : ∀ T' h', Stand p l e R s m args below meth c T' (locs ++ [⟨b, Jvm.RoadKit.slotOf Z O nm d⟩]) cells slots → T'.heap = h' → Wr h h' b (Jvm.RoadKit.slotOf Z O nm d) v → own_WP p e below s Q k n (T'.setTop (mkF m pc' ls rest))) : own_WP p e below s Q k n (T.setTop (mkF m pc ls (v :: .ref b :: rest))) := by
  subst hpc
  obtain ⟨T', h', X', e', W', st⟩ := putF X hx hZ hown w1 via eT F E L wi hty hn hf (g := mkF m pc ls (v :: .ref b :: rest)) rfl rfl hd
  exact own_of st (w T' h' X' e' W')
theorem own_new (X : Stand p l e R s m args below meth c T locs cells slots) (hx : p.tables.exec = Jvm.exec) (hZ : Z.Warmed39 s.vm) {own C : String} {idx nn : Nat} (hown : s.vm.findClass own = some m.cls) (w1 : (Jvm.Cond.classLink own idx C).before a0 Z = true) (wi : (Jvm.Cond.instantiable C nn).before a0 Z = true) (wz : (Jvm.Cond.initialized C).before a0 Z = true) (eT : T.heap = h) (hd : decode c.code pc = .ok (.new idx, 3)) (hc : cells + 1 ≤ R.cells) (hl : slots + nn ≤ R.slots) (hpc : pc + 3 = pc')
    (w : ∀ T' h' b, b = h.size → Stand p l e R s m args below meth c T' locs (cells + 1) (slots + nn) → T'.heap = h' → Ext h h' → Exa Z h' b C → (∀ {O nm d : String} {ty : FieldType}, Laid Z a0 C O nm d → parseFieldDescriptor d = some ty → Fld Z h' b O nm d (defaultValue ty)) → own_WP p e below s Q k n (T'.setTop (mkF m pc' ls (.ref b :: rest)))) : own_WP p e below s Q k n (T.setTop (mkF m pc ls rest)) := by
  subst hpc
  obtain ⟨T', h', X', e', E', A', D', -, st⟩ := newO X hx hZ hown w1 wi wz eT (g := mkF m pc ls rest) rfl hd hc hl
  exact own_of st (w T' h' _ rfl X' e' E' A' D')
theorem own_newP (X : Stand p l e R s m args below meth c T locs cells slots) (hx : p.tables.exec = Jvm.exec) (hZ : Z.Warmed39 s.vm) {aty : ArrayType} (w1 : (Jvm.Cond.arrayClass (newarray.typeOf aty)).before a0 Z = true) (eT : T.heap = h) (hd : decode c.code pc = .ok (.newarray aty, 2)) {z : Int32} (hz : ¬ z < 0) {cap : Nat} (hcap : z.toNatClampNeg ≤ cap) (hb : cap * 8 ≤ 536870912) (hc : cells + 1 ≤ R.cells) (hl : slots + cap ≤ R.slots) (hpc : pc + 2 = pc')
    (w : ∀ T' h' cA b, b = h.size → Stand p l e R s m args below meth c T' locs (cells + 1) (slots + cap) → T'.heap = h' → Ext h h' → Arr Z h' b (newA cA (newarray.typeOf aty) z) (newarray.typeOf aty) → own_WP p e below s Q k n (T'.setTop (mkF m pc' ls (.ref b :: rest)))) : own_WP p e below s Q k n (T.setTop (mkF m pc ls (.int z :: rest))) := by
  subst hpc
  obtain ⟨T', h', cA, X', e', E', A', st⟩ := newP X hx hZ w1 eT (g := mkF m pc ls (.int z :: rest)) rfl hd rfl hz hcap hb hc hl
  exact own_of st (w T' h' cA _ rfl X' e' E' A')
theorem own_initO (X : Stand p l e R s m args below meth c T locs cells slots) (hx : p.tables.exec = Jvm.exec) (hZ : Z.Warmed39 s.vm) {own : String} {idx : Nat} (hown : s.vm.findClass own = some m.cls) (w1 : (Jvm.Cond.methodLink own idx Lib.objectInit).before a0 Z = true) (w2 : (Jvm.Cond.instanceMethod Lib.objectInit).before a0 Z = true) (w3 : (Jvm.Cond.code Lib.objectInit ⟨#[0xb1]⟩ 1 none).before a0 Z = true) (eT : T.heap = h) (hsz : ls.size = c.maxLocals) {b : Addr} (hd : decode c.code pc = .ok (.invokespecial idx, 3)) (hf : 1 ≤ R.frames) {W : Nat} (hW : (rest.map fun v => v.category).sum ≤ W) (hl : W + 12 ≤ R.locals) (hpc : pc + 3 = pc')
    (w : ∀ T', Stand p l e R s m args below meth c T' locs cells slots → T'.heap = h → own_WP p e below s Q k n (T'.setTop (mkF m pc' ls rest))) : own_WP p e below s Q k n (T.setTop (mkF m pc ls (.ref b :: rest))) := by
  subst hpc
  obtain ⟨T', X', e', st⟩ := initO X hx hZ hown w1 w2 w3 eT (g := mkF m pc ls (.ref b :: rest)) rfl hsz rfl hd hf (W := W) (by show 2 * 0 + _ ≤ _; omega) hl
  exact own_of st (w T' X' e')
theorem own_callS (X : Stand p l e R s m args below meth c T locs cells slots) (hx : p.tables.exec = Jvm.exec) (hZ : Z.Warmed39 s.vm) {own : String} {idx : Nat} {y : MethodName} {bytes : ByteArray} {maxL : Nat} {ret : Option FieldType} {rm : Room} {as' : Array Value} {Q' : Option Value → Heap → List Loc → Prop} (hown : s.vm.findClass own = some m.cls) (w1 : (Jvm.Cond.methodLink own idx y).before a0 Z = true) (w2 : (Jvm.Cond.static y).before a0 Z = true) (w3 : (Jvm.Cond.initialized y.cls).before a0 Z = true) (w4 : (Jvm.Cond.code y bytes maxL ret).before a0 Z = true) (hy : y.cls ≠ "java/lang/invoke/MethodHandle" ∧ y.cls ≠ "java/lang/invoke/VarHandle")
    (C : own_Con l Z y bytes maxL ret rm as' h Q') (eT : T.heap = h) {ps : List FieldType} {rt : Option FieldType} (hpd : parseMethodDescriptor y.desc = some ⟨ps, rt⟩) (argsL rest : List Value) (ha : argsL.toArray = as') (hal : argsL.length = ps.length) {st : List Value} (hst : st = argsL.reverse ++ rest) {W : Nat} (hW : (rest.map fun v => v.category).sum ≤ W) (hf : rm.frames + 1 ≤ R.frames) (hl : W + (maxL + 11) + rm.locals ≤ R.locals) (hsz : ls.size = c.maxLocals) (hd : decode c.code pc = .ok (.invokestatic idx, 3)) (hc : cells + rm.cells ≤ R.cells) (hs : slots + rm.slots ≤ R.slots) (hpc : pc + 3 = pc')
    (w : ∀ v T' L, Stand p l e R s m args below meth c T' (locs ++ L) (cells + rm.cells) (slots + rm.slots) → Q' v T'.heap L → own_WP p e below s Q k n (T'.setTop (mkF m pc' ls (v.toList ++ rest)))) : own_WP p e below s Q k n (T.setTop (mkF m pc ls st)) := by
  subst hpc hst ha
  obtain ⟨v, vm1, ⟨T', L', k', n'⟩, -, X', ⟨Lc, hQ, l1, y1, z1⟩, stp⟩ := Jvm.LawKit.callS X hx (y := y) hown (mvT hZ w1) (mvT hZ w2) (mvT hZ w3) (mvT hZ w4) hy (backOf (W := W) (C []) hZ w4 w3 hf hl) (g := mkF m pc ls (argsL.reverse ++ rest)) rfl hsz (argsL := argsL) (rest := rest) (lenOf hpd hal) rfl (by show 2 * 0 + _ ≤ _; omega) hd (fun _ _ => ⟨rfl, eT, hc, hs⟩)
  dsimp only [Pt.U, Pt.locs, Pt.cells, Pt.slots] at X' l1 y1 z1 stp hQ
  subst l1 y1 z1
  exact own_of stp (w _ _ _ X' hQ)
theorem own_callN (X : Stand p l e R s m args below meth c T locs cells slots) (hx : p.tables.exec = Jvm.exec) (hZ : Z.Warmed39 s.vm) {own : String} {idx : Nat} {y : MethodName} {bytes : ByteArray} {maxL : Nat} {rm : Room} {as' : Array Value} {Q' : Option Value → Heap → List Loc → Prop} (hy1 : y.name = "<init>") (hown : s.vm.findClass own = some m.cls) (w1 : (Jvm.Cond.methodLink own idx y).before a0 Z = true) (w2 : (Jvm.Cond.instanceMethod y).before a0 Z = true) (w3 : (Jvm.Cond.initialized y.cls).before a0 Z = true) (w4 : (Jvm.Cond.code y bytes maxL none).before a0 Z = true) (hy : y.cls ≠ "java/lang/invoke/MethodHandle" ∧ y.cls ≠ "java/lang/invoke/VarHandle")
    (C : own_Con l Z y bytes maxL none rm as' h Q') (eT : T.heap = h) {ps : List FieldType} {rt : Option FieldType} (hpd : parseMethodDescriptor y.desc = some ⟨ps, rt⟩) (b : Addr) (argsL rest : List Value) (ha : (.ref b :: argsL).toArray = as') (hal : argsL.length = ps.length) {st : List Value} (hst : st = argsL.reverse ++ .ref b :: rest) {W : Nat} (hW : (rest.map fun v => v.category).sum ≤ W) (hf : rm.frames + 1 ≤ R.frames) (hl : W + (maxL + 11) + rm.locals ≤ R.locals) (hsz : ls.size = c.maxLocals) (hd : decode c.code pc = .ok (.invokespecial idx, 3)) (hc : cells + rm.cells ≤ R.cells) (hs : slots + rm.slots ≤ R.slots) (hpc : pc + 3 = pc')
    (w : ∀ v T' L, Stand p l e R s m args below meth c T' (locs ++ L) (cells + rm.cells) (slots + rm.slots) → Q' v T'.heap L → own_WP p e below s Q k n (T'.setTop (mkF m pc' ls (v.toList ++ rest)))) : own_WP p e below s Q k n (T.setTop (mkF m pc ls st)) := by
  subst hpc hst ha
  obtain ⟨v, vm1, ⟨T', L', k', n'⟩, -, X', ⟨Lc, hQ, l1, y1, z1⟩, stp⟩ := X.specialBack hx (y := y) hy1 hown (mvT hZ w1) (mvT hZ w2) (mvT hZ w4) hy (backOf (W := W) (C []) hZ w4 w3 hf hl) (g := mkF m pc ls (argsL.reverse ++ .ref b :: rest)) rfl hsz (Steps.refl _) (a := b) (argsL := argsL) (rest := rest) (lenOf hpd hal) rfl (by show 2 * 0 + _ ≤ _; omega) hd (fun _ _ => ⟨rfl, eT, hc, hs⟩)
  dsimp only [Pt.U, Pt.locs, Pt.cells, Pt.slots] at X' l1 y1 z1 stp hQ
  subst l1 y1 z1
  exact own_of (fun t q => stp.trans q) (w _ _ _ X' hQ)
theorem own_callV (X : Stand p l e R s m args below meth c T locs cells slots) (hx : p.tables.exec = Jvm.exec) (hZ : Z.Warmed39 s.vm) {own D : String} {idx : Nat} {y z : MethodName} {bytes : ByteArray} {maxL : Nat} {ret : Option FieldType} {rm : Room} {as' : Array Value} {Q' : Option Value → Heap → List Loc → Prop} (hown : s.vm.findClass own = some m.cls) (w1 : (Jvm.Cond.methodLink own idx y).before a0 Z = true) (wd : (Jvm.Cond.declares y).before a0 Z = true) (hnf : NotFace s y) (ws : (Jvm.Cond.selects D y z).before a0 Z = true) (w2 : (Jvm.Cond.instanceMethod z).before a0 Z = true) (w3 : (Jvm.Cond.initialized z.cls).before a0 Z = true) (w4 : (Jvm.Cond.code z bytes maxL ret).before a0 Z = true) (hy : y.cls ≠ "java/lang/invoke/MethodHandle" ∧ y.cls ≠ "java/lang/invoke/VarHandle") {b : Addr} (E : Exa Z h b D)
    (C : own_Con l Z z bytes maxL ret rm as' h Q') (eT : T.heap = h) {ps : List FieldType} {rt : Option FieldType} (hpd : parseMethodDescriptor y.desc = some ⟨ps, rt⟩) (argsL rest : List Value) (ha : (.ref b :: argsL).toArray = as') (hal : argsL.length = ps.length) {st : List Value} (hst : st = argsL.reverse ++ .ref b :: rest) {W : Nat} (hW : (rest.map fun v => v.category).sum ≤ W) (hf : rm.frames + 1 ≤ R.frames) (hl : W + (maxL + 11) + rm.locals ≤ R.locals) (hsz : ls.size = c.maxLocals) (hd : decode c.code pc = .ok (.invokevirtual idx, 3)) (hc : cells + rm.cells ≤ R.cells) (hs : slots + rm.slots ≤ R.slots) (hpc : pc + 3 = pc')
    (w : ∀ v T' L, Stand p l e R s m args below meth c T' (locs ++ L) (cells + rm.cells) (slots + rm.slots) → Q' v T'.heap L → own_WP p e below s Q k n (T'.setTop (mkF m pc' ls (v.toList ++ rest)))) : own_WP p e below s Q k n (T.setTop (mkF m pc ls st)) := by
  subst hpc hst ha
  obtain ⟨cq, kq, qa, qb, qc⟩ := isOf (T := T) hZ eT E
  obtain ⟨v, vm1, ⟨T', L', k', n'⟩, -, X', ⟨Lc, hQ, l1, y1, z1⟩, stp⟩ := X.virtualBack hx (y := y) (z := z) hown (mvT hZ w1) (mvT hZ wd) hnf (mvT hZ ws) (mvT hZ w2) hy (backOf (W := W) (C []) hZ w4 w3 hf hl) qa qc (g := mkF m pc ls (argsL.reverse ++ .ref b :: rest)) rfl hsz (Steps.refl _) (argsL := argsL) (rest := rest) (lenOf hpd hal) rfl (by show 2 * 0 + _ ≤ _; omega) hd (fun _ _ => ⟨rfl, eT, hc, hs⟩)
  dsimp only [Pt.U, Pt.locs, Pt.cells, Pt.slots] at X' l1 y1 z1 stp hQ
  subst l1 y1 z1
  exact own_of (fun t q => stp.trans q) (w _ _ _ X' hQ)

theorem own_laload (X : Stand p l e R s m args below meth c T locs cells slots) (hx : p.tables.exec = Jvm.exec) (hZ : Z.Warmed39 s.vm) (eT : T.heap = h) {b : Addr} {kk : ClassId} {z j : Int32} {vs : List Value} {dv v : Value} (F : Arv Z h b kk .long z vs dv) (hj : ¬ j < 0 ∧ j < z) (hv : vs.getD j.toNatClampNeg dv = v) (hd : decode c.code pc = .ok (.laload, 1)) (hpc : pc + 1 = pc') (w : own_WP p e below s Q k n (T.setTop (mkF m pc' ls (v :: rest)))) : own_WP p e below s Q k n (T.setTop (mkF m pc ls (.int j :: .ref b :: rest))) := by
  subst hpc
  obtain ⟨cl, A, q1, S, q3, H, G⟩ := F
  exact own_of (fun t q => X.laload hx (j := j) (v := v) (by rw [eT]; exact A.1) (State.isArrayOf_alike hZ.alike A.2.1) A.2.2 (inb_of S hj) (H.at (inb_of S hj) hv) (g := mkF m pc ls (.int j :: .ref b :: rest)) rfl rfl hd _ q) w
theorem own_baload (X : Stand p l e R s m args below meth c T locs cells slots) (hx : p.tables.exec = Jvm.exec) (hZ : Z.Warmed39 s.vm) (eT : T.heap = h) {b : Addr} {kk : ClassId} {z j : Int32} {vs : List Value} {dv v : Value} (F : Arv Z h b kk .byte z vs dv) (hj : ¬ j < 0 ∧ j < z) (hv : vs.getD j.toNatClampNeg dv = v) (hd : decode c.code pc = .ok (.baload, 1)) (hpc : pc + 1 = pc') (w : own_WP p e below s Q k n (T.setTop (mkF m pc' ls (v :: rest)))) : own_WP p e below s Q k n (T.setTop (mkF m pc ls (.int j :: .ref b :: rest))) := by
  subst hpc
  obtain ⟨cl, A, q1, S, q3, H, G⟩ := F
  exact own_of (fun t q => X.baloadBytes hx (j := j) (v := v) (by rw [eT]; exact A.1) (State.isArrayOf_alike hZ.alike A.2.1) A.2.2 (inb_of S hj) (H.at (inb_of S hj) hv) (g := mkF m pc ls (.int j :: .ref b :: rest)) rfl rfl hd _ q) w
theorem own_iaload (X : Stand p l e R s m args below meth c T locs cells slots) (hx : p.tables.exec = Jvm.exec) (hZ : Z.Warmed39 s.vm) (eT : T.heap = h) {b : Addr} {kk : ClassId} {z j : Int32} {vs : List Value} {dv v : Value} (F : Arv Z h b kk .int z vs dv) (hj : ¬ j < 0 ∧ j < z) (hv : vs.getD j.toNatClampNeg dv = v) (hd : decode c.code pc = .ok (.iaload, 1)) (hpc : pc + 1 = pc') (w : own_WP p e below s Q k n (T.setTop (mkF m pc' ls (v :: rest)))) : own_WP p e below s Q k n (T.setTop (mkF m pc ls (.int j :: .ref b :: rest))) := by
  subst hpc
  obtain ⟨cl, A, q1, S, q3, H, G⟩ := F
  exact own_of (fun t q => X.iaload hx (j := j) (v := v) (by rw [eT]; exact A.1) (State.isArrayOf_alike hZ.alike A.2.1) A.2.2 (inb_of S hj) (H.at (inb_of S hj) hv) (g := mkF m pc ls (.int j :: .ref b :: rest)) rfl rfl hd _ q) w
theorem own_caload (X : Stand p l e R s m args below meth c T locs cells slots) (hx : p.tables.exec = Jvm.exec) (hZ : Z.Warmed39 s.vm) (eT : T.heap = h) {b : Addr} {kk : ClassId} {z j : Int32} {vs : List Value} {dv v : Value} (F : Arv Z h b kk .char z vs dv) (hj : ¬ j < 0 ∧ j < z) (hv : vs.getD j.toNatClampNeg dv = v) (hd : decode c.code pc = .ok (.caload, 1)) (hpc : pc + 1 = pc') (w : own_WP p e below s Q k n (T.setTop (mkF m pc' ls (v :: rest)))) : own_WP p e below s Q k n (T.setTop (mkF m pc ls (.int j :: .ref b :: rest))) := by
  subst hpc
  obtain ⟨cl, A, q1, S, q3, H, G⟩ := F
  exact own_of (fun t q => X.caload hx (j := j) (v := v) (by rw [eT]; exact A.1) (State.isArrayOf_alike hZ.alike A.2.1) A.2.2 (inb_of S hj) (H.at (inb_of S hj) hv) (g := mkF m pc ls (.int j :: .ref b :: rest)) rfl rfl hd _ q) w
theorem own_lastore (X : Stand p l e R s m args below meth c T locs cells slots) (hx : p.tables.exec = Jvm.exec) (hZ : Z.Warmed39 s.vm) (eT : T.heap = h) {b : Addr} {kk : ClassId} {z j : Int32} {vs : List Value} {dv : Value} {x : Int64} (F : Arv Z h b kk .long z vs dv) (hj : ¬ j < 0 ∧ j < z) (i : Nat) (hi : j.toNatClampNeg = i) (hlen : i < vs.length) (hd : decode c.code pc = .ok (.lastore, 1)) (hpc : pc + 1 = pc') (w : ∀ T' h', Stand p l e R s m args below meth c T' (locs ++ [⟨b, j.toNatClampNeg⟩]) cells slots → T'.heap = h' → Wr h h' b j.toNatClampNeg (.long x) → Arv Z h' b kk .long z (vs.set i (.long x)) dv → own_WP p e below s Q k n (T'.setTop (mkF m pc' ls rest))) : own_WP p e below s Q k n (T.setTop (mkF m pc ls (.long x :: .int j :: .ref b :: rest))) := by
  subst hpc
  obtain ⟨cl, A, q1, S, q3, H, G⟩ := F
  obtain ⟨T', h', X', e', W', st⟩ := stJ X hx hZ eT A (j := j) (inb_of S hj) (g := mkF m pc ls (.long x :: .int j :: .ref b :: rest)) rfl rfl hd
  exact own_of st (w T' h' X' e' W' (Arv.set A q1 S q3 H G rfl W' i hi hlen))
theorem own_bastore (X : Stand p l e R s m args below meth c T locs cells slots) (hx : p.tables.exec = Jvm.exec) (hZ : Z.Warmed39 s.vm) (eT : T.heap = h) {b : Addr} {kk : ClassId} {z j : Int32} {vs : List Value} {dv : Value} {x : Int32} (F : Arv Z h b kk .byte z vs dv) (hj : ¬ j < 0 ∧ j < z) (i : Nat) (hi : j.toNatClampNeg = i) (hlen : i < vs.length) (hd : decode c.code pc = .ok (.bastore, 1)) (hpc : pc + 1 = pc') (w : ∀ T' h', Stand p l e R s m args below meth c T' (locs ++ [⟨b, j.toNatClampNeg⟩]) cells slots → T'.heap = h' → Wr h h' b j.toNatClampNeg (.int (nar .byte x)) → Arv Z h' b kk .byte z (vs.set i (.int (nar .byte x))) dv → own_WP p e below s Q k n (T'.setTop (mkF m pc' ls rest))) : own_WP p e below s Q k n (T.setTop (mkF m pc ls (.int x :: .int j :: .ref b :: rest))) := by
  subst hpc
  obtain ⟨cl, A, q1, S, q3, H, G⟩ := F
  obtain ⟨T', h', X', e', W', st⟩ := stB X hx hZ eT A (j := j) (inb_of S hj) (g := mkF m pc ls (.int x :: .int j :: .ref b :: rest)) rfl rfl hd
  exact own_of st (w T' h' X' e' W' (Arv.set A q1 S q3 H G (fits_nar_byte x) W' i hi hlen))
theorem own_iastore (X : Stand p l e R s m args below meth c T locs cells slots) (hx : p.tables.exec = Jvm.exec) (hZ : Z.Warmed39 s.vm) (eT : T.heap = h) {b : Addr} {kk : ClassId} {z j : Int32} {vs : List Value} {dv : Value} {x : Int32} (F : Arv Z h b kk .int z vs dv) (hj : ¬ j < 0 ∧ j < z) (i : Nat) (hi : j.toNatClampNeg = i) (hlen : i < vs.length) (hd : decode c.code pc = .ok (.iastore, 1)) (hpc : pc + 1 = pc') (w : ∀ T' h', Stand p l e R s m args below meth c T' (locs ++ [⟨b, j.toNatClampNeg⟩]) cells slots → T'.heap = h' → Wr h h' b j.toNatClampNeg (.int x) → Arv Z h' b kk .int z (vs.set i (.int x)) dv → own_WP p e below s Q k n (T'.setTop (mkF m pc' ls rest))) : own_WP p e below s Q k n (T.setTop (mkF m pc ls (.int x :: .int j :: .ref b :: rest))) := by
  subst hpc
  obtain ⟨cl, A, q1, S, q3, H, G⟩ := F
  obtain ⟨T', h', X', e', W', st⟩ := stI X hx hZ eT A (j := j) (inb_of S hj) (g := mkF m pc ls (.int x :: .int j :: .ref b :: rest)) rfl rfl hd
  exact own_of st (w T' h' X' e' W' (Arv.set A q1 S q3 H G rfl W' i hi hlen))
theorem own_arrlen (X : Stand p l e R s m args below meth c T locs cells slots) (hx : p.tables.exec = Jvm.exec) (hZ : Z.Warmed39 s.vm) (eT : T.heap = h) {b : Addr} {kk : ClassId} {z : Int32} {vs : List Value} {dv : Value} {ty : FieldType} (F : Arv Z h b kk ty z vs dv) (hd : decode c.code pc = .ok (.arraylength, 1)) (hpc : pc + 1 = pc') (w : own_WP p e below s Q k n (T.setTop (mkF m pc' ls (.int z :: rest)))) : own_WP p e below s Q k n (T.setTop (mkF m pc ls (.ref b :: rest))) := by
  subst hpc
  obtain ⟨cl, A, q1, S, q3, H, G⟩ := F
  refine own_of (fun t q => X.arraylength hx (by rw [eT]; exact A.1) (State.isArrayOf_alike hZ.alike A.2.1) (g := mkF m pc ls (.ref b :: rest)) rfl rfl hd _ ?_) w
  rw [len_of S q3]
  exact q
end OwnWP

theorem own_isb (y : Int32) : nar .byte (nar .byte y) = nar .byte y := by
  show (y.toInt8.toInt32).toInt8.toInt32 = y.toInt8.toInt32
  simp
abbrev own_hit (b i f t : Int32) : Prop := ¬ i < f ∧ i < t ∧ b = 10
def own_hz (b i f t : Int32) : Int32 := if own_hit b i f t then 1 else 0
def own_sel (r k prev : Int32) : Int32 := if r = 0 then prev else k
def own_le (b0 b1 b2 b3 b4 f t : Int32) : Int32 := if own_hit b0 0 f t then 0 else if own_hit b1 1 f t then 1 else if own_hit b2 2 f t then 2 else if own_hit b3 3 f t then 3 else if own_hit b4 4 f t then 4 else -1
theorem own_selhz (b i f t k prev : Int32) : own_sel (own_hz b i f t) k prev = if own_hit b i f t then k else prev := by
  unfold own_sel own_hz
  by_cases h : own_hit b i f t
  · simp [h]
  · simp [h]
theorem own_fin (b0 b1 b2 b3 b4 f t : Int32) : own_le b0 b1 b2 b3 b4 f t = own_sel (own_hz b0 0 f t) 0 (own_sel (own_hz b1 1 f t) 1 (own_sel (own_hz b2 2 f t) 2 (own_sel (own_hz b3 3 f t) 3 (own_sel (own_hz b4 4 f t) 4 (-1))))) := by
  simp only [own_selhz, own_le]
theorem own_six (x v : Int32) (h : v = (x &&& (2147483647 : Int32)) % 6) : v = 0 ∨ v = 1 ∨ v = 2 ∨ v = 3 ∨ v = 4 ∨ v = 5 := by
  have a := c_and x 2147483647 (by decide)
  have b := (c_irem (x &&& 2147483647) 6 6 (by decide)).1 a.1
  rw [← h] at b
  have e : v.toInt = 0 ∨ v.toInt = 1 ∨ v.toInt = 2 ∨ v.toInt = 3 ∨ v.toInt = 4 ∨ v.toInt = 5 := by omega
  rcases e with e | e | e | e | e | e
  · exact Or.inl (Int32.toInt_inj.mp e)
  · exact Or.inr (Or.inl (Int32.toInt_inj.mp e))
  · exact Or.inr (Or.inr (Or.inl (Int32.toInt_inj.mp e)))
  · exact Or.inr (Or.inr (Or.inr (Or.inl (Int32.toInt_inj.mp e))))
  · exact Or.inr (Or.inr (Or.inr (Or.inr (Or.inl (Int32.toInt_inj.mp e)))))
  · exact Or.inr (Or.inr (Or.inr (Or.inr (Or.inr (Int32.toInt_inj.mp e)))))

theorem d1_0 : decode method_3_code 0 = .ok (.iload_n 2, 1) := by decide +kernel
theorem d1_1 : decode method_3_code 1 = .ok (.iload_n 3, 1) := by decide +kernel
theorem d1_2 : decode method_3_code 2 = .ok (.iushr, 1) := by decide +kernel
theorem d1_3 : decode method_3_code 3 = .ok (.iconst 1, 1) := by decide +kernel
theorem d1_4 : decode method_3_code 4 = .ok (.iand, 1) := by decide +kernel
theorem d1_5 : decode method_3_code 5 = .ok (.ifCond .eq 6, 3) := by decide +kernel
theorem d1_8 : decode method_3_code 8 = .ok (.bipush 10, 2) := by decide +kernel
theorem d1_10 : decode method_3_code 10 = .ok (.ireturn, 1) := by decide +kernel
theorem d1_11 : decode method_3_code 11 = .ok (.lload_n 0, 1) := by decide +kernel
theorem d1_12 : decode method_3_code 12 = .ok (.bipush 8, 2) := by decide +kernel
theorem d1_14 : decode method_3_code 14 = .ok (.iload_n 3, 1) := by decide +kernel
theorem d1_15 : decode method_3_code 15 = .ok (.imul, 1) := by decide +kernel
theorem d1_16 : decode method_3_code 16 = .ok (.lushr, 1) := by decide +kernel
theorem d1_17 : decode method_3_code 17 = .ok (.l2i, 1) := by decide +kernel
theorem d1_18 : decode method_3_code 18 = .ok (.i2b, 1) := by decide +kernel
theorem d1_19 : decode method_3_code 19 = .ok (.ireturn, 1) := by decide +kernel
theorem pn_1 : plainFor (⟨"com/example/steerage/steerage/agent/HttpHeadLineEndPinLaw", "pick", "(JII)B"⟩ : MethodName) = true := plainFor_of_name (by first | (simp [plainName, overriddenIn]; done) | decide +kernel)
theorem ef_conP (m : MethodId) (c1 : Int64) (c2 : Int32) (c3 : Int32) : entryFrame m #[(.long c1), (.int c2), (.int c3)] 4 = mkF m 0 #[.val (.long c1), .second, .val (.int c2), .val (.int c3)] [] := by first | (simp [entryFrame, mkF, argsToLocals, Value.category]; done) | rfl
set_option maxRecDepth 65536 in
set_option maxHeartbeats 4000000 in
theorem conP (l : Launch) (Z : State) (a0 : Array Value) (hw : ∀ d ∈ tables_1, d.before a0 Z = true) (c1 : Int64) (c2 : Int32) (c3 : Int32) (h0 : Heap) :
    own_Con l Z (⟨"com/example/steerage/steerage/agent/HttpHeadLineEndPinLaw", "pick", "(JII)B"⟩ : MethodName) method_3_code 4 (some .byte) ({ frames := 0, cells := 0, slots := 0, locals := 0 } : Room) #[(.long c1), (.int c2), (.int c3)] h0 (fun v h L => ∃ z : Int32, v = some (.int z) ∧ nar .byte z = z ∧ L = [] ∧ h = h0) := by
  refine own_Con_of pn_1 ?_
  intro p e s m below meth c s₁ X0 hx hby hml hret hlk hnm hown hZ e0
  have hown : s.vm.findClass "com/example/steerage/steerage/agent/HttpHeadLineEndPinLaw" = some m.cls := hown
  have hml : c.maxLocals = 4 := hml
  show own_WP _ _ _ _ _ _ _ (s₁.setTop (entryFrame m #[(.long c1), (.int c2), (.int c3)] 4))
  rw [ef_conP m c1 c2 c3]
  refine own_iloadN (pc' := 1) X0 hx (hb hby d1_0) rfl rfl ?_
  refine own_iloadN (pc' := 2) X0 hx (hb hby d1_1) rfl rfl ?_
  refine own_iushr (pc' := 3) X0 hx (hb hby d1_2) rfl ?_
  refine own_iconst (pc' := 4) X0 hx (1 : Int32) (hb hby d1_3) rfl rfl ?_
  refine own_iand (pc' := 5) X0 hx (hb hby d1_4) rfl ?_
  refine own_if_eq (pt := 11) (pf := 8) X0 hx (hb hby d1_5) rfl (by decide) rfl (fun hc5 => ?_) (fun hc5 => ?_)
  · skip
    refine own_lloadN (pc' := 12) X0 hx (hb hby d1_11) rfl rfl ?_
    refine own_bipush (pc' := 14) X0 hx (8 : Int32) (hb hby d1_12) rfl rfl ?_
    refine own_iloadN (pc' := 15) X0 hx (hb hby d1_14) rfl rfl ?_
    refine own_imul (pc' := 16) X0 hx (hb hby d1_15) rfl ?_
    refine own_lushr (pc' := 17) X0 hx (hb hby d1_16) rfl ?_
    refine own_l2i (pc' := 18) X0 hx (hb hby d1_17) rfl ?_
    refine own_i2b (pc' := 19) X0 hx (hb hby d1_18) rfl ?_
    refine own_retN X0 hx hlk (t := .byte) (by decide) hret (hb hby d1_19) (by decide) (by decide) ?_
    exact ⟨_, rfl, own_isb _, rfl, e0⟩
  · skip
    refine own_bipush (pc' := 10) X0 hx (10 : Int32) (hb hby d1_8) rfl rfl ?_
    refine own_retN X0 hx hlk (t := .byte) (by decide) hret (hb hby d1_10) (by decide) (by decide) ?_
    exact ⟨_, rfl, own_isb _, rfl, e0⟩
theorem d2_0 : decode method_4_code 0 = .ok (.iload_n 2, 1) := by decide +kernel
theorem d2_1 : decode method_4_code 1 = .ok (.iload_n 1, 1) := by decide +kernel
theorem d2_2 : decode method_4_code 2 = .ok (.if_icmp .gt 20, 3) := by decide +kernel
theorem d2_5 : decode method_4_code 5 = .ok (.iload_n 1, 1) := by decide +kernel
theorem d2_6 : decode method_4_code 6 = .ok (.iload_n 3, 1) := by decide +kernel
theorem d2_7 : decode method_4_code 7 = .ok (.if_icmp .ge 15, 3) := by decide +kernel
theorem d2_10 : decode method_4_code 10 = .ok (.aload_n 0, 1) := by decide +kernel
theorem d2_11 : decode method_4_code 11 = .ok (.iload_n 1, 1) := by decide +kernel
theorem d2_12 : decode method_4_code 12 = .ok (.baload, 1) := by decide +kernel
theorem d2_13 : decode method_4_code 13 = .ok (.bipush 10, 2) := by decide +kernel
theorem d2_15 : decode method_4_code 15 = .ok (.if_icmp .ne 7, 3) := by decide +kernel
theorem d2_18 : decode method_4_code 18 = .ok (.iconst 1, 1) := by decide +kernel
theorem d2_19 : decode method_4_code 19 = .ok (.goto 4, 3) := by decide +kernel
theorem d2_22 : decode method_4_code 22 = .ok (.iconst 0, 1) := by decide +kernel
theorem d2_23 : decode method_4_code 23 = .ok (.ireturn, 1) := by decide +kernel
theorem pn_2 : plainFor (⟨"com/example/steerage/steerage/agent/HttpHeadLineEndPinLaw", "hit", "([BIII)Z"⟩ : MethodName) = true := plainFor_of_name (by first | (simp [plainName, overriddenIn]; done) | decide +kernel)
theorem ef_conH0 (m : MethodId) (a1 : Addr) (c1 : Int32) (c2 : Int32) : entryFrame m #[(.ref a1), (.int (0 : Int32)), (.int c1), (.int c2)] 4 = mkF m 0 #[.val (.ref a1), .val (.int (0 : Int32)), .val (.int c1), .val (.int c2)] [] := by first | (simp [entryFrame, mkF, argsToLocals, Value.category]; done) | rfl
set_option maxRecDepth 65536 in
set_option maxHeartbeats 4000000 in
theorem conH0 (l : Launch) (Z : State) (a0 : Array Value) (hw : ∀ d ∈ tables_1, d.before a0 Z = true) (a1 : Addr) (c1 : Int32) (c2 : Int32) (h0 : Heap) (kk : ClassId) (b0 b1 b2 b3 b4 : Int32) (V1 : Arv Z h0 a1 kk .byte 5 [(.int b0), (.int b1), (.int b2), (.int b3), (.int b4)] (.int 0)) :
    own_Con l Z (⟨"com/example/steerage/steerage/agent/HttpHeadLineEndPinLaw", "hit", "([BIII)Z"⟩ : MethodName) method_4_code 4 (some .boolean) ({ frames := 0, cells := 0, slots := 0, locals := 0 } : Room) #[(.ref a1), (.int (0 : Int32)), (.int c1), (.int c2)] h0 (fun v h L => ∃ z : Int32, v = some (.int z) ∧ z = own_hz b0 0 c1 c2 ∧ L = [] ∧ h = h0) := by
  refine own_Con_of pn_2 ?_
  intro p e s m below meth c s₁ X0 hx hby hml hret hlk hnm hown hZ e0
  have hown : s.vm.findClass "com/example/steerage/steerage/agent/HttpHeadLineEndPinLaw" = some m.cls := hown
  have hml : c.maxLocals = 4 := hml
  show own_WP _ _ _ _ _ _ _ (s₁.setTop (entryFrame m #[(.ref a1), (.int (0 : Int32)), (.int c1), (.int c2)] 4))
  rw [ef_conH0 m a1 c1 c2]
  refine own_iloadN (pc' := 1) X0 hx (hb hby d2_0) rfl rfl ?_
  refine own_iloadN (pc' := 2) X0 hx (hb hby d2_1) rfl rfl ?_
  refine own_icmp_gt (pt := 22) (pf := 5) X0 hx (hb hby d2_2) rfl (by decide) rfl (fun hc2 => ?_) (fun hc2 => ?_)
  · skip
    refine own_iconst (pc' := 23) X0 hx (0 : Int32) (hb hby d2_22) rfl rfl ?_
    refine own_retN X0 hx hlk (t := .boolean) (by decide) hret (hb hby d2_23) (by decide) (by decide) ?_
    exact ⟨(0 : Int32), rfl, by simp [own_hz, hc2], rfl, e0⟩
  · skip
    refine own_iloadN (pc' := 6) X0 hx (hb hby d2_5) rfl rfl ?_
    refine own_iloadN (pc' := 7) X0 hx (hb hby d2_6) rfl rfl ?_
    refine own_icmp_ge (pt := 22) (pf := 10) X0 hx (hb hby d2_7) rfl (by decide) rfl (fun hc7 => ?_) (fun hc7 => ?_)
    · skip
      refine own_iconst (pc' := 23) X0 hx (0 : Int32) (hb hby d2_22) rfl rfl ?_
      refine own_retN X0 hx hlk (t := .boolean) (by decide) hret (hb hby d2_23) (by decide) (by decide) ?_
      exact ⟨(0 : Int32), rfl, by simp [own_hz, hc2, hc7], rfl, e0⟩
    · skip
      refine own_aloadN (pc' := 11) X0 hx (hb hby d2_10) rfl rfl rfl ?_
      refine own_iloadN (pc' := 12) X0 hx (hb hby d2_11) rfl rfl ?_
      refine own_baload (pc' := 13) (v := (.int b0)) X0 hx hZ e0 V1 ⟨by decide, by decide⟩ rfl (hb hby d2_12) rfl ?_
      refine own_bipush (pc' := 15) X0 hx (10 : Int32) (hb hby d2_13) rfl rfl ?_
      refine own_icmp_ne (pt := 22) (pf := 18) X0 hx (hb hby d2_15) rfl (by decide) rfl (fun hc15 => ?_) (fun hc15 => ?_)
      · skip
        refine own_iconst (pc' := 23) X0 hx (0 : Int32) (hb hby d2_22) rfl rfl ?_
        refine own_retN X0 hx hlk (t := .boolean) (by decide) hret (hb hby d2_23) (by decide) (by decide) ?_
        exact ⟨(0 : Int32), rfl, by simp [own_hz, hc2, hc7, hc15], rfl, e0⟩
      · skip
        refine own_iconst (pc' := 19) X0 hx (1 : Int32) (hb hby d2_18) rfl rfl ?_
        refine own_goto (pc' := 23) X0 hx (hb hby d2_19) (by decide) rfl ?_
        refine own_retN X0 hx hlk (t := .boolean) (by decide) hret (hb hby d2_23) (by decide) (by decide) ?_
        exact ⟨(1 : Int32), rfl, by simp [own_hz, hc2, hc7, hc15], rfl, e0⟩
theorem ef_conH1 (m : MethodId) (a1 : Addr) (c1 : Int32) (c2 : Int32) : entryFrame m #[(.ref a1), (.int (1 : Int32)), (.int c1), (.int c2)] 4 = mkF m 0 #[.val (.ref a1), .val (.int (1 : Int32)), .val (.int c1), .val (.int c2)] [] := by first | (simp [entryFrame, mkF, argsToLocals, Value.category]; done) | rfl
set_option maxRecDepth 65536 in
set_option maxHeartbeats 4000000 in
theorem conH1 (l : Launch) (Z : State) (a0 : Array Value) (hw : ∀ d ∈ tables_1, d.before a0 Z = true) (a1 : Addr) (c1 : Int32) (c2 : Int32) (h0 : Heap) (kk : ClassId) (b0 b1 b2 b3 b4 : Int32) (V1 : Arv Z h0 a1 kk .byte 5 [(.int b0), (.int b1), (.int b2), (.int b3), (.int b4)] (.int 0)) :
    own_Con l Z (⟨"com/example/steerage/steerage/agent/HttpHeadLineEndPinLaw", "hit", "([BIII)Z"⟩ : MethodName) method_4_code 4 (some .boolean) ({ frames := 0, cells := 0, slots := 0, locals := 0 } : Room) #[(.ref a1), (.int (1 : Int32)), (.int c1), (.int c2)] h0 (fun v h L => ∃ z : Int32, v = some (.int z) ∧ z = own_hz b1 1 c1 c2 ∧ L = [] ∧ h = h0) := by
  refine own_Con_of pn_2 ?_
  intro p e s m below meth c s₁ X0 hx hby hml hret hlk hnm hown hZ e0
  have hown : s.vm.findClass "com/example/steerage/steerage/agent/HttpHeadLineEndPinLaw" = some m.cls := hown
  have hml : c.maxLocals = 4 := hml
  show own_WP _ _ _ _ _ _ _ (s₁.setTop (entryFrame m #[(.ref a1), (.int (1 : Int32)), (.int c1), (.int c2)] 4))
  rw [ef_conH1 m a1 c1 c2]
  refine own_iloadN (pc' := 1) X0 hx (hb hby d2_0) rfl rfl ?_
  refine own_iloadN (pc' := 2) X0 hx (hb hby d2_1) rfl rfl ?_
  refine own_icmp_gt (pt := 22) (pf := 5) X0 hx (hb hby d2_2) rfl (by decide) rfl (fun hc2 => ?_) (fun hc2 => ?_)
  · skip
    refine own_iconst (pc' := 23) X0 hx (0 : Int32) (hb hby d2_22) rfl rfl ?_
    refine own_retN X0 hx hlk (t := .boolean) (by decide) hret (hb hby d2_23) (by decide) (by decide) ?_
    exact ⟨(0 : Int32), rfl, by simp [own_hz, hc2], rfl, e0⟩
  · skip
    refine own_iloadN (pc' := 6) X0 hx (hb hby d2_5) rfl rfl ?_
    refine own_iloadN (pc' := 7) X0 hx (hb hby d2_6) rfl rfl ?_
    refine own_icmp_ge (pt := 22) (pf := 10) X0 hx (hb hby d2_7) rfl (by decide) rfl (fun hc7 => ?_) (fun hc7 => ?_)
    · skip
      refine own_iconst (pc' := 23) X0 hx (0 : Int32) (hb hby d2_22) rfl rfl ?_
      refine own_retN X0 hx hlk (t := .boolean) (by decide) hret (hb hby d2_23) (by decide) (by decide) ?_
      exact ⟨(0 : Int32), rfl, by simp [own_hz, hc2, hc7], rfl, e0⟩
    · skip
      refine own_aloadN (pc' := 11) X0 hx (hb hby d2_10) rfl rfl rfl ?_
      refine own_iloadN (pc' := 12) X0 hx (hb hby d2_11) rfl rfl ?_
      refine own_baload (pc' := 13) (v := (.int b1)) X0 hx hZ e0 V1 ⟨by decide, by decide⟩ rfl (hb hby d2_12) rfl ?_
      refine own_bipush (pc' := 15) X0 hx (10 : Int32) (hb hby d2_13) rfl rfl ?_
      refine own_icmp_ne (pt := 22) (pf := 18) X0 hx (hb hby d2_15) rfl (by decide) rfl (fun hc15 => ?_) (fun hc15 => ?_)
      · skip
        refine own_iconst (pc' := 23) X0 hx (0 : Int32) (hb hby d2_22) rfl rfl ?_
        refine own_retN X0 hx hlk (t := .boolean) (by decide) hret (hb hby d2_23) (by decide) (by decide) ?_
        exact ⟨(0 : Int32), rfl, by simp [own_hz, hc2, hc7, hc15], rfl, e0⟩
      · skip
        refine own_iconst (pc' := 19) X0 hx (1 : Int32) (hb hby d2_18) rfl rfl ?_
        refine own_goto (pc' := 23) X0 hx (hb hby d2_19) (by decide) rfl ?_
        refine own_retN X0 hx hlk (t := .boolean) (by decide) hret (hb hby d2_23) (by decide) (by decide) ?_
        exact ⟨(1 : Int32), rfl, by simp [own_hz, hc2, hc7, hc15], rfl, e0⟩
theorem ef_conH2 (m : MethodId) (a1 : Addr) (c1 : Int32) (c2 : Int32) : entryFrame m #[(.ref a1), (.int (2 : Int32)), (.int c1), (.int c2)] 4 = mkF m 0 #[.val (.ref a1), .val (.int (2 : Int32)), .val (.int c1), .val (.int c2)] [] := by first | (simp [entryFrame, mkF, argsToLocals, Value.category]; done) | rfl
set_option maxRecDepth 65536 in
set_option maxHeartbeats 4000000 in
theorem conH2 (l : Launch) (Z : State) (a0 : Array Value) (hw : ∀ d ∈ tables_1, d.before a0 Z = true) (a1 : Addr) (c1 : Int32) (c2 : Int32) (h0 : Heap) (kk : ClassId) (b0 b1 b2 b3 b4 : Int32) (V1 : Arv Z h0 a1 kk .byte 5 [(.int b0), (.int b1), (.int b2), (.int b3), (.int b4)] (.int 0)) :
    own_Con l Z (⟨"com/example/steerage/steerage/agent/HttpHeadLineEndPinLaw", "hit", "([BIII)Z"⟩ : MethodName) method_4_code 4 (some .boolean) ({ frames := 0, cells := 0, slots := 0, locals := 0 } : Room) #[(.ref a1), (.int (2 : Int32)), (.int c1), (.int c2)] h0 (fun v h L => ∃ z : Int32, v = some (.int z) ∧ z = own_hz b2 2 c1 c2 ∧ L = [] ∧ h = h0) := by
  refine own_Con_of pn_2 ?_
  intro p e s m below meth c s₁ X0 hx hby hml hret hlk hnm hown hZ e0
  have hown : s.vm.findClass "com/example/steerage/steerage/agent/HttpHeadLineEndPinLaw" = some m.cls := hown
  have hml : c.maxLocals = 4 := hml
  show own_WP _ _ _ _ _ _ _ (s₁.setTop (entryFrame m #[(.ref a1), (.int (2 : Int32)), (.int c1), (.int c2)] 4))
  rw [ef_conH2 m a1 c1 c2]
  refine own_iloadN (pc' := 1) X0 hx (hb hby d2_0) rfl rfl ?_
  refine own_iloadN (pc' := 2) X0 hx (hb hby d2_1) rfl rfl ?_
  refine own_icmp_gt (pt := 22) (pf := 5) X0 hx (hb hby d2_2) rfl (by decide) rfl (fun hc2 => ?_) (fun hc2 => ?_)
  · skip
    refine own_iconst (pc' := 23) X0 hx (0 : Int32) (hb hby d2_22) rfl rfl ?_
    refine own_retN X0 hx hlk (t := .boolean) (by decide) hret (hb hby d2_23) (by decide) (by decide) ?_
    exact ⟨(0 : Int32), rfl, by simp [own_hz, hc2], rfl, e0⟩
  · skip
    refine own_iloadN (pc' := 6) X0 hx (hb hby d2_5) rfl rfl ?_
    refine own_iloadN (pc' := 7) X0 hx (hb hby d2_6) rfl rfl ?_
    refine own_icmp_ge (pt := 22) (pf := 10) X0 hx (hb hby d2_7) rfl (by decide) rfl (fun hc7 => ?_) (fun hc7 => ?_)
    · skip
      refine own_iconst (pc' := 23) X0 hx (0 : Int32) (hb hby d2_22) rfl rfl ?_
      refine own_retN X0 hx hlk (t := .boolean) (by decide) hret (hb hby d2_23) (by decide) (by decide) ?_
      exact ⟨(0 : Int32), rfl, by simp [own_hz, hc2, hc7], rfl, e0⟩
    · skip
      refine own_aloadN (pc' := 11) X0 hx (hb hby d2_10) rfl rfl rfl ?_
      refine own_iloadN (pc' := 12) X0 hx (hb hby d2_11) rfl rfl ?_
      refine own_baload (pc' := 13) (v := (.int b2)) X0 hx hZ e0 V1 ⟨by decide, by decide⟩ rfl (hb hby d2_12) rfl ?_
      refine own_bipush (pc' := 15) X0 hx (10 : Int32) (hb hby d2_13) rfl rfl ?_
      refine own_icmp_ne (pt := 22) (pf := 18) X0 hx (hb hby d2_15) rfl (by decide) rfl (fun hc15 => ?_) (fun hc15 => ?_)
      · skip
        refine own_iconst (pc' := 23) X0 hx (0 : Int32) (hb hby d2_22) rfl rfl ?_
        refine own_retN X0 hx hlk (t := .boolean) (by decide) hret (hb hby d2_23) (by decide) (by decide) ?_
        exact ⟨(0 : Int32), rfl, by simp [own_hz, hc2, hc7, hc15], rfl, e0⟩
      · skip
        refine own_iconst (pc' := 19) X0 hx (1 : Int32) (hb hby d2_18) rfl rfl ?_
        refine own_goto (pc' := 23) X0 hx (hb hby d2_19) (by decide) rfl ?_
        refine own_retN X0 hx hlk (t := .boolean) (by decide) hret (hb hby d2_23) (by decide) (by decide) ?_
        exact ⟨(1 : Int32), rfl, by simp [own_hz, hc2, hc7, hc15], rfl, e0⟩
theorem ef_conH3 (m : MethodId) (a1 : Addr) (c1 : Int32) (c2 : Int32) : entryFrame m #[(.ref a1), (.int (3 : Int32)), (.int c1), (.int c2)] 4 = mkF m 0 #[.val (.ref a1), .val (.int (3 : Int32)), .val (.int c1), .val (.int c2)] [] := by first | (simp [entryFrame, mkF, argsToLocals, Value.category]; done) | rfl
set_option maxRecDepth 65536 in
set_option maxHeartbeats 4000000 in
theorem conH3 (l : Launch) (Z : State) (a0 : Array Value) (hw : ∀ d ∈ tables_1, d.before a0 Z = true) (a1 : Addr) (c1 : Int32) (c2 : Int32) (h0 : Heap) (kk : ClassId) (b0 b1 b2 b3 b4 : Int32) (V1 : Arv Z h0 a1 kk .byte 5 [(.int b0), (.int b1), (.int b2), (.int b3), (.int b4)] (.int 0)) :
    own_Con l Z (⟨"com/example/steerage/steerage/agent/HttpHeadLineEndPinLaw", "hit", "([BIII)Z"⟩ : MethodName) method_4_code 4 (some .boolean) ({ frames := 0, cells := 0, slots := 0, locals := 0 } : Room) #[(.ref a1), (.int (3 : Int32)), (.int c1), (.int c2)] h0 (fun v h L => ∃ z : Int32, v = some (.int z) ∧ z = own_hz b3 3 c1 c2 ∧ L = [] ∧ h = h0) := by
  refine own_Con_of pn_2 ?_
  intro p e s m below meth c s₁ X0 hx hby hml hret hlk hnm hown hZ e0
  have hown : s.vm.findClass "com/example/steerage/steerage/agent/HttpHeadLineEndPinLaw" = some m.cls := hown
  have hml : c.maxLocals = 4 := hml
  show own_WP _ _ _ _ _ _ _ (s₁.setTop (entryFrame m #[(.ref a1), (.int (3 : Int32)), (.int c1), (.int c2)] 4))
  rw [ef_conH3 m a1 c1 c2]
  refine own_iloadN (pc' := 1) X0 hx (hb hby d2_0) rfl rfl ?_
  refine own_iloadN (pc' := 2) X0 hx (hb hby d2_1) rfl rfl ?_
  refine own_icmp_gt (pt := 22) (pf := 5) X0 hx (hb hby d2_2) rfl (by decide) rfl (fun hc2 => ?_) (fun hc2 => ?_)
  · skip
    refine own_iconst (pc' := 23) X0 hx (0 : Int32) (hb hby d2_22) rfl rfl ?_
    refine own_retN X0 hx hlk (t := .boolean) (by decide) hret (hb hby d2_23) (by decide) (by decide) ?_
    exact ⟨(0 : Int32), rfl, by simp [own_hz, hc2], rfl, e0⟩
  · skip
    refine own_iloadN (pc' := 6) X0 hx (hb hby d2_5) rfl rfl ?_
    refine own_iloadN (pc' := 7) X0 hx (hb hby d2_6) rfl rfl ?_
    refine own_icmp_ge (pt := 22) (pf := 10) X0 hx (hb hby d2_7) rfl (by decide) rfl (fun hc7 => ?_) (fun hc7 => ?_)
    · skip
      refine own_iconst (pc' := 23) X0 hx (0 : Int32) (hb hby d2_22) rfl rfl ?_
      refine own_retN X0 hx hlk (t := .boolean) (by decide) hret (hb hby d2_23) (by decide) (by decide) ?_
      exact ⟨(0 : Int32), rfl, by simp [own_hz, hc2, hc7], rfl, e0⟩
    · skip
      refine own_aloadN (pc' := 11) X0 hx (hb hby d2_10) rfl rfl rfl ?_
      refine own_iloadN (pc' := 12) X0 hx (hb hby d2_11) rfl rfl ?_
      refine own_baload (pc' := 13) (v := (.int b3)) X0 hx hZ e0 V1 ⟨by decide, by decide⟩ rfl (hb hby d2_12) rfl ?_
      refine own_bipush (pc' := 15) X0 hx (10 : Int32) (hb hby d2_13) rfl rfl ?_
      refine own_icmp_ne (pt := 22) (pf := 18) X0 hx (hb hby d2_15) rfl (by decide) rfl (fun hc15 => ?_) (fun hc15 => ?_)
      · skip
        refine own_iconst (pc' := 23) X0 hx (0 : Int32) (hb hby d2_22) rfl rfl ?_
        refine own_retN X0 hx hlk (t := .boolean) (by decide) hret (hb hby d2_23) (by decide) (by decide) ?_
        exact ⟨(0 : Int32), rfl, by simp [own_hz, hc2, hc7, hc15], rfl, e0⟩
      · skip
        refine own_iconst (pc' := 19) X0 hx (1 : Int32) (hb hby d2_18) rfl rfl ?_
        refine own_goto (pc' := 23) X0 hx (hb hby d2_19) (by decide) rfl ?_
        refine own_retN X0 hx hlk (t := .boolean) (by decide) hret (hb hby d2_23) (by decide) (by decide) ?_
        exact ⟨(1 : Int32), rfl, by simp [own_hz, hc2, hc7, hc15], rfl, e0⟩
theorem ef_conH4 (m : MethodId) (a1 : Addr) (c1 : Int32) (c2 : Int32) : entryFrame m #[(.ref a1), (.int (4 : Int32)), (.int c1), (.int c2)] 4 = mkF m 0 #[.val (.ref a1), .val (.int (4 : Int32)), .val (.int c1), .val (.int c2)] [] := by first | (simp [entryFrame, mkF, argsToLocals, Value.category]; done) | rfl
set_option maxRecDepth 65536 in
set_option maxHeartbeats 4000000 in
theorem conH4 (l : Launch) (Z : State) (a0 : Array Value) (hw : ∀ d ∈ tables_1, d.before a0 Z = true) (a1 : Addr) (c1 : Int32) (c2 : Int32) (h0 : Heap) (kk : ClassId) (b0 b1 b2 b3 b4 : Int32) (V1 : Arv Z h0 a1 kk .byte 5 [(.int b0), (.int b1), (.int b2), (.int b3), (.int b4)] (.int 0)) :
    own_Con l Z (⟨"com/example/steerage/steerage/agent/HttpHeadLineEndPinLaw", "hit", "([BIII)Z"⟩ : MethodName) method_4_code 4 (some .boolean) ({ frames := 0, cells := 0, slots := 0, locals := 0 } : Room) #[(.ref a1), (.int (4 : Int32)), (.int c1), (.int c2)] h0 (fun v h L => ∃ z : Int32, v = some (.int z) ∧ z = own_hz b4 4 c1 c2 ∧ L = [] ∧ h = h0) := by
  refine own_Con_of pn_2 ?_
  intro p e s m below meth c s₁ X0 hx hby hml hret hlk hnm hown hZ e0
  have hown : s.vm.findClass "com/example/steerage/steerage/agent/HttpHeadLineEndPinLaw" = some m.cls := hown
  have hml : c.maxLocals = 4 := hml
  show own_WP _ _ _ _ _ _ _ (s₁.setTop (entryFrame m #[(.ref a1), (.int (4 : Int32)), (.int c1), (.int c2)] 4))
  rw [ef_conH4 m a1 c1 c2]
  refine own_iloadN (pc' := 1) X0 hx (hb hby d2_0) rfl rfl ?_
  refine own_iloadN (pc' := 2) X0 hx (hb hby d2_1) rfl rfl ?_
  refine own_icmp_gt (pt := 22) (pf := 5) X0 hx (hb hby d2_2) rfl (by decide) rfl (fun hc2 => ?_) (fun hc2 => ?_)
  · skip
    refine own_iconst (pc' := 23) X0 hx (0 : Int32) (hb hby d2_22) rfl rfl ?_
    refine own_retN X0 hx hlk (t := .boolean) (by decide) hret (hb hby d2_23) (by decide) (by decide) ?_
    exact ⟨(0 : Int32), rfl, by simp [own_hz, hc2], rfl, e0⟩
  · skip
    refine own_iloadN (pc' := 6) X0 hx (hb hby d2_5) rfl rfl ?_
    refine own_iloadN (pc' := 7) X0 hx (hb hby d2_6) rfl rfl ?_
    refine own_icmp_ge (pt := 22) (pf := 10) X0 hx (hb hby d2_7) rfl (by decide) rfl (fun hc7 => ?_) (fun hc7 => ?_)
    · skip
      refine own_iconst (pc' := 23) X0 hx (0 : Int32) (hb hby d2_22) rfl rfl ?_
      refine own_retN X0 hx hlk (t := .boolean) (by decide) hret (hb hby d2_23) (by decide) (by decide) ?_
      exact ⟨(0 : Int32), rfl, by simp [own_hz, hc2, hc7], rfl, e0⟩
    · skip
      refine own_aloadN (pc' := 11) X0 hx (hb hby d2_10) rfl rfl rfl ?_
      refine own_iloadN (pc' := 12) X0 hx (hb hby d2_11) rfl rfl ?_
      refine own_baload (pc' := 13) (v := (.int b4)) X0 hx hZ e0 V1 ⟨by decide, by decide⟩ rfl (hb hby d2_12) rfl ?_
      refine own_bipush (pc' := 15) X0 hx (10 : Int32) (hb hby d2_13) rfl rfl ?_
      refine own_icmp_ne (pt := 22) (pf := 18) X0 hx (hb hby d2_15) rfl (by decide) rfl (fun hc15 => ?_) (fun hc15 => ?_)
      · skip
        refine own_iconst (pc' := 23) X0 hx (0 : Int32) (hb hby d2_22) rfl rfl ?_
        refine own_retN X0 hx hlk (t := .boolean) (by decide) hret (hb hby d2_23) (by decide) (by decide) ?_
        exact ⟨(0 : Int32), rfl, by simp [own_hz, hc2, hc7, hc15], rfl, e0⟩
      · skip
        refine own_iconst (pc' := 19) X0 hx (1 : Int32) (hb hby d2_18) rfl rfl ?_
        refine own_goto (pc' := 23) X0 hx (hb hby d2_19) (by decide) rfl ?_
        refine own_retN X0 hx hlk (t := .boolean) (by decide) hret (hb hby d2_23) (by decide) (by decide) ?_
        exact ⟨(1 : Int32), rfl, by simp [own_hz, hc2, hc7, hc15], rfl, e0⟩
theorem d3_0 : decode prog_23_method_4_code 0 = .ok (.iload_n 1, 1) := by decide +kernel
theorem d3_1 : decode prog_23_method_4_code 1 = .ok (.istore_n 3, 1) := by decide +kernel
theorem d3_2 : decode prog_23_method_4_code 2 = .ok (.iload_n 3, 1) := by decide +kernel
theorem d3_3 : decode prog_23_method_4_code 3 = .ok (.iload_n 2, 1) := by decide +kernel
theorem d3_4 : decode prog_23_method_4_code 4 = .ok (.if_icmp .ge 19, 3) := by decide +kernel
theorem d3_7 : decode prog_23_method_4_code 7 = .ok (.aload_n 0, 1) := by decide +kernel
theorem d3_8 : decode prog_23_method_4_code 8 = .ok (.iload_n 3, 1) := by decide +kernel
theorem d3_9 : decode prog_23_method_4_code 9 = .ok (.baload, 1) := by decide +kernel
theorem d3_10 : decode prog_23_method_4_code 10 = .ok (.bipush 10, 2) := by decide +kernel
theorem d3_12 : decode prog_23_method_4_code 12 = .ok (.if_icmp .ne 5, 3) := by decide +kernel
theorem d3_15 : decode prog_23_method_4_code 15 = .ok (.iload_n 3, 1) := by decide +kernel
theorem d3_16 : decode prog_23_method_4_code 16 = .ok (.ireturn, 1) := by decide +kernel
theorem d3_17 : decode prog_23_method_4_code 17 = .ok (.iinc 3 1, 3) := by decide +kernel
theorem d3_20 : decode prog_23_method_4_code 20 = .ok (.goto (-18), 3) := by decide +kernel
theorem d3_23 : decode prog_23_method_4_code 23 = .ok (.iconst (-1), 1) := by decide +kernel
theorem d3_24 : decode prog_23_method_4_code 24 = .ok (.ireturn, 1) := by decide +kernel
theorem pn_3 : plainFor (⟨"com/example/steerage/steerage/agent/HttpHead", "lineEnd", "([BII)I"⟩ : MethodName) = true := plainFor_of_name (by first | (simp [plainName, overriddenIn]; done) | decide +kernel)
theorem ef_conL (m : MethodId) (a1 : Addr) (c1 : Int32) (c2 : Int32) : entryFrame m #[(.ref a1), (.int c1), (.int c2)] 4 = mkF m 0 #[.val (.ref a1), .val (.int c1), .val (.int c2), .unset] [] := by first | (simp [entryFrame, mkF, argsToLocals, Value.category]; done) | rfl
set_option maxRecDepth 65536 in
set_option maxHeartbeats 4000000 in
theorem conL (l : Launch) (Z : State) (a0 : Array Value) (hw : ∀ d ∈ tables_1, d.before a0 Z = true) (a1 : Addr) (c1 : Int32) (c2 : Int32) (h0 : Heap) (kk : ClassId) (b0 b1 b2 b3 b4 : Int32) (V1 : Arv Z h0 a1 kk .byte 5 [(.int b0), (.int b1), (.int b2), (.int b3), (.int b4)] (.int 0)) (hf : c1 = 0 ∨ c1 = 1 ∨ c1 = 2 ∨ c1 = 3 ∨ c1 = 4 ∨ c1 = 5) (ht : c2 = 0 ∨ c2 = 1 ∨ c2 = 2 ∨ c2 = 3 ∨ c2 = 4 ∨ c2 = 5) :
    own_Con l Z (⟨"com/example/steerage/steerage/agent/HttpHead", "lineEnd", "([BII)I"⟩ : MethodName) prog_23_method_4_code 4 (some .int) ({ frames := 0, cells := 0, slots := 0, locals := 0 } : Room) #[(.ref a1), (.int c1), (.int c2)] h0 (fun v h L => ∃ z : Int32, v = some (.int z) ∧ z = own_le b0 b1 b2 b3 b4 c1 c2 ∧ L = [] ∧ h = h0) := by
  refine own_Con_of pn_3 ?_
  intro p e s m below meth c s₁ X0 hx hby hml hret hlk hnm hown hZ e0
  have hown : s.vm.findClass "com/example/steerage/steerage/agent/HttpHead" = some m.cls := hown
  have hml : c.maxLocals = 4 := hml
  show own_WP _ _ _ _ _ _ _ (s₁.setTop (entryFrame m #[(.ref a1), (.int c1), (.int c2)] 4))
  rw [ef_conL m a1 c1 c2]
  rcases hf with rfl | rfl | rfl | rfl | rfl | rfl <;> rcases ht with rfl | rfl | rfl | rfl | rfl | rfl
  · skip
    show own_WP _ _ _ _ _ _ _ (s₁.setTop (mkF m 0 #[.val (.ref a1), .val (.int (0 : Int32)), .val (.int (0 : Int32)), .unset] []))
    refine own_iloadN (pc' := 1) X0 hx (hb hby d3_0) rfl rfl ?_
    refine own_istoreN (pc' := 2) (l' := #[.val (.ref a1), .val (.int (0 : Int32)), .val (.int (0 : Int32)), .val (.int (0 : Int32))]) X0 hx (hb hby d3_1) rfl rfl rfl ?_
    refine own_iloadN (pc' := 3) X0 hx (hb hby d3_2) rfl rfl ?_
    refine own_iloadN (pc' := 4) X0 hx (hb hby d3_3) rfl rfl ?_
    refine own_icmp_ge (pt := 23) (pf := 7) X0 hx (hb hby d3_4) rfl (by decide) rfl (fun hc4 => ?_) (fun hc4 => absurd hc4 (by decide))
    refine own_iconst (pc' := 24) X0 hx (-1 : Int32) (hb hby d3_23) rfl rfl ?_
    refine own_retI X0 hx hlk hret (hb hby d3_24) (by decide) (by decide) ?_
    exact ⟨(-1 : Int32), rfl, by simp [own_le, own_hit], rfl, e0⟩
  · skip
    show own_WP _ _ _ _ _ _ _ (s₁.setTop (mkF m 0 #[.val (.ref a1), .val (.int (0 : Int32)), .val (.int (1 : Int32)), .unset] []))
    refine own_iloadN (pc' := 1) X0 hx (hb hby d3_0) rfl rfl ?_
    refine own_istoreN (pc' := 2) (l' := #[.val (.ref a1), .val (.int (0 : Int32)), .val (.int (1 : Int32)), .val (.int (0 : Int32))]) X0 hx (hb hby d3_1) rfl rfl rfl ?_
    refine own_iloadN (pc' := 3) X0 hx (hb hby d3_2) rfl rfl ?_
    refine own_iloadN (pc' := 4) X0 hx (hb hby d3_3) rfl rfl ?_
    refine own_icmp_ge (pt := 23) (pf := 7) X0 hx (hb hby d3_4) rfl (by decide) rfl (fun hc4 => absurd (by decide) hc4) (fun hc4 => ?_)
    refine own_aloadN (pc' := 8) X0 hx (hb hby d3_7) rfl rfl rfl ?_
    refine own_iloadN (pc' := 9) X0 hx (hb hby d3_8) rfl rfl ?_
    refine own_baload (pc' := 10) (v := (.int b0)) X0 hx hZ e0 V1 ⟨by decide, by decide⟩ rfl (hb hby d3_9) rfl ?_
    refine own_bipush (pc' := 12) X0 hx (10 : Int32) (hb hby d3_10) rfl rfl ?_
    refine own_icmp_ne (pt := 17) (pf := 15) X0 hx (hb hby d3_12) rfl (by decide) rfl (fun hc12 => ?_) (fun hc12 => ?_)
    · skip
      refine own_iinc (pc' := 20) (l' := #[.val (.ref a1), .val (.int (0 : Int32)), .val (.int (1 : Int32)), .val (.int (1 : Int32))]) X0 hx (hb hby d3_17) rfl (by decide) rfl rfl ?_
      refine own_goto (pc' := 2) X0 hx (hb hby d3_20) (by decide) rfl ?_
      refine own_iloadN (pc' := 3) X0 hx (hb hby d3_2) rfl rfl ?_
      refine own_iloadN (pc' := 4) X0 hx (hb hby d3_3) rfl rfl ?_
      refine own_icmp_ge (pt := 23) (pf := 7) X0 hx (hb hby d3_4) rfl (by decide) rfl (fun hc4_1 => ?_) (fun hc4_1 => absurd hc4_1 (by decide))
      refine own_iconst (pc' := 24) X0 hx (-1 : Int32) (hb hby d3_23) rfl rfl ?_
      refine own_retI X0 hx hlk hret (hb hby d3_24) (by decide) (by decide) ?_
      exact ⟨(-1 : Int32), rfl, by simp [own_le, own_hit, hc12], rfl, e0⟩
    · skip
      refine own_iloadN (pc' := 16) X0 hx (hb hby d3_15) rfl rfl ?_
      refine own_retI X0 hx hlk hret (hb hby d3_16) (by decide) (by decide) ?_
      exact ⟨(0 : Int32), rfl, by simp [own_le, own_hit, hc12], rfl, e0⟩
  · skip
    show own_WP _ _ _ _ _ _ _ (s₁.setTop (mkF m 0 #[.val (.ref a1), .val (.int (0 : Int32)), .val (.int (2 : Int32)), .unset] []))
    refine own_iloadN (pc' := 1) X0 hx (hb hby d3_0) rfl rfl ?_
    refine own_istoreN (pc' := 2) (l' := #[.val (.ref a1), .val (.int (0 : Int32)), .val (.int (2 : Int32)), .val (.int (0 : Int32))]) X0 hx (hb hby d3_1) rfl rfl rfl ?_
    refine own_iloadN (pc' := 3) X0 hx (hb hby d3_2) rfl rfl ?_
    refine own_iloadN (pc' := 4) X0 hx (hb hby d3_3) rfl rfl ?_
    refine own_icmp_ge (pt := 23) (pf := 7) X0 hx (hb hby d3_4) rfl (by decide) rfl (fun hc4 => absurd (by decide) hc4) (fun hc4 => ?_)
    refine own_aloadN (pc' := 8) X0 hx (hb hby d3_7) rfl rfl rfl ?_
    refine own_iloadN (pc' := 9) X0 hx (hb hby d3_8) rfl rfl ?_
    refine own_baload (pc' := 10) (v := (.int b0)) X0 hx hZ e0 V1 ⟨by decide, by decide⟩ rfl (hb hby d3_9) rfl ?_
    refine own_bipush (pc' := 12) X0 hx (10 : Int32) (hb hby d3_10) rfl rfl ?_
    refine own_icmp_ne (pt := 17) (pf := 15) X0 hx (hb hby d3_12) rfl (by decide) rfl (fun hc12 => ?_) (fun hc12 => ?_)
    · skip
      refine own_iinc (pc' := 20) (l' := #[.val (.ref a1), .val (.int (0 : Int32)), .val (.int (2 : Int32)), .val (.int (1 : Int32))]) X0 hx (hb hby d3_17) rfl (by decide) rfl rfl ?_
      refine own_goto (pc' := 2) X0 hx (hb hby d3_20) (by decide) rfl ?_
      refine own_iloadN (pc' := 3) X0 hx (hb hby d3_2) rfl rfl ?_
      refine own_iloadN (pc' := 4) X0 hx (hb hby d3_3) rfl rfl ?_
      refine own_icmp_ge (pt := 23) (pf := 7) X0 hx (hb hby d3_4) rfl (by decide) rfl (fun hc4_1 => absurd (by decide) hc4_1) (fun hc4_1 => ?_)
      refine own_aloadN (pc' := 8) X0 hx (hb hby d3_7) rfl rfl rfl ?_
      refine own_iloadN (pc' := 9) X0 hx (hb hby d3_8) rfl rfl ?_
      refine own_baload (pc' := 10) (v := (.int b1)) X0 hx hZ e0 V1 ⟨by decide, by decide⟩ rfl (hb hby d3_9) rfl ?_
      refine own_bipush (pc' := 12) X0 hx (10 : Int32) (hb hby d3_10) rfl rfl ?_
      refine own_icmp_ne (pt := 17) (pf := 15) X0 hx (hb hby d3_12) rfl (by decide) rfl (fun hc12_1 => ?_) (fun hc12_1 => ?_)
      · skip
        refine own_iinc (pc' := 20) (l' := #[.val (.ref a1), .val (.int (0 : Int32)), .val (.int (2 : Int32)), .val (.int (2 : Int32))]) X0 hx (hb hby d3_17) rfl (by decide) rfl rfl ?_
        refine own_goto (pc' := 2) X0 hx (hb hby d3_20) (by decide) rfl ?_
        refine own_iloadN (pc' := 3) X0 hx (hb hby d3_2) rfl rfl ?_
        refine own_iloadN (pc' := 4) X0 hx (hb hby d3_3) rfl rfl ?_
        refine own_icmp_ge (pt := 23) (pf := 7) X0 hx (hb hby d3_4) rfl (by decide) rfl (fun hc4_2 => ?_) (fun hc4_2 => absurd hc4_2 (by decide))
        refine own_iconst (pc' := 24) X0 hx (-1 : Int32) (hb hby d3_23) rfl rfl ?_
        refine own_retI X0 hx hlk hret (hb hby d3_24) (by decide) (by decide) ?_
        exact ⟨(-1 : Int32), rfl, by simp [own_le, own_hit, hc12, hc12_1], rfl, e0⟩
      · skip
        refine own_iloadN (pc' := 16) X0 hx (hb hby d3_15) rfl rfl ?_
        refine own_retI X0 hx hlk hret (hb hby d3_16) (by decide) (by decide) ?_
        exact ⟨(1 : Int32), rfl, by simp [own_le, own_hit, hc12, hc12_1], rfl, e0⟩
    · skip
      refine own_iloadN (pc' := 16) X0 hx (hb hby d3_15) rfl rfl ?_
      refine own_retI X0 hx hlk hret (hb hby d3_16) (by decide) (by decide) ?_
      exact ⟨(0 : Int32), rfl, by simp [own_le, own_hit, hc12], rfl, e0⟩
  · skip
    show own_WP _ _ _ _ _ _ _ (s₁.setTop (mkF m 0 #[.val (.ref a1), .val (.int (0 : Int32)), .val (.int (3 : Int32)), .unset] []))
    refine own_iloadN (pc' := 1) X0 hx (hb hby d3_0) rfl rfl ?_
    refine own_istoreN (pc' := 2) (l' := #[.val (.ref a1), .val (.int (0 : Int32)), .val (.int (3 : Int32)), .val (.int (0 : Int32))]) X0 hx (hb hby d3_1) rfl rfl rfl ?_
    refine own_iloadN (pc' := 3) X0 hx (hb hby d3_2) rfl rfl ?_
    refine own_iloadN (pc' := 4) X0 hx (hb hby d3_3) rfl rfl ?_
    refine own_icmp_ge (pt := 23) (pf := 7) X0 hx (hb hby d3_4) rfl (by decide) rfl (fun hc4 => absurd (by decide) hc4) (fun hc4 => ?_)
    refine own_aloadN (pc' := 8) X0 hx (hb hby d3_7) rfl rfl rfl ?_
    refine own_iloadN (pc' := 9) X0 hx (hb hby d3_8) rfl rfl ?_
    refine own_baload (pc' := 10) (v := (.int b0)) X0 hx hZ e0 V1 ⟨by decide, by decide⟩ rfl (hb hby d3_9) rfl ?_
    refine own_bipush (pc' := 12) X0 hx (10 : Int32) (hb hby d3_10) rfl rfl ?_
    refine own_icmp_ne (pt := 17) (pf := 15) X0 hx (hb hby d3_12) rfl (by decide) rfl (fun hc12 => ?_) (fun hc12 => ?_)
    · skip
      refine own_iinc (pc' := 20) (l' := #[.val (.ref a1), .val (.int (0 : Int32)), .val (.int (3 : Int32)), .val (.int (1 : Int32))]) X0 hx (hb hby d3_17) rfl (by decide) rfl rfl ?_
      refine own_goto (pc' := 2) X0 hx (hb hby d3_20) (by decide) rfl ?_
      refine own_iloadN (pc' := 3) X0 hx (hb hby d3_2) rfl rfl ?_
      refine own_iloadN (pc' := 4) X0 hx (hb hby d3_3) rfl rfl ?_
      refine own_icmp_ge (pt := 23) (pf := 7) X0 hx (hb hby d3_4) rfl (by decide) rfl (fun hc4_1 => absurd (by decide) hc4_1) (fun hc4_1 => ?_)
      refine own_aloadN (pc' := 8) X0 hx (hb hby d3_7) rfl rfl rfl ?_
      refine own_iloadN (pc' := 9) X0 hx (hb hby d3_8) rfl rfl ?_
      refine own_baload (pc' := 10) (v := (.int b1)) X0 hx hZ e0 V1 ⟨by decide, by decide⟩ rfl (hb hby d3_9) rfl ?_
      refine own_bipush (pc' := 12) X0 hx (10 : Int32) (hb hby d3_10) rfl rfl ?_
      refine own_icmp_ne (pt := 17) (pf := 15) X0 hx (hb hby d3_12) rfl (by decide) rfl (fun hc12_1 => ?_) (fun hc12_1 => ?_)
      · skip
        refine own_iinc (pc' := 20) (l' := #[.val (.ref a1), .val (.int (0 : Int32)), .val (.int (3 : Int32)), .val (.int (2 : Int32))]) X0 hx (hb hby d3_17) rfl (by decide) rfl rfl ?_
        refine own_goto (pc' := 2) X0 hx (hb hby d3_20) (by decide) rfl ?_
        refine own_iloadN (pc' := 3) X0 hx (hb hby d3_2) rfl rfl ?_
        refine own_iloadN (pc' := 4) X0 hx (hb hby d3_3) rfl rfl ?_
        refine own_icmp_ge (pt := 23) (pf := 7) X0 hx (hb hby d3_4) rfl (by decide) rfl (fun hc4_2 => absurd (by decide) hc4_2) (fun hc4_2 => ?_)
        refine own_aloadN (pc' := 8) X0 hx (hb hby d3_7) rfl rfl rfl ?_
        refine own_iloadN (pc' := 9) X0 hx (hb hby d3_8) rfl rfl ?_
        refine own_baload (pc' := 10) (v := (.int b2)) X0 hx hZ e0 V1 ⟨by decide, by decide⟩ rfl (hb hby d3_9) rfl ?_
        refine own_bipush (pc' := 12) X0 hx (10 : Int32) (hb hby d3_10) rfl rfl ?_
        refine own_icmp_ne (pt := 17) (pf := 15) X0 hx (hb hby d3_12) rfl (by decide) rfl (fun hc12_2 => ?_) (fun hc12_2 => ?_)
        · skip
          refine own_iinc (pc' := 20) (l' := #[.val (.ref a1), .val (.int (0 : Int32)), .val (.int (3 : Int32)), .val (.int (3 : Int32))]) X0 hx (hb hby d3_17) rfl (by decide) rfl rfl ?_
          refine own_goto (pc' := 2) X0 hx (hb hby d3_20) (by decide) rfl ?_
          refine own_iloadN (pc' := 3) X0 hx (hb hby d3_2) rfl rfl ?_
          refine own_iloadN (pc' := 4) X0 hx (hb hby d3_3) rfl rfl ?_
          refine own_icmp_ge (pt := 23) (pf := 7) X0 hx (hb hby d3_4) rfl (by decide) rfl (fun hc4_3 => ?_) (fun hc4_3 => absurd hc4_3 (by decide))
          refine own_iconst (pc' := 24) X0 hx (-1 : Int32) (hb hby d3_23) rfl rfl ?_
          refine own_retI X0 hx hlk hret (hb hby d3_24) (by decide) (by decide) ?_
          exact ⟨(-1 : Int32), rfl, by simp [own_le, own_hit, hc12, hc12_1, hc12_2], rfl, e0⟩
        · skip
          refine own_iloadN (pc' := 16) X0 hx (hb hby d3_15) rfl rfl ?_
          refine own_retI X0 hx hlk hret (hb hby d3_16) (by decide) (by decide) ?_
          exact ⟨(2 : Int32), rfl, by simp [own_le, own_hit, hc12, hc12_1, hc12_2], rfl, e0⟩
      · skip
        refine own_iloadN (pc' := 16) X0 hx (hb hby d3_15) rfl rfl ?_
        refine own_retI X0 hx hlk hret (hb hby d3_16) (by decide) (by decide) ?_
        exact ⟨(1 : Int32), rfl, by simp [own_le, own_hit, hc12, hc12_1], rfl, e0⟩
    · skip
      refine own_iloadN (pc' := 16) X0 hx (hb hby d3_15) rfl rfl ?_
      refine own_retI X0 hx hlk hret (hb hby d3_16) (by decide) (by decide) ?_
      exact ⟨(0 : Int32), rfl, by simp [own_le, own_hit, hc12], rfl, e0⟩
  · skip
    show own_WP _ _ _ _ _ _ _ (s₁.setTop (mkF m 0 #[.val (.ref a1), .val (.int (0 : Int32)), .val (.int (4 : Int32)), .unset] []))
    refine own_iloadN (pc' := 1) X0 hx (hb hby d3_0) rfl rfl ?_
    refine own_istoreN (pc' := 2) (l' := #[.val (.ref a1), .val (.int (0 : Int32)), .val (.int (4 : Int32)), .val (.int (0 : Int32))]) X0 hx (hb hby d3_1) rfl rfl rfl ?_
    refine own_iloadN (pc' := 3) X0 hx (hb hby d3_2) rfl rfl ?_
    refine own_iloadN (pc' := 4) X0 hx (hb hby d3_3) rfl rfl ?_
    refine own_icmp_ge (pt := 23) (pf := 7) X0 hx (hb hby d3_4) rfl (by decide) rfl (fun hc4 => absurd (by decide) hc4) (fun hc4 => ?_)
    refine own_aloadN (pc' := 8) X0 hx (hb hby d3_7) rfl rfl rfl ?_
    refine own_iloadN (pc' := 9) X0 hx (hb hby d3_8) rfl rfl ?_
    refine own_baload (pc' := 10) (v := (.int b0)) X0 hx hZ e0 V1 ⟨by decide, by decide⟩ rfl (hb hby d3_9) rfl ?_
    refine own_bipush (pc' := 12) X0 hx (10 : Int32) (hb hby d3_10) rfl rfl ?_
    refine own_icmp_ne (pt := 17) (pf := 15) X0 hx (hb hby d3_12) rfl (by decide) rfl (fun hc12 => ?_) (fun hc12 => ?_)
    · skip
      refine own_iinc (pc' := 20) (l' := #[.val (.ref a1), .val (.int (0 : Int32)), .val (.int (4 : Int32)), .val (.int (1 : Int32))]) X0 hx (hb hby d3_17) rfl (by decide) rfl rfl ?_
      refine own_goto (pc' := 2) X0 hx (hb hby d3_20) (by decide) rfl ?_
      refine own_iloadN (pc' := 3) X0 hx (hb hby d3_2) rfl rfl ?_
      refine own_iloadN (pc' := 4) X0 hx (hb hby d3_3) rfl rfl ?_
      refine own_icmp_ge (pt := 23) (pf := 7) X0 hx (hb hby d3_4) rfl (by decide) rfl (fun hc4_1 => absurd (by decide) hc4_1) (fun hc4_1 => ?_)
      refine own_aloadN (pc' := 8) X0 hx (hb hby d3_7) rfl rfl rfl ?_
      refine own_iloadN (pc' := 9) X0 hx (hb hby d3_8) rfl rfl ?_
      refine own_baload (pc' := 10) (v := (.int b1)) X0 hx hZ e0 V1 ⟨by decide, by decide⟩ rfl (hb hby d3_9) rfl ?_
      refine own_bipush (pc' := 12) X0 hx (10 : Int32) (hb hby d3_10) rfl rfl ?_
      refine own_icmp_ne (pt := 17) (pf := 15) X0 hx (hb hby d3_12) rfl (by decide) rfl (fun hc12_1 => ?_) (fun hc12_1 => ?_)
      · skip
        refine own_iinc (pc' := 20) (l' := #[.val (.ref a1), .val (.int (0 : Int32)), .val (.int (4 : Int32)), .val (.int (2 : Int32))]) X0 hx (hb hby d3_17) rfl (by decide) rfl rfl ?_
        refine own_goto (pc' := 2) X0 hx (hb hby d3_20) (by decide) rfl ?_
        refine own_iloadN (pc' := 3) X0 hx (hb hby d3_2) rfl rfl ?_
        refine own_iloadN (pc' := 4) X0 hx (hb hby d3_3) rfl rfl ?_
        refine own_icmp_ge (pt := 23) (pf := 7) X0 hx (hb hby d3_4) rfl (by decide) rfl (fun hc4_2 => absurd (by decide) hc4_2) (fun hc4_2 => ?_)
        refine own_aloadN (pc' := 8) X0 hx (hb hby d3_7) rfl rfl rfl ?_
        refine own_iloadN (pc' := 9) X0 hx (hb hby d3_8) rfl rfl ?_
        refine own_baload (pc' := 10) (v := (.int b2)) X0 hx hZ e0 V1 ⟨by decide, by decide⟩ rfl (hb hby d3_9) rfl ?_
        refine own_bipush (pc' := 12) X0 hx (10 : Int32) (hb hby d3_10) rfl rfl ?_
        refine own_icmp_ne (pt := 17) (pf := 15) X0 hx (hb hby d3_12) rfl (by decide) rfl (fun hc12_2 => ?_) (fun hc12_2 => ?_)
        · skip
          refine own_iinc (pc' := 20) (l' := #[.val (.ref a1), .val (.int (0 : Int32)), .val (.int (4 : Int32)), .val (.int (3 : Int32))]) X0 hx (hb hby d3_17) rfl (by decide) rfl rfl ?_
          refine own_goto (pc' := 2) X0 hx (hb hby d3_20) (by decide) rfl ?_
          refine own_iloadN (pc' := 3) X0 hx (hb hby d3_2) rfl rfl ?_
          refine own_iloadN (pc' := 4) X0 hx (hb hby d3_3) rfl rfl ?_
          refine own_icmp_ge (pt := 23) (pf := 7) X0 hx (hb hby d3_4) rfl (by decide) rfl (fun hc4_3 => absurd (by decide) hc4_3) (fun hc4_3 => ?_)
          refine own_aloadN (pc' := 8) X0 hx (hb hby d3_7) rfl rfl rfl ?_
          refine own_iloadN (pc' := 9) X0 hx (hb hby d3_8) rfl rfl ?_
          refine own_baload (pc' := 10) (v := (.int b3)) X0 hx hZ e0 V1 ⟨by decide, by decide⟩ rfl (hb hby d3_9) rfl ?_
          refine own_bipush (pc' := 12) X0 hx (10 : Int32) (hb hby d3_10) rfl rfl ?_
          refine own_icmp_ne (pt := 17) (pf := 15) X0 hx (hb hby d3_12) rfl (by decide) rfl (fun hc12_3 => ?_) (fun hc12_3 => ?_)
          · skip
            refine own_iinc (pc' := 20) (l' := #[.val (.ref a1), .val (.int (0 : Int32)), .val (.int (4 : Int32)), .val (.int (4 : Int32))]) X0 hx (hb hby d3_17) rfl (by decide) rfl rfl ?_
            refine own_goto (pc' := 2) X0 hx (hb hby d3_20) (by decide) rfl ?_
            refine own_iloadN (pc' := 3) X0 hx (hb hby d3_2) rfl rfl ?_
            refine own_iloadN (pc' := 4) X0 hx (hb hby d3_3) rfl rfl ?_
            refine own_icmp_ge (pt := 23) (pf := 7) X0 hx (hb hby d3_4) rfl (by decide) rfl (fun hc4_4 => ?_) (fun hc4_4 => absurd hc4_4 (by decide))
            refine own_iconst (pc' := 24) X0 hx (-1 : Int32) (hb hby d3_23) rfl rfl ?_
            refine own_retI X0 hx hlk hret (hb hby d3_24) (by decide) (by decide) ?_
            exact ⟨(-1 : Int32), rfl, by simp [own_le, own_hit, hc12, hc12_1, hc12_2, hc12_3], rfl, e0⟩
          · skip
            refine own_iloadN (pc' := 16) X0 hx (hb hby d3_15) rfl rfl ?_
            refine own_retI X0 hx hlk hret (hb hby d3_16) (by decide) (by decide) ?_
            exact ⟨(3 : Int32), rfl, by simp [own_le, own_hit, hc12, hc12_1, hc12_2, hc12_3], rfl, e0⟩
        · skip
          refine own_iloadN (pc' := 16) X0 hx (hb hby d3_15) rfl rfl ?_
          refine own_retI X0 hx hlk hret (hb hby d3_16) (by decide) (by decide) ?_
          exact ⟨(2 : Int32), rfl, by simp [own_le, own_hit, hc12, hc12_1, hc12_2], rfl, e0⟩
      · skip
        refine own_iloadN (pc' := 16) X0 hx (hb hby d3_15) rfl rfl ?_
        refine own_retI X0 hx hlk hret (hb hby d3_16) (by decide) (by decide) ?_
        exact ⟨(1 : Int32), rfl, by simp [own_le, own_hit, hc12, hc12_1], rfl, e0⟩
    · skip
      refine own_iloadN (pc' := 16) X0 hx (hb hby d3_15) rfl rfl ?_
      refine own_retI X0 hx hlk hret (hb hby d3_16) (by decide) (by decide) ?_
      exact ⟨(0 : Int32), rfl, by simp [own_le, own_hit, hc12], rfl, e0⟩
  · skip
    show own_WP _ _ _ _ _ _ _ (s₁.setTop (mkF m 0 #[.val (.ref a1), .val (.int (0 : Int32)), .val (.int (5 : Int32)), .unset] []))
    refine own_iloadN (pc' := 1) X0 hx (hb hby d3_0) rfl rfl ?_
    refine own_istoreN (pc' := 2) (l' := #[.val (.ref a1), .val (.int (0 : Int32)), .val (.int (5 : Int32)), .val (.int (0 : Int32))]) X0 hx (hb hby d3_1) rfl rfl rfl ?_
    refine own_iloadN (pc' := 3) X0 hx (hb hby d3_2) rfl rfl ?_
    refine own_iloadN (pc' := 4) X0 hx (hb hby d3_3) rfl rfl ?_
    refine own_icmp_ge (pt := 23) (pf := 7) X0 hx (hb hby d3_4) rfl (by decide) rfl (fun hc4 => absurd (by decide) hc4) (fun hc4 => ?_)
    refine own_aloadN (pc' := 8) X0 hx (hb hby d3_7) rfl rfl rfl ?_
    refine own_iloadN (pc' := 9) X0 hx (hb hby d3_8) rfl rfl ?_
    refine own_baload (pc' := 10) (v := (.int b0)) X0 hx hZ e0 V1 ⟨by decide, by decide⟩ rfl (hb hby d3_9) rfl ?_
    refine own_bipush (pc' := 12) X0 hx (10 : Int32) (hb hby d3_10) rfl rfl ?_
    refine own_icmp_ne (pt := 17) (pf := 15) X0 hx (hb hby d3_12) rfl (by decide) rfl (fun hc12 => ?_) (fun hc12 => ?_)
    · skip
      refine own_iinc (pc' := 20) (l' := #[.val (.ref a1), .val (.int (0 : Int32)), .val (.int (5 : Int32)), .val (.int (1 : Int32))]) X0 hx (hb hby d3_17) rfl (by decide) rfl rfl ?_
      refine own_goto (pc' := 2) X0 hx (hb hby d3_20) (by decide) rfl ?_
      refine own_iloadN (pc' := 3) X0 hx (hb hby d3_2) rfl rfl ?_
      refine own_iloadN (pc' := 4) X0 hx (hb hby d3_3) rfl rfl ?_
      refine own_icmp_ge (pt := 23) (pf := 7) X0 hx (hb hby d3_4) rfl (by decide) rfl (fun hc4_1 => absurd (by decide) hc4_1) (fun hc4_1 => ?_)
      refine own_aloadN (pc' := 8) X0 hx (hb hby d3_7) rfl rfl rfl ?_
      refine own_iloadN (pc' := 9) X0 hx (hb hby d3_8) rfl rfl ?_
      refine own_baload (pc' := 10) (v := (.int b1)) X0 hx hZ e0 V1 ⟨by decide, by decide⟩ rfl (hb hby d3_9) rfl ?_
      refine own_bipush (pc' := 12) X0 hx (10 : Int32) (hb hby d3_10) rfl rfl ?_
      refine own_icmp_ne (pt := 17) (pf := 15) X0 hx (hb hby d3_12) rfl (by decide) rfl (fun hc12_1 => ?_) (fun hc12_1 => ?_)
      · skip
        refine own_iinc (pc' := 20) (l' := #[.val (.ref a1), .val (.int (0 : Int32)), .val (.int (5 : Int32)), .val (.int (2 : Int32))]) X0 hx (hb hby d3_17) rfl (by decide) rfl rfl ?_
        refine own_goto (pc' := 2) X0 hx (hb hby d3_20) (by decide) rfl ?_
        refine own_iloadN (pc' := 3) X0 hx (hb hby d3_2) rfl rfl ?_
        refine own_iloadN (pc' := 4) X0 hx (hb hby d3_3) rfl rfl ?_
        refine own_icmp_ge (pt := 23) (pf := 7) X0 hx (hb hby d3_4) rfl (by decide) rfl (fun hc4_2 => absurd (by decide) hc4_2) (fun hc4_2 => ?_)
        refine own_aloadN (pc' := 8) X0 hx (hb hby d3_7) rfl rfl rfl ?_
        refine own_iloadN (pc' := 9) X0 hx (hb hby d3_8) rfl rfl ?_
        refine own_baload (pc' := 10) (v := (.int b2)) X0 hx hZ e0 V1 ⟨by decide, by decide⟩ rfl (hb hby d3_9) rfl ?_
        refine own_bipush (pc' := 12) X0 hx (10 : Int32) (hb hby d3_10) rfl rfl ?_
        refine own_icmp_ne (pt := 17) (pf := 15) X0 hx (hb hby d3_12) rfl (by decide) rfl (fun hc12_2 => ?_) (fun hc12_2 => ?_)
        · skip
          refine own_iinc (pc' := 20) (l' := #[.val (.ref a1), .val (.int (0 : Int32)), .val (.int (5 : Int32)), .val (.int (3 : Int32))]) X0 hx (hb hby d3_17) rfl (by decide) rfl rfl ?_
          refine own_goto (pc' := 2) X0 hx (hb hby d3_20) (by decide) rfl ?_
          refine own_iloadN (pc' := 3) X0 hx (hb hby d3_2) rfl rfl ?_
          refine own_iloadN (pc' := 4) X0 hx (hb hby d3_3) rfl rfl ?_
          refine own_icmp_ge (pt := 23) (pf := 7) X0 hx (hb hby d3_4) rfl (by decide) rfl (fun hc4_3 => absurd (by decide) hc4_3) (fun hc4_3 => ?_)
          refine own_aloadN (pc' := 8) X0 hx (hb hby d3_7) rfl rfl rfl ?_
          refine own_iloadN (pc' := 9) X0 hx (hb hby d3_8) rfl rfl ?_
          refine own_baload (pc' := 10) (v := (.int b3)) X0 hx hZ e0 V1 ⟨by decide, by decide⟩ rfl (hb hby d3_9) rfl ?_
          refine own_bipush (pc' := 12) X0 hx (10 : Int32) (hb hby d3_10) rfl rfl ?_
          refine own_icmp_ne (pt := 17) (pf := 15) X0 hx (hb hby d3_12) rfl (by decide) rfl (fun hc12_3 => ?_) (fun hc12_3 => ?_)
          · skip
            refine own_iinc (pc' := 20) (l' := #[.val (.ref a1), .val (.int (0 : Int32)), .val (.int (5 : Int32)), .val (.int (4 : Int32))]) X0 hx (hb hby d3_17) rfl (by decide) rfl rfl ?_
            refine own_goto (pc' := 2) X0 hx (hb hby d3_20) (by decide) rfl ?_
            refine own_iloadN (pc' := 3) X0 hx (hb hby d3_2) rfl rfl ?_
            refine own_iloadN (pc' := 4) X0 hx (hb hby d3_3) rfl rfl ?_
            refine own_icmp_ge (pt := 23) (pf := 7) X0 hx (hb hby d3_4) rfl (by decide) rfl (fun hc4_4 => absurd (by decide) hc4_4) (fun hc4_4 => ?_)
            refine own_aloadN (pc' := 8) X0 hx (hb hby d3_7) rfl rfl rfl ?_
            refine own_iloadN (pc' := 9) X0 hx (hb hby d3_8) rfl rfl ?_
            refine own_baload (pc' := 10) (v := (.int b4)) X0 hx hZ e0 V1 ⟨by decide, by decide⟩ rfl (hb hby d3_9) rfl ?_
            refine own_bipush (pc' := 12) X0 hx (10 : Int32) (hb hby d3_10) rfl rfl ?_
            refine own_icmp_ne (pt := 17) (pf := 15) X0 hx (hb hby d3_12) rfl (by decide) rfl (fun hc12_4 => ?_) (fun hc12_4 => ?_)
            · skip
              refine own_iinc (pc' := 20) (l' := #[.val (.ref a1), .val (.int (0 : Int32)), .val (.int (5 : Int32)), .val (.int (5 : Int32))]) X0 hx (hb hby d3_17) rfl (by decide) rfl rfl ?_
              refine own_goto (pc' := 2) X0 hx (hb hby d3_20) (by decide) rfl ?_
              refine own_iloadN (pc' := 3) X0 hx (hb hby d3_2) rfl rfl ?_
              refine own_iloadN (pc' := 4) X0 hx (hb hby d3_3) rfl rfl ?_
              refine own_icmp_ge (pt := 23) (pf := 7) X0 hx (hb hby d3_4) rfl (by decide) rfl (fun hc4_5 => ?_) (fun hc4_5 => absurd hc4_5 (by decide))
              refine own_iconst (pc' := 24) X0 hx (-1 : Int32) (hb hby d3_23) rfl rfl ?_
              refine own_retI X0 hx hlk hret (hb hby d3_24) (by decide) (by decide) ?_
              exact ⟨(-1 : Int32), rfl, by simp [own_le, own_hit, hc12, hc12_1, hc12_2, hc12_3, hc12_4], rfl, e0⟩
            · skip
              refine own_iloadN (pc' := 16) X0 hx (hb hby d3_15) rfl rfl ?_
              refine own_retI X0 hx hlk hret (hb hby d3_16) (by decide) (by decide) ?_
              exact ⟨(4 : Int32), rfl, by simp [own_le, own_hit, hc12, hc12_1, hc12_2, hc12_3, hc12_4], rfl, e0⟩
          · skip
            refine own_iloadN (pc' := 16) X0 hx (hb hby d3_15) rfl rfl ?_
            refine own_retI X0 hx hlk hret (hb hby d3_16) (by decide) (by decide) ?_
            exact ⟨(3 : Int32), rfl, by simp [own_le, own_hit, hc12, hc12_1, hc12_2, hc12_3], rfl, e0⟩
        · skip
          refine own_iloadN (pc' := 16) X0 hx (hb hby d3_15) rfl rfl ?_
          refine own_retI X0 hx hlk hret (hb hby d3_16) (by decide) (by decide) ?_
          exact ⟨(2 : Int32), rfl, by simp [own_le, own_hit, hc12, hc12_1, hc12_2], rfl, e0⟩
      · skip
        refine own_iloadN (pc' := 16) X0 hx (hb hby d3_15) rfl rfl ?_
        refine own_retI X0 hx hlk hret (hb hby d3_16) (by decide) (by decide) ?_
        exact ⟨(1 : Int32), rfl, by simp [own_le, own_hit, hc12, hc12_1], rfl, e0⟩
    · skip
      refine own_iloadN (pc' := 16) X0 hx (hb hby d3_15) rfl rfl ?_
      refine own_retI X0 hx hlk hret (hb hby d3_16) (by decide) (by decide) ?_
      exact ⟨(0 : Int32), rfl, by simp [own_le, own_hit, hc12], rfl, e0⟩
  · skip
    show own_WP _ _ _ _ _ _ _ (s₁.setTop (mkF m 0 #[.val (.ref a1), .val (.int (1 : Int32)), .val (.int (0 : Int32)), .unset] []))
    refine own_iloadN (pc' := 1) X0 hx (hb hby d3_0) rfl rfl ?_
    refine own_istoreN (pc' := 2) (l' := #[.val (.ref a1), .val (.int (1 : Int32)), .val (.int (0 : Int32)), .val (.int (1 : Int32))]) X0 hx (hb hby d3_1) rfl rfl rfl ?_
    refine own_iloadN (pc' := 3) X0 hx (hb hby d3_2) rfl rfl ?_
    refine own_iloadN (pc' := 4) X0 hx (hb hby d3_3) rfl rfl ?_
    refine own_icmp_ge (pt := 23) (pf := 7) X0 hx (hb hby d3_4) rfl (by decide) rfl (fun hc4 => ?_) (fun hc4 => absurd hc4 (by decide))
    refine own_iconst (pc' := 24) X0 hx (-1 : Int32) (hb hby d3_23) rfl rfl ?_
    refine own_retI X0 hx hlk hret (hb hby d3_24) (by decide) (by decide) ?_
    exact ⟨(-1 : Int32), rfl, by simp [own_le, own_hit], rfl, e0⟩
  · skip
    show own_WP _ _ _ _ _ _ _ (s₁.setTop (mkF m 0 #[.val (.ref a1), .val (.int (1 : Int32)), .val (.int (1 : Int32)), .unset] []))
    refine own_iloadN (pc' := 1) X0 hx (hb hby d3_0) rfl rfl ?_
    refine own_istoreN (pc' := 2) (l' := #[.val (.ref a1), .val (.int (1 : Int32)), .val (.int (1 : Int32)), .val (.int (1 : Int32))]) X0 hx (hb hby d3_1) rfl rfl rfl ?_
    refine own_iloadN (pc' := 3) X0 hx (hb hby d3_2) rfl rfl ?_
    refine own_iloadN (pc' := 4) X0 hx (hb hby d3_3) rfl rfl ?_
    refine own_icmp_ge (pt := 23) (pf := 7) X0 hx (hb hby d3_4) rfl (by decide) rfl (fun hc4 => ?_) (fun hc4 => absurd hc4 (by decide))
    refine own_iconst (pc' := 24) X0 hx (-1 : Int32) (hb hby d3_23) rfl rfl ?_
    refine own_retI X0 hx hlk hret (hb hby d3_24) (by decide) (by decide) ?_
    exact ⟨(-1 : Int32), rfl, by simp [own_le, own_hit], rfl, e0⟩
  · skip
    show own_WP _ _ _ _ _ _ _ (s₁.setTop (mkF m 0 #[.val (.ref a1), .val (.int (1 : Int32)), .val (.int (2 : Int32)), .unset] []))
    refine own_iloadN (pc' := 1) X0 hx (hb hby d3_0) rfl rfl ?_
    refine own_istoreN (pc' := 2) (l' := #[.val (.ref a1), .val (.int (1 : Int32)), .val (.int (2 : Int32)), .val (.int (1 : Int32))]) X0 hx (hb hby d3_1) rfl rfl rfl ?_
    refine own_iloadN (pc' := 3) X0 hx (hb hby d3_2) rfl rfl ?_
    refine own_iloadN (pc' := 4) X0 hx (hb hby d3_3) rfl rfl ?_
    refine own_icmp_ge (pt := 23) (pf := 7) X0 hx (hb hby d3_4) rfl (by decide) rfl (fun hc4 => absurd (by decide) hc4) (fun hc4 => ?_)
    refine own_aloadN (pc' := 8) X0 hx (hb hby d3_7) rfl rfl rfl ?_
    refine own_iloadN (pc' := 9) X0 hx (hb hby d3_8) rfl rfl ?_
    refine own_baload (pc' := 10) (v := (.int b1)) X0 hx hZ e0 V1 ⟨by decide, by decide⟩ rfl (hb hby d3_9) rfl ?_
    refine own_bipush (pc' := 12) X0 hx (10 : Int32) (hb hby d3_10) rfl rfl ?_
    refine own_icmp_ne (pt := 17) (pf := 15) X0 hx (hb hby d3_12) rfl (by decide) rfl (fun hc12 => ?_) (fun hc12 => ?_)
    · skip
      refine own_iinc (pc' := 20) (l' := #[.val (.ref a1), .val (.int (1 : Int32)), .val (.int (2 : Int32)), .val (.int (2 : Int32))]) X0 hx (hb hby d3_17) rfl (by decide) rfl rfl ?_
      refine own_goto (pc' := 2) X0 hx (hb hby d3_20) (by decide) rfl ?_
      refine own_iloadN (pc' := 3) X0 hx (hb hby d3_2) rfl rfl ?_
      refine own_iloadN (pc' := 4) X0 hx (hb hby d3_3) rfl rfl ?_
      refine own_icmp_ge (pt := 23) (pf := 7) X0 hx (hb hby d3_4) rfl (by decide) rfl (fun hc4_1 => ?_) (fun hc4_1 => absurd hc4_1 (by decide))
      refine own_iconst (pc' := 24) X0 hx (-1 : Int32) (hb hby d3_23) rfl rfl ?_
      refine own_retI X0 hx hlk hret (hb hby d3_24) (by decide) (by decide) ?_
      exact ⟨(-1 : Int32), rfl, by simp [own_le, own_hit, hc12], rfl, e0⟩
    · skip
      refine own_iloadN (pc' := 16) X0 hx (hb hby d3_15) rfl rfl ?_
      refine own_retI X0 hx hlk hret (hb hby d3_16) (by decide) (by decide) ?_
      exact ⟨(1 : Int32), rfl, by simp [own_le, own_hit, hc12], rfl, e0⟩
  · skip
    show own_WP _ _ _ _ _ _ _ (s₁.setTop (mkF m 0 #[.val (.ref a1), .val (.int (1 : Int32)), .val (.int (3 : Int32)), .unset] []))
    refine own_iloadN (pc' := 1) X0 hx (hb hby d3_0) rfl rfl ?_
    refine own_istoreN (pc' := 2) (l' := #[.val (.ref a1), .val (.int (1 : Int32)), .val (.int (3 : Int32)), .val (.int (1 : Int32))]) X0 hx (hb hby d3_1) rfl rfl rfl ?_
    refine own_iloadN (pc' := 3) X0 hx (hb hby d3_2) rfl rfl ?_
    refine own_iloadN (pc' := 4) X0 hx (hb hby d3_3) rfl rfl ?_
    refine own_icmp_ge (pt := 23) (pf := 7) X0 hx (hb hby d3_4) rfl (by decide) rfl (fun hc4 => absurd (by decide) hc4) (fun hc4 => ?_)
    refine own_aloadN (pc' := 8) X0 hx (hb hby d3_7) rfl rfl rfl ?_
    refine own_iloadN (pc' := 9) X0 hx (hb hby d3_8) rfl rfl ?_
    refine own_baload (pc' := 10) (v := (.int b1)) X0 hx hZ e0 V1 ⟨by decide, by decide⟩ rfl (hb hby d3_9) rfl ?_
    refine own_bipush (pc' := 12) X0 hx (10 : Int32) (hb hby d3_10) rfl rfl ?_
    refine own_icmp_ne (pt := 17) (pf := 15) X0 hx (hb hby d3_12) rfl (by decide) rfl (fun hc12 => ?_) (fun hc12 => ?_)
    · skip
      refine own_iinc (pc' := 20) (l' := #[.val (.ref a1), .val (.int (1 : Int32)), .val (.int (3 : Int32)), .val (.int (2 : Int32))]) X0 hx (hb hby d3_17) rfl (by decide) rfl rfl ?_
      refine own_goto (pc' := 2) X0 hx (hb hby d3_20) (by decide) rfl ?_
      refine own_iloadN (pc' := 3) X0 hx (hb hby d3_2) rfl rfl ?_
      refine own_iloadN (pc' := 4) X0 hx (hb hby d3_3) rfl rfl ?_
      refine own_icmp_ge (pt := 23) (pf := 7) X0 hx (hb hby d3_4) rfl (by decide) rfl (fun hc4_1 => absurd (by decide) hc4_1) (fun hc4_1 => ?_)
      refine own_aloadN (pc' := 8) X0 hx (hb hby d3_7) rfl rfl rfl ?_
      refine own_iloadN (pc' := 9) X0 hx (hb hby d3_8) rfl rfl ?_
      refine own_baload (pc' := 10) (v := (.int b2)) X0 hx hZ e0 V1 ⟨by decide, by decide⟩ rfl (hb hby d3_9) rfl ?_
      refine own_bipush (pc' := 12) X0 hx (10 : Int32) (hb hby d3_10) rfl rfl ?_
      refine own_icmp_ne (pt := 17) (pf := 15) X0 hx (hb hby d3_12) rfl (by decide) rfl (fun hc12_1 => ?_) (fun hc12_1 => ?_)
      · skip
        refine own_iinc (pc' := 20) (l' := #[.val (.ref a1), .val (.int (1 : Int32)), .val (.int (3 : Int32)), .val (.int (3 : Int32))]) X0 hx (hb hby d3_17) rfl (by decide) rfl rfl ?_
        refine own_goto (pc' := 2) X0 hx (hb hby d3_20) (by decide) rfl ?_
        refine own_iloadN (pc' := 3) X0 hx (hb hby d3_2) rfl rfl ?_
        refine own_iloadN (pc' := 4) X0 hx (hb hby d3_3) rfl rfl ?_
        refine own_icmp_ge (pt := 23) (pf := 7) X0 hx (hb hby d3_4) rfl (by decide) rfl (fun hc4_2 => ?_) (fun hc4_2 => absurd hc4_2 (by decide))
        refine own_iconst (pc' := 24) X0 hx (-1 : Int32) (hb hby d3_23) rfl rfl ?_
        refine own_retI X0 hx hlk hret (hb hby d3_24) (by decide) (by decide) ?_
        exact ⟨(-1 : Int32), rfl, by simp [own_le, own_hit, hc12, hc12_1], rfl, e0⟩
      · skip
        refine own_iloadN (pc' := 16) X0 hx (hb hby d3_15) rfl rfl ?_
        refine own_retI X0 hx hlk hret (hb hby d3_16) (by decide) (by decide) ?_
        exact ⟨(2 : Int32), rfl, by simp [own_le, own_hit, hc12, hc12_1], rfl, e0⟩
    · skip
      refine own_iloadN (pc' := 16) X0 hx (hb hby d3_15) rfl rfl ?_
      refine own_retI X0 hx hlk hret (hb hby d3_16) (by decide) (by decide) ?_
      exact ⟨(1 : Int32), rfl, by simp [own_le, own_hit, hc12], rfl, e0⟩
  · skip
    show own_WP _ _ _ _ _ _ _ (s₁.setTop (mkF m 0 #[.val (.ref a1), .val (.int (1 : Int32)), .val (.int (4 : Int32)), .unset] []))
    refine own_iloadN (pc' := 1) X0 hx (hb hby d3_0) rfl rfl ?_
    refine own_istoreN (pc' := 2) (l' := #[.val (.ref a1), .val (.int (1 : Int32)), .val (.int (4 : Int32)), .val (.int (1 : Int32))]) X0 hx (hb hby d3_1) rfl rfl rfl ?_
    refine own_iloadN (pc' := 3) X0 hx (hb hby d3_2) rfl rfl ?_
    refine own_iloadN (pc' := 4) X0 hx (hb hby d3_3) rfl rfl ?_
    refine own_icmp_ge (pt := 23) (pf := 7) X0 hx (hb hby d3_4) rfl (by decide) rfl (fun hc4 => absurd (by decide) hc4) (fun hc4 => ?_)
    refine own_aloadN (pc' := 8) X0 hx (hb hby d3_7) rfl rfl rfl ?_
    refine own_iloadN (pc' := 9) X0 hx (hb hby d3_8) rfl rfl ?_
    refine own_baload (pc' := 10) (v := (.int b1)) X0 hx hZ e0 V1 ⟨by decide, by decide⟩ rfl (hb hby d3_9) rfl ?_
    refine own_bipush (pc' := 12) X0 hx (10 : Int32) (hb hby d3_10) rfl rfl ?_
    refine own_icmp_ne (pt := 17) (pf := 15) X0 hx (hb hby d3_12) rfl (by decide) rfl (fun hc12 => ?_) (fun hc12 => ?_)
    · skip
      refine own_iinc (pc' := 20) (l' := #[.val (.ref a1), .val (.int (1 : Int32)), .val (.int (4 : Int32)), .val (.int (2 : Int32))]) X0 hx (hb hby d3_17) rfl (by decide) rfl rfl ?_
      refine own_goto (pc' := 2) X0 hx (hb hby d3_20) (by decide) rfl ?_
      refine own_iloadN (pc' := 3) X0 hx (hb hby d3_2) rfl rfl ?_
      refine own_iloadN (pc' := 4) X0 hx (hb hby d3_3) rfl rfl ?_
      refine own_icmp_ge (pt := 23) (pf := 7) X0 hx (hb hby d3_4) rfl (by decide) rfl (fun hc4_1 => absurd (by decide) hc4_1) (fun hc4_1 => ?_)
      refine own_aloadN (pc' := 8) X0 hx (hb hby d3_7) rfl rfl rfl ?_
      refine own_iloadN (pc' := 9) X0 hx (hb hby d3_8) rfl rfl ?_
      refine own_baload (pc' := 10) (v := (.int b2)) X0 hx hZ e0 V1 ⟨by decide, by decide⟩ rfl (hb hby d3_9) rfl ?_
      refine own_bipush (pc' := 12) X0 hx (10 : Int32) (hb hby d3_10) rfl rfl ?_
      refine own_icmp_ne (pt := 17) (pf := 15) X0 hx (hb hby d3_12) rfl (by decide) rfl (fun hc12_1 => ?_) (fun hc12_1 => ?_)
      · skip
        refine own_iinc (pc' := 20) (l' := #[.val (.ref a1), .val (.int (1 : Int32)), .val (.int (4 : Int32)), .val (.int (3 : Int32))]) X0 hx (hb hby d3_17) rfl (by decide) rfl rfl ?_
        refine own_goto (pc' := 2) X0 hx (hb hby d3_20) (by decide) rfl ?_
        refine own_iloadN (pc' := 3) X0 hx (hb hby d3_2) rfl rfl ?_
        refine own_iloadN (pc' := 4) X0 hx (hb hby d3_3) rfl rfl ?_
        refine own_icmp_ge (pt := 23) (pf := 7) X0 hx (hb hby d3_4) rfl (by decide) rfl (fun hc4_2 => absurd (by decide) hc4_2) (fun hc4_2 => ?_)
        refine own_aloadN (pc' := 8) X0 hx (hb hby d3_7) rfl rfl rfl ?_
        refine own_iloadN (pc' := 9) X0 hx (hb hby d3_8) rfl rfl ?_
        refine own_baload (pc' := 10) (v := (.int b3)) X0 hx hZ e0 V1 ⟨by decide, by decide⟩ rfl (hb hby d3_9) rfl ?_
        refine own_bipush (pc' := 12) X0 hx (10 : Int32) (hb hby d3_10) rfl rfl ?_
        refine own_icmp_ne (pt := 17) (pf := 15) X0 hx (hb hby d3_12) rfl (by decide) rfl (fun hc12_2 => ?_) (fun hc12_2 => ?_)
        · skip
          refine own_iinc (pc' := 20) (l' := #[.val (.ref a1), .val (.int (1 : Int32)), .val (.int (4 : Int32)), .val (.int (4 : Int32))]) X0 hx (hb hby d3_17) rfl (by decide) rfl rfl ?_
          refine own_goto (pc' := 2) X0 hx (hb hby d3_20) (by decide) rfl ?_
          refine own_iloadN (pc' := 3) X0 hx (hb hby d3_2) rfl rfl ?_
          refine own_iloadN (pc' := 4) X0 hx (hb hby d3_3) rfl rfl ?_
          refine own_icmp_ge (pt := 23) (pf := 7) X0 hx (hb hby d3_4) rfl (by decide) rfl (fun hc4_3 => ?_) (fun hc4_3 => absurd hc4_3 (by decide))
          refine own_iconst (pc' := 24) X0 hx (-1 : Int32) (hb hby d3_23) rfl rfl ?_
          refine own_retI X0 hx hlk hret (hb hby d3_24) (by decide) (by decide) ?_
          exact ⟨(-1 : Int32), rfl, by simp [own_le, own_hit, hc12, hc12_1, hc12_2], rfl, e0⟩
        · skip
          refine own_iloadN (pc' := 16) X0 hx (hb hby d3_15) rfl rfl ?_
          refine own_retI X0 hx hlk hret (hb hby d3_16) (by decide) (by decide) ?_
          exact ⟨(3 : Int32), rfl, by simp [own_le, own_hit, hc12, hc12_1, hc12_2], rfl, e0⟩
      · skip
        refine own_iloadN (pc' := 16) X0 hx (hb hby d3_15) rfl rfl ?_
        refine own_retI X0 hx hlk hret (hb hby d3_16) (by decide) (by decide) ?_
        exact ⟨(2 : Int32), rfl, by simp [own_le, own_hit, hc12, hc12_1], rfl, e0⟩
    · skip
      refine own_iloadN (pc' := 16) X0 hx (hb hby d3_15) rfl rfl ?_
      refine own_retI X0 hx hlk hret (hb hby d3_16) (by decide) (by decide) ?_
      exact ⟨(1 : Int32), rfl, by simp [own_le, own_hit, hc12], rfl, e0⟩
  · skip
    show own_WP _ _ _ _ _ _ _ (s₁.setTop (mkF m 0 #[.val (.ref a1), .val (.int (1 : Int32)), .val (.int (5 : Int32)), .unset] []))
    refine own_iloadN (pc' := 1) X0 hx (hb hby d3_0) rfl rfl ?_
    refine own_istoreN (pc' := 2) (l' := #[.val (.ref a1), .val (.int (1 : Int32)), .val (.int (5 : Int32)), .val (.int (1 : Int32))]) X0 hx (hb hby d3_1) rfl rfl rfl ?_
    refine own_iloadN (pc' := 3) X0 hx (hb hby d3_2) rfl rfl ?_
    refine own_iloadN (pc' := 4) X0 hx (hb hby d3_3) rfl rfl ?_
    refine own_icmp_ge (pt := 23) (pf := 7) X0 hx (hb hby d3_4) rfl (by decide) rfl (fun hc4 => absurd (by decide) hc4) (fun hc4 => ?_)
    refine own_aloadN (pc' := 8) X0 hx (hb hby d3_7) rfl rfl rfl ?_
    refine own_iloadN (pc' := 9) X0 hx (hb hby d3_8) rfl rfl ?_
    refine own_baload (pc' := 10) (v := (.int b1)) X0 hx hZ e0 V1 ⟨by decide, by decide⟩ rfl (hb hby d3_9) rfl ?_
    refine own_bipush (pc' := 12) X0 hx (10 : Int32) (hb hby d3_10) rfl rfl ?_
    refine own_icmp_ne (pt := 17) (pf := 15) X0 hx (hb hby d3_12) rfl (by decide) rfl (fun hc12 => ?_) (fun hc12 => ?_)
    · skip
      refine own_iinc (pc' := 20) (l' := #[.val (.ref a1), .val (.int (1 : Int32)), .val (.int (5 : Int32)), .val (.int (2 : Int32))]) X0 hx (hb hby d3_17) rfl (by decide) rfl rfl ?_
      refine own_goto (pc' := 2) X0 hx (hb hby d3_20) (by decide) rfl ?_
      refine own_iloadN (pc' := 3) X0 hx (hb hby d3_2) rfl rfl ?_
      refine own_iloadN (pc' := 4) X0 hx (hb hby d3_3) rfl rfl ?_
      refine own_icmp_ge (pt := 23) (pf := 7) X0 hx (hb hby d3_4) rfl (by decide) rfl (fun hc4_1 => absurd (by decide) hc4_1) (fun hc4_1 => ?_)
      refine own_aloadN (pc' := 8) X0 hx (hb hby d3_7) rfl rfl rfl ?_
      refine own_iloadN (pc' := 9) X0 hx (hb hby d3_8) rfl rfl ?_
      refine own_baload (pc' := 10) (v := (.int b2)) X0 hx hZ e0 V1 ⟨by decide, by decide⟩ rfl (hb hby d3_9) rfl ?_
      refine own_bipush (pc' := 12) X0 hx (10 : Int32) (hb hby d3_10) rfl rfl ?_
      refine own_icmp_ne (pt := 17) (pf := 15) X0 hx (hb hby d3_12) rfl (by decide) rfl (fun hc12_1 => ?_) (fun hc12_1 => ?_)
      · skip
        refine own_iinc (pc' := 20) (l' := #[.val (.ref a1), .val (.int (1 : Int32)), .val (.int (5 : Int32)), .val (.int (3 : Int32))]) X0 hx (hb hby d3_17) rfl (by decide) rfl rfl ?_
        refine own_goto (pc' := 2) X0 hx (hb hby d3_20) (by decide) rfl ?_
        refine own_iloadN (pc' := 3) X0 hx (hb hby d3_2) rfl rfl ?_
        refine own_iloadN (pc' := 4) X0 hx (hb hby d3_3) rfl rfl ?_
        refine own_icmp_ge (pt := 23) (pf := 7) X0 hx (hb hby d3_4) rfl (by decide) rfl (fun hc4_2 => absurd (by decide) hc4_2) (fun hc4_2 => ?_)
        refine own_aloadN (pc' := 8) X0 hx (hb hby d3_7) rfl rfl rfl ?_
        refine own_iloadN (pc' := 9) X0 hx (hb hby d3_8) rfl rfl ?_
        refine own_baload (pc' := 10) (v := (.int b3)) X0 hx hZ e0 V1 ⟨by decide, by decide⟩ rfl (hb hby d3_9) rfl ?_
        refine own_bipush (pc' := 12) X0 hx (10 : Int32) (hb hby d3_10) rfl rfl ?_
        refine own_icmp_ne (pt := 17) (pf := 15) X0 hx (hb hby d3_12) rfl (by decide) rfl (fun hc12_2 => ?_) (fun hc12_2 => ?_)
        · skip
          refine own_iinc (pc' := 20) (l' := #[.val (.ref a1), .val (.int (1 : Int32)), .val (.int (5 : Int32)), .val (.int (4 : Int32))]) X0 hx (hb hby d3_17) rfl (by decide) rfl rfl ?_
          refine own_goto (pc' := 2) X0 hx (hb hby d3_20) (by decide) rfl ?_
          refine own_iloadN (pc' := 3) X0 hx (hb hby d3_2) rfl rfl ?_
          refine own_iloadN (pc' := 4) X0 hx (hb hby d3_3) rfl rfl ?_
          refine own_icmp_ge (pt := 23) (pf := 7) X0 hx (hb hby d3_4) rfl (by decide) rfl (fun hc4_3 => absurd (by decide) hc4_3) (fun hc4_3 => ?_)
          refine own_aloadN (pc' := 8) X0 hx (hb hby d3_7) rfl rfl rfl ?_
          refine own_iloadN (pc' := 9) X0 hx (hb hby d3_8) rfl rfl ?_
          refine own_baload (pc' := 10) (v := (.int b4)) X0 hx hZ e0 V1 ⟨by decide, by decide⟩ rfl (hb hby d3_9) rfl ?_
          refine own_bipush (pc' := 12) X0 hx (10 : Int32) (hb hby d3_10) rfl rfl ?_
          refine own_icmp_ne (pt := 17) (pf := 15) X0 hx (hb hby d3_12) rfl (by decide) rfl (fun hc12_3 => ?_) (fun hc12_3 => ?_)
          · skip
            refine own_iinc (pc' := 20) (l' := #[.val (.ref a1), .val (.int (1 : Int32)), .val (.int (5 : Int32)), .val (.int (5 : Int32))]) X0 hx (hb hby d3_17) rfl (by decide) rfl rfl ?_
            refine own_goto (pc' := 2) X0 hx (hb hby d3_20) (by decide) rfl ?_
            refine own_iloadN (pc' := 3) X0 hx (hb hby d3_2) rfl rfl ?_
            refine own_iloadN (pc' := 4) X0 hx (hb hby d3_3) rfl rfl ?_
            refine own_icmp_ge (pt := 23) (pf := 7) X0 hx (hb hby d3_4) rfl (by decide) rfl (fun hc4_4 => ?_) (fun hc4_4 => absurd hc4_4 (by decide))
            refine own_iconst (pc' := 24) X0 hx (-1 : Int32) (hb hby d3_23) rfl rfl ?_
            refine own_retI X0 hx hlk hret (hb hby d3_24) (by decide) (by decide) ?_
            exact ⟨(-1 : Int32), rfl, by simp [own_le, own_hit, hc12, hc12_1, hc12_2, hc12_3], rfl, e0⟩
          · skip
            refine own_iloadN (pc' := 16) X0 hx (hb hby d3_15) rfl rfl ?_
            refine own_retI X0 hx hlk hret (hb hby d3_16) (by decide) (by decide) ?_
            exact ⟨(4 : Int32), rfl, by simp [own_le, own_hit, hc12, hc12_1, hc12_2, hc12_3], rfl, e0⟩
        · skip
          refine own_iloadN (pc' := 16) X0 hx (hb hby d3_15) rfl rfl ?_
          refine own_retI X0 hx hlk hret (hb hby d3_16) (by decide) (by decide) ?_
          exact ⟨(3 : Int32), rfl, by simp [own_le, own_hit, hc12, hc12_1, hc12_2], rfl, e0⟩
      · skip
        refine own_iloadN (pc' := 16) X0 hx (hb hby d3_15) rfl rfl ?_
        refine own_retI X0 hx hlk hret (hb hby d3_16) (by decide) (by decide) ?_
        exact ⟨(2 : Int32), rfl, by simp [own_le, own_hit, hc12, hc12_1], rfl, e0⟩
    · skip
      refine own_iloadN (pc' := 16) X0 hx (hb hby d3_15) rfl rfl ?_
      refine own_retI X0 hx hlk hret (hb hby d3_16) (by decide) (by decide) ?_
      exact ⟨(1 : Int32), rfl, by simp [own_le, own_hit, hc12], rfl, e0⟩
  · skip
    show own_WP _ _ _ _ _ _ _ (s₁.setTop (mkF m 0 #[.val (.ref a1), .val (.int (2 : Int32)), .val (.int (0 : Int32)), .unset] []))
    refine own_iloadN (pc' := 1) X0 hx (hb hby d3_0) rfl rfl ?_
    refine own_istoreN (pc' := 2) (l' := #[.val (.ref a1), .val (.int (2 : Int32)), .val (.int (0 : Int32)), .val (.int (2 : Int32))]) X0 hx (hb hby d3_1) rfl rfl rfl ?_
    refine own_iloadN (pc' := 3) X0 hx (hb hby d3_2) rfl rfl ?_
    refine own_iloadN (pc' := 4) X0 hx (hb hby d3_3) rfl rfl ?_
    refine own_icmp_ge (pt := 23) (pf := 7) X0 hx (hb hby d3_4) rfl (by decide) rfl (fun hc4 => ?_) (fun hc4 => absurd hc4 (by decide))
    refine own_iconst (pc' := 24) X0 hx (-1 : Int32) (hb hby d3_23) rfl rfl ?_
    refine own_retI X0 hx hlk hret (hb hby d3_24) (by decide) (by decide) ?_
    exact ⟨(-1 : Int32), rfl, by simp [own_le, own_hit], rfl, e0⟩
  · skip
    show own_WP _ _ _ _ _ _ _ (s₁.setTop (mkF m 0 #[.val (.ref a1), .val (.int (2 : Int32)), .val (.int (1 : Int32)), .unset] []))
    refine own_iloadN (pc' := 1) X0 hx (hb hby d3_0) rfl rfl ?_
    refine own_istoreN (pc' := 2) (l' := #[.val (.ref a1), .val (.int (2 : Int32)), .val (.int (1 : Int32)), .val (.int (2 : Int32))]) X0 hx (hb hby d3_1) rfl rfl rfl ?_
    refine own_iloadN (pc' := 3) X0 hx (hb hby d3_2) rfl rfl ?_
    refine own_iloadN (pc' := 4) X0 hx (hb hby d3_3) rfl rfl ?_
    refine own_icmp_ge (pt := 23) (pf := 7) X0 hx (hb hby d3_4) rfl (by decide) rfl (fun hc4 => ?_) (fun hc4 => absurd hc4 (by decide))
    refine own_iconst (pc' := 24) X0 hx (-1 : Int32) (hb hby d3_23) rfl rfl ?_
    refine own_retI X0 hx hlk hret (hb hby d3_24) (by decide) (by decide) ?_
    exact ⟨(-1 : Int32), rfl, by simp [own_le, own_hit], rfl, e0⟩
  · skip
    show own_WP _ _ _ _ _ _ _ (s₁.setTop (mkF m 0 #[.val (.ref a1), .val (.int (2 : Int32)), .val (.int (2 : Int32)), .unset] []))
    refine own_iloadN (pc' := 1) X0 hx (hb hby d3_0) rfl rfl ?_
    refine own_istoreN (pc' := 2) (l' := #[.val (.ref a1), .val (.int (2 : Int32)), .val (.int (2 : Int32)), .val (.int (2 : Int32))]) X0 hx (hb hby d3_1) rfl rfl rfl ?_
    refine own_iloadN (pc' := 3) X0 hx (hb hby d3_2) rfl rfl ?_
    refine own_iloadN (pc' := 4) X0 hx (hb hby d3_3) rfl rfl ?_
    refine own_icmp_ge (pt := 23) (pf := 7) X0 hx (hb hby d3_4) rfl (by decide) rfl (fun hc4 => ?_) (fun hc4 => absurd hc4 (by decide))
    refine own_iconst (pc' := 24) X0 hx (-1 : Int32) (hb hby d3_23) rfl rfl ?_
    refine own_retI X0 hx hlk hret (hb hby d3_24) (by decide) (by decide) ?_
    exact ⟨(-1 : Int32), rfl, by simp [own_le, own_hit], rfl, e0⟩
  · skip
    show own_WP _ _ _ _ _ _ _ (s₁.setTop (mkF m 0 #[.val (.ref a1), .val (.int (2 : Int32)), .val (.int (3 : Int32)), .unset] []))
    refine own_iloadN (pc' := 1) X0 hx (hb hby d3_0) rfl rfl ?_
    refine own_istoreN (pc' := 2) (l' := #[.val (.ref a1), .val (.int (2 : Int32)), .val (.int (3 : Int32)), .val (.int (2 : Int32))]) X0 hx (hb hby d3_1) rfl rfl rfl ?_
    refine own_iloadN (pc' := 3) X0 hx (hb hby d3_2) rfl rfl ?_
    refine own_iloadN (pc' := 4) X0 hx (hb hby d3_3) rfl rfl ?_
    refine own_icmp_ge (pt := 23) (pf := 7) X0 hx (hb hby d3_4) rfl (by decide) rfl (fun hc4 => absurd (by decide) hc4) (fun hc4 => ?_)
    refine own_aloadN (pc' := 8) X0 hx (hb hby d3_7) rfl rfl rfl ?_
    refine own_iloadN (pc' := 9) X0 hx (hb hby d3_8) rfl rfl ?_
    refine own_baload (pc' := 10) (v := (.int b2)) X0 hx hZ e0 V1 ⟨by decide, by decide⟩ rfl (hb hby d3_9) rfl ?_
    refine own_bipush (pc' := 12) X0 hx (10 : Int32) (hb hby d3_10) rfl rfl ?_
    refine own_icmp_ne (pt := 17) (pf := 15) X0 hx (hb hby d3_12) rfl (by decide) rfl (fun hc12 => ?_) (fun hc12 => ?_)
    · skip
      refine own_iinc (pc' := 20) (l' := #[.val (.ref a1), .val (.int (2 : Int32)), .val (.int (3 : Int32)), .val (.int (3 : Int32))]) X0 hx (hb hby d3_17) rfl (by decide) rfl rfl ?_
      refine own_goto (pc' := 2) X0 hx (hb hby d3_20) (by decide) rfl ?_
      refine own_iloadN (pc' := 3) X0 hx (hb hby d3_2) rfl rfl ?_
      refine own_iloadN (pc' := 4) X0 hx (hb hby d3_3) rfl rfl ?_
      refine own_icmp_ge (pt := 23) (pf := 7) X0 hx (hb hby d3_4) rfl (by decide) rfl (fun hc4_1 => ?_) (fun hc4_1 => absurd hc4_1 (by decide))
      refine own_iconst (pc' := 24) X0 hx (-1 : Int32) (hb hby d3_23) rfl rfl ?_
      refine own_retI X0 hx hlk hret (hb hby d3_24) (by decide) (by decide) ?_
      exact ⟨(-1 : Int32), rfl, by simp [own_le, own_hit, hc12], rfl, e0⟩
    · skip
      refine own_iloadN (pc' := 16) X0 hx (hb hby d3_15) rfl rfl ?_
      refine own_retI X0 hx hlk hret (hb hby d3_16) (by decide) (by decide) ?_
      exact ⟨(2 : Int32), rfl, by simp [own_le, own_hit, hc12], rfl, e0⟩
  · skip
    show own_WP _ _ _ _ _ _ _ (s₁.setTop (mkF m 0 #[.val (.ref a1), .val (.int (2 : Int32)), .val (.int (4 : Int32)), .unset] []))
    refine own_iloadN (pc' := 1) X0 hx (hb hby d3_0) rfl rfl ?_
    refine own_istoreN (pc' := 2) (l' := #[.val (.ref a1), .val (.int (2 : Int32)), .val (.int (4 : Int32)), .val (.int (2 : Int32))]) X0 hx (hb hby d3_1) rfl rfl rfl ?_
    refine own_iloadN (pc' := 3) X0 hx (hb hby d3_2) rfl rfl ?_
    refine own_iloadN (pc' := 4) X0 hx (hb hby d3_3) rfl rfl ?_
    refine own_icmp_ge (pt := 23) (pf := 7) X0 hx (hb hby d3_4) rfl (by decide) rfl (fun hc4 => absurd (by decide) hc4) (fun hc4 => ?_)
    refine own_aloadN (pc' := 8) X0 hx (hb hby d3_7) rfl rfl rfl ?_
    refine own_iloadN (pc' := 9) X0 hx (hb hby d3_8) rfl rfl ?_
    refine own_baload (pc' := 10) (v := (.int b2)) X0 hx hZ e0 V1 ⟨by decide, by decide⟩ rfl (hb hby d3_9) rfl ?_
    refine own_bipush (pc' := 12) X0 hx (10 : Int32) (hb hby d3_10) rfl rfl ?_
    refine own_icmp_ne (pt := 17) (pf := 15) X0 hx (hb hby d3_12) rfl (by decide) rfl (fun hc12 => ?_) (fun hc12 => ?_)
    · skip
      refine own_iinc (pc' := 20) (l' := #[.val (.ref a1), .val (.int (2 : Int32)), .val (.int (4 : Int32)), .val (.int (3 : Int32))]) X0 hx (hb hby d3_17) rfl (by decide) rfl rfl ?_
      refine own_goto (pc' := 2) X0 hx (hb hby d3_20) (by decide) rfl ?_
      refine own_iloadN (pc' := 3) X0 hx (hb hby d3_2) rfl rfl ?_
      refine own_iloadN (pc' := 4) X0 hx (hb hby d3_3) rfl rfl ?_
      refine own_icmp_ge (pt := 23) (pf := 7) X0 hx (hb hby d3_4) rfl (by decide) rfl (fun hc4_1 => absurd (by decide) hc4_1) (fun hc4_1 => ?_)
      refine own_aloadN (pc' := 8) X0 hx (hb hby d3_7) rfl rfl rfl ?_
      refine own_iloadN (pc' := 9) X0 hx (hb hby d3_8) rfl rfl ?_
      refine own_baload (pc' := 10) (v := (.int b3)) X0 hx hZ e0 V1 ⟨by decide, by decide⟩ rfl (hb hby d3_9) rfl ?_
      refine own_bipush (pc' := 12) X0 hx (10 : Int32) (hb hby d3_10) rfl rfl ?_
      refine own_icmp_ne (pt := 17) (pf := 15) X0 hx (hb hby d3_12) rfl (by decide) rfl (fun hc12_1 => ?_) (fun hc12_1 => ?_)
      · skip
        refine own_iinc (pc' := 20) (l' := #[.val (.ref a1), .val (.int (2 : Int32)), .val (.int (4 : Int32)), .val (.int (4 : Int32))]) X0 hx (hb hby d3_17) rfl (by decide) rfl rfl ?_
        refine own_goto (pc' := 2) X0 hx (hb hby d3_20) (by decide) rfl ?_
        refine own_iloadN (pc' := 3) X0 hx (hb hby d3_2) rfl rfl ?_
        refine own_iloadN (pc' := 4) X0 hx (hb hby d3_3) rfl rfl ?_
        refine own_icmp_ge (pt := 23) (pf := 7) X0 hx (hb hby d3_4) rfl (by decide) rfl (fun hc4_2 => ?_) (fun hc4_2 => absurd hc4_2 (by decide))
        refine own_iconst (pc' := 24) X0 hx (-1 : Int32) (hb hby d3_23) rfl rfl ?_
        refine own_retI X0 hx hlk hret (hb hby d3_24) (by decide) (by decide) ?_
        exact ⟨(-1 : Int32), rfl, by simp [own_le, own_hit, hc12, hc12_1], rfl, e0⟩
      · skip
        refine own_iloadN (pc' := 16) X0 hx (hb hby d3_15) rfl rfl ?_
        refine own_retI X0 hx hlk hret (hb hby d3_16) (by decide) (by decide) ?_
        exact ⟨(3 : Int32), rfl, by simp [own_le, own_hit, hc12, hc12_1], rfl, e0⟩
    · skip
      refine own_iloadN (pc' := 16) X0 hx (hb hby d3_15) rfl rfl ?_
      refine own_retI X0 hx hlk hret (hb hby d3_16) (by decide) (by decide) ?_
      exact ⟨(2 : Int32), rfl, by simp [own_le, own_hit, hc12], rfl, e0⟩
  · skip
    show own_WP _ _ _ _ _ _ _ (s₁.setTop (mkF m 0 #[.val (.ref a1), .val (.int (2 : Int32)), .val (.int (5 : Int32)), .unset] []))
    refine own_iloadN (pc' := 1) X0 hx (hb hby d3_0) rfl rfl ?_
    refine own_istoreN (pc' := 2) (l' := #[.val (.ref a1), .val (.int (2 : Int32)), .val (.int (5 : Int32)), .val (.int (2 : Int32))]) X0 hx (hb hby d3_1) rfl rfl rfl ?_
    refine own_iloadN (pc' := 3) X0 hx (hb hby d3_2) rfl rfl ?_
    refine own_iloadN (pc' := 4) X0 hx (hb hby d3_3) rfl rfl ?_
    refine own_icmp_ge (pt := 23) (pf := 7) X0 hx (hb hby d3_4) rfl (by decide) rfl (fun hc4 => absurd (by decide) hc4) (fun hc4 => ?_)
    refine own_aloadN (pc' := 8) X0 hx (hb hby d3_7) rfl rfl rfl ?_
    refine own_iloadN (pc' := 9) X0 hx (hb hby d3_8) rfl rfl ?_
    refine own_baload (pc' := 10) (v := (.int b2)) X0 hx hZ e0 V1 ⟨by decide, by decide⟩ rfl (hb hby d3_9) rfl ?_
    refine own_bipush (pc' := 12) X0 hx (10 : Int32) (hb hby d3_10) rfl rfl ?_
    refine own_icmp_ne (pt := 17) (pf := 15) X0 hx (hb hby d3_12) rfl (by decide) rfl (fun hc12 => ?_) (fun hc12 => ?_)
    · skip
      refine own_iinc (pc' := 20) (l' := #[.val (.ref a1), .val (.int (2 : Int32)), .val (.int (5 : Int32)), .val (.int (3 : Int32))]) X0 hx (hb hby d3_17) rfl (by decide) rfl rfl ?_
      refine own_goto (pc' := 2) X0 hx (hb hby d3_20) (by decide) rfl ?_
      refine own_iloadN (pc' := 3) X0 hx (hb hby d3_2) rfl rfl ?_
      refine own_iloadN (pc' := 4) X0 hx (hb hby d3_3) rfl rfl ?_
      refine own_icmp_ge (pt := 23) (pf := 7) X0 hx (hb hby d3_4) rfl (by decide) rfl (fun hc4_1 => absurd (by decide) hc4_1) (fun hc4_1 => ?_)
      refine own_aloadN (pc' := 8) X0 hx (hb hby d3_7) rfl rfl rfl ?_
      refine own_iloadN (pc' := 9) X0 hx (hb hby d3_8) rfl rfl ?_
      refine own_baload (pc' := 10) (v := (.int b3)) X0 hx hZ e0 V1 ⟨by decide, by decide⟩ rfl (hb hby d3_9) rfl ?_
      refine own_bipush (pc' := 12) X0 hx (10 : Int32) (hb hby d3_10) rfl rfl ?_
      refine own_icmp_ne (pt := 17) (pf := 15) X0 hx (hb hby d3_12) rfl (by decide) rfl (fun hc12_1 => ?_) (fun hc12_1 => ?_)
      · skip
        refine own_iinc (pc' := 20) (l' := #[.val (.ref a1), .val (.int (2 : Int32)), .val (.int (5 : Int32)), .val (.int (4 : Int32))]) X0 hx (hb hby d3_17) rfl (by decide) rfl rfl ?_
        refine own_goto (pc' := 2) X0 hx (hb hby d3_20) (by decide) rfl ?_
        refine own_iloadN (pc' := 3) X0 hx (hb hby d3_2) rfl rfl ?_
        refine own_iloadN (pc' := 4) X0 hx (hb hby d3_3) rfl rfl ?_
        refine own_icmp_ge (pt := 23) (pf := 7) X0 hx (hb hby d3_4) rfl (by decide) rfl (fun hc4_2 => absurd (by decide) hc4_2) (fun hc4_2 => ?_)
        refine own_aloadN (pc' := 8) X0 hx (hb hby d3_7) rfl rfl rfl ?_
        refine own_iloadN (pc' := 9) X0 hx (hb hby d3_8) rfl rfl ?_
        refine own_baload (pc' := 10) (v := (.int b4)) X0 hx hZ e0 V1 ⟨by decide, by decide⟩ rfl (hb hby d3_9) rfl ?_
        refine own_bipush (pc' := 12) X0 hx (10 : Int32) (hb hby d3_10) rfl rfl ?_
        refine own_icmp_ne (pt := 17) (pf := 15) X0 hx (hb hby d3_12) rfl (by decide) rfl (fun hc12_2 => ?_) (fun hc12_2 => ?_)
        · skip
          refine own_iinc (pc' := 20) (l' := #[.val (.ref a1), .val (.int (2 : Int32)), .val (.int (5 : Int32)), .val (.int (5 : Int32))]) X0 hx (hb hby d3_17) rfl (by decide) rfl rfl ?_
          refine own_goto (pc' := 2) X0 hx (hb hby d3_20) (by decide) rfl ?_
          refine own_iloadN (pc' := 3) X0 hx (hb hby d3_2) rfl rfl ?_
          refine own_iloadN (pc' := 4) X0 hx (hb hby d3_3) rfl rfl ?_
          refine own_icmp_ge (pt := 23) (pf := 7) X0 hx (hb hby d3_4) rfl (by decide) rfl (fun hc4_3 => ?_) (fun hc4_3 => absurd hc4_3 (by decide))
          refine own_iconst (pc' := 24) X0 hx (-1 : Int32) (hb hby d3_23) rfl rfl ?_
          refine own_retI X0 hx hlk hret (hb hby d3_24) (by decide) (by decide) ?_
          exact ⟨(-1 : Int32), rfl, by simp [own_le, own_hit, hc12, hc12_1, hc12_2], rfl, e0⟩
        · skip
          refine own_iloadN (pc' := 16) X0 hx (hb hby d3_15) rfl rfl ?_
          refine own_retI X0 hx hlk hret (hb hby d3_16) (by decide) (by decide) ?_
          exact ⟨(4 : Int32), rfl, by simp [own_le, own_hit, hc12, hc12_1, hc12_2], rfl, e0⟩
      · skip
        refine own_iloadN (pc' := 16) X0 hx (hb hby d3_15) rfl rfl ?_
        refine own_retI X0 hx hlk hret (hb hby d3_16) (by decide) (by decide) ?_
        exact ⟨(3 : Int32), rfl, by simp [own_le, own_hit, hc12, hc12_1], rfl, e0⟩
    · skip
      refine own_iloadN (pc' := 16) X0 hx (hb hby d3_15) rfl rfl ?_
      refine own_retI X0 hx hlk hret (hb hby d3_16) (by decide) (by decide) ?_
      exact ⟨(2 : Int32), rfl, by simp [own_le, own_hit, hc12], rfl, e0⟩
  · skip
    show own_WP _ _ _ _ _ _ _ (s₁.setTop (mkF m 0 #[.val (.ref a1), .val (.int (3 : Int32)), .val (.int (0 : Int32)), .unset] []))
    refine own_iloadN (pc' := 1) X0 hx (hb hby d3_0) rfl rfl ?_
    refine own_istoreN (pc' := 2) (l' := #[.val (.ref a1), .val (.int (3 : Int32)), .val (.int (0 : Int32)), .val (.int (3 : Int32))]) X0 hx (hb hby d3_1) rfl rfl rfl ?_
    refine own_iloadN (pc' := 3) X0 hx (hb hby d3_2) rfl rfl ?_
    refine own_iloadN (pc' := 4) X0 hx (hb hby d3_3) rfl rfl ?_
    refine own_icmp_ge (pt := 23) (pf := 7) X0 hx (hb hby d3_4) rfl (by decide) rfl (fun hc4 => ?_) (fun hc4 => absurd hc4 (by decide))
    refine own_iconst (pc' := 24) X0 hx (-1 : Int32) (hb hby d3_23) rfl rfl ?_
    refine own_retI X0 hx hlk hret (hb hby d3_24) (by decide) (by decide) ?_
    exact ⟨(-1 : Int32), rfl, by simp [own_le, own_hit], rfl, e0⟩
  · skip
    show own_WP _ _ _ _ _ _ _ (s₁.setTop (mkF m 0 #[.val (.ref a1), .val (.int (3 : Int32)), .val (.int (1 : Int32)), .unset] []))
    refine own_iloadN (pc' := 1) X0 hx (hb hby d3_0) rfl rfl ?_
    refine own_istoreN (pc' := 2) (l' := #[.val (.ref a1), .val (.int (3 : Int32)), .val (.int (1 : Int32)), .val (.int (3 : Int32))]) X0 hx (hb hby d3_1) rfl rfl rfl ?_
    refine own_iloadN (pc' := 3) X0 hx (hb hby d3_2) rfl rfl ?_
    refine own_iloadN (pc' := 4) X0 hx (hb hby d3_3) rfl rfl ?_
    refine own_icmp_ge (pt := 23) (pf := 7) X0 hx (hb hby d3_4) rfl (by decide) rfl (fun hc4 => ?_) (fun hc4 => absurd hc4 (by decide))
    refine own_iconst (pc' := 24) X0 hx (-1 : Int32) (hb hby d3_23) rfl rfl ?_
    refine own_retI X0 hx hlk hret (hb hby d3_24) (by decide) (by decide) ?_
    exact ⟨(-1 : Int32), rfl, by simp [own_le, own_hit], rfl, e0⟩
  · skip
    show own_WP _ _ _ _ _ _ _ (s₁.setTop (mkF m 0 #[.val (.ref a1), .val (.int (3 : Int32)), .val (.int (2 : Int32)), .unset] []))
    refine own_iloadN (pc' := 1) X0 hx (hb hby d3_0) rfl rfl ?_
    refine own_istoreN (pc' := 2) (l' := #[.val (.ref a1), .val (.int (3 : Int32)), .val (.int (2 : Int32)), .val (.int (3 : Int32))]) X0 hx (hb hby d3_1) rfl rfl rfl ?_
    refine own_iloadN (pc' := 3) X0 hx (hb hby d3_2) rfl rfl ?_
    refine own_iloadN (pc' := 4) X0 hx (hb hby d3_3) rfl rfl ?_
    refine own_icmp_ge (pt := 23) (pf := 7) X0 hx (hb hby d3_4) rfl (by decide) rfl (fun hc4 => ?_) (fun hc4 => absurd hc4 (by decide))
    refine own_iconst (pc' := 24) X0 hx (-1 : Int32) (hb hby d3_23) rfl rfl ?_
    refine own_retI X0 hx hlk hret (hb hby d3_24) (by decide) (by decide) ?_
    exact ⟨(-1 : Int32), rfl, by simp [own_le, own_hit], rfl, e0⟩
  · skip
    show own_WP _ _ _ _ _ _ _ (s₁.setTop (mkF m 0 #[.val (.ref a1), .val (.int (3 : Int32)), .val (.int (3 : Int32)), .unset] []))
    refine own_iloadN (pc' := 1) X0 hx (hb hby d3_0) rfl rfl ?_
    refine own_istoreN (pc' := 2) (l' := #[.val (.ref a1), .val (.int (3 : Int32)), .val (.int (3 : Int32)), .val (.int (3 : Int32))]) X0 hx (hb hby d3_1) rfl rfl rfl ?_
    refine own_iloadN (pc' := 3) X0 hx (hb hby d3_2) rfl rfl ?_
    refine own_iloadN (pc' := 4) X0 hx (hb hby d3_3) rfl rfl ?_
    refine own_icmp_ge (pt := 23) (pf := 7) X0 hx (hb hby d3_4) rfl (by decide) rfl (fun hc4 => ?_) (fun hc4 => absurd hc4 (by decide))
    refine own_iconst (pc' := 24) X0 hx (-1 : Int32) (hb hby d3_23) rfl rfl ?_
    refine own_retI X0 hx hlk hret (hb hby d3_24) (by decide) (by decide) ?_
    exact ⟨(-1 : Int32), rfl, by simp [own_le, own_hit], rfl, e0⟩
  · skip
    show own_WP _ _ _ _ _ _ _ (s₁.setTop (mkF m 0 #[.val (.ref a1), .val (.int (3 : Int32)), .val (.int (4 : Int32)), .unset] []))
    refine own_iloadN (pc' := 1) X0 hx (hb hby d3_0) rfl rfl ?_
    refine own_istoreN (pc' := 2) (l' := #[.val (.ref a1), .val (.int (3 : Int32)), .val (.int (4 : Int32)), .val (.int (3 : Int32))]) X0 hx (hb hby d3_1) rfl rfl rfl ?_
    refine own_iloadN (pc' := 3) X0 hx (hb hby d3_2) rfl rfl ?_
    refine own_iloadN (pc' := 4) X0 hx (hb hby d3_3) rfl rfl ?_
    refine own_icmp_ge (pt := 23) (pf := 7) X0 hx (hb hby d3_4) rfl (by decide) rfl (fun hc4 => absurd (by decide) hc4) (fun hc4 => ?_)
    refine own_aloadN (pc' := 8) X0 hx (hb hby d3_7) rfl rfl rfl ?_
    refine own_iloadN (pc' := 9) X0 hx (hb hby d3_8) rfl rfl ?_
    refine own_baload (pc' := 10) (v := (.int b3)) X0 hx hZ e0 V1 ⟨by decide, by decide⟩ rfl (hb hby d3_9) rfl ?_
    refine own_bipush (pc' := 12) X0 hx (10 : Int32) (hb hby d3_10) rfl rfl ?_
    refine own_icmp_ne (pt := 17) (pf := 15) X0 hx (hb hby d3_12) rfl (by decide) rfl (fun hc12 => ?_) (fun hc12 => ?_)
    · skip
      refine own_iinc (pc' := 20) (l' := #[.val (.ref a1), .val (.int (3 : Int32)), .val (.int (4 : Int32)), .val (.int (4 : Int32))]) X0 hx (hb hby d3_17) rfl (by decide) rfl rfl ?_
      refine own_goto (pc' := 2) X0 hx (hb hby d3_20) (by decide) rfl ?_
      refine own_iloadN (pc' := 3) X0 hx (hb hby d3_2) rfl rfl ?_
      refine own_iloadN (pc' := 4) X0 hx (hb hby d3_3) rfl rfl ?_
      refine own_icmp_ge (pt := 23) (pf := 7) X0 hx (hb hby d3_4) rfl (by decide) rfl (fun hc4_1 => ?_) (fun hc4_1 => absurd hc4_1 (by decide))
      refine own_iconst (pc' := 24) X0 hx (-1 : Int32) (hb hby d3_23) rfl rfl ?_
      refine own_retI X0 hx hlk hret (hb hby d3_24) (by decide) (by decide) ?_
      exact ⟨(-1 : Int32), rfl, by simp [own_le, own_hit, hc12], rfl, e0⟩
    · skip
      refine own_iloadN (pc' := 16) X0 hx (hb hby d3_15) rfl rfl ?_
      refine own_retI X0 hx hlk hret (hb hby d3_16) (by decide) (by decide) ?_
      exact ⟨(3 : Int32), rfl, by simp [own_le, own_hit, hc12], rfl, e0⟩
  · skip
    show own_WP _ _ _ _ _ _ _ (s₁.setTop (mkF m 0 #[.val (.ref a1), .val (.int (3 : Int32)), .val (.int (5 : Int32)), .unset] []))
    refine own_iloadN (pc' := 1) X0 hx (hb hby d3_0) rfl rfl ?_
    refine own_istoreN (pc' := 2) (l' := #[.val (.ref a1), .val (.int (3 : Int32)), .val (.int (5 : Int32)), .val (.int (3 : Int32))]) X0 hx (hb hby d3_1) rfl rfl rfl ?_
    refine own_iloadN (pc' := 3) X0 hx (hb hby d3_2) rfl rfl ?_
    refine own_iloadN (pc' := 4) X0 hx (hb hby d3_3) rfl rfl ?_
    refine own_icmp_ge (pt := 23) (pf := 7) X0 hx (hb hby d3_4) rfl (by decide) rfl (fun hc4 => absurd (by decide) hc4) (fun hc4 => ?_)
    refine own_aloadN (pc' := 8) X0 hx (hb hby d3_7) rfl rfl rfl ?_
    refine own_iloadN (pc' := 9) X0 hx (hb hby d3_8) rfl rfl ?_
    refine own_baload (pc' := 10) (v := (.int b3)) X0 hx hZ e0 V1 ⟨by decide, by decide⟩ rfl (hb hby d3_9) rfl ?_
    refine own_bipush (pc' := 12) X0 hx (10 : Int32) (hb hby d3_10) rfl rfl ?_
    refine own_icmp_ne (pt := 17) (pf := 15) X0 hx (hb hby d3_12) rfl (by decide) rfl (fun hc12 => ?_) (fun hc12 => ?_)
    · skip
      refine own_iinc (pc' := 20) (l' := #[.val (.ref a1), .val (.int (3 : Int32)), .val (.int (5 : Int32)), .val (.int (4 : Int32))]) X0 hx (hb hby d3_17) rfl (by decide) rfl rfl ?_
      refine own_goto (pc' := 2) X0 hx (hb hby d3_20) (by decide) rfl ?_
      refine own_iloadN (pc' := 3) X0 hx (hb hby d3_2) rfl rfl ?_
      refine own_iloadN (pc' := 4) X0 hx (hb hby d3_3) rfl rfl ?_
      refine own_icmp_ge (pt := 23) (pf := 7) X0 hx (hb hby d3_4) rfl (by decide) rfl (fun hc4_1 => absurd (by decide) hc4_1) (fun hc4_1 => ?_)
      refine own_aloadN (pc' := 8) X0 hx (hb hby d3_7) rfl rfl rfl ?_
      refine own_iloadN (pc' := 9) X0 hx (hb hby d3_8) rfl rfl ?_
      refine own_baload (pc' := 10) (v := (.int b4)) X0 hx hZ e0 V1 ⟨by decide, by decide⟩ rfl (hb hby d3_9) rfl ?_
      refine own_bipush (pc' := 12) X0 hx (10 : Int32) (hb hby d3_10) rfl rfl ?_
      refine own_icmp_ne (pt := 17) (pf := 15) X0 hx (hb hby d3_12) rfl (by decide) rfl (fun hc12_1 => ?_) (fun hc12_1 => ?_)
      · skip
        refine own_iinc (pc' := 20) (l' := #[.val (.ref a1), .val (.int (3 : Int32)), .val (.int (5 : Int32)), .val (.int (5 : Int32))]) X0 hx (hb hby d3_17) rfl (by decide) rfl rfl ?_
        refine own_goto (pc' := 2) X0 hx (hb hby d3_20) (by decide) rfl ?_
        refine own_iloadN (pc' := 3) X0 hx (hb hby d3_2) rfl rfl ?_
        refine own_iloadN (pc' := 4) X0 hx (hb hby d3_3) rfl rfl ?_
        refine own_icmp_ge (pt := 23) (pf := 7) X0 hx (hb hby d3_4) rfl (by decide) rfl (fun hc4_2 => ?_) (fun hc4_2 => absurd hc4_2 (by decide))
        refine own_iconst (pc' := 24) X0 hx (-1 : Int32) (hb hby d3_23) rfl rfl ?_
        refine own_retI X0 hx hlk hret (hb hby d3_24) (by decide) (by decide) ?_
        exact ⟨(-1 : Int32), rfl, by simp [own_le, own_hit, hc12, hc12_1], rfl, e0⟩
      · skip
        refine own_iloadN (pc' := 16) X0 hx (hb hby d3_15) rfl rfl ?_
        refine own_retI X0 hx hlk hret (hb hby d3_16) (by decide) (by decide) ?_
        exact ⟨(4 : Int32), rfl, by simp [own_le, own_hit, hc12, hc12_1], rfl, e0⟩
    · skip
      refine own_iloadN (pc' := 16) X0 hx (hb hby d3_15) rfl rfl ?_
      refine own_retI X0 hx hlk hret (hb hby d3_16) (by decide) (by decide) ?_
      exact ⟨(3 : Int32), rfl, by simp [own_le, own_hit, hc12], rfl, e0⟩
  · skip
    show own_WP _ _ _ _ _ _ _ (s₁.setTop (mkF m 0 #[.val (.ref a1), .val (.int (4 : Int32)), .val (.int (0 : Int32)), .unset] []))
    refine own_iloadN (pc' := 1) X0 hx (hb hby d3_0) rfl rfl ?_
    refine own_istoreN (pc' := 2) (l' := #[.val (.ref a1), .val (.int (4 : Int32)), .val (.int (0 : Int32)), .val (.int (4 : Int32))]) X0 hx (hb hby d3_1) rfl rfl rfl ?_
    refine own_iloadN (pc' := 3) X0 hx (hb hby d3_2) rfl rfl ?_
    refine own_iloadN (pc' := 4) X0 hx (hb hby d3_3) rfl rfl ?_
    refine own_icmp_ge (pt := 23) (pf := 7) X0 hx (hb hby d3_4) rfl (by decide) rfl (fun hc4 => ?_) (fun hc4 => absurd hc4 (by decide))
    refine own_iconst (pc' := 24) X0 hx (-1 : Int32) (hb hby d3_23) rfl rfl ?_
    refine own_retI X0 hx hlk hret (hb hby d3_24) (by decide) (by decide) ?_
    exact ⟨(-1 : Int32), rfl, by simp [own_le, own_hit], rfl, e0⟩
  · skip
    show own_WP _ _ _ _ _ _ _ (s₁.setTop (mkF m 0 #[.val (.ref a1), .val (.int (4 : Int32)), .val (.int (1 : Int32)), .unset] []))
    refine own_iloadN (pc' := 1) X0 hx (hb hby d3_0) rfl rfl ?_
    refine own_istoreN (pc' := 2) (l' := #[.val (.ref a1), .val (.int (4 : Int32)), .val (.int (1 : Int32)), .val (.int (4 : Int32))]) X0 hx (hb hby d3_1) rfl rfl rfl ?_
    refine own_iloadN (pc' := 3) X0 hx (hb hby d3_2) rfl rfl ?_
    refine own_iloadN (pc' := 4) X0 hx (hb hby d3_3) rfl rfl ?_
    refine own_icmp_ge (pt := 23) (pf := 7) X0 hx (hb hby d3_4) rfl (by decide) rfl (fun hc4 => ?_) (fun hc4 => absurd hc4 (by decide))
    refine own_iconst (pc' := 24) X0 hx (-1 : Int32) (hb hby d3_23) rfl rfl ?_
    refine own_retI X0 hx hlk hret (hb hby d3_24) (by decide) (by decide) ?_
    exact ⟨(-1 : Int32), rfl, by simp [own_le, own_hit], rfl, e0⟩
  · skip
    show own_WP _ _ _ _ _ _ _ (s₁.setTop (mkF m 0 #[.val (.ref a1), .val (.int (4 : Int32)), .val (.int (2 : Int32)), .unset] []))
    refine own_iloadN (pc' := 1) X0 hx (hb hby d3_0) rfl rfl ?_
    refine own_istoreN (pc' := 2) (l' := #[.val (.ref a1), .val (.int (4 : Int32)), .val (.int (2 : Int32)), .val (.int (4 : Int32))]) X0 hx (hb hby d3_1) rfl rfl rfl ?_
    refine own_iloadN (pc' := 3) X0 hx (hb hby d3_2) rfl rfl ?_
    refine own_iloadN (pc' := 4) X0 hx (hb hby d3_3) rfl rfl ?_
    refine own_icmp_ge (pt := 23) (pf := 7) X0 hx (hb hby d3_4) rfl (by decide) rfl (fun hc4 => ?_) (fun hc4 => absurd hc4 (by decide))
    refine own_iconst (pc' := 24) X0 hx (-1 : Int32) (hb hby d3_23) rfl rfl ?_
    refine own_retI X0 hx hlk hret (hb hby d3_24) (by decide) (by decide) ?_
    exact ⟨(-1 : Int32), rfl, by simp [own_le, own_hit], rfl, e0⟩
  · skip
    show own_WP _ _ _ _ _ _ _ (s₁.setTop (mkF m 0 #[.val (.ref a1), .val (.int (4 : Int32)), .val (.int (3 : Int32)), .unset] []))
    refine own_iloadN (pc' := 1) X0 hx (hb hby d3_0) rfl rfl ?_
    refine own_istoreN (pc' := 2) (l' := #[.val (.ref a1), .val (.int (4 : Int32)), .val (.int (3 : Int32)), .val (.int (4 : Int32))]) X0 hx (hb hby d3_1) rfl rfl rfl ?_
    refine own_iloadN (pc' := 3) X0 hx (hb hby d3_2) rfl rfl ?_
    refine own_iloadN (pc' := 4) X0 hx (hb hby d3_3) rfl rfl ?_
    refine own_icmp_ge (pt := 23) (pf := 7) X0 hx (hb hby d3_4) rfl (by decide) rfl (fun hc4 => ?_) (fun hc4 => absurd hc4 (by decide))
    refine own_iconst (pc' := 24) X0 hx (-1 : Int32) (hb hby d3_23) rfl rfl ?_
    refine own_retI X0 hx hlk hret (hb hby d3_24) (by decide) (by decide) ?_
    exact ⟨(-1 : Int32), rfl, by simp [own_le, own_hit], rfl, e0⟩
  · skip
    show own_WP _ _ _ _ _ _ _ (s₁.setTop (mkF m 0 #[.val (.ref a1), .val (.int (4 : Int32)), .val (.int (4 : Int32)), .unset] []))
    refine own_iloadN (pc' := 1) X0 hx (hb hby d3_0) rfl rfl ?_
    refine own_istoreN (pc' := 2) (l' := #[.val (.ref a1), .val (.int (4 : Int32)), .val (.int (4 : Int32)), .val (.int (4 : Int32))]) X0 hx (hb hby d3_1) rfl rfl rfl ?_
    refine own_iloadN (pc' := 3) X0 hx (hb hby d3_2) rfl rfl ?_
    refine own_iloadN (pc' := 4) X0 hx (hb hby d3_3) rfl rfl ?_
    refine own_icmp_ge (pt := 23) (pf := 7) X0 hx (hb hby d3_4) rfl (by decide) rfl (fun hc4 => ?_) (fun hc4 => absurd hc4 (by decide))
    refine own_iconst (pc' := 24) X0 hx (-1 : Int32) (hb hby d3_23) rfl rfl ?_
    refine own_retI X0 hx hlk hret (hb hby d3_24) (by decide) (by decide) ?_
    exact ⟨(-1 : Int32), rfl, by simp [own_le, own_hit], rfl, e0⟩
  · skip
    show own_WP _ _ _ _ _ _ _ (s₁.setTop (mkF m 0 #[.val (.ref a1), .val (.int (4 : Int32)), .val (.int (5 : Int32)), .unset] []))
    refine own_iloadN (pc' := 1) X0 hx (hb hby d3_0) rfl rfl ?_
    refine own_istoreN (pc' := 2) (l' := #[.val (.ref a1), .val (.int (4 : Int32)), .val (.int (5 : Int32)), .val (.int (4 : Int32))]) X0 hx (hb hby d3_1) rfl rfl rfl ?_
    refine own_iloadN (pc' := 3) X0 hx (hb hby d3_2) rfl rfl ?_
    refine own_iloadN (pc' := 4) X0 hx (hb hby d3_3) rfl rfl ?_
    refine own_icmp_ge (pt := 23) (pf := 7) X0 hx (hb hby d3_4) rfl (by decide) rfl (fun hc4 => absurd (by decide) hc4) (fun hc4 => ?_)
    refine own_aloadN (pc' := 8) X0 hx (hb hby d3_7) rfl rfl rfl ?_
    refine own_iloadN (pc' := 9) X0 hx (hb hby d3_8) rfl rfl ?_
    refine own_baload (pc' := 10) (v := (.int b4)) X0 hx hZ e0 V1 ⟨by decide, by decide⟩ rfl (hb hby d3_9) rfl ?_
    refine own_bipush (pc' := 12) X0 hx (10 : Int32) (hb hby d3_10) rfl rfl ?_
    refine own_icmp_ne (pt := 17) (pf := 15) X0 hx (hb hby d3_12) rfl (by decide) rfl (fun hc12 => ?_) (fun hc12 => ?_)
    · skip
      refine own_iinc (pc' := 20) (l' := #[.val (.ref a1), .val (.int (4 : Int32)), .val (.int (5 : Int32)), .val (.int (5 : Int32))]) X0 hx (hb hby d3_17) rfl (by decide) rfl rfl ?_
      refine own_goto (pc' := 2) X0 hx (hb hby d3_20) (by decide) rfl ?_
      refine own_iloadN (pc' := 3) X0 hx (hb hby d3_2) rfl rfl ?_
      refine own_iloadN (pc' := 4) X0 hx (hb hby d3_3) rfl rfl ?_
      refine own_icmp_ge (pt := 23) (pf := 7) X0 hx (hb hby d3_4) rfl (by decide) rfl (fun hc4_1 => ?_) (fun hc4_1 => absurd hc4_1 (by decide))
      refine own_iconst (pc' := 24) X0 hx (-1 : Int32) (hb hby d3_23) rfl rfl ?_
      refine own_retI X0 hx hlk hret (hb hby d3_24) (by decide) (by decide) ?_
      exact ⟨(-1 : Int32), rfl, by simp [own_le, own_hit, hc12], rfl, e0⟩
    · skip
      refine own_iloadN (pc' := 16) X0 hx (hb hby d3_15) rfl rfl ?_
      refine own_retI X0 hx hlk hret (hb hby d3_16) (by decide) (by decide) ?_
      exact ⟨(4 : Int32), rfl, by simp [own_le, own_hit, hc12], rfl, e0⟩
  · skip
    show own_WP _ _ _ _ _ _ _ (s₁.setTop (mkF m 0 #[.val (.ref a1), .val (.int (5 : Int32)), .val (.int (0 : Int32)), .unset] []))
    refine own_iloadN (pc' := 1) X0 hx (hb hby d3_0) rfl rfl ?_
    refine own_istoreN (pc' := 2) (l' := #[.val (.ref a1), .val (.int (5 : Int32)), .val (.int (0 : Int32)), .val (.int (5 : Int32))]) X0 hx (hb hby d3_1) rfl rfl rfl ?_
    refine own_iloadN (pc' := 3) X0 hx (hb hby d3_2) rfl rfl ?_
    refine own_iloadN (pc' := 4) X0 hx (hb hby d3_3) rfl rfl ?_
    refine own_icmp_ge (pt := 23) (pf := 7) X0 hx (hb hby d3_4) rfl (by decide) rfl (fun hc4 => ?_) (fun hc4 => absurd hc4 (by decide))
    refine own_iconst (pc' := 24) X0 hx (-1 : Int32) (hb hby d3_23) rfl rfl ?_
    refine own_retI X0 hx hlk hret (hb hby d3_24) (by decide) (by decide) ?_
    exact ⟨(-1 : Int32), rfl, by simp [own_le, own_hit], rfl, e0⟩
  · skip
    show own_WP _ _ _ _ _ _ _ (s₁.setTop (mkF m 0 #[.val (.ref a1), .val (.int (5 : Int32)), .val (.int (1 : Int32)), .unset] []))
    refine own_iloadN (pc' := 1) X0 hx (hb hby d3_0) rfl rfl ?_
    refine own_istoreN (pc' := 2) (l' := #[.val (.ref a1), .val (.int (5 : Int32)), .val (.int (1 : Int32)), .val (.int (5 : Int32))]) X0 hx (hb hby d3_1) rfl rfl rfl ?_
    refine own_iloadN (pc' := 3) X0 hx (hb hby d3_2) rfl rfl ?_
    refine own_iloadN (pc' := 4) X0 hx (hb hby d3_3) rfl rfl ?_
    refine own_icmp_ge (pt := 23) (pf := 7) X0 hx (hb hby d3_4) rfl (by decide) rfl (fun hc4 => ?_) (fun hc4 => absurd hc4 (by decide))
    refine own_iconst (pc' := 24) X0 hx (-1 : Int32) (hb hby d3_23) rfl rfl ?_
    refine own_retI X0 hx hlk hret (hb hby d3_24) (by decide) (by decide) ?_
    exact ⟨(-1 : Int32), rfl, by simp [own_le, own_hit], rfl, e0⟩
  · skip
    show own_WP _ _ _ _ _ _ _ (s₁.setTop (mkF m 0 #[.val (.ref a1), .val (.int (5 : Int32)), .val (.int (2 : Int32)), .unset] []))
    refine own_iloadN (pc' := 1) X0 hx (hb hby d3_0) rfl rfl ?_
    refine own_istoreN (pc' := 2) (l' := #[.val (.ref a1), .val (.int (5 : Int32)), .val (.int (2 : Int32)), .val (.int (5 : Int32))]) X0 hx (hb hby d3_1) rfl rfl rfl ?_
    refine own_iloadN (pc' := 3) X0 hx (hb hby d3_2) rfl rfl ?_
    refine own_iloadN (pc' := 4) X0 hx (hb hby d3_3) rfl rfl ?_
    refine own_icmp_ge (pt := 23) (pf := 7) X0 hx (hb hby d3_4) rfl (by decide) rfl (fun hc4 => ?_) (fun hc4 => absurd hc4 (by decide))
    refine own_iconst (pc' := 24) X0 hx (-1 : Int32) (hb hby d3_23) rfl rfl ?_
    refine own_retI X0 hx hlk hret (hb hby d3_24) (by decide) (by decide) ?_
    exact ⟨(-1 : Int32), rfl, by simp [own_le, own_hit], rfl, e0⟩
  · skip
    show own_WP _ _ _ _ _ _ _ (s₁.setTop (mkF m 0 #[.val (.ref a1), .val (.int (5 : Int32)), .val (.int (3 : Int32)), .unset] []))
    refine own_iloadN (pc' := 1) X0 hx (hb hby d3_0) rfl rfl ?_
    refine own_istoreN (pc' := 2) (l' := #[.val (.ref a1), .val (.int (5 : Int32)), .val (.int (3 : Int32)), .val (.int (5 : Int32))]) X0 hx (hb hby d3_1) rfl rfl rfl ?_
    refine own_iloadN (pc' := 3) X0 hx (hb hby d3_2) rfl rfl ?_
    refine own_iloadN (pc' := 4) X0 hx (hb hby d3_3) rfl rfl ?_
    refine own_icmp_ge (pt := 23) (pf := 7) X0 hx (hb hby d3_4) rfl (by decide) rfl (fun hc4 => ?_) (fun hc4 => absurd hc4 (by decide))
    refine own_iconst (pc' := 24) X0 hx (-1 : Int32) (hb hby d3_23) rfl rfl ?_
    refine own_retI X0 hx hlk hret (hb hby d3_24) (by decide) (by decide) ?_
    exact ⟨(-1 : Int32), rfl, by simp [own_le, own_hit], rfl, e0⟩
  · skip
    show own_WP _ _ _ _ _ _ _ (s₁.setTop (mkF m 0 #[.val (.ref a1), .val (.int (5 : Int32)), .val (.int (4 : Int32)), .unset] []))
    refine own_iloadN (pc' := 1) X0 hx (hb hby d3_0) rfl rfl ?_
    refine own_istoreN (pc' := 2) (l' := #[.val (.ref a1), .val (.int (5 : Int32)), .val (.int (4 : Int32)), .val (.int (5 : Int32))]) X0 hx (hb hby d3_1) rfl rfl rfl ?_
    refine own_iloadN (pc' := 3) X0 hx (hb hby d3_2) rfl rfl ?_
    refine own_iloadN (pc' := 4) X0 hx (hb hby d3_3) rfl rfl ?_
    refine own_icmp_ge (pt := 23) (pf := 7) X0 hx (hb hby d3_4) rfl (by decide) rfl (fun hc4 => ?_) (fun hc4 => absurd hc4 (by decide))
    refine own_iconst (pc' := 24) X0 hx (-1 : Int32) (hb hby d3_23) rfl rfl ?_
    refine own_retI X0 hx hlk hret (hb hby d3_24) (by decide) (by decide) ?_
    exact ⟨(-1 : Int32), rfl, by simp [own_le, own_hit], rfl, e0⟩
  · skip
    show own_WP _ _ _ _ _ _ _ (s₁.setTop (mkF m 0 #[.val (.ref a1), .val (.int (5 : Int32)), .val (.int (5 : Int32)), .unset] []))
    refine own_iloadN (pc' := 1) X0 hx (hb hby d3_0) rfl rfl ?_
    refine own_istoreN (pc' := 2) (l' := #[.val (.ref a1), .val (.int (5 : Int32)), .val (.int (5 : Int32)), .val (.int (5 : Int32))]) X0 hx (hb hby d3_1) rfl rfl rfl ?_
    refine own_iloadN (pc' := 3) X0 hx (hb hby d3_2) rfl rfl ?_
    refine own_iloadN (pc' := 4) X0 hx (hb hby d3_3) rfl rfl ?_
    refine own_icmp_ge (pt := 23) (pf := 7) X0 hx (hb hby d3_4) rfl (by decide) rfl (fun hc4 => ?_) (fun hc4 => absurd hc4 (by decide))
    refine own_iconst (pc' := 24) X0 hx (-1 : Int32) (hb hby d3_23) rfl rfl ?_
    refine own_retI X0 hx hlk hret (hb hby d3_24) (by decide) (by decide) ?_
    exact ⟨(-1 : Int32), rfl, by simp [own_le, own_hit], rfl, e0⟩
theorem pn_0 : plainFor x = true := plainFor_of_name (by first | (simp [plainName, overriddenIn]; done) | decide +kernel)
theorem ef_con0 (m : MethodId) (p0 : Int64) (p1 : Int32) (p2 : Int32) (p3 : Int32) : entryFrame m #[(.long p0), (.int p1), (.int p2), (.int p3)] 9 = mkF m 0 #[.val (.long p0), .second, .val (.int p1), .val (.int p2), .val (.int p3), .unset, .unset, .unset, .unset] [] := by first | (simp [entryFrame, mkF, argsToLocals, Value.category]; done) | rfl
theorem pd0 : parseMethodDescriptor "(JII)B" = some ⟨[.long, .int, .int], some .byte⟩ := by decide +kernel
theorem pd1 : parseMethodDescriptor "([BIII)Z" = some ⟨[(.array .byte), .int, .int, .int], some .boolean⟩ := by decide +kernel
theorem pd2 : parseMethodDescriptor "([BII)I" = some ⟨[(.array .byte), .int, .int], some .int⟩ := by decide +kernel
set_option maxRecDepth 65536 in
set_option maxHeartbeats 4000000 in
theorem con0 (l : Launch) (Z : State) (a0 : Array Value) (hw : ∀ d ∈ tables_1, d.before a0 Z = true) (p0 : Int64) (p1 : Int32) (p2 : Int32) (p3 : Int32) (h0 : Heap) (n0 : Nat) (Z0 : n0 ≤ h0.size) :
    own_Con l Z x code maxLocals ret room_1 #[(.long p0), (.int p1), (.int p2), (.int p3)] h0 (fun v h L => v = some (.int 1) ∧ Fr n0 L) := by
  refine own_Con_of pn_0 ?_
  intro p e s m below meth c s₁ X0 hx hby hml hret hlk hnm hown hZ e0
  have hown : s.vm.findClass "com/example/steerage/steerage/agent/HttpHeadLineEndPinLaw" = some m.cls := hown
  have hml : c.maxLocals = 9 := hml
  have hret : meth.sig.returnType = (some .boolean) := hret
  have N0 := Fr.nil n0
  show own_WP _ _ _ _ _ _ _ (s₁.setTop (entryFrame m #[(.long p0), (.int p1), (.int p2), (.int p3)] 9))
  rw [ef_con0 m p0 p1 p2 p3]
  refine own_iconst (pc' := 1) X0 hx (5 : Int32) (hb hby at_0) rfl rfl ?_
  refine own_newP (pc' := 3) (cap := 5) X0 hx hZ (own_w hw 0 rfl) e0 (hb hby at_1) (by decide) (by decide) (by decide) (by decide) (by decide) rfl ?_
  intro T1 h1 k1 b1 g1 X1 e1 E1 A1
  have g_b1 : n0 ≤ b1 := Nat.le_trans Z0 (Nat.le_of_eq g1.symm)
  have z1 : n0 ≤ h1.size := Nat.le_trans Z0 E1.1
  have V1 : Arv Z h1 b1 k1 .byte (5 : Int32) [(.int (0 : Int32)), (.int (0 : Int32)), (.int (0 : Int32)), (.int (0 : Int32)), (.int (0 : Int32))] (.int (0 : Int32)) := (Arv.new A1 (by decide)).pad (pad_rep [] (.int (0 : Int32)) 5)
  refine own_astore (pc' := 5) (l' := #[.val (.long p0), .second, .val (.int p1), .val (.int p2), .val (.int p3), .val (.ref b1), .unset, .unset, .unset]) X1 hx (hb hby at_3) rfl rfl rfl ?_
  refine own_aload (pc' := 7) X1 hx (hb hby at_5) rfl rfl rfl ?_
  refine own_iconst (pc' := 8) X1 hx (0 : Int32) (hb hby at_7) rfl rfl ?_
  refine own_lloadN (pc' := 9) X1 hx (hb hby at_8) rfl rfl ?_
  refine own_iloadN (pc' := 10) X1 hx (hb hby at_9) rfl rfl ?_
  refine own_iconst (pc' := 11) X1 hx (0 : Int32) (hb hby at_10) rfl rfl ?_
  refine own_callS (pc' := 14) (W := 2) (y := (⟨"com/example/steerage/steerage/agent/HttpHeadLineEndPinLaw", "pick", "(JII)B"⟩ : MethodName)) X1 hx hZ hown (own_w hw 1 rfl) (own_w hw 2 rfl) (own_w hw 3 rfl) (own_w hw 4 rfl) (by decide) (conP l Z a0 hw p0 p1 (0 : Int32) _ ) e1 pd0 [(.long p0), (.int p1), (.int (0 : Int32))] [(.int (0 : Int32)), (.ref b1)] rfl rfl rfl (Nat.le_of_eq rfl) (by decide) (by decide) (by rw [hml]; rfl) (hb hby at_11) (by decide) (by decide) rfl ?_
  intro v2 T2 L2 X2 q2
  obtain ⟨r2, rfl, hr2, rfl, e2⟩ := q2
  have N2 := Fr.app N0 (Fr.nil n0)
  show own_WP _ _ _ _ _ _ _ (T2.setTop (mkF m 14 #[.val (.long p0), .second, .val (.int p1), .val (.int p2), .val (.int p3), .val (.ref b1), .unset, .unset, .unset] [(.int r2), (.int (0 : Int32)), (.ref b1)]))
  refine own_bastore (pc' := 15) X2 hx hZ e2 V1 ⟨by decide, by decide⟩ 0 rfl (Nat.le_of_ble_eq_true rfl) (hb hby at_14) rfl ?_
  intro T3 h3 X3 e3 W3 V3
  have z3 : n0 ≤ h3.size := Nat.le_trans z1 (Keep.of_wr W3).1
  have V3 : Arv Z h3 b1 k1 .byte (5 : Int32) [(.int (nar .byte r2)), (.int (0 : Int32)), (.int (0 : Int32)), (.int (0 : Int32)), (.int (0 : Int32))] (.int (0 : Int32)) := V3
  have N3 := Fr.snoc X3 N2 g_b1
  rw [hr2] at V3
  refine own_aload (pc' := 17) X3 hx (hb hby at_15) rfl rfl rfl ?_
  refine own_iconst (pc' := 18) X3 hx (1 : Int32) (hb hby at_17) rfl rfl ?_
  refine own_lloadN (pc' := 19) X3 hx (hb hby at_18) rfl rfl ?_
  refine own_iloadN (pc' := 20) X3 hx (hb hby at_19) rfl rfl ?_
  refine own_iconst (pc' := 21) X3 hx (1 : Int32) (hb hby at_20) rfl rfl ?_
  refine own_callS (pc' := 24) (W := 2) (y := (⟨"com/example/steerage/steerage/agent/HttpHeadLineEndPinLaw", "pick", "(JII)B"⟩ : MethodName)) X3 hx hZ hown (own_w hw 1 rfl) (own_w hw 2 rfl) (own_w hw 3 rfl) (own_w hw 4 rfl) (by decide) (conP l Z a0 hw p0 p1 (1 : Int32) _ ) e3 pd0 [(.long p0), (.int p1), (.int (1 : Int32))] [(.int (1 : Int32)), (.ref b1)] rfl rfl rfl (Nat.le_of_eq rfl) (by decide) (by decide) (by rw [hml]; rfl) (hb hby at_21) (by decide) (by decide) rfl ?_
  intro v4 T4 L4 X4 q4
  obtain ⟨r4, rfl, hr4, rfl, e4⟩ := q4
  have N4 := Fr.app N3 (Fr.nil n0)
  show own_WP _ _ _ _ _ _ _ (T4.setTop (mkF m 24 #[.val (.long p0), .second, .val (.int p1), .val (.int p2), .val (.int p3), .val (.ref b1), .unset, .unset, .unset] [(.int r4), (.int (1 : Int32)), (.ref b1)]))
  refine own_bastore (pc' := 25) X4 hx hZ e4 V3 ⟨by decide, by decide⟩ 1 rfl (Nat.le_of_ble_eq_true rfl) (hb hby at_24) rfl ?_
  intro T5 h5 X5 e5 W5 V5
  have z5 : n0 ≤ h5.size := Nat.le_trans z3 (Keep.of_wr W5).1
  have V5 : Arv Z h5 b1 k1 .byte (5 : Int32) [(.int r2), (.int (nar .byte r4)), (.int (0 : Int32)), (.int (0 : Int32)), (.int (0 : Int32))] (.int (0 : Int32)) := V5
  have N5 := Fr.snoc X5 N4 g_b1
  rw [hr4] at V5
  refine own_aload (pc' := 27) X5 hx (hb hby at_25) rfl rfl rfl ?_
  refine own_iconst (pc' := 28) X5 hx (2 : Int32) (hb hby at_27) rfl rfl ?_
  refine own_lloadN (pc' := 29) X5 hx (hb hby at_28) rfl rfl ?_
  refine own_iloadN (pc' := 30) X5 hx (hb hby at_29) rfl rfl ?_
  refine own_iconst (pc' := 31) X5 hx (2 : Int32) (hb hby at_30) rfl rfl ?_
  refine own_callS (pc' := 34) (W := 2) (y := (⟨"com/example/steerage/steerage/agent/HttpHeadLineEndPinLaw", "pick", "(JII)B"⟩ : MethodName)) X5 hx hZ hown (own_w hw 1 rfl) (own_w hw 2 rfl) (own_w hw 3 rfl) (own_w hw 4 rfl) (by decide) (conP l Z a0 hw p0 p1 (2 : Int32) _ ) e5 pd0 [(.long p0), (.int p1), (.int (2 : Int32))] [(.int (2 : Int32)), (.ref b1)] rfl rfl rfl (Nat.le_of_eq rfl) (by decide) (by decide) (by rw [hml]; rfl) (hb hby at_31) (by decide) (by decide) rfl ?_
  intro v6 T6 L6 X6 q6
  obtain ⟨r6, rfl, hr6, rfl, e6⟩ := q6
  have N6 := Fr.app N5 (Fr.nil n0)
  show own_WP _ _ _ _ _ _ _ (T6.setTop (mkF m 34 #[.val (.long p0), .second, .val (.int p1), .val (.int p2), .val (.int p3), .val (.ref b1), .unset, .unset, .unset] [(.int r6), (.int (2 : Int32)), (.ref b1)]))
  refine own_bastore (pc' := 35) X6 hx hZ e6 V5 ⟨by decide, by decide⟩ 2 rfl (Nat.le_of_ble_eq_true rfl) (hb hby at_34) rfl ?_
  intro T7 h7 X7 e7 W7 V7
  have z7 : n0 ≤ h7.size := Nat.le_trans z5 (Keep.of_wr W7).1
  have V7 : Arv Z h7 b1 k1 .byte (5 : Int32) [(.int r2), (.int r4), (.int (nar .byte r6)), (.int (0 : Int32)), (.int (0 : Int32))] (.int (0 : Int32)) := V7
  have N7 := Fr.snoc X7 N6 g_b1
  rw [hr6] at V7
  refine own_aload (pc' := 37) X7 hx (hb hby at_35) rfl rfl rfl ?_
  refine own_iconst (pc' := 38) X7 hx (3 : Int32) (hb hby at_37) rfl rfl ?_
  refine own_lloadN (pc' := 39) X7 hx (hb hby at_38) rfl rfl ?_
  refine own_iloadN (pc' := 40) X7 hx (hb hby at_39) rfl rfl ?_
  refine own_iconst (pc' := 41) X7 hx (3 : Int32) (hb hby at_40) rfl rfl ?_
  refine own_callS (pc' := 44) (W := 2) (y := (⟨"com/example/steerage/steerage/agent/HttpHeadLineEndPinLaw", "pick", "(JII)B"⟩ : MethodName)) X7 hx hZ hown (own_w hw 1 rfl) (own_w hw 2 rfl) (own_w hw 3 rfl) (own_w hw 4 rfl) (by decide) (conP l Z a0 hw p0 p1 (3 : Int32) _ ) e7 pd0 [(.long p0), (.int p1), (.int (3 : Int32))] [(.int (3 : Int32)), (.ref b1)] rfl rfl rfl (Nat.le_of_eq rfl) (by decide) (by decide) (by rw [hml]; rfl) (hb hby at_41) (by decide) (by decide) rfl ?_
  intro v8 T8 L8 X8 q8
  obtain ⟨r8, rfl, hr8, rfl, e8⟩ := q8
  have N8 := Fr.app N7 (Fr.nil n0)
  show own_WP _ _ _ _ _ _ _ (T8.setTop (mkF m 44 #[.val (.long p0), .second, .val (.int p1), .val (.int p2), .val (.int p3), .val (.ref b1), .unset, .unset, .unset] [(.int r8), (.int (3 : Int32)), (.ref b1)]))
  refine own_bastore (pc' := 45) X8 hx hZ e8 V7 ⟨by decide, by decide⟩ 3 rfl (Nat.le_of_ble_eq_true rfl) (hb hby at_44) rfl ?_
  intro T9 h9 X9 e9 W9 V9
  have z9 : n0 ≤ h9.size := Nat.le_trans z7 (Keep.of_wr W9).1
  have V9 : Arv Z h9 b1 k1 .byte (5 : Int32) [(.int r2), (.int r4), (.int r6), (.int (nar .byte r8)), (.int (0 : Int32))] (.int (0 : Int32)) := V9
  have N9 := Fr.snoc X9 N8 g_b1
  rw [hr8] at V9
  refine own_aload (pc' := 47) X9 hx (hb hby at_45) rfl rfl rfl ?_
  refine own_iconst (pc' := 48) X9 hx (4 : Int32) (hb hby at_47) rfl rfl ?_
  refine own_lloadN (pc' := 49) X9 hx (hb hby at_48) rfl rfl ?_
  refine own_iloadN (pc' := 50) X9 hx (hb hby at_49) rfl rfl ?_
  refine own_iconst (pc' := 51) X9 hx (4 : Int32) (hb hby at_50) rfl rfl ?_
  refine own_callS (pc' := 54) (W := 2) (y := (⟨"com/example/steerage/steerage/agent/HttpHeadLineEndPinLaw", "pick", "(JII)B"⟩ : MethodName)) X9 hx hZ hown (own_w hw 1 rfl) (own_w hw 2 rfl) (own_w hw 3 rfl) (own_w hw 4 rfl) (by decide) (conP l Z a0 hw p0 p1 (4 : Int32) _ ) e9 pd0 [(.long p0), (.int p1), (.int (4 : Int32))] [(.int (4 : Int32)), (.ref b1)] rfl rfl rfl (Nat.le_of_eq rfl) (by decide) (by decide) (by rw [hml]; rfl) (hb hby at_51) (by decide) (by decide) rfl ?_
  intro v10 T10 L10 X10 q10
  obtain ⟨r10, rfl, hr10, rfl, e10⟩ := q10
  have N10 := Fr.app N9 (Fr.nil n0)
  show own_WP _ _ _ _ _ _ _ (T10.setTop (mkF m 54 #[.val (.long p0), .second, .val (.int p1), .val (.int p2), .val (.int p3), .val (.ref b1), .unset, .unset, .unset] [(.int r10), (.int (4 : Int32)), (.ref b1)]))
  refine own_bastore (pc' := 55) X10 hx hZ e10 V9 ⟨by decide, by decide⟩ 4 rfl (Nat.le_of_ble_eq_true rfl) (hb hby at_54) rfl ?_
  intro T11 h11 X11 e11 W11 V11
  have z11 : n0 ≤ h11.size := Nat.le_trans z9 (Keep.of_wr W11).1
  have V11 : Arv Z h11 b1 k1 .byte (5 : Int32) [(.int r2), (.int r4), (.int r6), (.int r8), (.int (nar .byte r10))] (.int (0 : Int32)) := V11
  have N11 := Fr.snoc X11 N10 g_b1
  rw [hr10] at V11
  refine own_iloadN (pc' := 56) X11 hx (hb hby at_55) rfl rfl ?_
  refine own_ldcInt (pc' := 58) X11 hx hZ hown (own_w hw 5 rfl) (hb hby at_56) rfl ?_
  refine own_iand (pc' := 59) X11 hx (hb hby at_58) rfl ?_
  refine own_bipush (pc' := 61) X11 hx (6 : Int32) (hb hby at_59) rfl rfl ?_
  refine own_irem (pc' := 62) X11 hx (hb hby at_61) (by decide) rfl ?_
  obtain ⟨v12, hv12⟩ : ∃ z : Int32, z = ((p2 &&& (2147483647 : Int32)) % (6 : Int32)) := ⟨_, rfl⟩
  refine own_istore (pc' := 64) (l' := #[.val (.long p0), .second, .val (.int p1), .val (.int p2), .val (.int p3), .val (.ref b1), .val (.int v12), .unset, .unset]) X11 hx (hb hby at_62) hv12 rfl rfl ?_
  refine own_iload (pc' := 66) X11 hx (hb hby at_64) rfl rfl ?_
  refine own_ldcInt (pc' := 68) X11 hx hZ hown (own_w hw 5 rfl) (hb hby at_66) rfl ?_
  refine own_iand (pc' := 69) X11 hx (hb hby at_68) rfl ?_
  refine own_bipush (pc' := 71) X11 hx (6 : Int32) (hb hby at_69) rfl rfl ?_
  refine own_irem (pc' := 72) X11 hx (hb hby at_71) (by decide) rfl ?_
  obtain ⟨v13, hv13⟩ : ∃ z : Int32, z = ((p3 &&& (2147483647 : Int32)) % (6 : Int32)) := ⟨_, rfl⟩
  refine own_istore (pc' := 74) (l' := #[.val (.long p0), .second, .val (.int p1), .val (.int p2), .val (.int p3), .val (.ref b1), .val (.int v12), .val (.int v13), .unset]) X11 hx (hb hby at_72) hv13 rfl rfl ?_
  refine own_iconst (pc' := 75) X11 hx (-1 : Int32) (hb hby at_74) rfl rfl ?_
  refine own_istore (pc' := 77) (l' := #[.val (.long p0), .second, .val (.int p1), .val (.int p2), .val (.int p3), .val (.ref b1), .val (.int v12), .val (.int v13), .val (.int (-1 : Int32))]) X11 hx (hb hby at_75) rfl rfl rfl ?_
  refine own_aload (pc' := 79) X11 hx (hb hby at_77) rfl rfl rfl ?_
  refine own_iconst (pc' := 80) X11 hx (4 : Int32) (hb hby at_79) rfl rfl ?_
  refine own_iload (pc' := 82) X11 hx (hb hby at_80) rfl rfl ?_
  refine own_iload (pc' := 84) X11 hx (hb hby at_82) rfl rfl ?_
  refine own_callS (pc' := 87) (W := 0) (y := (⟨"com/example/steerage/steerage/agent/HttpHeadLineEndPinLaw", "hit", "([BIII)Z"⟩ : MethodName)) X11 hx hZ hown (own_w hw 6 rfl) (own_w hw 7 rfl) (own_w hw 3 rfl) (own_w hw 8 rfl) (by decide) (conH4 l Z a0 hw b1 v12 v13 _ k1 r2 r4 r6 r8 r10 V11) e11 pd1 [(.ref b1), (.int (4 : Int32)), (.int v12), (.int v13)] [] rfl rfl rfl (Nat.le_of_eq rfl) (by decide) (by decide) (by rw [hml]; rfl) (hb hby at_84) (by decide) (by decide) rfl ?_
  intro v14 T14 L14 X14 q14
  obtain ⟨r14, rfl, hr14, rfl, e14⟩ := q14
  have N14 := Fr.app N11 (Fr.nil n0)
  show own_WP _ _ _ _ _ _ _ (T14.setTop (mkF m 87 #[.val (.long p0), .second, .val (.int p1), .val (.int p2), .val (.int p3), .val (.ref b1), .val (.int v12), .val (.int v13), .val (.int (-1 : Int32))] [(.int r14)]))
  refine own_join (fun jx4 : Int32 => jx4 = own_sel r14 4 (-1 : Int32)) (fun jx4 => T14.setTop (mkF m 93 #[.val (.long p0), .second, .val (.int p1), .val (.int p2), .val (.int p3), .val (.ref b1), .val (.int v12), .val (.int v13), .val (.int jx4)] [])) (fun J93 => ?_) (fun jx4 hjx4 => ?_)
  · skip
    refine own_if_eq (pt := 93) (pf := 90) X14 hx (hb hby at_87) rfl (by decide) rfl (fun hc87 => ?_) (fun hc87 => ?_)
    · skip
      exact J93 (-1 : Int32) (by simp [own_sel, hc87])
    · skip
      refine own_iconst (pc' := 91) X14 hx (4 : Int32) (hb hby at_90) rfl rfl ?_
      refine own_istore (pc' := 93) (l' := #[.val (.long p0), .second, .val (.int p1), .val (.int p2), .val (.int p3), .val (.ref b1), .val (.int v12), .val (.int v13), .val (.int (4 : Int32))]) X14 hx (hb hby at_91) rfl rfl rfl ?_
      exact J93 (4 : Int32) (by simp [own_sel, hc87])
  · skip
    show own_WP _ _ _ _ _ _ _ (T14.setTop (mkF m 93 #[.val (.long p0), .second, .val (.int p1), .val (.int p2), .val (.int p3), .val (.ref b1), .val (.int v12), .val (.int v13), .val (.int jx4)] []))
    refine own_aload (pc' := 95) X14 hx (hb hby at_93) rfl rfl rfl ?_
    refine own_iconst (pc' := 96) X14 hx (3 : Int32) (hb hby at_95) rfl rfl ?_
    refine own_iload (pc' := 98) X14 hx (hb hby at_96) rfl rfl ?_
    refine own_iload (pc' := 100) X14 hx (hb hby at_98) rfl rfl ?_
    refine own_callS (pc' := 103) (W := 0) (y := (⟨"com/example/steerage/steerage/agent/HttpHeadLineEndPinLaw", "hit", "([BIII)Z"⟩ : MethodName)) X14 hx hZ hown (own_w hw 6 rfl) (own_w hw 7 rfl) (own_w hw 3 rfl) (own_w hw 8 rfl) (by decide) (conH3 l Z a0 hw b1 v12 v13 _ k1 r2 r4 r6 r8 r10 V11) e14 pd1 [(.ref b1), (.int (3 : Int32)), (.int v12), (.int v13)] [] rfl rfl rfl (Nat.le_of_eq rfl) (by decide) (by decide) (by rw [hml]; rfl) (hb hby at_100) (by decide) (by decide) rfl ?_
    intro v15 T15 L15 X15 q15
    obtain ⟨r15, rfl, hr15, rfl, e15⟩ := q15
    have N15 := Fr.app N14 (Fr.nil n0)
    show own_WP _ _ _ _ _ _ _ (T15.setTop (mkF m 103 #[.val (.long p0), .second, .val (.int p1), .val (.int p2), .val (.int p3), .val (.ref b1), .val (.int v12), .val (.int v13), .val (.int jx4)] [(.int r15)]))
    refine own_join (fun jx3 : Int32 => jx3 = own_sel r15 3 jx4) (fun jx3 => T15.setTop (mkF m 109 #[.val (.long p0), .second, .val (.int p1), .val (.int p2), .val (.int p3), .val (.ref b1), .val (.int v12), .val (.int v13), .val (.int jx3)] [])) (fun J109 => ?_) (fun jx3 hjx3 => ?_)
    · skip
      refine own_if_eq (pt := 109) (pf := 106) X15 hx (hb hby at_103) rfl (by decide) rfl (fun hc103 => ?_) (fun hc103 => ?_)
      · skip
        exact J109 jx4 (by simp [own_sel, hc103])
      · skip
        refine own_iconst (pc' := 107) X15 hx (3 : Int32) (hb hby at_106) rfl rfl ?_
        refine own_istore (pc' := 109) (l' := #[.val (.long p0), .second, .val (.int p1), .val (.int p2), .val (.int p3), .val (.ref b1), .val (.int v12), .val (.int v13), .val (.int (3 : Int32))]) X15 hx (hb hby at_107) rfl rfl rfl ?_
        exact J109 (3 : Int32) (by simp [own_sel, hc103])
    · skip
      show own_WP _ _ _ _ _ _ _ (T15.setTop (mkF m 109 #[.val (.long p0), .second, .val (.int p1), .val (.int p2), .val (.int p3), .val (.ref b1), .val (.int v12), .val (.int v13), .val (.int jx3)] []))
      refine own_aload (pc' := 111) X15 hx (hb hby at_109) rfl rfl rfl ?_
      refine own_iconst (pc' := 112) X15 hx (2 : Int32) (hb hby at_111) rfl rfl ?_
      refine own_iload (pc' := 114) X15 hx (hb hby at_112) rfl rfl ?_
      refine own_iload (pc' := 116) X15 hx (hb hby at_114) rfl rfl ?_
      refine own_callS (pc' := 119) (W := 0) (y := (⟨"com/example/steerage/steerage/agent/HttpHeadLineEndPinLaw", "hit", "([BIII)Z"⟩ : MethodName)) X15 hx hZ hown (own_w hw 6 rfl) (own_w hw 7 rfl) (own_w hw 3 rfl) (own_w hw 8 rfl) (by decide) (conH2 l Z a0 hw b1 v12 v13 _ k1 r2 r4 r6 r8 r10 V11) e15 pd1 [(.ref b1), (.int (2 : Int32)), (.int v12), (.int v13)] [] rfl rfl rfl (Nat.le_of_eq rfl) (by decide) (by decide) (by rw [hml]; rfl) (hb hby at_116) (by decide) (by decide) rfl ?_
      intro v16 T16 L16 X16 q16
      obtain ⟨r16, rfl, hr16, rfl, e16⟩ := q16
      have N16 := Fr.app N15 (Fr.nil n0)
      show own_WP _ _ _ _ _ _ _ (T16.setTop (mkF m 119 #[.val (.long p0), .second, .val (.int p1), .val (.int p2), .val (.int p3), .val (.ref b1), .val (.int v12), .val (.int v13), .val (.int jx3)] [(.int r16)]))
      refine own_join (fun jx2 : Int32 => jx2 = own_sel r16 2 jx3) (fun jx2 => T16.setTop (mkF m 125 #[.val (.long p0), .second, .val (.int p1), .val (.int p2), .val (.int p3), .val (.ref b1), .val (.int v12), .val (.int v13), .val (.int jx2)] [])) (fun J125 => ?_) (fun jx2 hjx2 => ?_)
      · skip
        refine own_if_eq (pt := 125) (pf := 122) X16 hx (hb hby at_119) rfl (by decide) rfl (fun hc119 => ?_) (fun hc119 => ?_)
        · skip
          exact J125 jx3 (by simp [own_sel, hc119])
        · skip
          refine own_iconst (pc' := 123) X16 hx (2 : Int32) (hb hby at_122) rfl rfl ?_
          refine own_istore (pc' := 125) (l' := #[.val (.long p0), .second, .val (.int p1), .val (.int p2), .val (.int p3), .val (.ref b1), .val (.int v12), .val (.int v13), .val (.int (2 : Int32))]) X16 hx (hb hby at_123) rfl rfl rfl ?_
          exact J125 (2 : Int32) (by simp [own_sel, hc119])
      · skip
        show own_WP _ _ _ _ _ _ _ (T16.setTop (mkF m 125 #[.val (.long p0), .second, .val (.int p1), .val (.int p2), .val (.int p3), .val (.ref b1), .val (.int v12), .val (.int v13), .val (.int jx2)] []))
        refine own_aload (pc' := 127) X16 hx (hb hby at_125) rfl rfl rfl ?_
        refine own_iconst (pc' := 128) X16 hx (1 : Int32) (hb hby at_127) rfl rfl ?_
        refine own_iload (pc' := 130) X16 hx (hb hby at_128) rfl rfl ?_
        refine own_iload (pc' := 132) X16 hx (hb hby at_130) rfl rfl ?_
        refine own_callS (pc' := 135) (W := 0) (y := (⟨"com/example/steerage/steerage/agent/HttpHeadLineEndPinLaw", "hit", "([BIII)Z"⟩ : MethodName)) X16 hx hZ hown (own_w hw 6 rfl) (own_w hw 7 rfl) (own_w hw 3 rfl) (own_w hw 8 rfl) (by decide) (conH1 l Z a0 hw b1 v12 v13 _ k1 r2 r4 r6 r8 r10 V11) e16 pd1 [(.ref b1), (.int (1 : Int32)), (.int v12), (.int v13)] [] rfl rfl rfl (Nat.le_of_eq rfl) (by decide) (by decide) (by rw [hml]; rfl) (hb hby at_132) (by decide) (by decide) rfl ?_
        intro v17 T17 L17 X17 q17
        obtain ⟨r17, rfl, hr17, rfl, e17⟩ := q17
        have N17 := Fr.app N16 (Fr.nil n0)
        show own_WP _ _ _ _ _ _ _ (T17.setTop (mkF m 135 #[.val (.long p0), .second, .val (.int p1), .val (.int p2), .val (.int p3), .val (.ref b1), .val (.int v12), .val (.int v13), .val (.int jx2)] [(.int r17)]))
        refine own_join (fun jx1 : Int32 => jx1 = own_sel r17 1 jx2) (fun jx1 => T17.setTop (mkF m 141 #[.val (.long p0), .second, .val (.int p1), .val (.int p2), .val (.int p3), .val (.ref b1), .val (.int v12), .val (.int v13), .val (.int jx1)] [])) (fun J141 => ?_) (fun jx1 hjx1 => ?_)
        · skip
          refine own_if_eq (pt := 141) (pf := 138) X17 hx (hb hby at_135) rfl (by decide) rfl (fun hc135 => ?_) (fun hc135 => ?_)
          · skip
            exact J141 jx2 (by simp [own_sel, hc135])
          · skip
            refine own_iconst (pc' := 139) X17 hx (1 : Int32) (hb hby at_138) rfl rfl ?_
            refine own_istore (pc' := 141) (l' := #[.val (.long p0), .second, .val (.int p1), .val (.int p2), .val (.int p3), .val (.ref b1), .val (.int v12), .val (.int v13), .val (.int (1 : Int32))]) X17 hx (hb hby at_139) rfl rfl rfl ?_
            exact J141 (1 : Int32) (by simp [own_sel, hc135])
        · skip
          show own_WP _ _ _ _ _ _ _ (T17.setTop (mkF m 141 #[.val (.long p0), .second, .val (.int p1), .val (.int p2), .val (.int p3), .val (.ref b1), .val (.int v12), .val (.int v13), .val (.int jx1)] []))
          refine own_aload (pc' := 143) X17 hx (hb hby at_141) rfl rfl rfl ?_
          refine own_iconst (pc' := 144) X17 hx (0 : Int32) (hb hby at_143) rfl rfl ?_
          refine own_iload (pc' := 146) X17 hx (hb hby at_144) rfl rfl ?_
          refine own_iload (pc' := 148) X17 hx (hb hby at_146) rfl rfl ?_
          refine own_callS (pc' := 151) (W := 0) (y := (⟨"com/example/steerage/steerage/agent/HttpHeadLineEndPinLaw", "hit", "([BIII)Z"⟩ : MethodName)) X17 hx hZ hown (own_w hw 6 rfl) (own_w hw 7 rfl) (own_w hw 3 rfl) (own_w hw 8 rfl) (by decide) (conH0 l Z a0 hw b1 v12 v13 _ k1 r2 r4 r6 r8 r10 V11) e17 pd1 [(.ref b1), (.int (0 : Int32)), (.int v12), (.int v13)] [] rfl rfl rfl (Nat.le_of_eq rfl) (by decide) (by decide) (by rw [hml]; rfl) (hb hby at_148) (by decide) (by decide) rfl ?_
          intro v18 T18 L18 X18 q18
          obtain ⟨r18, rfl, hr18, rfl, e18⟩ := q18
          have N18 := Fr.app N17 (Fr.nil n0)
          show own_WP _ _ _ _ _ _ _ (T18.setTop (mkF m 151 #[.val (.long p0), .second, .val (.int p1), .val (.int p2), .val (.int p3), .val (.ref b1), .val (.int v12), .val (.int v13), .val (.int jx1)] [(.int r18)]))
          refine own_join (fun jx0 : Int32 => jx0 = own_sel r18 0 jx1) (fun jx0 => T18.setTop (mkF m 157 #[.val (.long p0), .second, .val (.int p1), .val (.int p2), .val (.int p3), .val (.ref b1), .val (.int v12), .val (.int v13), .val (.int jx0)] [])) (fun J157 => ?_) (fun jx0 hjx0 => ?_)
          · skip
            refine own_if_eq (pt := 157) (pf := 154) X18 hx (hb hby at_151) rfl (by decide) rfl (fun hc151 => ?_) (fun hc151 => ?_)
            · skip
              exact J157 jx1 (by simp [own_sel, hc151])
            · skip
              refine own_iconst (pc' := 155) X18 hx (0 : Int32) (hb hby at_154) rfl rfl ?_
              refine own_istore (pc' := 157) (l' := #[.val (.long p0), .second, .val (.int p1), .val (.int p2), .val (.int p3), .val (.ref b1), .val (.int v12), .val (.int v13), .val (.int (0 : Int32))]) X18 hx (hb hby at_155) rfl rfl rfl ?_
              exact J157 (0 : Int32) (by simp [own_sel, hc151])
          · skip
            show own_WP _ _ _ _ _ _ _ (T18.setTop (mkF m 157 #[.val (.long p0), .second, .val (.int p1), .val (.int p2), .val (.int p3), .val (.ref b1), .val (.int v12), .val (.int v13), .val (.int jx0)] []))
            refine own_aload (pc' := 159) X18 hx (hb hby at_157) rfl rfl rfl ?_
            refine own_iload (pc' := 161) X18 hx (hb hby at_159) rfl rfl ?_
            refine own_iload (pc' := 163) X18 hx (hb hby at_161) rfl rfl ?_
            refine own_callS (pc' := 166) (W := 0) (y := (⟨"com/example/steerage/steerage/agent/HttpHead", "lineEnd", "([BII)I"⟩ : MethodName)) X18 hx hZ hown (own_w hw 9 rfl) (own_w hw 10 rfl) (own_w hw 11 rfl) (own_w hw 12 rfl) (by decide) (conL l Z a0 hw b1 v12 v13 _ k1 r2 r4 r6 r8 r10 V11 (own_six _ _ hv12) (own_six _ _ hv13)) e18 pd2 [(.ref b1), (.int v12), (.int v13)] [] rfl rfl rfl (Nat.le_of_eq rfl) (by decide) (by decide) (by rw [hml]; rfl) (hb hby at_163) (by decide) (by decide) rfl ?_
            intro v19 T19 L19 X19 q19
            obtain ⟨r19, rfl, hr19, rfl, e19⟩ := q19
            have N19 := Fr.app N18 (Fr.nil n0)
            show own_WP _ _ _ _ _ _ _ (T19.setTop (mkF m 166 #[.val (.long p0), .second, .val (.int p1), .val (.int p2), .val (.int p3), .val (.ref b1), .val (.int v12), .val (.int v13), .val (.int jx0)] [(.int r19)]))
            refine own_iload (pc' := 168) X19 hx (hb hby at_166) rfl rfl ?_
            refine own_icmp_ne (pt := 175) (pf := 171) X19 hx (hb hby at_168) rfl (by decide) rfl (fun hc168 => absurd (by rw [hr19, own_fin, hjx0, hjx1, hjx2, hjx3, hjx4, hr14, hr15, hr16, hr17, hr18]) hc168) (fun hc168 => ?_)
            refine own_iconst (pc' := 172) X19 hx (1 : Int32) (hb hby at_171) rfl rfl ?_
            refine own_goto (pc' := 176) X19 hx (hb hby at_172) (by decide) rfl ?_
            refine own_retN X19 hx hlk (t := .boolean) (by decide) hret (hb hby at_176) (by decide) (by decide) ?_
            exact ⟨rfl, N19⟩
set_option maxRecDepth 65536 in
set_option maxHeartbeats 4000000 in
theorem comes_1 {Post : Tables → Env → Array Value → Jvm.State → Outcome → Jvm.State → Prop} (hpost : ∀ tb e args s v u, (limb_1_1.after args s (.returned v) u = true ∧ limb_1_2.after args s (.returned v) u = true ∧ True) → FrameEnd s (.returned v) u (Jvm.fieldLocs frame_1_writes args s ++ Jvm.arrayLocs frame_1_arrays args s ++ Jvm.staticLocs frame_1_statics s) 16 128 → Post tb e args s (.returned v) u) :
    ArmFor flags0 classFile x code maxLocals ret World_1 tables_1 room_1 Calls_1 rest_1 Pre_1 Post := by
  intro l hfl _ _ p e ha hc hk s m args below hf hA hF happ hP
  obtain ⟨hcalls, hrest, hpre⟩ := hP
  obtain ⟨-, -, -, hnamed, -, -, -, hat⟩ := (Spec.applies_iff hf).mp happ
  obtain ⟨hg, hn⟩ := and_e (Cond.before_iff.mp (show (Jvm.Cond.and given_1 narrow_1).before args s = true from hpre))
  obtain ⟨u1, u2⟩ := and_e hg
  obtain ⟨u3, u4⟩ := and_e u2
  obtain ⟨u5, u6⟩ := and_e u4
  obtain ⟨u7, u8⟩ := and_e u6
  obtain ⟨w0, w1, w2, w3, rfl⟩ : ∃ w0 w1 w2 w3 : Value, args = #[w0, w1, w2, w3] := by
    have hs : args.size = 4 := by simpa [Cond.value, given_1] using u1
    obtain ⟨L⟩ := args
    match L, hs with
    | [w0, w1, w2, w3], _ => exact ⟨w0, w1, w2, w3, rfl⟩
  have hw := fun d (hd : d ∈ tables_1) => atoms_spec (ws := Jvm.Cond.code x code maxLocals ret :: tables_1) hat d (List.mem_cons_of_mem _ hd)
  obtain ⟨i0, ei0⟩ := isL_v u3
  obtain rfl : w0 = (.long i0) := Option.some.inj ei0
  obtain ⟨i1, ei1⟩ := is_v u5
  obtain rfl : w1 = (.int i1) := Option.some.inj ei1
  obtain ⟨i2, ei2⟩ := is_v u7
  obtain rfl : w2 = (.int i2) := Option.some.inj ei2
  obtain ⟨i3, ei3⟩ := is_v u8
  obtain rfl : w3 = (.int i3) := Option.some.inj ei3
  obtain ⟨n, o, h1, h2, h3, _, L, rfl, ⟨rfl, N⟩, hq⟩ := con0 l s _ hw i0 i1 i2 i3 s.heap s.heap.size (Nat.le_refl _)  tables_1 p e ha hc hk s m _ below hf ((Spec.applies_iff_loose hf).mp happ).1 ⟨rfl, State.Warmed39.refl s, rfl⟩ trivial
  refine ⟨n, _, h1, h2, h3, hpost _ _ _ _ _ _ ⟨Cond.after_iff.mpr rfl, Cond.after_iff.mpr (eq_i res_at (Term.int_eval (1)) rfl), trivial⟩ ⟨hq.1, hq.2.1, (hq.2.2.sift fun y hy => Or.inr (N y hy)).mono (by decide) (by decide)⟩⟩
theorem main_1_1 : Claimed_1_1 := comes_1 fun _ _ _ _ _ _ h hF => ⟨h.1, hF⟩
theorem main_1_2 : Claimed_1_2 := comes_1 fun _ _ _ _ _ _ h hF => ⟨h.2.1, hF⟩
end Jvm.Pilot.@@N@@
namespace Jvm.Pilot.@@N@@
open Jvm Jvm.ClassFile Sem Op Lib Jvm.Free Jvm.Stand Jvm.Pilot.@@N@@.Jvm.D
/-! MADE BY PROGRAM (witnessworld.py) out of the Statement's table words and the real class files: 10 classes; the members and pool entries that the words name. The judged class is class 1, her method 1. -/
namespace start1
open Jvm.ClassFile
def u (s : String) : CpInfo := .utf8 (stringToUtf16 s)
/-- a pool by its gaps: so many unusable entries, then the entry; so many at the end -/
def gap : Nat → List CpInfo → List CpInfo
  | 0, r => r
  | n + 1, r => .unusable :: gap n r
def poolList (es : List (Nat × CpInfo)) (last : Nat) : List CpInfo := es.foldr (fun e r => gap e.1 (e.2 :: r)) (gap last [])
def pool (es : List (Nat × CpInfo)) (last : Nat) : Array CpInfo := ⟨poolList es last⟩
def fileOf (pool : Array CpInfo) (this : Nat) (attrs : Array Attribute := #[]) (ms : Array MethodInfo := #[]) (fl : Nat := 33) (sup : Nat := 0) (ifs : Array Nat := #[]) (fds : Array FieldInfo := #[]) : ClassFile where
  minorVersion := 0
  majorVersion := 65
  constantPool := pool
  accessFlags := fl
  thisClass := this
  superClass := sup
  interfaces := ifs
  fields := fds
  methods := ms
  attributes := attrs
def plain (name : String) (sup : Option ClassId) : Class where
  name := name
  kind := .ordinary
  loader := none
  accessFlags := 33
  super := sup
  interfaces := #[]
  cf := none
  fields := #[]
  methods := #[]
  instanceTypes := #[]
  staticTypes := #[]
  resolved := #[]
  callSites := []
  init := .initialized
  statics := none
  mirror := none

def pool0 : Array CpInfo := pool [(5, u "<init>"), (0, u "()V"), (1, .class_ 10), (1, u "java/lang/Object")] 113

def k0m0 : Method := { name := "<init>", desc := "()V", sig := { parameters := [], returnType := none }, accessFlags := 1, code := none }
/-- java/lang/Object -/
def k0 : Class := { plain "java/lang/Object" none with
  accessFlags := 33
  interfaces := #[]
  cf := some (fileOf pool0 8 #[] #[{ accessFlags := 1, nameIndex := 5, descriptorIndex := 6, attributes := #[] }] 33 0 #[] #[])
  fields := #[]
  methods := #[k0m0]
  instanceTypes := #[]
  staticTypes := #[]
  resolved := Array.replicate 124 none
  statics := none }

def pool1 : Array CpInfo := pool [(2, .class_ 4), (1, u "java/lang/Object"), (0, u "<init>"), (0, u "()V"), (0, .methodref 8 9), (0, .class_ 10), (0, .nameAndType 11 12), (0, u "com/example/steerage/steerage/agent/HttpHeadLineEndPinLaw"), (0, u "pick"), (0, u "(JII)B"), (0, .integer 2147483647), (0, .methodref 8 15), (0, .nameAndType 16 17), (0, u "hit"), (0, u "([BIII)Z"), (0, .methodref 19 20), (0, .class_ 21), (0, .nameAndType 22 23), (0, u "com/example/steerage/steerage/agent/HttpHead"), (0, u "lineEnd"), (0, u "([BII)I"), (2, u "law"), (0, u "(JIII)Z")] 5

def k1m0 : Method := { name := "<init>", desc := "()V", sig := { parameters := [], returnType := none }, accessFlags := 1, code := none }
def k1c1 : Code := { maxStack := 6, maxLocals := 9, code := code, exceptionTable := #[], attributes := #[] }
def k1m1 : Method := { name := "law", desc := "(JIII)Z", sig := { parameters := [.long, .int, .int, .int], returnType := some .boolean }, accessFlags := 9, code := some k1c1 }
def k1c2 : Code := { maxStack := 4, maxLocals := 4, code := method_3_code, exceptionTable := #[], attributes := #[] }
def k1m2 : Method := { name := "pick", desc := "(JII)B", sig := { parameters := [.long, .int, .int], returnType := some .byte }, accessFlags := 10, code := some k1c2 }
def k1c3 : Code := { maxStack := 2, maxLocals := 4, code := method_4_code, exceptionTable := #[], attributes := #[] }
def k1m3 : Method := { name := "hit", desc := "([BIII)Z", sig := { parameters := [(.array .byte), .int, .int, .int], returnType := some .boolean }, accessFlags := 10, code := some k1c3 }
/-- com/example/steerage/steerage/agent/HttpHeadLineEndPinLaw -/
def k1 : Class := { plain "com/example/steerage/steerage/agent/HttpHeadLineEndPinLaw" (some 0) with
  accessFlags := 49
  interfaces := #[]
  cf := some (fileOf pool1 8 #[] #[{ accessFlags := 1, nameIndex := 5, descriptorIndex := 6, attributes := #[] }, { accessFlags := 9, nameIndex := 26, descriptorIndex := 27, attributes := #[] }, { accessFlags := 10, nameIndex := 11, descriptorIndex := 12, attributes := #[] }, { accessFlags := 10, nameIndex := 16, descriptorIndex := 17, attributes := #[] }] 49 2 #[] #[])
  fields := #[]
  methods := #[k1m0, k1m1, k1m2, k1m3]
  instanceTypes := #[]
  staticTypes := #[]
  resolved := Array.replicate 33 none
  statics := none }

def pool2 : Array CpInfo := pool [(2, .class_ 4), (1, u "java/lang/Object"), (0, u "<init>"), (0, u "()V"), (0, .class_ 8), (0, u "java/lang/Record")] 13

def k2m0 : Method := { name := "<init>", desc := "()V", sig := { parameters := [], returnType := none }, accessFlags := 4, code := none }
/-- java/lang/Record -/
def k2 : Class := { plain "java/lang/Record" (some 0) with
  accessFlags := 1057
  interfaces := #[]
  cf := some (fileOf pool2 7 #[] #[{ accessFlags := 4, nameIndex := 5, descriptorIndex := 6, attributes := #[] }] 1057 2 #[] #[])
  fields := #[]
  methods := #[k2m0]
  instanceTypes := #[]
  staticTypes := #[]
  resolved := Array.replicate 22 none
  statics := none }

def pool3 : Array CpInfo := pool [(2, .class_ 4), (1, u "java/lang/Record"), (3, .class_ 10), (1, u "com/example/steerage/steerage/agent/HttpHead"), (0, u "method"), (0, u "Ljava/lang/String;"), (2, u "path"), (2, u "version"), (2, u "fields"), (0, u "Ljava/util/Map;"), (12, .class_ 36), (0, u "com/example/steerage/steerage/agent/HttpHead$MalformedException"), (9, u "TOKEN"), (0, u "Ljava/util/regex/Pattern;"), (25, u "VERSION"), (24, u "lineEnd"), (0, u "([BII)I"), (143, u "HTTP_1_1"), (1, u "HTTP_1_0")] 85

def k3c0 : Code := { maxStack := 2, maxLocals := 4, code := prog_23_method_4_code, exceptionTable := #[], attributes := #[] }
def k3m0 : Method := { name := "lineEnd", desc := "([BII)I", sig := { parameters := [(.array .byte), .int, .int], returnType := some .int }, accessFlags := 8, code := some k3c0 }
/-- com/example/steerage/steerage/agent/HttpHead -/
def k3 : Class := { plain "com/example/steerage/steerage/agent/HttpHead" (some 2) with
  accessFlags := 48
  interfaces := #[]
  cf := some (fileOf pool3 8 #[.nestMembers #[35]] #[{ accessFlags := 8, nameIndex := 98, descriptorIndex := 99, attributes := #[] }] 48 2 #[] #[{ accessFlags := 18, nameIndex := 11, descriptorIndex := 12, attributes := #[] }, { accessFlags := 18, nameIndex := 15, descriptorIndex := 12, attributes := #[] }, { accessFlags := 18, nameIndex := 18, descriptorIndex := 12, attributes := #[] }, { accessFlags := 18, nameIndex := 21, descriptorIndex := 22, attributes := #[] }, { accessFlags := 26, nameIndex := 243, descriptorIndex := 12, attributes := #[] }, { accessFlags := 26, nameIndex := 245, descriptorIndex := 12, attributes := #[] }, { accessFlags := 26, nameIndex := 46, descriptorIndex := 47, attributes := #[] }, { accessFlags := 26, nameIndex := 73, descriptorIndex := 47, attributes := #[] }])
  fields := #[{ name := "method", type := (.object "java/lang/String"), accessFlags := 18, slot := 0, constantValue := 0 }, { name := "path", type := (.object "java/lang/String"), accessFlags := 18, slot := 1, constantValue := 0 }, { name := "version", type := (.object "java/lang/String"), accessFlags := 18, slot := 2, constantValue := 0 }, { name := "fields", type := (.object "java/util/Map"), accessFlags := 18, slot := 3, constantValue := 0 }, { name := "HTTP_1_1", type := (.object "java/lang/String"), accessFlags := 26, slot := 0, constantValue := 0 }, { name := "HTTP_1_0", type := (.object "java/lang/String"), accessFlags := 26, slot := 1, constantValue := 0 }, { name := "TOKEN", type := (.object "java/util/regex/Pattern"), accessFlags := 26, slot := 2, constantValue := 0 }, { name := "VERSION", type := (.object "java/util/regex/Pattern"), accessFlags := 26, slot := 3, constantValue := 0 }]
  methods := #[k3m0]
  instanceTypes := #[(.object "java/lang/String"), (.object "java/lang/String"), (.object "java/lang/String"), (.object "java/util/Map")]
  staticTypes := #[(.object "java/lang/String"), (.object "java/lang/String"), (.object "java/util/regex/Pattern"), (.object "java/util/regex/Pattern")]
  resolved := Array.replicate 331 none
  statics := none }

def pool4 : Array CpInfo := pool [(1, u "java/lang/Cloneable"), (0, .class_ 1), (0, u "java/lang/Object"), (0, .class_ 3)] 3

/-- java/lang/Cloneable -/
def k4 : Class := { plain "java/lang/Cloneable" (some 0) with
  accessFlags := 1537
  interfaces := #[]
  cf := some (fileOf pool4 2 #[] #[] 1537 4 #[] #[])
  fields := #[]
  methods := #[]
  instanceTypes := #[]
  staticTypes := #[]
  resolved := Array.replicate 8 none
  statics := none }

def pool5 : Array CpInfo := pool [(1, u "java/io/Serializable"), (0, .class_ 1), (0, u "java/lang/Object"), (0, .class_ 3)] 3

/-- java/io/Serializable -/
def k5 : Class := { plain "java/io/Serializable" (some 0) with
  accessFlags := 1537
  interfaces := #[]
  cf := some (fileOf pool5 2 #[] #[] 1537 4 #[] #[])
  fields := #[]
  methods := #[]
  instanceTypes := #[]
  staticTypes := #[]
  resolved := Array.replicate 8 none
  statics := none }

/-- the primitive byte -/
def k6 : Class := { plain "byte" none with kind := .primitive 'B', accessFlags := 0x411 }
/-- [B -/
def k7 : Class := { plain "[B" (some 0) with kind := .array 6 .byte, interfaces := #[4, 5], accessFlags := 1041 }

/-- the primitive int -/
def k8 : Class := { plain "int" none with kind := .primitive 'I', accessFlags := 0x411 }
/-- [I -/
def k9 : Class := { plain "[I" (some 0) with kind := .array 8 .int, interfaces := #[4, 5], accessFlags := 1041 }

def heap : Heap := #[]
def classes : Array Class := #[k0, k1, k2, k3, k4, k5, k6, k7, k8, k9]
def interned : List (Array UInt16 × Addr) := []
def slotsUsed : Nat := 0
def theMethod : MethodId := ⟨1, 1⟩
def args0 : Array Value := #[.long 5, .int 3, .int 4, .int 1]
def aboutOver (below : List Frame) : State where
  vm := { classes := classes, interned := interned.toArray }
  heap := heap
  slotsUsed := slotsUsed
  threads := #[{ frames := .invoking theMethod args0 :: below }]
def below0 : List Frame := [.native { method := ⟨0, 0⟩, args := #[] }]
def about1 : State := aboutOver below0
def p0 : Program := .bare "" "" ""
def e0 : Env := launch0.env 0 0 0
theorem w_frames : about1.frames = Frame.invoking theMethod args0 :: below0 := rfl
set_option maxRecDepth 65536 in
theorem w_args : argsFit about1.vm theMethod args0 = true := by decide +kernel
set_option maxRecDepth 65536 in
theorem w_heap : heapFits about1 = true := by decide +kernel
set_option maxRecDepth 65536 in
theorem w_runnable : about1.curStatus? = some .runnable := by decide +kernel
set_option maxRecDepth 65536 in
theorem w_alone : about1.alone = true := by decide +kernel
set_option maxRecDepth 65536 in
theorem w_named : about1.methodNamed? x = some theMethod := by decide +kernel
set_option maxRecDepth 65536 in
theorem w_hears : about1.hears theMethod below0 = true := by decide +kernel
set_option maxRecDepth 65536 in
theorem w_ripe : about1.ripe theMethod args0 below0 = true := by decide +kernel
theorem w_running : about1.status = .running := rfl
set_option maxRecDepth 65536 in
theorem w_room : about1.hasRoom e0.platform room_1 = true :=
  launch0.hasRoom_least _ room_1 (by decide +kernel) (by decide +kernel) (by decide +kernel) (by decide +kernel) (by decide +kernel) (by decide +kernel)
theorem allAtoms_all (ts : List Jvm.Cond) (a : Array Jvm.Value) (st : Jvm.State) : (allAtoms ts).before a st = ts.all (fun c => c.before a st) := by
  induction ts with
  | nil => rfl
  | cons c t ih =>
    show (Jvm.Cond.and c (allAtoms t)).before a st = _
    rw [Jvm.Cond.before_and, ih, List.all_cons]
def words1 : List Jvm.Cond := Jvm.Cond.code x code maxLocals ret :: tables_1
/-- a 'code' word, met by the world's own term for the bytes: nothing is compared byte by byte -/
theorem code_word {y : MethodName} {bytes : ByteArray} {mx : Nat} {rt : Option FieldType} {a : Array Value} {s : State} {m : MethodId} {meth : Method} {c : Code} (h1 : s.methodNamed? y = some m) (h2 : s.vm.method? m = some meth) (h3 : meth.code = some c) (h4 : c.code = bytes)
    (h5 : (c.maxLocals == mx && c.exceptionTable.isEmpty && decide (c.maxStack ≤ mostOperands) && decide (meth.sig.returnType = rt) && !meth.locks && decide (parseMethodDescriptor y.desc = some meth.sig)) = true) : (Jvm.Cond.code y bytes mx rt).before a s = true := by
  simp only [Bool.and_eq_true, beq_iff_eq, Bool.not_eq_true', decide_eq_true_eq] at h5
  obtain ⟨⟨⟨⟨⟨g1, g2⟩, g3⟩, g4⟩, g5⟩, g6⟩ := h5
  simp [Cond.before, Cond.holds, Cond.value, h1, h2, h3, h4, g1, g2, g3, g4, g5, g6]
def isCode : Jvm.Cond → Bool
  | .code _ _ _ _ => true
  | _ => false
theorem all_split {L : List Jvm.Cond} {P : Jvm.Cond → Bool} (h1 : L.all (fun c => isCode c || P c) = true) (h2 : ∀ c ∈ L.filter isCode, P c = true) : L.all P = true := by
  refine List.all_eq_true.mpr fun c hc => ?_
  have h := List.all_eq_true.mp h1 c hc
  rcases Bool.eq_false_or_eq_true (isCode c) with hi | hi
  · exact h2 c (List.mem_filter.mpr ⟨hc, hi⟩)
  · simpa [hi] using h
set_option maxRecDepth 65536 in
theorem w_c0 : (Jvm.Cond.code x code maxLocals ret).before args0 about1 = true := code_word (m := ⟨1, 1⟩) (meth := k1m1) (c := k1c1) (by decide +kernel) rfl rfl rfl (by decide +kernel)
set_option maxRecDepth 65536 in
theorem w_c1 : (Jvm.Cond.code ({ cls := "com/example/steerage/steerage/agent/HttpHeadLineEndPinLaw", name := "pick", desc := "(JII)B" } : Jvm.MethodName) method_3_code (4 : Nat) (Option.some Jvm.ClassFile.FieldType.byte)).before args0 about1 = true := code_word (m := ⟨1, 2⟩) (meth := k1m2) (c := k1c2) (by decide +kernel) rfl rfl rfl (by decide +kernel)
set_option maxRecDepth 65536 in
theorem w_c2 : (Jvm.Cond.code ({ cls := "com/example/steerage/steerage/agent/HttpHeadLineEndPinLaw", name := "hit", desc := "([BIII)Z" } : Jvm.MethodName) method_4_code (4 : Nat) (Option.some Jvm.ClassFile.FieldType.boolean)).before args0 about1 = true := code_word (m := ⟨1, 3⟩) (meth := k1m3) (c := k1c3) (by decide +kernel) rfl rfl rfl (by decide +kernel)
set_option maxRecDepth 65536 in
theorem w_c3 : (Jvm.Cond.code ({ cls := "com/example/steerage/steerage/agent/HttpHead", name := "lineEnd", desc := "([BII)I" } : Jvm.MethodName) prog_23_method_4_code (4 : Nat) (Option.some Jvm.ClassFile.FieldType.int)).before args0 about1 = true := code_word (m := ⟨3, 0⟩) (meth := k3m0) (c := k3c0) (by decide +kernel) rfl rfl rfl (by decide +kernel)
def codes1 : List Jvm.Cond := [Jvm.Cond.code x code maxLocals ret, Jvm.Cond.code ({ cls := "com/example/steerage/steerage/agent/HttpHeadLineEndPinLaw", name := "pick", desc := "(JII)B" } : Jvm.MethodName) method_3_code (4 : Nat) (Option.some Jvm.ClassFile.FieldType.byte), Jvm.Cond.code ({ cls := "com/example/steerage/steerage/agent/HttpHeadLineEndPinLaw", name := "hit", desc := "([BIII)Z" } : Jvm.MethodName) method_4_code (4 : Nat) (Option.some Jvm.ClassFile.FieldType.boolean), Jvm.Cond.code ({ cls := "com/example/steerage/steerage/agent/HttpHead", name := "lineEnd", desc := "([BII)I" } : Jvm.MethodName) prog_23_method_4_code (4 : Nat) (Option.some Jvm.ClassFile.FieldType.int)]
set_option maxRecDepth 65536 in
theorem codes_eq : words1.filter isCode = codes1 := rfl
theorem w_codes : ∀ c ∈ words1.filter isCode, c.before args0 about1 = true := by
  rw [codes_eq]
  intro c hc
  simp only [codes1, List.mem_cons, List.not_mem_nil, or_false] at hc
  rcases hc with rfl | rfl | rfl | rfl
  · exact w_c0
  · exact w_c1
  · exact w_c2
  · exact w_c3
set_option maxRecDepth 65536 in
theorem w_t1 : words1.all (fun c => isCode c || c.before args0 about1) = true := by decide +kernel
theorem w_tables : (allAtoms (Jvm.Cond.code x code maxLocals ret :: tables_1)).before args0 about1 = true := by
  rw [allAtoms_all]
  show words1.all (fun c => c.before args0 about1) = true
  refine all_split ?_ w_codes
  rw [w_t1]
set_option maxRecDepth 65536 in
theorem w_case : (Jvm.Cond.and given_1 narrow_1).before args0 about1 = true := by decide +kernel
theorem w_applies : (headSpec (Jvm.Cond.code x code maxLocals ret :: tables_1) room_1).applies x e0.platform about1 = true :=
  (Spec.applies_iff w_frames).mpr ⟨w_running, w_runnable, w_alone, w_named, w_hears, w_ripe, w_room, w_tables⟩
theorem atStart : AtStart classFile x code maxLocals ret World_1 tables_1 room_1 Calls_1 rest_1 Pre_1 launch0 p0 e0 about1 theMethod args0 below0 :=
  ⟨lists_1, trivial, launch0.admits_env _ _ _, launch0.least_env, fairChoices_fair.cas, fairChoices_fair.clock, w_frames, w_args, w_heap, w_applies, trivial, trivial, w_case⟩
end start1
theorem witness_1 : WitnessClaimed_1 := ⟨start1.p0, start1.e0, start1.about1, start1.theMethod, start1.args0, start1.below0, start1.atStart⟩
end Jvm.Pilot.@@N@@
